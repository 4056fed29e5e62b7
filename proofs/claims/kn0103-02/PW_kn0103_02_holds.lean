import PyProof.Rows.All
import Wide.All
import OpenK.AllK
import Wide.FinOn
import PySem.Challenge.RW_kn0103_02
open PySem PySem.W PyProof.Rows
set_option Elab.async false
set_option maxRecDepth 100000
set_option maxHeartbeats 8000000
namespace Mine
open_top hd2 for PySem.Challenge.rw_kn0103_02
end Mine

open PySem PySem.W PySem.Calls PyProof.Rows PyProof.V PySem.Spec
set_option Elab.async false
set_option maxRecDepth 100000
namespace Mine

abbrev Loc := Str → Option Value
abbrev Led := List (Addr × Obj)

/-- what a turn leaves -/
def TurnPost (h₀ : Heap) (L I : Addr) (oI : Obj) (J : Loc → Led → Nat → Prop) (s : Shared) (Q : Flow → Shared → Prop) (f : Flow) (s₂ : Shared) : Prop :=
  match f with
  | .ret v => Q (.ret v) s₂
  | .brk => Q .next s₂
  | _ => ∃ h' tk m' nx all, s₂ = { s with heap := h', toks := tk } ∧ Fr h₀ L h' m' ∧ News h₀ L h' all ∧ (∀ p ∈ nx, p ∈ all) ∧ (I, oI) ∈ all ∧ (∀ p ∈ nx, p.1 ≠ I) ∧ J m' nx tk

section
variable {prog : Program} {w : World} {A : Around} {E : Value → Shared → Prop} {s : Shared} {env : Env} {h₀ : Heap} {target : Expr} {body : List Stmt} {Q : Flow → Shared → Prop}

theorem own_loop {R : Result → Shared → Prop} {I : Addr} {fp : List Addr} {n : Nat} {P Md : Nat → Value → Heap → Prop} {St : Nat → Heap → Prop} {m : Loc} {news : Led}
    (W : KTurns prog w A target I fp [I] n P Md St) (keep : Led)
    (hLf : env.locals ∉ fp) (hI : h₀.get? I = none) (hfp : ∀ b ∈ fp, b = I ∨ (∃ o, h₀.get? b = some o) ∨ ∃ o, (b, o) ∈ keep)
    (hobj : ∀ i h, St i h → ∃ o, h.get? I = some o) (hnw : ∀ p ∈ news, p.1 ≠ I)
    (hst : St 0 s.heap) (F : Fr h₀ env.locals s.heap m) (N : News h₀ env.locals s.heap news)
    (J : Nat → Loc → Led → Nat → Prop) (hJm : ∀ i m nx t t', t ≤ t' → J i m nx t → J i m nx t') (hk : ∀ i m nx t, J i m nx t → ∀ p ∈ keep, p ∈ nx) (h0 : J 0 m news s.toks)
    (step : ∀ i v m₁ nx h₁ tk₁ oI, i < n → P i v h₁ → s.toks ≤ tk₁ → J i m₁ nx tk₁ → (∀ p ∈ nx, p.1 ≠ I) → Fr h₀ env.locals h₁ m₁ → News h₀ env.locals h₁ ((I, oI) :: nx) →
      wpAny (model prog w) A (assign target env v) (fun _ s₂ => wpAny (model prog w) A (execs body env)
        (TurnPost h₀ env.locals I oI (J (i + 1)) s (fun f s' => R (.ok f) s')) (notedBy (model prog w) A env fun e s' => R (.error e) s') s₂) (notedBy (model prog w) A env fun e s' => R (.error e) s') { s with heap := h₁, toks := tk₁ })
    (hR : ∀ h' tk m' nx, s.toks ≤ tk → Fr h₀ env.locals h' m' → News h₀ env.locals h' nx → J n m' nx tk → R (.ok .next) { s with heap := h', toks := tk }) :
    codeAny (model prog w) A (.forLoop target (.ref I) body [] env) R s := by
  have hIf : I ∈ fp := W.sub I (by simp)
  have hLI : env.locals ≠ I := fun e => hLf (e ▸ hIf)
  have old : ∀ b o, h₀.get? b = some o → b ≠ I := fun b o e hb => by rw [hb, hI] at e; cases e
  refine codeAny_forLoop_any
    (fun k s' => ∃ h' tk m' nx i, s' = { s with heap := h', toks := tk } ∧ St i h' ∧ Fr h₀ env.locals h' m' ∧ News h₀ env.locals h' nx ∧ (∀ p ∈ nx, p.1 ≠ I) ∧ J i m' nx tk ∧ i ≤ n ∧ k = n + 1 - i ∧ s.toks ≤ tk) ?_ (n + 1)
    ⟨s.heap, s.toks, m, news, 0, rfl, hst, F, N, hnw, h0, Nat.zero_le _, rfl, Nat.le_refl _⟩
  rintro k s' ⟨h', tk, m', nx, i, rfl, hst', F', N', hnw', hJ, hi, rfl, htk⟩
  have next : ∀ h₁ : Heap, (∀ b o, b ∉ [I] → h'.get? b = some o → h₁.get? b = some o) → Fr h₀ env.locals h₁ m' ∧ News h₀ env.locals h₁ nx := fun h₁ hk₁ =>
    ⟨⟨F'.ns.at' fun o e => hk₁ _ o (by simpa using hLI) e, fun b o e => hk₁ b o (by simpa using old b o e) (F'.keep b o e), F'.above⟩,
     fun p hp => ⟨hk₁ _ _ (by simpa using hnw' p hp) (N' p hp).1, (N' p hp).2⟩⟩
  refine wpAny_with_toks (n := tk) (Nat.le_refl _) ?_
  by_cases hlt : i < n
  · refine W.item i _ _ _ hlt hst' fun v h₁ tk₁ hMd hk₁ htk₁ => ?_
    dsimp only at htk₁ ⊢
    have htk₂ : s.toks ≤ tk₁ := Nat.le_trans htk htk₁
    refine W.go i v _ _ _ hMd fun h₂ hP hst₂ hk₂ => ?_
    obtain ⟨F₂, N₂⟩ := next h₂ fun b o hb x => hk₂ b o hb (hk₁ b o hb x)
    obtain ⟨oI, hoI⟩ := hobj _ _ hst₂
    have NI : News h₀ env.locals h₂ ((I, oI) :: nx) := fun p hp => by
      rcases List.mem_cons.mp hp with rfl | hp
      · exact ⟨hoI, hLI.symm, hI⟩
      · exact N₂ p hp
    refine wpAny_mono (wpAny_toks_of (n := s.toks) htk₂ (step i v m' nx h₂ tk₁ oI hlt hP htk₂ (hJm _ _ _ _ _ htk₁ hJ) hnw' F₂ NI)) (fun _ s₂ h₂' => wpAny_mono (wpAny_toks_of (n := s.toks) h₂'.1 h₂'.2) (fun f s₃ h₃ => ?_) fun _ _ e => e.2) fun _ _ e => e.2
    obtain ⟨ht₃, h₃⟩ := h₃
    have fin : (∃ h' tk m' nx all, s₃ = { s with heap := h', toks := tk } ∧ Fr h₀ env.locals h' m' ∧ News h₀ env.locals h' all ∧ (∀ p ∈ nx, p ∈ all) ∧ (I, oI) ∈ all ∧ (∀ p ∈ nx, p.1 ≠ I) ∧ J (i + 1) m' nx tk) →
        ∃ m, m < n + 1 - i ∧ ∃ h' tk m' nx j, s₃ = { s with heap := h', toks := tk } ∧ St j h' ∧ Fr h₀ env.locals h' m' ∧ News h₀ env.locals h' nx ∧ (∀ p ∈ nx, p.1 ≠ I) ∧ J j m' nx tk ∧ j ≤ n ∧ m = n + 1 - j ∧ s.toks ≤ tk := by
      rintro ⟨h₃', tk₃, m₂, nx₂, all, rfl, F₃, N₃, hsub, hIall, hoff, hJ₃⟩
      refine ⟨n + 1 - (i + 1), by omega, h₃', tk₃, m₂, nx₂, i + 1, rfl, ?_, F₃, fun p hp => N₃ p (hsub p hp), hoff, hJ₃, hlt, rfl, ht₃⟩
      refine W.frame _ _ _ hst₂ fun b hb o e => ?_
      rcases hfp b hb with rfl | ⟨o₀, hn⟩ | ⟨o₀, hn⟩
      · rw [hoI] at e; cases e
        exact (N₃ _ hIall).1
      · have : o₀ = o := by have q := F₂.keep b o₀ hn; rw [e] at q; exact (Option.some.inj q).symm
        exact this ▸ F₃.keep b o₀ hn
      · have h1 := (N₂ _ (hk _ _ _ _ hJ _ hn)).1
        have h2 := (N₃ _ (hsub _ (hk _ _ _ _ hJ₃ _ hn))).1
        rw [h1] at e; cases e
        exact h2
    cases f with
    | ret v => exact h₃
    | brk => exact h₃
    | cont => exact fin h₃
    | next => exact fin h₃
  · have hin : i = n := by omega
    subst hin
    refine W.done _ _ _ hst' fun h₁ tk₁ hk₁ htk₁ => wpAny_execs_nil ?_
    obtain ⟨F₁, N₁⟩ := next h₁ hk₁
    exact hR h₁ tk₁ m' nx (Nat.le_trans htk htk₁) F₁ N₁ (hJm _ _ _ _ _ htk₁ hJ)

/-- a for over something, by its iterator -/
def OwnAt (prog : Program) (w : World) (A : Around) (env : Env) (target : Expr) (body : List Stmt) (Q : Flow → Shared → Prop) (E : Value → Shared → Prop) (it : Value) (s₂ : Shared) : Prop :=
  codeAny (model prog w) A (.forLoop target it body [] env) (fun r s' => match r with | .ok f => Q f s' | .error e => cameBackBy (model prog w) A env E e s') s₂

theorem For_own {iter : Expr} {pos : Pos}
    (h : wpAny (model prog w) A (eval iter env) (fun xv s₁ => wpAny (model prog w) A (pyIter xv) (fun it s₂ => OwnAt prog w A env target body Q E it s₂) E s₁) E s)
    (hs : ∀ x, foldedSetIterable iter env x = pure x := by intro _; rfl) :
    wpAny (model prog w) A (exec (.For target iter body [] pos) env) Q E s :=
  wpAny_For (wpAny_mono h (fun xv s₁ h₁ => wpAny_mono h₁ (fun it s₂ h₂ => h₂) fun _ _ e => e) fun _ _ e => e) hs

theorem OwnAt.intro {I : Addr} {fp : List Addr} {n : Nat} {P Md : Nat → Value → Heap → Prop} {St : Nat → Heap → Prop} {m : Loc} {news : Led}
    (W : KTurns prog w A target I fp [I] n P Md St) (keep : Led)
    (hLf : env.locals ∉ fp) (hI : h₀.get? I = none) (hfp : ∀ b ∈ fp, b = I ∨ (∃ o, h₀.get? b = some o) ∨ ∃ o, (b, o) ∈ keep)
    (hobj : ∀ i h, St i h → ∃ o, h.get? I = some o) (hnw : ∀ p ∈ news, p.1 ≠ I)
    (hst : St 0 s.heap) (F : Fr h₀ env.locals s.heap m) (N : News h₀ env.locals s.heap news)
    (J : Nat → Loc → Led → Nat → Prop) (hJm : ∀ i m nx t t', t ≤ t' → J i m nx t → J i m nx t') (hk : ∀ i m nx t, J i m nx t → ∀ p ∈ keep, p ∈ nx) (h0 : J 0 m news s.toks)
    (step : ∀ i v m₁ nx h₁ tk₁ oI, i < n → P i v h₁ → s.toks ≤ tk₁ → J i m₁ nx tk₁ → (∀ p ∈ nx, p.1 ≠ I) → Fr h₀ env.locals h₁ m₁ → News h₀ env.locals h₁ ((I, oI) :: nx) →
      wpAny (model prog w) A (assign target env v) (fun _ s₂ => wpAny (model prog w) A (execs body env)
        (TurnPost h₀ env.locals I oI (J (i + 1)) s Q) E s₂) E { s with heap := h₁, toks := tk₁ })
    (hR : ∀ h' tk m' nx, s.toks ≤ tk → Fr h₀ env.locals h' m' → News h₀ env.locals h' nx → J n m' nx tk → Q .next { s with heap := h', toks := tk })
    (hE : PassesOwn (model prog w) A env E) : OwnAt prog w A env target body Q E (.ref I) s :=
  own_loop (R := fun r s' => match r with | .ok f => Q f s' | .error e => cameBackBy (model prog w) A env E e s') W keep hLf hI hfp hobj hnw hst F N J hJm hk h0
    (fun i v m₁ nx h₁ tk₁ oI a b c d e F₁ N₁ => wpAny_mono (step i v m₁ nx h₁ tk₁ oI a b c d e F₁ N₁) (fun _ _ x => wpAny_passesOwn hE x) hE) hR
end
end Mine

open PySem PySem.W PySem.Calls PyProof.Rows PyProof.V PySem.Spec
set_option Elab.async false
set_option maxRecDepth 100000
set_option linter.unusedVariables false
namespace Mine
section
variable {prog : Program} {w : World} {A : Around} {E : Value → Shared → Prop} {s : Shared} {env : Env} {h₀ : Heap} {body : List Stmt} {Q : Flow → Shared → Prop}

/-- a loop over one name, by what its iterator walks -/
theorem own_walks {x : Str} {px : Pos} {I : Addr} {fp : List Addr} {n : Nat} {P : Nat → Value → Prop} {St : Nat → Heap → Prop} {m : Loc} {news : Led}
    (W : Walks prog w A I fp [I] n P St) (keep : Led)
    (hLf : env.locals ∉ fp) (hI : h₀.get? I = none) (hfp : ∀ b ∈ fp, b = I ∨ (∃ o, h₀.get? b = some o) ∨ ∃ o, (b, o) ∈ keep)
    (hobj : ∀ i h, St i h → ∃ o, h.get? I = some o) (hnw : ∀ p ∈ news, p.1 ≠ I)
    (hst : St 0 s.heap) (F : Fr h₀ env.locals s.heap m) (N : News h₀ env.locals s.heap news)
    (hx : env.kindOf x = some .local) (hp : (env.scope.kind == .class || (env.scope.kind == .module && env.locals != env.globals)) = false)
    (J : Nat → Loc → Led → Nat → Prop) (hJm : ∀ i m nx t t', t ≤ t' → J i m nx t → J i m nx t') (hk : ∀ i m nx t, J i m nx t → ∀ p ∈ keep, p ∈ nx) (h0 : J 0 m news s.toks)
    (turn : ∀ i v m₁ nx h₁ tk₁ oI, i < n → P i v → s.toks ≤ tk₁ → J i m₁ nx tk₁ → (∀ p ∈ nx, p.1 ≠ I) → Fr h₀ env.locals h₁ (fun y => if y = x then some v else m₁ y) → News h₀ env.locals h₁ ((I, oI) :: nx) →
      wpAny (model prog w) A (execs body env) (TurnPost h₀ env.locals I oI (J (i + 1)) s Q) E { s with heap := h₁, toks := tk₁ })
    (done : ∀ h' tk m' nx, s.toks ≤ tk → Fr h₀ env.locals h' m' → News h₀ env.locals h' nx → J n m' nx tk → Q .next { s with heap := h', toks := tk })
    (hE : PassesOwn (model prog w) A env E) : OwnAt prog w A env (.Name x px) body Q E (.ref I) s := by
  refine OwnAt.intro (KTurns.ofWalks W fun i v s Q E st q => ?_) keep hLf hI hfp hobj hnw hst F N J (hJm := hJm) (hk := hk) (h0 := h0) ?_ done hE
  · exact wpAny_pure q
  · intro i v m₁ nx h₁ tk₁ oI hi hP ht hJ hoff F₁ N₁
    refine wpAny_assign_Name (wpAny_storeName_local hx F₁.ns (fun h₂ hn₂ hs₂ => ?_) hp)
    exact turn i v m₁ nx h₂ (tk₁ + 1) oI hi hP (Nat.le_succ_of_le ht) (hJm _ _ _ _ _ (Nat.le_succ _) hJ) hoff (F₁.set hn₂ hs₂) (N₁.set hs₂)

theorem ne_fresh {h : Heap} {L : Addr} {m : Loc} (F : Fr h₀ L h m) : L ≠ h.objs.size := fun e => absurd F.ns.lt (e ▸ Nat.lt_irrefl _)
theorem news_lt {h : Heap} {L : Addr} {news : Led} (N : News h₀ L h news) : ∀ p ∈ news, p.1 < h.objs.size := fun p hp => Heap.lt_size (N p hp).1
theorem news_push {h : Heap} {L : Addr} {news : Led} (N : News h₀ L h news) (o : Obj) : News h₀ L (h.push o) news := fun p hp => ⟨Heap.get?_push_of_some _ (N p hp).1, (N p hp).2⟩

/-- for x in range(a, b) -/
theorem own_range {x : Str} {px : Pos} {r : Addr} {a b : Int} {t u v : Tok} {m : Loc} {news : Led}
    (hh : A.handled = none) (hr : IsRange s.heap r a b 1 t u v) (hsmall : Builtin.Range.small a b 1 = true) (F : Fr h₀ env.locals s.heap m) (N : News h₀ env.locals s.heap news)
    (hx : env.kindOf x = some .local) (hp : (env.scope.kind == .class || (env.scope.kind == .module && env.locals != env.globals)) = false)
    (J : Nat → Loc → Led → Nat → Prop) (hJm : ∀ i m nx t t', t ≤ t' → J i m nx t → J i m nx t') (h0 : J 0 m news s.toks)
    (turn : ∀ i t m₁ nx h₁ tk₁ I oI, i < (b - a).toNat → s.toks ≤ tk₁ → J i m₁ nx tk₁ → (∀ p ∈ nx, p.1 ≠ I) → Fr h₀ env.locals h₁ (fun y => if y = x then some (.int (a + (i : Int)) t) else m₁ y) → News h₀ env.locals h₁ ((I, oI) :: nx) →
      wpAny (model prog w) A (execs body env) (TurnPost h₀ env.locals I oI (J (i + 1)) s Q) E { s with heap := h₁, toks := tk₁ })
    (done : ∀ h' tk m' nx, s.toks ≤ tk → Fr h₀ env.locals h' m' → News h₀ env.locals h' nx → J (b - a).toNat m' nx tk → Q .next { s with heap := h', toks := tk })
    (hE : PassesOwn (model prog w) A env E) :
    wpAny (model prog w) A (pyIter (.ref r)) (fun it s₂ => OwnAt prog w A env (.Name x px) body Q E it s₂) E s := by
  refine wpAny_pyIter_range hr hsmall ?_
  have W := Walks.range (prog := prog) (w := w) hh s.heap.objs.size a 1 (b - a).toNat
  have hst : IsRangeIter (s.heap.push { cls := .type "range_iterator", data := .fields #[rawInt a, rawInt (Builtin.Range.rangeSize a b 1), rawInt 1] }) s.heap.objs.size (a + ((0 : Nat) : Int) * 1) (((b - a).toNat : Int) - ((0 : Nat) : Int)) 1 := by
    have e : (s.heap.push { cls := .type "range_iterator", data := .fields #[rawInt a, rawInt (Builtin.Range.rangeSize a b 1), rawInt 1] }).get? s.heap.objs.size = some { cls := .type "range_iterator", data := .fields #[rawInt a, rawInt (Builtin.Range.rangeSize a b 1), rawInt 1] } := Heap.get?_push_size _ rfl
    refine e.trans ?_
    rw [rangeSize_nat]
    simp
  refine own_walks (s := { s with heap := s.heap.push { cls := .type "range_iterator", data := .fields #[rawInt a, rawInt (Builtin.Range.rangeSize a b 1), rawInt 1] } }) W [] ?_ (next_is_new F) (fun b hb => .inl (by simpa using hb)) (fun i h st => ⟨_, st⟩) (fun p hp => Nat.ne_of_lt (news_lt N p hp)) hst (F.push _) (news_push N _) hx hp J hJm (fun _ _ _ _ _ p hp => nomatch hp) h0 ?_ done hE
  · simpa using ne_fresh F
  · rintro i v m₁ nx h₁ tk₁ oI hi ⟨t, rfl⟩ htk hJ hoff F₁ N₁
    rw [Int.mul_one] at F₁
    exact turn i t m₁ nx h₁ tk₁ _ oI hi htk hJ hoff F₁ N₁

/-- for x in a list that the ledger keeps -/
theorem own_list {x : Str} {px : Pos} {l : Addr} {vs : List Value} {k : Nat} {m : Loc} {news : Led}
    (hh : A.handled = none) (F : Fr h₀ env.locals s.heap m) (N : News h₀ env.locals s.heap news)
    (hx : env.kindOf x = some .local) (hp : (env.scope.kind == .class || (env.scope.kind == .module && env.locals != env.globals)) = false)
    (J : Nat → Loc → Led → Nat → Prop) (hJm : ∀ i m nx t t', t ≤ t' → J i m nx t → J i m nx t') (hk : ∀ i m nx t, J i m nx t → (l, PySem.W.listOf vs.toArray k) ∈ nx) (h0 : J 0 m news s.toks)
    (turn : ∀ i v m₁ nx h₁ tk₁ I oI, vs[i]? = some v → s.toks ≤ tk₁ → J i m₁ nx tk₁ → (∀ p ∈ nx, p.1 ≠ I) → Fr h₀ env.locals h₁ (fun y => if y = x then some v else m₁ y) → News h₀ env.locals h₁ ((I, oI) :: nx) →
      wpAny (model prog w) A (execs body env) (TurnPost h₀ env.locals I oI (J (i + 1)) s Q) E { s with heap := h₁, toks := tk₁ })
    (done : ∀ h' tk m' nx, s.toks ≤ tk → Fr h₀ env.locals h' m' → News h₀ env.locals h' nx → J vs.length m' nx tk → Q .next { s with heap := h', toks := tk })
    (hE : PassesOwn (model prog w) A env E) :
    wpAny (model prog w) A (pyIter (.ref l)) (fun it s₂ => OwnAt prog w A env (.Name x px) body Q E it s₂) E s := by
  have hl := (N _ (hk _ _ _ _ h0))
  have hls : s.heap.IsList l vs.toArray := ⟨_, hl.1, rfl, k, rfl⟩
  have hne : l ≠ s.heap.objs.size := Nat.ne_of_lt (Heap.lt_size hl.1)
  refine wpAny_pyIter_list hls ?_
  have W := Walks.list (prog := prog) (w := w) hh s.heap.objs.size l hne vs.toArray
  have hsz : vs.toArray.size = vs.length := by simp
  rw [hsz] at W
  refine own_walks (s := { s with heap := s.heap.push { cls := .type "list_iterator", data := .fields #[.ref l, .int 0 0] } }) W [(l, PySem.W.listOf vs.toArray k)] ?_ (next_is_new F)
    (fun b hb => ?_) (fun i h st => let ⟨o, ho, _⟩ := st.1; ⟨o, ho⟩) (fun p hp => Nat.ne_of_lt (news_lt N p hp)) ?_ (F.push _) (news_push N _) hx hp J hJm (fun i m nx t hJ p hp => by rw [List.mem_singleton.mp hp]; exact hk i m nx t hJ) h0 ?_ done hE
  · intro hm
    rcases List.mem_cons.mp hm with e | hm
    · exact ne_fresh F e
    · exact hl.2.1 (List.mem_singleton.mp hm).symm
  · rcases List.mem_cons.mp hb with e | hm
    · exact .inl e
    · exact .inr (.inr ⟨_, by rw [List.mem_singleton.mp hm]; exact List.mem_singleton.mpr rfl⟩)
  · exact ⟨⟨_, Heap.get?_push_size _ rfl, rfl, rfl⟩, hls.at fun o e => Heap.get?_push_of_some _ e⟩
  · intro i v m₁ nx h₁ tk₁ oI hi hP htk hJ hoff F₁ N₁
    exact turn i v m₁ nx h₁ tk₁ _ oI (by simpa using hP) htk hJ hoff F₁ N₁

end
end Mine

open PySem PySem.W PySem.Calls PyProof.Rows PyProof.V PySem.Spec
set_option Elab.async false
set_option maxRecDepth 100000
set_option linter.unusedVariables false
namespace Mine

/-- locals that are told -/
def Has (m : Loc) : List (Str × Value) → Prop
  | [] => True
  | (x, v) :: r => m x = some v ∧ Has m r
def Set (l : List (Str × Value)) (u : Loc) : Loc := fun y => match l.lookup y with | some v => some v | none => u y
theorem Has.eq {m : Loc} : ∀ {l : List (Str × Value)}, Has m l → m = Set l m
  | [], _ => rfl
  | (x, v) :: r, h => by
    funext y
    have ih := congrFun h.2.eq y
    unfold Set at ih ⊢
    rw [List.lookup_cons]
    cases hc : y == x with
    | true =>
      have e : y = x := by simpa using hc
      subst e
      exact h.1
    | false => exact ih

theorem seq_nat {j n : Nat} (h : j < n) : seqIndex? (j : Int) n = some j := by
  unfold seqIndex?
  simp [h]
  try omega
theorem cut_nat : ∀ {vs : List Value} {j : Nat} {y : Value}, vs[j]? = some y → kl_cut vs j = some (vs.take j, y, vs.drop (j + 1))
  | [], j, y, h => by simp at h
  | x :: r, 0, y, h => by simp at h; subst h; rfl
  | x :: r, j + 1, y, h => by
    have := cut_nat (vs := r) (j := j) (y := y) (by simpa using h)
    simp [kl_cut, this]

section
variable {prog : Program} {w : World} {A : Around} {E : Value → Shared → Prop} {s : Shared} {h₀ : Heap} {L D : Addr} {m : Loc} {news news' : Led} {vs : List Value} {n : Nat}

theorem r_popAt {i : Int} {u : Tok} {y : Value} {Q : Value → Shared → Prop} (j : Nat) (hj : i = (j : Int)) (hy : vs[j]? = some y) (F : Fr h₀ L s.heap m) (N : News h₀ L s.heap news)
    (U : Upd D (PySem.W.listOf vs.toArray n) (PySem.W.listOf (vs.eraseIdx j).toArray (n + 1)) news news') (hz : vs.length ≤ 16777216)
    (h : ∀ h', Fr h₀ L h' m → News h₀ L h' news' → Q y { s with heap := h' }) : wpAny (model prog w) A (call (.builtin "list.pop") [.ref D, .int i u]) Q E s := by
  have hlt : j < vs.length := by
    rcases Nat.lt_or_ge j vs.length with h | h
    · exact h
    · rw [List.getElem?_eq_none h] at hy; cases hy
  subst hj
  have e : vs.eraseIdx j = vs.take j ++ vs.drop (j + 1) := by rw [List.eraseIdx_eq_take_drop_succ]
  rw [e] at U
  refine kl_popAt F N ?_ (seq_nat (by rw [List.size_toArray]; exact hlt)) (cut_nat (by simpa using hy)) (by simpa using U) (by rw [sizeLine_eq]; exact hz) h
  unfold Builtin.List.listFitsIndex
  simp
  omega

theorem r_append {x : Value} {Q : Value → Shared → Prop} (F : Fr h₀ L s.heap m) (N : News h₀ L s.heap news) (U : Upd D (PySem.W.listOf vs.toArray n) (PySem.W.listOf (vs ++ [x]).toArray (n + 1)) news news')
    (hz : vs.length ≤ 16777216) (h : ∀ h', Fr h₀ L h' m → News h₀ L h' news' → Q .none { s with heap := h' }) : wpAny (model prog w) A (call (.builtin "list.append") [.ref D, x]) Q E s :=
  append_K (its := vs.toArray) F N (by rw [List.push_toArray]; exact U) h (by rw [sizeLine_eq, List.size_toArray]; exact hz)
end

/-- the picks out of a pool: by the remainders by how many there are left -/
def picks {α : Type} : Nat → Int → List α → List α
  | 0, _, _ => []
  | k + 1, r, pool => (match pool[(r % ((k : Int) + 1)).toNat]? with
    | some y => [y]
    | none => []) ++ picks k (r / ((k : Int) + 1)) (pool.eraseIdx (r % ((k : Int) + 1)).toNat)
theorem erase_perm {α : Type} : ∀ {pool : List α} {j : Nat} (h : j < pool.length), (pool[j] :: pool.eraseIdx j).Perm pool
  | [], _, h => by simp at h
  | x :: r, 0, _ => .refl _
  | x :: r, j + 1, h => by
    have ih := erase_perm (pool := r) (j := j) (by simpa using h)
    exact (List.Perm.swap _ _ _).trans (.cons _ ih)
theorem picks_perm {α : Type} : ∀ (k : Nat) (r : Int) (pool : List α), pool.length = k → (picks k r pool).Perm pool
  | 0, r, pool, h => by rw [List.length_eq_zero_iff.mp h]; exact .nil
  | k + 1, r, pool, h => by
    have h1 := Int.emod_nonneg r (b := (k : Int) + 1) (by omega)
    have h2 := Int.emod_lt_of_pos r (b := (k : Int) + 1) (by omega)
    unfold picks
    have hlt : (r % ((k : Int) + 1)).toNat < pool.length := by omega
    rw [List.getElem?_eq_getElem hlt]
    have ih := picks_perm k (r / ((k : Int) + 1)) (pool.eraseIdx (r % ((k : Int) + 1)).toNat) (by rw [List.length_eraseIdx_of_lt hlt]; omega)
    refine (List.Perm.cons _ ih).trans ?_
    exact erase_perm hlt
end Mine

open PySem PySem.W PySem.Calls PyProof.Rows PyProof.V PySem.Spec
set_option Elab.async false
set_option maxRecDepth 100000
set_option linter.unusedVariables false
namespace Mine
/-- the tokens are past T -/
def TB (T k : Nat) : Prop := T ≤ k
section
variable {prog : Program} {M : Model} {w : World} {A : Around} {E : Value → Shared → Prop} {s : Shared} {env : Env}
theorem execs_tb {st : Stmt} {rest : List Stmt} {Q : Flow → Shared → Prop} {T : Nat} (hk : TB T s.toks)
    (h : ∀ k, TB T k → wpAny M A (exec st env) (fun f s' => match f with | .next => (TB T s'.toks → wpAny M A (execs rest env) Q E s') | f => Q f s') E { s with toks := k }) :
    wpAny M A (execs (st :: rest) env) Q E s := by
  refine wpAny_execs_cons ?_
  refine wpAny_with_toks (n := T) hk ?_
  refine wpAny_mono (h s.toks hk) (fun f s' h' ht => ?_) fun _ _ h _ => h
  cases f with
  | next => exact h' ht
  | ret v => exact h'
  | brk => exact h'
  | cont => exact h'
theorem with_tb {α : Type} {t : Sem α} {Q : α → Shared → Prop} {T : Nat} (hk : TB T s.toks) (h : wpAny M A t (fun a s' => TB T s'.toks → Q a s') (fun e s' => TB T s'.toks → E e s') s) : wpAny M A t Q E s :=
  wpAny_with_toks (n := T) hk h
theorem gen_tb {α : Type} {t : Sem α} {Q : α → Shared → Prop} {T : Nat} (hk : TB T s.toks) (h : ∀ k, TB T k → wpAny M A t Q E { s with toks := k }) : wpAny M A t Q E s := h s.toks hk
end
theorem TB.mono {T T' k k' : Nat} (h : TB T k) (h1 : T' ≤ T) (h2 : k ≤ k') : TB T' k' := Nat.le_trans h1 (Nat.le_trans h h2)
end Mine
namespace Mine
section
variable {M : Model} {A : Around} {E : Value → Shared → Prop} {s : Shared}
theorem gen_pos {α : Type} {t : Sem α} {Q : α → Shared → Prop} (hk : 0 < s.toks) (h : ∀ k, 0 < k → wpAny M A t Q E { s with toks := k }) : wpAny M A t Q E s := h s.toks hk
end
theorem news_sub {h₀ h : Heap} {L : Addr} {a b : Led} (N : News h₀ L h a) (hs : ∀ p ∈ b, p ∈ a) : News h₀ L h b := fun p hp => N p (hs p hp)
/-- a turn's end -/
theorem TurnPost.next {h₀ : Heap} {L I : Addr} {oI : Obj} {J : Loc → Led → Nat → Prop} {s : Shared} {Q : Flow → Shared → Prop} {h' : Heap} {tk : Nat} {m' : Loc} {all : Led} (nx : Led) (F : Fr h₀ L h' m') (N : News h₀ L h' all)
    (hs : ∀ p ∈ nx, p ∈ all) (hI : (I, oI) ∈ all) (ho : ∀ p ∈ nx, p.1 ≠ I) (hJ : J m' nx tk) : TurnPost h₀ L I oI J s Q .next { s with heap := h', toks := tk } :=
  ⟨h', tk, m', nx, all, rfl, F, N, hs, hI, ho, hJ⟩
end Mine
namespace Mine
theorem sv_length (l : List (Str × Tok)) : (strValues l).length = l.length := by simp [strValues]
theorem sv_append (a b : List (Str × Tok)) : strValues (a ++ b) = strValues a ++ strValues b := by simp [strValues]
theorem map_erase {α β : Type} (f : α → β) : ∀ (a : List α) (j : Nat), (a.map f).eraseIdx j = (a.eraseIdx j).map f
  | [], _ => rfl
  | _ :: _, 0 => rfl
  | x :: r, j + 1 => by simp [map_erase f r j]
theorem sv_erase (a : List (Str × Tok)) (j : Nat) : (strValues a).eraseIdx j = strValues (a.eraseIdx j) := map_erase _ a j
theorem sv_get {l : List (Str × Tok)} {j : Nat} (h : j < l.length) : (strValues l)[j]? = some (.str l[j].1 l[j].2) := by simp [strValues, h]
theorem picks_succ {α : Type} {k : Nat} {r : Int} {pool : List α} (h : (r % ((k : Int) + 1)).toNat < pool.length) :
    picks (k + 1) r pool = pool[(r % ((k : Int) + 1)).toNat] :: picks k (r / ((k : Int) + 1)) (pool.eraseIdx (r % ((k : Int) + 1)).toNat) := by
  show (match pool[(r % ((k : Int) + 1)).toNat]? with | some y => [y] | none => []) ++ _ = _
  rw [List.getElem?_eq_getElem h]
  rfl
end Mine

open PySem PySem.W PySem.Calls PyProof.Rows PyProof.V PySem.Spec
set_option Elab.async false
set_option maxRecDepth 100000
set_option linter.unusedVariables false
namespace Mine
/-- an entry of a dict by texts: the key, its token, what it stands for -/
abbrev Ent := Str × Tok × Value
def ent (w : World) (p : Ent) : DictEntry := ⟨PySem.hashStr w p.1, .str p.1 p.2.1, p.2.2⟩
def sdict (w : World) (es : List Ent) (n : Nat) : Obj := PySem.W.dictOf (es.map (ent w)) n
def kvsOf (es : List Ent) : List (Str × Value) := es.map fun p => (p.1, p.2.2)

section
variable {prog : Program} {w : World} {A : Around} {E : Value → Shared → Prop} {s : Shared} {h₀ : Heap} {L d : Addr} {m : Loc} {news news' : Led} {es : List Ent} {n : Nat}

theorem sdict_keys : KeysOf (strKind prog w) (es.map (ent w)).toArray := by
  intro e he
  obtain ⟨p, hp, rfl⟩ : ∃ p ∈ es, ent w p = e := by simpa using he
  exact ⟨p.1, strKind_is prog w p.1 p.2.1, rfl⟩
theorem sdict_pairs : ∀ es : List Ent, Pairs (strKind prog w) (es.map (ent w)) (kvsOf es)
  | [] => .nil
  | p :: r => .cons (strKind_is prog w p.1 p.2.1) rfl (sdict_pairs r)
theorem sdict_is (hn : (es.map (·.1)).Nodup) : (sdict w es n).IsDictOf (strKind prog w) (kvsOf es) :=
  ⟨_, n, ⟨rfl, rfl, rfl⟩, rfl, sdict_keys, by simpa using sdict_pairs es, by simpa [kvsOf, List.map_map, Function.comp_def] using hn⟩

theorem find_none {k : Str} : ∀ {es : List Ent}, k ∉ es.map (·.1) → ((es.map (ent w)).toArray.findIdx? fun e => (strKind prog w).is k e.key) = none := by
  intro es h
  rw [Array.findIdx?_eq_none_iff]
  intro e he
  obtain ⟨p, hp, rfl⟩ : ∃ p ∈ es, ent w p = e := by simpa using he
  show (p.1 == k) = false
  refine beq_eq_false_iff_ne.mpr fun e => h ?_
  rw [← e]
  exact List.mem_map.mpr ⟨p, hp, rfl⟩

/-- a new key goes to the end -/
theorem r_setNew {k : Str} {t : Tok} {v : Value} {Q : Unit → Shared → Prop} (hk : k ∉ es.map (·.1)) (F : Fr h₀ L s.heap m) (N : News h₀ L s.heap news)
    (U : Upd d (sdict w es n) (sdict w (es ++ [(k, t, v)]) (n + 1)) news news') (hz : es.length ≤ 16777216)
    (h : ∀ h', Fr h₀ L h' m → News h₀ L h' news' → Q () { s with heap := h', toks := s.toks + 1 }) : wpAny (model prog w) A (setItem (.ref d) (.str k t) v) Q E s := by
  obtain ⟨pre, post, rfl, rfl, a, b⟩ := U.split
  have z := N (d, sdict w es n) (List.mem_append.mpr (.inr (.head _)))
  have hT : s.TypeIs (.ref d) "dict" := ⟨_, z.1, rfl⟩
  unfold setItem
  try with_reducible refine wpAny_holding ?_
  refine wpAny_bind (wpAny_sequenceKey hT (by decide) ?_)
  refine wpAny_bind (wpAny_callSpecial?_slot (name := Str.ofString "__setitem__") hT slot_dict_setitem
    (wpAny_call_entry slot_dict_setitem hT entry_dict_setitem ?_ (args_dict_setitem _ _ _)))
  show wpAny _ _ (Builtin.Dict.notOrdered "__setitem__" ⟨[.ref d, .str k t, v], []⟩ >>= _) _ _ s
  refine wpAny_bind (wpAny_notOrdered_dict hT ?_)
  show wpAny _ _ (dictSet d (.str k t) v >>= _) _ _ s
  refine wpAny_bind ?_
  unfold dictSet
  try with_reducible refine wpAny_holding ?_
  refine wpAny_bind (wpAny_pyHash_str ?_)
  unfold dictSetHashed
  try with_reducible refine wpAny_holding ?_
  refine wpAny_bind (wpAny_dictFind_of (s := { s with toks := s.toks + 1 }) (knd := strKind prog w) (k := k) (strKind_is prog w k t) z.1 rfl sdict_keys ?_)
  rw [find_none hk]
  refine wpAny_bind (wpAny_rule ?_)
  refine wpAny_updateDictKeys (s := { s with toks := s.toks + 1 }) z.1 rfl ?_ (by rw [sizeLine_eq, List.size_toArray, List.length_map]; exact hz) (by simp)
  refine wpAny_pure ⟨.none, rfl, wpAny_pure (h _ (F.change (Heap.SameBut.update ..) z.2.1 z.2.2) (news_set N a b (Heap.SameBut.update ..) ?_))⟩
  have e := Heap.get?_update_self (h := s.heap) (a := d) (Obj.mapDictKeys fun x => x.push ⟨PySem.hashStr w k, .str k t, v⟩) z.1 rfl
  refine e.trans (congrArg some ?_)
  show (⟨.type "dict", none, .dict ((es.map (ent w)).toArray.push _) (n + 1), #[]⟩ : Obj) = ⟨.type "dict", none, .dict ((es ++ [(k, t, v)]).map (ent w)).toArray (n + 1), #[]⟩
  rw [List.push_toArray, List.map_append]
  rfl
end
end Mine

open PySem PySem.W PySem.Calls PyProof.Rows PyProof.V PySem.Spec
set_option Elab.async false
set_option maxRecDepth 100000
set_option linter.unusedVariables false
namespace Mine
section
variable {prog : Program} {w : World} {A : Around} {E : Value → Shared → Prop} {s : Shared} {env : Env} {h₀ : Heap} {body : List Stmt} {Q : Flow → Shared → Prop}

abbrev pairObj (p : Ent) : Obj := { cls := .type "tuple", data := .seq #[.str p.1 p.2.1, p.2.2] }

theorem next_item {it d : Addr} {i ep : Nat} {es : List Ent} {p : Ent} {ok ov : Value} {Q : Option Value → Shared → Prop} (hit : IsItemIter s.heap it d i es.length ep ok ov)
    (hd : s.heap.get? d = some (sdict w es ep)) (hx : es[i]? = some p)
    (hQ : ∀ h', IsItemIterOut h' it d (i + 1) es.length ep (.str p.1 p.2.1) p.2.2 s.heap.objs.size → h'.get? s.heap.objs.size = some (pairObj p) →
      (∀ b o, b ≠ it → s.heap.get? b = some o → h'.get? b = some o) → Q (some (.ref s.heap.objs.size)) { s with heap := h' }) :
    wpAny (model prog w) A (pyNext (.ref it)) Q E s := by
  obtain ⟨hp, g, dr, tk, os⟩ := s
  dsimp only at hit hd hQ
  have hil : it < hp.objs.size := Heap.lt_size hit
  have hlt : i < es.length := by
    rcases Nat.lt_or_ge i es.length with h | h
    · exact h
    · rw [List.getElem?_eq_none h] at hx; cases hx
  have hT : Shared.TypeIs ⟨hp, g, dr, tk, os⟩ (.ref it) "dict_itemiterator" := ⟨_, hit, rfl⟩
  have hsz : ((es.map (ent w)).toArray).size = es.length := by rw [List.size_toArray, List.length_map]
  have hget : ((es.map (ent w)).toArray)[i]? = some (ent w p) := by simp [hx]
  unfold pyNext
  refine wpAny_bind (wpAny_attempt (wpAny_callSpecial?_slot (name := Str.ofString "__next__") hT F.slot_dict_itemiterator_next
    (wpAny_call_entry F.slot_dict_itemiterator_next hT F.entry_dict_itemiterator_next ?_ (F.args_dict_itemiterator_next_1 _))))
  refine wpAny_bind (wpAny_pure ?_)
  refine wpAny_bind (wpAny_bind ?_)
  first | refine wpAny_bind (wpAny_typeNameOfWhole_itemiter hT (wpAny_pure ?_)) | refine wpAny_bind (wpAny_typeNameOf_itemiter hT (wpAny_pure ?_))
  refine wpAny_bind (wpAny_fieldsOf hit rfl ?_)
  simp only [show Builtin.Dict_items.ownsTuple "dict_itemiterator" = true by decide, if_true]
  show wpAny _ _ (if (Value.ref d == Value.none) = true then _ else _) _ _ _
  rw [if_neg (show ¬ ((Value.ref d == Value.none) = true) from Bool.false_ne_true)]
  refine wpAny_bind (wpAny_pure (wpAny_bind (wpAny_dictEntries hd rfl ?_)))
  rw [if_neg (by rw [hsz]; simp)]
  refine wpAny_bind (wpAny_pure (wpAny_bind (wpAny_dictEpoch hd rfl ?_)))
  rw [if_neg (by simp)]
  refine wpAny_pure ?_
  simp only [show ¬ ((i : Int) < 0) from by omega, if_false, Int.toNat_natCast, hget]
  refine wpAny_bind ?_
  first | refine wpAny_bind (wpAny_typeNameOfWhole_itemiter hT (wpAny_pure ?_)) | refine wpAny_bind (wpAny_typeNameOf_itemiter hT (wpAny_pure ?_))
  refine wpAny_bind (wpAny_isOneOf_itemiter hT ?_)
  show wpAny _ _ (setField (.ref it) 3 (rawInt ((i : Int) + 1)) >>= _) _ _ ⟨hp, g, dr, tk, os⟩
  refine wpAny_bind (wpAny_setField_rec hit (by simp) fun a₁ e₁ b₁ => ?_)
  replace e₁ : IsItemIter a₁ it d (i + 1) es.length ep ok ov := by
    have e : ((i + 1 : Nat) : Int) = (i : Int) + 1 := by omega
    unfold IsItemIter; rw [e]; simpa [rawInt] using e₁
  replace b₁ : Heap.SameBut it hp a₁ := b₁
  have hT₁ : Shared.TypeIs ⟨a₁, g, dr, tk, os⟩ (.ref it) "dict_itemiterator" := ⟨_, e₁, rfl⟩
  refine wpAny_bind (wpAny_holding (wpAny_bind (wpAny_isOneOf_itemiter hT₁ (wpAny_bind (wpAny_isOneOf_itemiter hT₁ ?_)))))
  show wpAny _ _ (Builtin.Dict_items.pairFromOwner (.ref it) 6 (.str p.1 p.2.1) p.2.2) _ _ ⟨a₁, g, dr, tk, os⟩
  unfold Builtin.Dict_items.pairFromOwner
  refine wpAny_bind (wpAny_newTuple ?_)
  have hz : a₁.objs.size = hp.objs.size := b₁.1
  have e₂ : IsItemIter (a₁.push (pairObj p)) it d (i + 1) es.length ep ok ov := Heap.get?_push_of_some _ e₁
  have t₂ : (a₁.push (pairObj p)).get? hp.objs.size = some (pairObj p) := by rw [← hz]; exact Heap.get?_push_size _ rfl
  have k₂ : ∀ b o, b ≠ it → hp.get? b = some o → (a₁.push (pairObj p)).get? b = some o := fun b o hb e => Heap.get?_push_of_some _ (b₁.extBut b o hb e)
  show wpAny _ _ (Builtin.Dict_items.ownedTupleIsFree (.ref it) >>= _) _ _ ⟨a₁.push (pairObj p), g, dr, tk, os⟩
  rw [hz]
  generalize a₁.push (pairObj p) = a₂ at e₂ t₂ k₂ ⊢
  refine wpAny_bind ?_
  unfold Builtin.Dict_items.ownedTupleIsFree
  refine wpAny_bind (wpAny_field e₂ rfl (x := .none) rfl (wpAny_pure ?_))
  simp only [if_true]
  refine wpAny_bind (wpAny_field e₂ rfl (x := ok) rfl (wpAny_bind (wpAny_field e₂ rfl (x := ov) rfl ?_)))
  refine wpAny_bind (wpAny_setField_rec e₂ (by simp) fun a₃ e₃ b₃ => wpAny_bind (wpAny_setField_rec e₃ (by simp) fun a₄ e₄ b₄ =>
    wpAny_bind (wpAny_setField_rec e₄ (by simp) fun a₅ e₅ b₅ => wpAny_bind (wpAny_setField_rec e₅ (by simp) fun a₆ e₆ b₆ => ?_))))
  have k : ∀ b o, b ≠ it → a₂.get? b = some o → a₆.get? b = some o := fun b o hb e =>
    Heap.SameBut.extBut b₆ b o hb (Heap.SameBut.extBut b₅ b o hb (Heap.SameBut.extBut b₄ b o hb (Heap.SameBut.extBut b₃ b o hb e)))
  refine wpAny_bind (wpAny_letGo (wpAny_pure (wpAny_pure ⟨_, rfl, wpAny_pure (hQ a₆ ?_ (k _ _ (Nat.ne_of_gt hil) t₂) fun b o hb e => k b o hb (k₂ b o hb e))⟩)))
  exact e₆

theorem items_turns {elts : List Expr} {kk : Nat} {pos : Pos} (hh : A.handled = none) (I d : Addr) (hne : d ≠ I) (es : List Ent) (ep : Nat) (hn : (es.map (·.1)).Nodup) :
    KTurns prog w A (.Tuple elts kk pos) I [I, d] [I] es.length
      (fun i v h => ∃ T p, v = .ref T ∧ es[i]? = some p ∧ h.get? T = some (pairObj p))
      (fun i v h => ∃ T p, v = .ref T ∧ es[i]? = some p ∧ h.get? T = some (pairObj p) ∧ IsItemIterOut h I d (i + 1) es.length ep (.str p.1 p.2.1) p.2.2 T ∧ h.get? d = some (sdict w es ep) ∧ T ≠ I)
      (fun i h => (∃ ok ov, IsItemIter h I d i es.length ep ok ov) ∧ h.get? d = some (sdict w es ep)) where
  sub := fun b hb => by simp at hb; simp [hb]
  frame := fun i h h' st hk => by
    obtain ⟨⟨ok, ov, he⟩, hm⟩ := st
    exact ⟨⟨ok, ov, hk I (by simp) _ he⟩, hk d (by simp) _ hm⟩
  item := fun i s Q E hi st hQ => by
    obtain ⟨⟨ok, ov, he⟩, hm⟩ := st
    have hx : es[i]? = some es[i] := by simp [hi]
    refine next_item he hm hx fun h' ho hT hk => ?_
    exact hQ _ h' s.toks ⟨_, _, rfl, hx, hT, ho, hk d _ hne hm, Nat.ne_of_gt (Heap.lt_size he)⟩ fun b o hb e => hk b o (fun h => hb (by simp [h])) e
  go := fun i v s Q E hm hQ => by
    obtain ⟨T, p, rfl, hx, hT, ho, hd, hTI⟩ := hm
    refine wpAny_letOwnedTupleGo_items ho fun h' he hs => ?_
    exact hQ h' ⟨T, p, rfl, hx, hs.extBut T _ hTI hT⟩ ⟨⟨_, _, he⟩, hs.extBut d _ hne hd⟩ fun b o hb e => hs.extBut b o (fun h => hb (by simp [h])) e
  done := fun s Q E st hQ => by
    obtain ⟨⟨ok, ov, he⟩, hm⟩ := st
    have hlen : es.length = (kvsOf es).length := by simp [kvsOf]
    have hat : s.heap.DictAt (strKind prog w) d (kvsOf es) ep := by
      exact ⟨_, _, hm, ⟨rfl, rfl, rfl⟩, rfl, sdict_keys, by simpa using sdict_pairs es, by simpa [kvsOf, List.map_map, Function.comp_def] using hn⟩
    refine wpAny_pyNext_items_end (knd := strKind prog w) (kvs := kvsOf es) hh (by rw [← hlen]; exact he) hat (List.getElem?_eq_none (by rw [← hlen]; exact Nat.le_refl _)) fun h' hx => hQ h' s.toks fun b o hb e => hx b o (fun h => hb (by simp [h])) e

/-- for k, v in a dict's items: the pairs with their tokens -/
theorem own_items {elts : List Expr} {kk : Nat} {pos : Pos} {d vw : Addr} {es : List Ent} {ep : Nat} {m : Loc} {news : Led}
    (hh : A.handled = none) (F : Fr h₀ env.locals s.heap m) (N : News h₀ env.locals s.heap news)
    (hvw : s.heap.IsItemsView vw d) (hn : (es.map (·.1)).Nodup)
    (J : Nat → Loc → Led → Nat → Prop) (hJm : ∀ i m nx t t', t ≤ t' → J i m nx t → J i m nx t') (hk : ∀ i m nx t, J i m nx t → (d, sdict w es ep) ∈ nx) (h0 : J 0 m news s.toks)
    (turn : ∀ i T p m₁ nx h₁ tk₁ I oI, es[i]? = some p → h₁.get? T = some (pairObj p) → s.toks ≤ tk₁ → J i m₁ nx tk₁ → (∀ p ∈ nx, p.1 ≠ I) → Fr h₀ env.locals h₁ m₁ → News h₀ env.locals h₁ ((I, oI) :: nx) →
      wpAny (model prog w) A (assign (.Tuple elts kk pos) env (.ref T)) (fun _ s₂ => wpAny (model prog w) A (execs body env) (TurnPost h₀ env.locals I oI (J (i + 1)) s Q) E s₂) E { s with heap := h₁, toks := tk₁ })
    (done : ∀ h' tk m' nx, s.toks ≤ tk → Fr h₀ env.locals h' m' → News h₀ env.locals h' nx → J es.length m' nx tk → Q .next { s with heap := h', toks := tk })
    (hE : PassesOwn (model prog w) A env E) :
    wpAny (model prog w) A (pyIter (.ref vw)) (fun it s₂ => OwnAt prog w A env (.Tuple elts kk pos) body Q E it s₂) E s := by
  have hax := N _ (hk _ _ _ _ h0)
  have hlen : es.length = (kvsOf es).length := by simp [kvsOf]
  have hat : s.heap.DictAt (strKind prog w) d (kvsOf es) ep :=
    ⟨_, _, hax.1, ⟨rfl, rfl, rfl⟩, rfl, sdict_keys, by simpa using sdict_pairs es, by simpa [kvsOf, List.map_map, Function.comp_def] using hn⟩
  have hne : d ≠ s.heap.objs.size := Nat.ne_of_lt (Heap.lt_size hax.1)
  refine wpAny_pyIter_items hvw hat ?_
  rw [← hlen]
  have W := items_turns (prog := prog) (w := w) (elts := elts) (kk := kk) (pos := pos) hh s.heap.objs.size d hne es ep hn
  refine OwnAt.intro (s := { s with heap := s.heap.push _ }) W [(d, sdict w es ep)] ?_ (next_is_new F)
    (fun b hb => ?_) (fun i h st => let ⟨⟨ok, ov, ho⟩, _⟩ := st; ⟨_, ho⟩) (fun p hp => Nat.ne_of_lt (news_lt N p hp)) ?_ (F.push _) (news_push N _) J hJm (fun i m nx t hJ p hp => by rw [List.mem_singleton.mp hp]; exact hk i m nx t hJ) h0 ?_ done hE
  · intro hm
    rcases List.mem_cons.mp hm with e | hm
    · exact ne_fresh F e
    · exact hax.2.1 (List.mem_singleton.mp hm).symm
  · rcases List.mem_cons.mp hb with e | hm
    · exact .inl e
    · exact .inr (.inr ⟨_, by rw [List.mem_singleton.mp hm]; exact List.mem_singleton.mpr rfl⟩)
  · exact ⟨⟨.none, .none, Heap.get?_push_size _ rfl⟩, Heap.get?_push_of_some _ hax.1⟩
  · rintro i v m₁ nx h₁ tk₁ oI hi ⟨T, p, rfl, hx, hT⟩ htk hJ hoff F₁ N₁
    exact turn i T p m₁ nx h₁ tk₁ _ oI hx hT htk hJ hoff F₁ N₁
end
end Mine
namespace Mine
section
variable {prog : Program} {w : World} {A : Around} {E : Value → Shared → Prop} {s : Shared} {env : Env} {h₀ : Heap} {L : Addr} {m : Loc} {news : Led}
theorem r_newDict {pos : Pos} {Q : Value → Shared → Prop} (F : Fr h₀ L s.heap m) (N : News h₀ L s.heap news) (hbig : h₀.NoLimit)
    (h : ∀ d h', Fr h₀ L h' m → News h₀ L h' ((d, sdict w [] 0) :: news) → (∀ p ∈ news, p.1 < d) → (d == sysModules) = false → Q (.ref d) { s with heap := h' }) :
    wpAny (model prog w) A (eval (.Dict [] [] pos) env) Q E s := by
  exact wpAny_Dict_empty (h _ _ (F.push _) (N.push F _) (news_lt N) (F.notModules (modules_low hbig)))
end
end Mine

open PySem PySem.W PySem.Calls PyProof.Rows PyProof.V PySem.Spec
set_option Elab.async false
set_option maxRecDepth 100000
set_option linter.unusedVariables false
namespace Mine
theorem ints_at : ∀ {vs : List Value} {ns : List Int}, IntsAre vs ns → ∀ {i : Nat} (h : i < ns.length), ∃ t, vs[i]? = some (.int ns[i] t)
  | _, _, .cons n t r, 0, h => ⟨t, rfl⟩
  | _, _, .cons n t r, i + 1, h => by
    obtain ⟨t', e⟩ := ints_at r (i := i) (by simpa using h)
    exact ⟨t', by simpa using e⟩
theorem ints_set : ∀ {vs : List Value} {ns : List Int}, IntsAre vs ns → ∀ (i : Nat) (k : Int) (t : Tok), IntsAre (vs.set i (.int k t)) (ns.set i k)
  | _, _, .nil, _, _, _ => .nil
  | _, _, .cons n u r, 0, k, t => .cons k t r
  | _, _, .cons n u r, i + 1, k, t => .cons n u (ints_set r i k t)
theorem ints_len {vs : List Value} {ns : List Int} (h : IntsAre vs ns) : vs.length = ns.length := h.length
theorem strs_are : ∀ l : List (Str × Tok), StrsAre (strValues l) (l.map (·.1))
  | [] => .nil
  | p :: r => .cons p.1 p.2 (strs_are r)
section
variable {prog : Program} {w : World} {A : Around} {E : Value → Shared → Prop} {s : Shared} {h₀ : Heap} {L D b : Addr} {m : Loc} {news news' : Led} {vs : List Value} {n k : Nat}

theorem isL {h : Heap} {a : Addr} (e : h.get? a = some (PySem.W.listOf vs.toArray n)) : h.IsList a vs.toArray := ⟨_, e, rfl, n, rfl⟩

/-- a list against the empty one -/
theorem r_neNil {Q : Value → Shared → Prop} (ha : s.heap.get? D = some (PySem.W.listOf vs.toArray n)) (hb : s.heap.get? b = some (PySem.W.listOf #[] k)) (hu : A.units < cLine) (h : Q (.bool (!vs.isEmpty)) s) :
    wpAny (model prog w) A (compareOp .NotEq (.ref D) (.ref b)) Q E s := by
  refine cmp_ofNotEq ?_
  cases vs with
  | nil => exact SeqAt.RcNeAt.lists (items := #[]) (items2 := #[]) (e := fun _ => true) (isL (vs := []) ha) (isL (vs := []) hb) rfl hu (fun j h1 _ => absurd h1 (Nat.not_lt_zero _)) prog w E Q h
  | cons x r => exact SeqAt.RcNeAt.lists_lengths (items := (x :: r).toArray) (items2 := #[]) (isL ha) (isL (vs := []) hb) (by simp) hu prog w E Q h

theorem r_eqNil {Q : Value → Shared → Prop} (ha : s.heap.get? D = some (PySem.W.listOf vs.toArray n)) (hb : s.heap.get? b = some (PySem.W.listOf #[] k)) (hu : A.units < cLine) (h : Q (.bool vs.isEmpty) s) :
    wpAny (model prog w) A (compareOp .Eq (.ref D) (.ref b)) Q E s := by
  cases vs with
  | nil => exact SeqAt.eq_listAt (items := #[]) (items2 := #[]) (e := fun _ => true) (isL (vs := []) ha) (isL (vs := []) hb) rfl hu (fun j h1 _ => absurd h1 (Nat.not_lt_zero _)) h
  | cons x r => exact SeqAt.eq_list_lengthsAt (items := (x :: r).toArray) (items2 := #[]) (isL ha) (isL (vs := []) hb) (by simp) hu h

/-- where a text stands in a list of texts -/
theorem r_index {l : List (Str × Tok)} {x : Str} {t : Tok} {Q : Value → Shared → Prop} (ha : s.heap.get? D = some (PySem.W.listOf (strValues l).toArray n)) (hx : x ∈ l.map (·.1)) (hz : l.length ≤ 16777216)
    (h : Q (.int ((l.map (·.1)).idxOf x : Nat) s.toks) { s with toks := s.toks + 1 }) : wpAny (model prog w) A (call (.builtin "list.index") [.ref D, .str x t]) Q E s := by
  have hj : (l.map (·.1)).idxOf x < l.length := by have := List.idxOf_lt_length_of_mem hx; simpa using this
  let e : Value → Bool := fun v => match v with | .str y _ => y.cps.toList == x.cps.toList | _ => false
  have hget : ∀ (i : Nat) (hi : i < l.length) (hi' : i < (strValues l).toArray.size), (strValues l).toArray[i] = .str l[i].1 l[i].2 := by
    intro i hi hi'
    simp [strValues]
  have hsz : (strValues l).toArray.size = l.length := by rw [List.size_toArray, sv_length]
  refine call_meets PySem.F.slot_list_index ⟨_, ha, rfl⟩ PySem.F.entry_list_index (PySem.F.args_list_index_2 _ _)
    (PySem.MeetsSeq.list_index D (strValues l).toArray n (.str x t) e ?_ ((l.map (·.1)).idxOf x) (by rw [hsz]; exact hj) (by omega) ?_ ?_) ⟨ha, h⟩
  · intro y hy
    obtain ⟨p, hp, rfl⟩ : ∃ p ∈ l, Value.str p.1 p.2 = y := by simpa [strValues] using hy
    exact PySem.SeqRoads2.EqGives.str _ _ _ _
  · rw [hget _ hj]
    show ((l[(l.map (·.1)).idxOf x]'hj).1.cps.toList == x.cps.toList) = true
    have e1 : (l[(l.map (·.1)).idxOf x]'hj).1 = x := by
      have h4 := List.getElem_idxOf (x := x) (xs := l.map (·.1)) (by simpa using hj)
      rw [List.getElem_map] at h4
      exact h4
    rw [e1]; simp
  · intro i hi hlt
    rw [hsz] at hi
    rw [hget _ hi]
    show (l[i].1.cps.toList == x.cps.toList) = false
    refine beq_eq_false_iff_ne.mpr fun e1 => ?_
    have e2 : l[i].1 = x := PySem.Str.ext' (Array.toList_inj.mp e1)
    have h3 := List.not_of_lt_findIdx (p := fun y => y == x) (xs := l.map (·.1)) hlt
    simp [e2] at h3

theorem r_inStrs {l : List (Str × Tok)} {x : Str} {t : Tok} {Q : Value → Shared → Prop} (ha : s.heap.get? D = some (PySem.W.listOf (strValues l).toArray n))
    (h : Q (.bool (decide (x ∈ l.map (·.1)))) s) : wpAny (model prog w) A (compareOp .In (.str x t) (.ref D)) Q E s := by
  refine in_list_strs (isL ha) (strs_are l) ?_
  have e : ((l.map (·.1)).any fun y => y == x) = decide (x ∈ l.map (·.1)) := by
    rw [Bool.eq_iff_iff]
    simp
  rw [e]; exact h

/-- xs[i] -/
theorem r_item {value slice : Expr} {u : Tok} {x : Value} {Q : Value → Shared → Prop} (i : Nat) (ha : s.heap.get? D = some (PySem.W.listOf vs.toArray n)) (hx : vs[i]? = some x) (hz : vs.length ≤ 16777216) (h : Q x s)
    (hs : subscripted slice false (.ref D) (.int (i : Int) u) = operate [.ref D, .int (i : Int) u] (getItem (.ref D) (.int (i : Int) u)) := by with_unfolding_all rfl) :
    wpAny (model prog w) A (subscriptTail value slice (.ref D) (.int (i : Int) u)) Q E s := by
  have hi : i < vs.length := by
    rcases Nat.lt_or_ge i vs.length with h | h
    · exact h
    · rw [List.getElem?_eq_none h] at hx; cases hx
  exact tail_any (isL ha).typeIs slot_list_getitem.lookup (wpAny_getItem_list (isL ha) (by omega) (by omega) (by simpa using hx) h) hs

/-- xs[-1] -/
theorem r_last {value slice : Expr} {u : Tok} {x : Value} {Q : Value → Shared → Prop} (ha : s.heap.get? D = some (PySem.W.listOf (vs ++ [x]).toArray n)) (hz : vs.length ≤ 16777216) (h : Q x s)
    (hs : subscripted slice false (.ref D) (.int (-1) u) = operate [.ref D, .int (-1) u] (getItem (.ref D) (.int (-1) u)) := by with_unfolding_all rfl) :
    wpAny (model prog w) A (subscriptTail value slice (.ref D) (.int (-1) u)) Q E s := by
  refine tail_any (isL ha).typeIs slot_list_getitem.lookup (wpAny_getItem_list_neg (isL ha) (by decide) ?_ (by decide) ?_ h) hs
  · rw [List.size_toArray, List.length_append]; simp; omega
  · have e : ((-1 : Int) + ((vs ++ [x]).toArray.size : Int)).toNat = vs.length := by rw [List.size_toArray, List.length_append]; simp; omega
    rw [e]; simp

/-- xs[i] = v -/
theorem r_setItem {u : Tok} {v : Value} {Q : Unit → Shared → Prop} (i : Nat) (hi : i < vs.length) (hz : vs.length ≤ 16777216) (F : Fr h₀ L s.heap m) (N : News h₀ L s.heap news)
    (U : Upd D (PySem.W.listOf vs.toArray n) (PySem.W.listOf (vs.set i v).toArray n) news news')
    (h : ∀ h', Fr h₀ L h' m → News h₀ L h' news' → Q () { s with heap := h' }) : wpAny (model prog w) A (setItem (.ref D) (.int (i : Int) u) v) Q E s := by
  refine ki_set F N (by omega) (by omega) (q := vs.set i v) ?_ (by simpa using U) h
  have : ∀ (l : List Value) (i : Nat), i < l.length → ki_setL l i v = some (l.set i v) := by
    intro l
    induction l with
    | nil => intro i h; simp at h
    | cons y r ih =>
      intro i h
      cases i with
      | zero => rfl
      | succ i => simp [ki_setL, ih i (by simpa using h)]
  simpa using this vs i hi

/-- xs.pop() -/
theorem r_pop {x : Value} {Q : Value → Shared → Prop} (F : Fr h₀ L s.heap m) (N : News h₀ L s.heap news)
    (U : Upd D (PySem.W.listOf (vs ++ [x]).toArray n) (PySem.W.listOf vs.toArray (n + 1)) news news') (hz : vs.length + 1 ≤ 16777216)
    (h : ∀ h', Fr h₀ L h' m → News h₀ L h' news' → Q x { s with heap := h' }) : wpAny (model prog w) A (call (.builtin "list.pop") [.ref D]) Q E s := by
  refine kl_pop F N ?_ U (by rw [sizeLine_eq]; simpa using hz) h
  have : ∀ l : List Value, kl_last (l ++ [x]) = some (l, x) := by
    intro l
    induction l with
    | nil => rfl
    | cons y r ih => simp [kl_last, ih]
  simpa using this vs
end
end Mine
namespace Mine
section
variable {prog : Program} {w : World} {A : Around} {E : Value → Shared → Prop} {s : Shared} {h₀ : Heap} {L D b : Addr} {m : Loc} {news news' : Led} {vs : List Value} {n k : Nat}
theorem allLt_all {d : Addr} : ∀ {l : Led}, AllLt d l → ∀ p ∈ l, p.1 < d
  | [], _, _, h => nomatch h
  | q :: r, h, p, hp => by
    rcases List.mem_cons.mp hp with rfl | hp
    · exact h.1
    · exact allLt_all h.2 p hp
theorem allLt_ne {d : Addr} {l : Led} (h : AllLt d l) : ∀ p ∈ l, p.1 ≠ d := fun p hp => Nat.ne_of_lt (allLt_all h p hp)
end
end Mine
namespace Mine
theorem upd_mid {d : Addr} {o o' : Obj} : ∀ (pre : Led) {post : Led}, ((pre ++ (d, o) :: post).map (·.1)).Nodup → Upd d o o' (pre ++ (d, o) :: post) (pre ++ (d, o') :: post)
  | [], post, h => by
    refine .head fun p hp e => ?_
    have h' : (d :: post.map (·.1)).Nodup := h
    rw [List.nodup_cons] at h'
    exact h'.1 (List.mem_map.mpr ⟨p, hp, e⟩)
  | q :: pre, post, h => by
    have h' : (q.1 :: (pre ++ (d, o) :: post).map (·.1)).Nodup := h
    rw [List.nodup_cons] at h'
    refine .tail (fun e => h'.1 ?_) (upd_mid pre h'.2)
    rw [e]
    exact List.mem_map.mpr ⟨(d, o), List.mem_append.mpr (.inr (.head _)), rfl⟩
theorem nd_off {I : Addr} {oI : Obj} {l : Led} (h : (((I, oI) :: l).map (·.1)).Nodup) : ∀ p ∈ l, p.1 ≠ I := fun p hp e => by
  have h' : (I :: l.map (·.1)).Nodup := h
  rw [List.nodup_cons] at h'
  exact h'.1 (List.mem_map.mpr ⟨p, hp, e⟩)
theorem nd_tail {q : Addr × Obj} {l : Led} (h : ((q :: l).map (·.1)).Nodup) : (l.map (·.1)).Nodup := by
  have h' : (q.1 :: l.map (·.1)).Nodup := h
  rw [List.nodup_cons] at h'
  exact h'.2
theorem news_tail {h₀ h : Heap} {L : Addr} {q : Addr × Obj} {l : Led} (N : News h₀ L h (q :: l)) : News h₀ L h l := fun p hp => N p (.tail _ hp)
end Mine

open PySem PySem.W PySem.Calls PyProof.Rows PyProof.V PySem.Spec
set_option Elab.async false
set_option maxRecDepth 100000
set_option linter.unusedVariables false
namespace Mine
def two (a b : Nat) : Str := ⟨#[a, b]⟩
theorem item_c {T : Str} {i : Nat} (h : i < T.length) : Txt.item T (i : Int) = ⟨#[T.cps.toList.getD i 0]⟩ := by
  rw [item_at (n := i) (by omega) (by omega) (by simp)]
  simp [Array.getD, List.getD]
  have h' : i < T.cps.size := h
  simp [h']
theorem one_eq (c d : Nat) {x : Str} (hx : x = ⟨#[d]⟩) : ((⟨#[c]⟩ : Str) == x) = decide (c = d) := by
  subst hx
  rw [Bool.eq_iff_iff]
  simp
theorem nd_mid (pre : Led) {post : Led} {q : Addr × Obj} (h : ((q :: (pre ++ post)).map (·.1)).Nodup) : ((pre ++ q :: post).map (·.1)).Nodup :=
  ((List.perm_middle (l₁ := pre) (l₂ := post) (a := q)).map (·.1)).nodup_iff.mpr h
theorem nd_new {x : Addr} {o : Obj} {l : Led} (h : (l.map (·.1)).Nodup) (hx : ∀ p ∈ l, p.1 < x) : (((x, o) :: l).map (·.1)).Nodup := by
  show (x :: l.map (·.1)).Nodup
  rw [List.nodup_cons]
  refine ⟨fun hm => ?_, h⟩
  obtain ⟨p, hp, e⟩ := List.mem_map.mp hm
  exact absurd (hx p hp) (by rw [e]; exact Nat.lt_irrefl _)
theorem nd_rot {d i : Addr × Obj} {l : Led} (h : ((d :: i :: l).map (·.1)).Nodup) : ((l ++ [d]).map (·.1)).Nodup := by
  have h2 : ((d :: l).map (·.1)).Sublist ((d :: i :: l).map (·.1)) := .cons_cons _ (.cons _ (List.Sublist.refl _))
  exact ((List.perm_append_singleton d l).map (·.1)).nodup_iff.mpr (h2.nodup h)
theorem nd_cons {I : Addr} {oI : Obj} {l : Led} (h : (l.map (·.1)).Nodup) (ho : ∀ p ∈ l, p.1 ≠ I) : (((I, oI) :: l).map (·.1)).Nodup := by
  show (I :: l.map (·.1)).Nodup
  rw [List.nodup_cons]
  refine ⟨fun hm => ?_, h⟩
  obtain ⟨p, hp, e⟩ := List.mem_map.mp hm
  exact ho p hp e
section
variable {prog : Program} {w : World} {A : Around} {E : Value → Shared → Prop} {s : Shared} {env : Env} {h₀ : Heap} {body : List Stmt}
theorem r_strItem {value slice : Expr} {T : Str} {t u : Tok} {i : Nat} {Q : Value → Shared → Prop} (hi : i < T.length) (hz : T.length ≤ 16777216) (h : Q (.str ⟨#[T.cps.toList.getD i 0]⟩ s.toks) { s with toks := s.toks + 1 })
    (hs : subscripted slice false (.str T t) (.int (i : Int) u) = operate [.str T t, .int (i : Int) u] (getItem (.str T t) (.int (i : Int) u)) := by with_unfolding_all rfl) (ht : ∀ r, letTemporaryGo value (.str T t) r = pure () := by intro _; with_unfolding_all rfl) :
    wpAny (model prog w) A (subscriptTail value slice (.str T t) (.int (i : Int) u)) Q E s := by
  refine item_str ?_ (by omega) (by omega) (fun _ => ?_) hs ht
  · unfold fitsSsize
    simp
    omega
  · rw [item_c hi]; exact h
variable {Q : Flow → Shared → Prop}
/-- own_range, with the ledger's first address told -/
theorem own_rangeD {x : Str} {px : Pos} {r : Addr} {a b : Int} {t u v : Tok} {m : Loc} {D : Addr} {o : Obj} {rest : Led}
    (hh : A.handled = none) (hr : IsRange s.heap r a b 1 t u v) (hsmall : Builtin.Range.small a b 1 = true) (F : Fr h₀ env.locals s.heap m) (N : News h₀ env.locals s.heap ((D, o) :: rest))
    (hx : env.kindOf x = some .local) (hp : (env.scope.kind == .class || (env.scope.kind == .module && env.locals != env.globals)) = false)
    (J : Addr → Nat → Loc → Led → Nat → Prop) (hJm : ∀ i m nx t t', t ≤ t' → J D i m nx t → J D i m nx t') (h0 : J D 0 m ((D, o) :: rest) s.toks)
    (turn : ∀ i t m₁ nx h₁ tk₁ I oI, i < (b - a).toNat → s.toks ≤ tk₁ → J D i m₁ nx tk₁ → (∀ p ∈ nx, p.1 ≠ I) → Fr h₀ env.locals h₁ (fun y => if y = x then some (.int (a + (i : Int)) t) else m₁ y) → News h₀ env.locals h₁ ((I, oI) :: nx) →
      wpAny (model prog w) A (execs body env) (TurnPost h₀ env.locals I oI (J D (i + 1)) s Q) E { s with heap := h₁, toks := tk₁ })
    (done : ∀ h' tk m' nx, s.toks ≤ tk → Fr h₀ env.locals h' m' → News h₀ env.locals h' nx → J D (b - a).toNat m' nx tk → Q .next { s with heap := h', toks := tk })
    (hE : PassesOwn (model prog w) A env E) :
    wpAny (model prog w) A (pyIter (.ref r)) (fun it s₂ => OwnAt prog w A env (.Name x px) body Q E it s₂) E s :=
  own_range hh hr hsmall F N hx hp (J D) hJm h0 turn done hE
theorem add_strT {x y : Str} {t u : Tok} {Q : Value → Shared → Prop} (hx : x.length ≠ 0) (hy : y.length ≠ 0) (hsz : x.length + y.length ≤ 16777216) (h : Q (.str (x ++ y) s.toks) { s with toks := s.toks + 1 }) :
    wpAny (model prog w) A (binaryOp .Add (.str x t) (.str y u)) Q E s := by
  refine binaryOp_concat (typeIs_str s x t) (typeIs_str s y u) PyProof.Rows.noFill_str_add PyProof.Rows.seq_str_add ?_
  refine wpAny_call_entry PyProof.Rows.slot_str_add (typeIs_str s x t) entry_str_add ?_ (args_str_add _ _)
  show wpAny _ _ (do
    if (true && x.length == 0) = true then (do rule "str.__add__.left-empty"; ret (.str y u)) else
    if (true && y.length == 0) = true then (do rule "str.__add__.right-empty"; ret (.str x t)) else
    retStr (x ++ y)) _ _ s
  have hx' : (x.length == 0) = false := by simpa using hx
  have hy' : (y.length == 0) = false := by simpa using hy
  rw [hx', hy']
  simp only [Bool.and_false, Bool.false_eq_true, if_false]
  exact wpAny_bind (wpAny_mkStr (wpAny_pure ⟨_, rfl, h⟩) (by rw [strLen_append, sizeLine_eq]; exact hsz))
end
end Mine

open PySem PySem.W PySem.Calls PyProof.Rows PyProof.V PySem.Spec
set_option Elab.async false
set_option maxRecDepth 100000
set_option linter.unusedVariables false
namespace Mine
/-- a text that is not empty and short -/
def Sm (x : Str) : Prop := x.length ≠ 0 ∧ x.length ≤ 10
def SmC (x : Str) : Prop := x.length ≠ 0 ∧ x.length ≤ 100
theorem sm_one (a : Nat) : Sm ⟨#[a]⟩ := ⟨Nat.one_ne_zero, by show (1 : Nat) ≤ 10; omega⟩
theorem sm_two (a b : Nat) : Sm (two a b) := ⟨by show (2 : Nat) ≠ 0; omega, by show (2 : Nat) ≤ 10; omega⟩
theorem sm_0 : Sm (Str.ofString "0") := by unfold Sm; decide +kernel
theorem sm_1 : Sm (Str.ofString "1") := by unfold Sm; decide +kernel
theorem sm_b : Sm (Str.ofString "|") := by unfold Sm; decide +kernel
theorem smc_one {x : Str} (h : Sm x) : SmC x := ⟨h.1, by have := h.2; omega⟩
theorem smc_app {x y : Str} (hx : Sm x) (hy : Sm y) : SmC (x ++ y) := by
  obtain ⟨h1, h2⟩ := hx
  obtain ⟨h3, h4⟩ := hy
  unfold SmC
  rw [PySem.Str.length_append]
  omega
theorem smc_app3 {x y z : Str} (hx : Sm x) (hy : Sm y) (hz : Sm z) : SmC (x ++ y ++ z) := by
  obtain ⟨h1, h2⟩ := hx
  obtain ⟨h3, h4⟩ := hy
  obtain ⟨h5, h6⟩ := hz
  unfold SmC
  rw [PySem.Str.length_append, PySem.Str.length_append]
  omega
section
variable {prog : Program} {w : World} {A : Around} {E : Value → Shared → Prop} {s : Shared} {env : Env} {h₀ : Heap} {body : List Stmt}
theorem sdict_at {h : Heap} {d : Addr} {es : List Ent} {ep : Nat} (hd : h.get? d = some (sdict w es ep)) (hn : (es.map (·.1)).Nodup) : h.DictAt (strKind prog w) d (kvsOf es) ep :=
  ⟨_, _, hd, ⟨rfl, rfl, rfl⟩, rfl, sdict_keys, by simpa using sdict_pairs es, by simpa [kvsOf, List.map_map, Function.comp_def] using hn⟩
theorem add_sm {x y : Str} {t u : Tok} {Q : Value → Shared → Prop} (hx : SmC x) (hy : SmC y) (h : Q (.str (x ++ y) s.toks) { s with toks := s.toks + 1 }) :
    wpAny (model prog w) A (binaryOp .Add (.str x t) (.str y u)) Q E s := add_strT hx.1 hy.1 (by have := hx.2; have := hy.2; omega) h
/-- the next key of a dict by texts, with its token -/
theorem next_key {it d : Addr} {i ep : Nat} {es : List Ent} {p : Ent} {Q : Option Value → Shared → Prop} (hit : s.heap.IsKeyIter it d i es.length ep)
    (hd : s.heap.get? d = some (sdict w es ep)) (hx : es[i]? = some p)
    (hQ : ∀ h', h'.IsKeyIter it d (i + 1) es.length ep → Heap.SameBut it s.heap h' → Q (some (.str p.1 p.2.1)) { s with heap := h' }) :
    wpAny (model prog w) A (pyNext (.ref it)) Q E s := by
  obtain ⟨o, ho, hc, hf⟩ := id hit
  have hlt : i < es.length := by
    rcases Nat.lt_or_ge i es.length with h | h
    · exact h
    · rw [List.getElem?_eq_none h] at hx; cases hx
  have hT := hit.typeIs
  have hsz : ((es.map (ent w)).toArray).size = es.length := by rw [List.size_toArray, List.length_map]
  have hget : ((es.map (ent w)).toArray)[i]? = some (ent w p) := by simp [hx]
  unfold pyNext
  refine wpAny_bind (wpAny_attempt (wpAny_callSpecial?_slot (name := Str.ofString "__next__") hT F.slot_dict_keyiterator_next
    (wpAny_call_entry F.slot_dict_keyiterator_next hT F.entry_dict_keyiterator_next ?_ (F.args_dict_keyiterator_next_1 _))))
  refine wpAny_bind (wpAny_pure (wpAny_bind (wpAny_bind ?_)))
  first | refine wpAny_bind (wpAny_typeNameOfWhole_keyiter hT (wpAny_pure ?_)) | refine wpAny_bind (wpAny_typeNameOf_keyiter hT (wpAny_pure ?_))
  refine wpAny_bind (wpAny_fieldsOf ho hf ?_)
  simp only [show Builtin.Dict_items.ownsTuple "dict_keyiterator" = false by decide, Bool.false_eq_true, if_false]
  show wpAny _ _ (if (Value.ref d == Value.none) = true then _ else _) _ _ _
  rw [if_neg (show ¬ ((Value.ref d == Value.none) = true) from Bool.false_ne_true)]
  refine wpAny_bind (wpAny_pure (wpAny_bind (wpAny_dictEntries hd rfl ?_)))
  rw [if_neg (by rw [hsz]; simp)]
  refine wpAny_bind (wpAny_pure (wpAny_bind (wpAny_dictEpoch hd rfl ?_)))
  rw [if_neg (by simp)]
  refine wpAny_pure ?_
  simp only [show ¬ ((i : Int) < 0) from by omega, if_false, Int.toNat_natCast, hget]
  refine wpAny_bind ?_
  first | refine wpAny_bind (wpAny_typeNameOfWhole_keyiter hT (wpAny_pure ?_)) | refine wpAny_bind (wpAny_typeNameOf_keyiter hT (wpAny_pure ?_))
  refine wpAny_bind (wpAny_isOneOf_keyiter hT ?_)
  show wpAny _ _ (setField (.ref it) 1 (rawInt ((i : Int) + 1)) >>= _) _ _ _
  refine wpAny_bind (wpAny_setField ho hf (by simp) ?_)
  have nit : (s.heap.update it (Obj.mapFields (·.setIfInBounds 1 (rawInt ((i : Int) + 1))))).IsKeyIter it d (i + 1) es.length ep :=
    ⟨_, Heap.get?_update_self _ ho (Obj.isFreed_of_fields (Obj.data_mapFields hf _)), (Obj.cls_mapFields ..).trans hc, by rw [Obj.data_mapFields hf]; simp [rawInt]⟩
  refine wpAny_bind (wpAny_holding (wpAny_bind (wpAny_isOneOf_keyiter (s := { s with heap := s.heap.update it (Obj.mapFields (·.setIfInBounds 1 (rawInt ((i : Int) + 1)))) }) nit.typeIs ?_)))
  show wpAny _ _ (pure (Value.str p.1 p.2.1)) _ _ _
  exact wpAny_pure (wpAny_pure ⟨_, rfl, wpAny_pure (hQ _ nit (Heap.SameBut.update ..))⟩)

theorem walks_keys (hh : A.handled = none) (I d : Addr) (hne : d ≠ I) (es : List Ent) (ep : Nat) (hn : (es.map (·.1)).Nodup) :
    Walks prog w A I [I, d] [I] es.length (fun i v => ∃ p, es[i]? = some p ∧ v = .str p.1 p.2.1) (fun i h => h.IsKeyIter I d i es.length ep ∧ h.get? d = some (sdict w es ep)) where
  sub := fun b hb => by simp at hb; simp [hb]
  frame := fun _ _ _ st hk => ⟨st.1.at fun o e => hk I (by simp) o e, hk d (by simp) _ st.2⟩
  item := fun i s Q E hi st hQ => by
    have hx : es[i]? = some es[i] := by simp [hi]
    refine next_key st.1 st.2 hx fun h' a b => ?_
    exact hQ _ h' s.toks ⟨_, hx, rfl⟩ ⟨a, b.extBut d _ hne st.2⟩ fun b' o hb e => b.extBut b' o (fun h => hb (by simp [h])) e
  done := fun s Q E st hQ => by
    have hlen : es.length = (kvsOf es).length := by simp [kvsOf]
    refine wpAny_pyNext_dict_end (knd := strKind prog w) (kvs := kvsOf es) hh (by rw [← hlen]; exact st.1) (sdict_at st.2 hn) (by simp [kvsOf]) fun h' he' => hQ h' s.toks fun b o hb e => he' b o (fun h => hb (by simp [h])) e
  self := fun _ _ _ _ st hQ => wpAny_pyIter_keyiter st.1 hQ

variable {Q : Flow → Shared → Prop}
/-- for k in a dict by texts that the ledger keeps -/
theorem own_keys {x : Str} {px : Pos} {d : Addr} {es : List Ent} {ep : Nat} {m : Loc} {news : Led}
    (hh : A.handled = none) (F : Fr h₀ env.locals s.heap m) (N : News h₀ env.locals s.heap news) (hn : (es.map (·.1)).Nodup) (lo : (d == sysModules) = false)
    (hx : env.kindOf x = some .local) (hp : (env.scope.kind == .class || (env.scope.kind == .module && env.locals != env.globals)) = false)
    (J : Nat → Loc → Led → Nat → Prop) (hJm : ∀ i m nx t t', t ≤ t' → J i m nx t → J i m nx t') (hk : ∀ i m nx t, J i m nx t → (d, sdict w es ep) ∈ nx) (h0 : J 0 m news s.toks)
    (turn : ∀ i p m₁ nx h₁ tk₁ I oI, es[i]? = some p → s.toks ≤ tk₁ → J i m₁ nx tk₁ → (∀ p ∈ nx, p.1 ≠ I) → Fr h₀ env.locals h₁ (fun y => if y = x then some (.str p.1 p.2.1) else m₁ y) → News h₀ env.locals h₁ ((I, oI) :: nx) →
      wpAny (model prog w) A (execs body env) (TurnPost h₀ env.locals I oI (J (i + 1)) s Q) E { s with heap := h₁, toks := tk₁ })
    (done : ∀ h' tk m' nx, s.toks ≤ tk → Fr h₀ env.locals h' m' → News h₀ env.locals h' nx → J es.length m' nx tk → Q .next { s with heap := h', toks := tk })
    (hE : PassesOwn (model prog w) A env E) :
    wpAny (model prog w) A (pyIter (.ref d)) (fun it s₂ => OwnAt prog w A env (.Name x px) body Q E it s₂) E s := by
  have hax := N _ (hk _ _ _ _ h0)
  have hlen : es.length = (kvsOf es).length := by simp [kvsOf]
  have hne : d ≠ s.heap.objs.size := Nat.ne_of_lt (Heap.lt_size hax.1)
  refine wpAny_pyIter_dict (knd := strKind prog w) lo (sdict_at hax.1 hn) ?_
  rw [← hlen]
  have W := walks_keys (prog := prog) (w := w) hh s.heap.objs.size d hne es ep hn
  refine own_walks (s := { s with heap := s.heap.push _ }) W [(d, sdict w es ep)] ?_ (next_is_new F)
    (fun b hb => ?_) (fun i h st => let ⟨o, ho, _⟩ := st.1; ⟨o, ho⟩) (fun p hp => Nat.ne_of_lt (news_lt N p hp)) ?_ (F.push _) (news_push N _) hx hp J hJm (fun i m nx t hJ p hp => by rw [List.mem_singleton.mp hp]; exact hk i m nx t hJ) h0 ?_ done hE
  · intro hm
    rcases List.mem_cons.mp hm with e | hm
    · exact ne_fresh F e
    · exact hax.2.1 (List.mem_singleton.mp hm).symm
  · rcases List.mem_cons.mp hb with e | hm
    · exact .inl e
    · exact .inr (.inr ⟨_, by rw [List.mem_singleton.mp hm]; exact List.mem_singleton.mpr rfl⟩)
  · exact ⟨⟨_, Heap.get?_push_size _ rfl, rfl, rfl⟩, Heap.get?_push_of_some _ hax.1⟩
  · rintro i v m₁ nx h₁ tk₁ oI hi ⟨p, hp, rfl⟩ htk hJ hoff F₁ N₁
    exact turn i p m₁ nx h₁ tk₁ _ oI hp htk hJ hoff F₁ N₁
end
end Mine

open PySem PySem.W PySem.Calls PyProof.Rows PyProof.V PySem.Spec
set_option Elab.async false
set_option maxRecDepth 100000
set_option linter.unusedVariables false
namespace Mine
def WhilePost (h₀ : Heap) (L : Addr) (J : Nat → Loc → Led → Nat → Prop) (s : Shared) (Q : Flow → Shared → Prop) (n : Nat) (f : Flow) (s₂ : Shared) : Prop :=
  match f with
  | .ret v => Q (.ret v) s₂
  | .brk => Q .next s₂
  | _ => ∃ k h' tk m' nx, k < n ∧ s₂ = { s with heap := h', toks := tk } ∧ Fr h₀ L h' m' ∧ News h₀ L h' nx ∧ J k m' nx tk
theorem WhilePost.next {h₀ : Heap} {L : Addr} {J : Nat → Loc → Led → Nat → Prop} {s : Shared} {Q : Flow → Shared → Prop} {n : Nat} {h' : Heap} {tk : Nat} {m' : Loc} {all : Led} (k : Nat) (nx : Led) (hk : k < n) (F : Fr h₀ L h' m') (N : News h₀ L h' all)
    (hs : ∀ p ∈ nx, p ∈ all) (hJ : J k m' nx tk) : WhilePost h₀ L J s Q n .next { s with heap := h', toks := tk } :=
  ⟨k, h', tk, m', nx, hk, rfl, F, news_sub N hs, hJ⟩
section
variable {prog : Program} {w : World} {A : Around} {E : Value → Shared → Prop} {s : Shared} {env : Env} {h₀ : Heap} {body : List Stmt} {Q : Flow → Shared → Prop}
theorem While_own {test : Expr} {pos : Pos} {m : Loc} {news : Led} (J : Nat → Loc → Led → Nat → Prop) {n₀ : Nat} (F : Fr h₀ env.locals s.heap m) (N : News h₀ env.locals s.heap news) (h0 : J n₀ m news s.toks)
    (turn : ∀ n m₁ nx h₁ tk₁, Fr h₀ env.locals h₁ m₁ → News h₀ env.locals h₁ nx → J n m₁ nx tk₁ →
      wpAny (model prog w) A (isTrue test env (eval test env)) (fun b s₂ => if b = true then wpAny (model prog w) A (execs body env) (WhilePost h₀ env.locals J s Q n) E s₂ else Q .next s₂) E { s with heap := h₁, toks := tk₁ })
    (hE : PassesOwn (model prog w) A env E) : wpAny (model prog w) A (exec (.While test body [] pos) env) Q E s := by
  refine wpAny_While (codeAny_whileLoop (fun n s' => ∃ h' tk m' nx, s' = { s with heap := h', toks := tk } ∧ Fr h₀ env.locals h' m' ∧ News h₀ env.locals h' nx ∧ J n m' nx tk) ?_ n₀ ⟨s.heap, s.toks, m, news, rfl, F, N, h0⟩)
  rintro n s' ⟨h', tk, m', nx, rfl, F', N', hJ⟩
  refine wpAny_mono (turn n m' nx h' tk F' N' hJ) (fun b s₂ hb => ?_) hE
  cases b with
  | false => exact wpAny_execs_nil hb
  | true =>
    refine wpAny_passesOwn hE (wpAny_mono hb (fun f s₃ hf => ?_) fun _ _ e => e)
    cases f with
    | ret v => exact hf
    | brk => exact hf
    | next =>
      obtain ⟨k, h3, tk3, m3, nx3, hk, e, F3, N3, hJ3⟩ := hf
      exact ⟨k, hk, h3, tk3, m3, nx3, e, F3, N3, hJ3⟩
    | cont =>
      obtain ⟨k, h3, tk3, m3, nx3, hk, e, F3, N3, hJ3⟩ := hf
      exact ⟨k, hk, h3, tk3, m3, nx3, e, F3, N3, hJ3⟩
end
end Mine

open PySem PySem.W PySem.Calls PyProof.Rows PyProof.V PySem.Spec
set_option Elab.async false
set_option linter.unusedVariables false
namespace Mine
theorem slice_upto {vs : List Value} {h : Nat} (hh : h ≤ vs.length) : slicePick vs.toArray none (some (h : Int)) none = (vs.take h).toArray := by
  rw [kmk_pick_nat (a := 0) (b := h)]
  · simp
  · unfold sliceBounds
    simp
    omega
theorem slice_from {vs : List Value} {h : Nat} (hh : h ≤ vs.length) : slicePick vs.toArray (some (h : Int)) none none = (vs.drop h).toArray := by
  rw [kmk_pick_nat (a := h) (b := vs.length)]
  · rw [List.take_of_length_le (by simp)]
  · unfold sliceBounds
    simp
    omega
end Mine

open PySem PySem.W PySem.Calls PyProof.Rows PyProof.V PySem.Spec
set_option Elab.async false
set_option maxRecDepth 100000
set_option maxHeartbeats 8000000
set_option linter.unusedVariables false
namespace Mine
def fnBody : Stmt → List Stmt
  | .FunctionDef _ _ b _ _ _ _ _ _ _ => b
  | _ => []
def fnScope : Stmt → Scope
  | .FunctionDef _ _ _ _ _ _ sc _ _ _ => sc
  | _ => default
def forBody : Stmt → List Stmt
  | .For _ _ b _ _ => b
  | .While _ b _ _ => b
  | _ => []
def bodyAt (i : Nat) : Stmt := PySem.Challenge.pw_kn0103_02.main.body.getD i (.Pass default)
def lawDef : Stmt := bodyAt 6
def rulesDef : Stmt := bodyAt 3
def entriesDef : Stmt := bodyAt 4
def shownDef : Stmt := bodyAt 5
abbrev lawEnv (L fa : Addr) (cd : Value) : Env := envOf (Str.ofString "law") (fnScope lawDef) L fa cd
abbrev P02 : Program := PySem.Challenge.rw_kn0103_02.row.prog

structure Given (w : World) (h₀ : Heap) (mg mb : Str → Option Value) (mean : ExcName → Option Value) (l : Addr) (vs : List Value) (ns : List Int) : Prop where
  KX : (hd2.heap_39 w.params).In h₀
  T : Top hd2.view_39 (looseW hd2.view_39 []) mean mg mb h₀
  K0 : Below callerA h₀ [] h₀
  hL : h₀.IsList l vs.toArray
  hI : IntsAre vs ns
  lay : (PyData.list (ns.map PyData.int)).layable0 = true
  len : ns.length ≤ 63
end Mine

open PySem PySem.W PySem.Calls PyProof.Rows PyProof.V PySem.Spec
set_option Elab.async false
set_option maxRecDepth 100000
set_option maxHeartbeats 8000000
set_option linter.unusedVariables false
namespace Mine
local macro_rules | `(tactic| walk_at "lit") => `(tactic| dsimp only [bodyAt, lawDef, forBody, fnBody, fnScope, PySem.Challenge.pw_kn0103_02, List.getD, List.getElem?_cons_succ, List.getElem?_cons_zero, Option.getD, List.drop])
local macro_rules | `(tactic| walk_at "ks1") => `(tactic| (first | (k_unfold; (try dsimp only)) | (k_end; wrow_close) | walk1 | (dsimp only; walk1) | (leave1; walk_say "STEP leave1"; try dsimp only) | fail "no step"))
local macro_rules | `(tactic| walk_at "ks") => `(tactic| repeat' ((fail_if_success (with_reducible show wpAny _ _ (exec (Stmt.For _ _ _ _ _) _) _ _ _)); (fail_if_success (with_reducible show wpAny _ _ (pyIter _) (fun it s₂ => OwnAt _ _ _ _ _ _ _ _ it s₂) _ _)); (fail_if_success (with_reducible show wpAny _ _ (eval (PySem.Expr.Dict [] [] _) _) _ _ _)); (fail_if_success (with_reducible show TurnPost _ _ _ _ _ _ _ _ _)); walk_at "ks1"))
local macro_rules | `(tactic| walk_at "kst") => `(tactic| repeat' ((fail_if_success (with_reducible show TB _ _ → _)); walk_at "ks1"))
local macro_rules | `(tactic| walk_at "execs cons") => `(tactic| (k_here; (rename TB _ _ => hTBo); refine execs_tb (TB.mono hTBo (Nat.le_refl _) (by (try dsimp only); omega)) ?_; clear hTBo; intro tk hTB; (try dsimp only)))
theorem fill : PySem.Challenge.rw_kn0103_02 = PySem.Challenge.rw_kn0103_02 ∧ hd2.heap_39 = hd2.heap_39 := by
  w_top off
  k_fill
  exact ⟨rfl, rfl⟩

def Jcells (l : Addr) (D : Addr) (i : Nat) (m : Loc) (nx : Led) (tk : Nat) : Prop :=
  ∃ cv c n, IntsAre cv c ∧ c.length = 6 ∧ Has m [(Str.ofString "cells", .ref D), (Str.ofString "script", .ref l)] ∧ nx = [(D, PySem.W.listOf cv.toArray n)]
theorem law_a {w : World} {h₀ : Heap} {mg mb : Str → Option Value} {mean : ExcName → Option Value} {l : Addr} {vs : List Value} {ns : List Int} (G : Given w h₀ mg mb mean l vs ns)
   {L fa : Addr} {cd : Value} {s : Shared} {Q : Flow → Shared → Prop} (hs : TB 1 s.toks)
   (F : Fr h₀ L s.heap (fun x => [(Str.ofString "script", Value.ref l)].reverse.lookup x)) (N : News h₀ L s.heap [])
   (next : ∀ h tk m' D cv c n, IntsAre cv c → c.length = 6 → Fr h₀ L h m' → Has m' [(Str.ofString "cells", .ref D), (Str.ofString "script", .ref l)] → News h₀ L h [(D, PySem.W.listOf cv.toArray n)] → TB 1 tk →
      wpAny (model P02 w) (callerA.deeper (lawEnv L fa cd)) (execs ((fnBody lawDef).drop 2) (lawEnv L fa cd)) Q (fun _ _ => False) { s with heap := h, toks := tk }) :
   wpAny (model P02 w) (callerA.deeper (lawEnv L fa cd)) (execs (fnBody lawDef) (lawEnv L fa cd)) Q (fun _ _ => False) s := by
  obtain ⟨heap, gens, drawn, toks, os⟩ := s
  dsimp only at hs F N next ⊢
  obtain ⟨KX, T, K0, hL, hI, lay, len⟩ := G
  revert next
  unfold lawEnv
  walk_at "lit"
  intro next
  walk_at "ks"
  k_fold
  refine For_own ?_
  (with_reducible rename TB 1 _ => hTB0)
  refine with_tb (TB.mono hTB0 (Nat.le_refl _) (by (try dsimp only); omega)) ?_
  walk_at "kst"
  intro hTB1
  walk_at "ks"
  (rename (IsRange _ _ _ _ _ _ _ _) => hR)
  (rename Fr _ _ _ _ => F1)
  (rename News _ _ _ _ => N1)
  refine own_rangeD rfl hR (small_one (by omega) (by omega) (by omega) (by omega)) F1 N1 rfl rfl (Jcells l) (fun _ _ _ _ _ _ h => h) ?_ ?_ ?_ PassesOwn.never
  · exact ⟨_, [5, 7, 3, 0, 192, 851], 0, .cons _ _ (.cons _ _ (.cons _ _ (.cons _ _ (.cons _ _ (.cons _ _ .nil))))), rfl, ⟨rfl, rfl, trivial⟩, rfl⟩
  · rintro i t m₁ nx h₁ tk₁ I oI hi htk ⟨cv, c, n, hcv, hc, hm1, rfl⟩ hoff F₁ N₁
    rw [hm1.eq, Int.zero_add] at F₁
    have hTB2 : TB 1 tk₁ := TB.mono hTB1 (Nat.le_refl _) (by dsimp only at htk ⊢; omega)
    change Fr h₀ L h₁ _ at F₁
    change News h₀ L h₁ _ at N₁
    clear F1 N1 hTB1
    walk_at "ks"
    dsimp only
    have hfm : (i : Int).fmod 6 = ((i % 6 : Nat) : Int) := by rw [Int.fmod_eq_emod_of_nonneg _ (by decide)]; rfl
    have hcl : cv.length = 6 := by rw [ints_len hcv]; exact hc
    rw [hfm]
    refine r_setItem (vs := cv) (i % 6) (by omega) (by omega) F₁ N₁ (upd_mid [_] (nd_cons (List.nodup_cons.mpr ⟨by simp, List.nodup_nil⟩) hoff)) ?_
    intro h3 F3 N3
    walk_at "ks"
    refine TurnPost.next _ F3 N3 (fun q hq => .tail _ hq) (.head _) ?_ ⟨_, _, n, ints_set hcv (i % 6) _ _, by rw [List.length_set]; exact hc, ⟨rfl, rfl, trivial⟩, rfl⟩
    intro q hq
    rw [List.mem_singleton.mp hq]
    exact (List.forall_mem_cons.mp hoff).1
  · rintro h' tk' m' nx htk F' N' ⟨cv, c, n, hcv, hc, hm1, rfl⟩
    k_unfold
    dsimp only
    intro hTB2
    exact next _ _ _ _ _ _ _ hcv hc F' hm1 N' hTB2
end Mine

open PySem PySem.W PySem.Calls PyProof.Rows PyProof.V PySem.Spec
set_option Elab.async false
set_option maxRecDepth 100000
set_option maxHeartbeats 8000000
set_option linter.unusedVariables false
namespace Mine
local macro_rules | `(tactic| walk_at "lit") => `(tactic| dsimp only [bodyAt, lawDef, forBody, fnBody, fnScope, PySem.Challenge.pw_kn0103_02, List.getD, List.getElem?_cons_succ, List.getElem?_cons_zero, Option.getD, List.drop])
local macro_rules | `(tactic| walk_at "ks1") => `(tactic| (first | (k_unfold; (try dsimp only)) | (k_end; wrow_close) | walk1 | (dsimp only; walk1) | (leave1; walk_say "STEP leave1"; try dsimp only) | fail "no step"))
local macro_rules | `(tactic| walk_at "ks") => `(tactic| repeat' ((fail_if_success (with_reducible show wpAny _ _ (exec (Stmt.For _ _ _ _ _) _) _ _ _)); (fail_if_success (with_reducible show wpAny _ _ (pyIter _) (fun it s₂ => OwnAt _ _ _ _ _ _ _ _ it s₂) _ _)); (fail_if_success (with_reducible show wpAny _ _ (eval (PySem.Expr.Dict [] [] _) _) _ _ _)); (fail_if_success (with_reducible show TurnPost _ _ _ _ _ _ _ _ _)); walk_at "ks1"))
local macro_rules | `(tactic| walk_at "kst") => `(tactic| repeat' ((fail_if_success (with_reducible show TB _ _ → _)); walk_at "ks1"))
local macro_rules | `(tactic| walk_at "execs cons") => `(tactic| (k_here; (rename TB _ _ => hTBo); refine execs_tb (TB.mono hTBo (Nat.le_refl _) (by (try dsimp only); omega)) ?_; clear hTBo; intro tk hTB; (try dsimp only)))
local macro_rules | `(tactic| walk_at "sub") => `(tactic| first | exact List.forall_mem_nil _ | (refine List.forall_mem_cons.mpr ⟨by k_mem, ?_⟩; walk_at "sub") | (intro p hp; repeat' (first | exact hp | refine List.mem_cons_of_mem _ ?_)))
local macro_rules | `(tactic| walk_at "execs nil") => `(tactic| (refine wpAny_execs_nil ?_; (try dsimp only)))
theorem fill2 : PySem.Challenge.rw_kn0103_02 = PySem.Challenge.rw_kn0103_02 ∧ hd2.heap_39 = hd2.heap_39 := by
  w_top off
  k_fill
  exact ⟨rfl, rfl⟩
/-- a rule: its sign, what it writes, left or not, the state from then on; with the tokens and the tuple's address -/
structure RL where
  s : Nat
  c : Nat
  tok : Tok
  adr : Addr
  l : Nat
  lt : Tok
  left : Int
  it : Tok
  n : Nat
  nt : Tok
def RL.key (r : RL) : Str := two r.s r.c
def RL.obj (r : RL) : Obj := { cls := .type "tuple", data := .seq #[.str ⟨#[r.l]⟩ r.lt, .int r.left r.it, .str ⟨#[r.n]⟩ r.nt] }
def RL.ent (r : RL) : Ent := (r.key, r.tok, .ref r.adr)
def rDict (w : World) (rl : List RL) (n : Nat) : Obj := sdict w (rl.map RL.ent) n
def rTups (rl : List RL) : Led := rl.map fun r => (r.adr, r.obj)
structure RL.Ok (r : RL) (tk : Nat) : Prop where
  hs : r.s = 80 ∨ r.s = 81
  hc : r.c = 48 ∨ r.c = 49
  hl : r.l = 48 ∨ r.l = 49
  hf : r.left = 0 ∨ r.left = 1
  hn : r.n = 80 ∨ r.n = 81
  h0 : 0 < r.tok
  ht : r.tok < tk
def sgn4 (i : Nat) : Str := two (80 + i / 2) (48 + i % 2)
def signs4 : List Str := (List.range 4).map sgn4
theorem signs4_take {i : Nat} (hi : i < 4) : signs4.take (i + 1) = signs4.take i ++ [sgn4 i] ∧ sgn4 i ∉ signs4.take i := by
  match i, hi with
  | 0, _ | 1, _ | 2, _ | 3, _ => exact ⟨rfl, by decide +kernel⟩
theorem four_get {t : Nat} {i : Nat} (hi : i < 4) : ([.str (Str.ofString "P0") t, .str (Str.ofString "P1") (t + 1), .str (Str.ofString "Q0") (t + 1 + 1), .str (Str.ofString "Q1") (t + 1 + 1 + 1)] : List Value)[i]? = some (.str (sgn4 i) (t + i)) := by
  have e0 : Str.ofString "P0" = sgn4 0 := by decide +kernel
  have e1 : Str.ofString "P1" = sgn4 1 := by decide +kernel
  have e2 : Str.ofString "Q0" = sgn4 2 := by decide +kernel
  have e3 : Str.ofString "Q1" = sgn4 3 := by decide +kernel
  rw [e0, e1, e2, e3]
  match i, hi with
  | 0, _ | 1, _ | 2, _ | 3, _ => rfl
theorem mod_two (x : Int) : x.fmod 2 = 0 ∨ x.fmod 2 = 1 := by
  rw [Int.fmod_eq_emod_of_nonneg _ (by decide)]; omega
theorem item01 (x : Int) : Txt.item (Str.ofString "01") (x.fmod 2) = ⟨#[48 + (x.fmod 2).toNat]⟩ := by
  rcases mod_two x with h | h <;> rw [h] <;> decide +kernel
theorem itemPQ (x : Int) : Txt.item (Str.ofString "PQ") (x.fmod 2) = ⟨#[80 + (x.fmod 2).toNat]⟩ := by
  rcases mod_two x with h | h <;> rw [h] <;> decide +kernel
theorem RL.Ok.mono {r : RL} {t t' : Nat} (h : r.Ok t) (ht : t ≤ t') : r.Ok t' := ⟨h.hs, h.hc, h.hl, h.hf, h.hn, h.h0, Nat.lt_of_lt_of_le h.ht ht⟩
theorem rl_keys (rl : List RL) : (rl.map RL.ent).map (·.1) = rl.map RL.key := by rw [List.map_map]; rfl
def Jrules (w : World) (D : Addr) (cv : List Value) (n : Nat) (R : Addr) (i : Nat) (m : Loc) (nx : Led) (tk : Nat) : Prop :=
  ∃ rl nR, (∀ r ∈ rl, RL.Ok r tk) ∧ (rl.map RL.key).Sublist (signs4.take i) ∧ Has m [(Str.ofString "cells", .ref D), (Str.ofString "rules", .ref R)] ∧
    nx = (R, rDict w rl nR) :: (D, PySem.W.listOf cv.toArray n) :: rTups rl ∧ (nx.map (·.1)).Nodup
abbrev rulesEnv (L fa : Addr) (cd : Value) : Env := envOf (Str.ofString "_law_rules") (fnScope rulesDef) L fa cd
def rulesLoop : List Stmt := forBody ((fnBody rulesDef).getD 1 (.Pass default))
local macro_rules | `(tactic| walk_at "lit2") => `(tactic| dsimp only [rulesLoop, rulesDef, bodyAt, lawDef, forBody, fnBody, fnScope, PySem.Challenge.pw_kn0103_02, List.getD, List.getElem?_cons_succ, List.getElem?_cons_zero, Option.getD, List.drop])
theorem rules_fin {w : World} {g h : Heap} {L I R D Dt : Addr} {oI : Obj} {i n nR : Nat} {t t1 t2 t3 : Tok} {x y z : Int} {cv : List Value} {rl : List RL} {s : Shared} {P : Flow → Shared → Prop} {m' : Loc} {tk tk0 : Nat}
   (hi : i < 4) (h0 : 0 < t) (htk : t < tk) (hle : tk0 ≤ tk) (hrl : ∀ r ∈ rl, RL.Ok r tk0) (hsub : (rl.map RL.key).Sublist (signs4.take i)) (hnd : (((I, oI) :: (R, rDict w rl nR) :: (D, PySem.W.listOf cv.toArray n) :: rTups rl).map (·.1)).Nodup)
   (hlt : I < Dt ∧ R < Dt ∧ D < Dt ∧ AllLt Dt (rTups rl)) (F : Fr g L h m') (hm : Has m' [(Str.ofString "cells", .ref D), (Str.ofString "rules", .ref R)])
   (N : News g L h ((Dt, { cls := .type "tuple", data := .seq #[.str (Txt.item (Str.ofString "01") (x.fmod 2)) t1, .int (y.fmod 2) t2, .str (Txt.item (Str.ofString "PQ") (z.fmod 2)) t3] }) :: (I, oI) :: (R, sdict w (rl.map RL.ent ++ [(sgn4 i, t, .ref Dt)]) (nR + 1)) :: (D, PySem.W.listOf cv.toArray n) :: rTups rl)) :
   TurnPost g L I oI (Jrules w D cv n R (i + 1)) s P .next { s with heap := h, toks := tk } := by
  rw [item01, itemPQ] at N
  let r : RL := ⟨80 + i / 2, 48 + i % 2, t, Dt, 48 + (x.fmod 2).toNat, t1, y.fmod 2, t2, 80 + (z.fmod 2).toNat, t3⟩
  have hall := nd_new (o := r.obj) hnd (allLt_all hlt)
  have hnd2 := nd_rot hall
  have e1 : rTups (rl ++ [r]) = rTups rl ++ [(Dt, r.obj)] := by unfold rTups; rw [List.map_append]; rfl
  have e2 : rDict w (rl ++ [r]) (nR + 1) = sdict w (rl.map RL.ent ++ [(sgn4 i, t, .ref Dt)]) (nR + 1) := by unfold rDict; rw [List.map_append]; rfl
  have N' : News g L h ((I, oI) :: (R, rDict w (rl ++ [r]) (nR + 1)) :: (D, PySem.W.listOf cv.toArray n) :: rTups (rl ++ [r])) := by
    rw [e1, e2]
    refine news_sub N fun p hp => ?_
    rcases List.mem_cons.mp hp with rfl | hp
    · exact .tail _ (.head _)
    rcases List.mem_cons.mp hp with rfl | hp
    · exact .tail _ (.tail _ (.head _))
    rcases List.mem_cons.mp hp with rfl | hp
    · exact .tail _ (.tail _ (.tail _ (.head _)))
    rcases List.mem_append.mp hp with hp | hp
    · exact .tail _ (.tail _ (.tail _ (.tail _ hp)))
    · rw [List.mem_singleton.mp hp]; exact .head _
  have hnd3 : (((I, oI) :: (R, rDict w (rl ++ [r]) (nR + 1)) :: (D, PySem.W.listOf cv.toArray n) :: rTups (rl ++ [r])).map (·.1)).Nodup := by
    rw [e1]
    exact ((List.perm_append_singleton (Dt, r.obj) ((I, oI) :: (R, rDict w (rl ++ [r]) (nR + 1)) :: (D, PySem.W.listOf cv.toArray n) :: rTups rl)).map (·.1)).nodup_iff.mpr hall
  refine TurnPost.next _ F N' (fun q hq => .tail _ hq) (.head _) (nd_off hnd3) ⟨rl ++ [r], nR + 1, ?_, ?_, hm, rfl, nd_tail hnd3⟩
  · intro q hq
    rcases List.mem_append.mp hq with hq | hq
    · exact (hrl q hq).mono hle
    · rw [List.mem_singleton.mp hq]
      refine ⟨?_, ?_, ?_, mod_two y, ?_, h0, htk⟩
      · show 80 + i / 2 = 80 ∨ 80 + i / 2 = 81; omega
      · show 48 + i % 2 = 48 ∨ 48 + i % 2 = 49; omega
      · show 48 + (x.fmod 2).toNat = 48 ∨ 48 + (x.fmod 2).toNat = 49
        rcases mod_two x with e | e <;> rw [e] <;> simp
      · show 80 + (z.fmod 2).toNat = 80 ∨ 80 + (z.fmod 2).toNat = 81
        rcases mod_two z with e | e <;> rw [e] <;> simp
  · rw [(signs4_take hi).1, List.map_append]
    exact hsub.append (List.Sublist.refl _)
theorem rules_t {w : World} {g base : Heap} {mg mb : Str → Option Value} {mean : ExcName → Option Value} {A₀ : Around} {e₁ : Env}
   (KX : (hd2.heap_39 w.params).In g) (T0 : Top hd2.view_39 (looseW hd2.view_39 []) mean mg mb g) (B : Below A₀ base [e₁] g)
   {L fa : Addr} {cd : Value} {s s₀ : Shared} {P : Flow → Shared → Prop} (h1 : 0 < s.toks) (hTB : TB s.toks s.toks) (hs0 : ∃ h tk, s = { s₀ with heap := h, toks := tk }) {u : Loc} {D R I : Addr} {oI : Obj} {cv : List Value} {c : List Int} (hcv : IntsAre cv c) (hc6 : c.length = 6) {n nR i : Nat} {tp : Tok} (hi : i < 4)
   {rl : List RL} (hrl : ∀ r ∈ rl, RL.Ok r s.toks) (hsub : (rl.map RL.key).Sublist (signs4.take i))
   (F : Fr g L s.heap (fun y => if y = Str.ofString "place" then some (.int (0 + (i : Int)) tp) else Set [(Str.ofString "cells", .ref D), (Str.ofString "rules", .ref R)] u y))
   (N : News g L s.heap ((I, oI) :: (R, rDict w rl nR) :: (D, PySem.W.listOf cv.toArray n) :: rTups rl)) (hnd : (((I, oI) :: (R, rDict w rl nR) :: (D, PySem.W.listOf cv.toArray n) :: rTups rl).map (·.1)).Nodup) :
   wpAny (model P02 w) ((callerA.deeper e₁).deeper (rulesEnv L fa cd)) (execs rulesLoop (rulesEnv L fa cd)) (TurnPost g L I oI (Jrules w D cv n R (i + 1)) s₀ P) (fun _ _ => False) s := by
  obtain ⟨hx, tkx, rfl⟩ := hs0
  obtain ⟨heap, gens, drawn, toks, os⟩ := s₀
  dsimp only at h1 hTB F N hrl ⊢
  obtain ⟨tc, ec⟩ := ints_at hcv (i := i) (by omega)
  generalize hcc : c[i] = cc at ec
  rw [Int.zero_add] at F
  unfold rulesEnv
  walk_at "lit2"
  walk_at "ks"
  · (rename News _ _ _ _ => N1)
    (rename Fr _ _ _ _ => F1)
    rename_i tkt hTBt kx1 kx2 Dt ht1 ltt lt ht2 llt
    refine r_item (vs := [_, _, _, _]) i (News.get N1 (by k_mem)) (four_get hi) (by simp) ?_
    walk_at "ks"
    have N2 := news_sub (b := (Dt, _) :: (I, _) :: (R, _) :: (D, _) :: rTups rl) N1 (by walk_at "sub")
    dsimp only
    refine r_setNew (es := rl.map RL.ent) (n := nR) ?_ F1 N2 (upd_mid [_, _] (nd_new hnd (allLt_all ltt))) ?_ ?_
    · rw [rl_keys]
      intro hm
      exact (signs4_take hi).2 (hsub.subset hm)
    · have := hsub.length_le
      rw [List.length_map] at this
      rw [List.length_map]
      have h4 : (signs4.take i).length ≤ 4 := List.length_take_le' ..
      omega
    intro h3 F3 N3
    walk_at "ks"
    refine rules_fin hi ?_ ?_ ?_ hrl hsub hnd ltt F3 ⟨rfl, rfl, trivial⟩ N3
    · show (_ : Nat) < _
      have := hTBt
      unfold TB at this
      omega
    · show (_ : Nat) < _
      omega
    · have := hTBt
      unfold TB at this
      show (_ : Nat) ≤ _
      omega
  · (rename TB _ _ => hTBe)
    (rename Fr _ _ _ _ => F2)
    (rename News _ _ _ _ => N2)
    refine TurnPost.next _ F2 N2 (fun q hq => .tail _ hq) (.head _) (nd_off hnd) ⟨rl, nR, ?_, ?_, ⟨rfl, rfl, trivial⟩, rfl, nd_tail hnd⟩
    · intro r hr
      exact (hrl r hr).mono hTBe
    · rw [(signs4_take hi).1]
      exact hsub.trans (List.sublist_append_left _ _)
end Mine

open PySem PySem.W PySem.Calls PyProof.Rows PyProof.V PySem.Spec
set_option Elab.async false
set_option maxRecDepth 100000
set_option maxHeartbeats 8000000
set_option linter.unusedVariables false
namespace Mine
local macro_rules | `(tactic| walk_at "lit") => `(tactic| dsimp only [bodyAt, lawDef, forBody, fnBody, fnScope, PySem.Challenge.pw_kn0103_02, List.getD, List.getElem?_cons_succ, List.getElem?_cons_zero, Option.getD, List.drop])
local macro_rules | `(tactic| walk_at "ks1") => `(tactic| (first | (k_unfold; (try dsimp only)) | (k_end; wrow_close) | walk1 | (dsimp only; walk1) | (leave1; walk_say "STEP leave1"; try dsimp only) | fail "no step"))
local macro_rules | `(tactic| walk_at "ks") => `(tactic| repeat' ((fail_if_success (with_reducible show wpAny _ _ (exec (Stmt.For _ _ _ _ _) _) _ _ _)); (fail_if_success (with_reducible show wpAny _ _ (pyIter _) (fun it s₂ => OwnAt _ _ _ _ _ _ _ _ it s₂) _ _)); (fail_if_success (with_reducible show wpAny _ _ (eval (PySem.Expr.Dict [] [] _) _) _ _ _)); (fail_if_success (with_reducible show TurnPost _ _ _ _ _ _ _ _ _)); walk_at "ks1"))
local macro_rules | `(tactic| walk_at "kst") => `(tactic| repeat' ((fail_if_success (with_reducible show TB _ _ → _)); walk_at "ks1"))
local macro_rules | `(tactic| walk_at "execs cons") => `(tactic| (k_here; (rename TB _ _ => hTBo); refine execs_tb (TB.mono hTBo (Nat.le_refl _) (by (try dsimp only); omega)) ?_; clear hTBo; intro tk hTB; (try dsimp only)))
local macro_rules | `(tactic| walk_at "sub") => `(tactic| first | exact List.forall_mem_nil _ | (refine List.forall_mem_cons.mpr ⟨by k_mem, ?_⟩; walk_at "sub") | (intro p hp; repeat' (first | exact hp | refine List.mem_cons_of_mem _ ?_)))
local macro_rules | `(tactic| walk_at "execs nil") => `(tactic| (refine wpAny_execs_nil ?_; (try dsimp only)))
theorem fill3 : PySem.Challenge.rw_kn0103_02 = PySem.Challenge.rw_kn0103_02 ∧ hd2.heap_39 = hd2.heap_39 := by
  w_top off
  k_fill
  exact ⟨rfl, rfl⟩
theorem Jrules_mono {w : World} {D R : Addr} {cv : List Value} {n : Nat} (i : Nat) (m : Loc) (nx : Led) (t t' : Nat) (h : t ≤ t') (j : Jrules w D cv n R i m nx t) : Jrules w D cv n R i m nx t' := by
  obtain ⟨rl, nR, a, b⟩ := j
  exact ⟨rl, nR, fun r hr => (a r hr).mono h, b⟩
theorem law_b {w : World} {h₀ : Heap} {mg mb : Str → Option Value} {mean : ExcName → Option Value} {l : Addr} {vs : List Value} {ns : List Int} (G : Given w h₀ mg mb mean l vs ns)
   {L fa : Addr} {cd : Value} {s : Shared} {Q : Flow → Shared → Prop} (hs : TB 1 s.toks) {m : Loc} {D : Addr} {cv : List Value} {c : List Int} {n : Nat} (hcv : IntsAre cv c) (hc6 : c.length = 6)
   (F : Fr h₀ L s.heap m) (hm : Has m [(Str.ofString "cells", .ref D), (Str.ofString "script", .ref l)]) (N : News h₀ L s.heap [(D, PySem.W.listOf cv.toArray n)])
   (next : ∀ h tk m' R rl nR, (∀ r ∈ rl, RL.Ok r tk) → (rl.map RL.key).Sublist signs4 → (R == sysModules) = false → Fr h₀ L h m' → Has m' [(Str.ofString "cells", .ref D), (Str.ofString "script", .ref l), (Str.ofString "rules", .ref R)] →
      News h₀ L h ((R, rDict w rl nR) :: (D, PySem.W.listOf cv.toArray n) :: rTups rl) → (((R, rDict w rl nR) :: (D, PySem.W.listOf cv.toArray n) :: rTups rl).map (·.1)).Nodup → TB 1 tk →
      wpAny (model P02 w) (callerA.deeper (lawEnv L fa cd)) (execs ((fnBody lawDef).drop 3) (lawEnv L fa cd)) Q (fun _ _ => False) { s with heap := h, toks := tk }) :
   wpAny (model P02 w) (callerA.deeper (lawEnv L fa cd)) (execs ((fnBody lawDef).drop 2) (lawEnv L fa cd)) Q (fun _ _ => False) s := by
  obtain ⟨heap, gens, drawn, toks, os⟩ := s
  dsimp only at hs F N next ⊢
  obtain ⟨KX, T, K0, hL, hI, lay, len⟩ := G
  rw [hm.eq] at F
  revert next
  unfold lawEnv
  walk_at "lit"
  intro next
  walk_at "ks"
  (rename Fr _ _ _ _ => F1)
  (rename News _ _ _ _ => N1)
  (rename Top _ _ _ _ _ _ => T1)
  (rename Below _ _ _ _ => B1)
  refine r_newDict F1 N1 T1.nolimit ?_
  intro R h2 F2 N2 l2 lo
  walk_at "ks"
  k_fold
  refine For_own ?_
  (with_reducible rename TB 1 _ => hTB0)
  refine with_tb (TB.mono hTB0 (Nat.le_refl _) (by (try dsimp only); omega)) ?_
  walk_at "kst"
  intro hTB1
  walk_at "ks"
  (rename (IsRange _ _ _ _ _ _ _ _) => hR)
  (rename Fr _ _ _ _ => F3)
  (rename News _ _ _ _ => N3)
  have l3 : D < R := (List.forall_mem_cons.mp l2).1
  refine own_rangeD rfl hR (small_one (by omega) (by omega) (by omega) (by omega)) F3 N3 rfl rfl (Jrules w D cv n) Jrules_mono ?_ ?_ ?_ ?_
  · refine ⟨[], 0, fun _ h => (nomatch h), List.nil_sublist _, ⟨rfl, rfl, trivial⟩, rfl, ?_⟩
    exact nd_new (o := sdict w [] 0) (l := [(D, PySem.W.listOf cv.toArray n)]) (List.nodup_cons.mpr ⟨by simp, List.nodup_nil⟩) l2
  · rintro i t m₁ nx h₁ tk₁ I oI hi htk ⟨rl, nR, hrl, hsub, hm1, rfl, hnd⟩ hoff F₁ N₁
    rw [hm1.eq] at F₁
    have hTB2 : 0 < tk₁ := by have := hTB1; unfold TB at this; dsimp only at this htk; omega
    refine wpAny_mono (rules_t (by assumption) T1 B1 hTB2 (Nat.le_refl _) ?_ hcv hc6 hi hrl hsub F₁ N₁ (nd_cons hnd hoff)) (fun _ _ h => h) (fun _ _ h => h.elim)
    exact ⟨_, _, rfl⟩
  · rintro h' tk' m' nx htk F' N' ⟨rl, nR, hrl, hsub, hm1, rfl, hnd⟩
    rw [hm1.eq] at F'
    k_unfold
    dsimp only
    intro hTB3
    have hTB5 : TB tk' tk' := Nat.le_refl _
    walk_at "kst"
    (with_reducible rename TB tk' _ => hTB6)
    intro hTB4
    (rename Fr _ _ _ _ => F5)
    (rename News _ _ _ _ => N5)
    refine next _ _ _ _ rl nR (fun r hr => (hrl r hr).mono ?_) hsub lo F5 ⟨rfl, rfl, rfl, trivial⟩ N5 hnd hTB4
    unfold TB at hTB6
    dsimp only
    omega
  · passes_own
end Mine

open PySem PySem.W PySem.Calls PyProof.Rows PyProof.V PySem.Spec
set_option Elab.async false
set_option maxRecDepth 100000
set_option maxHeartbeats 8000000
set_option linter.unusedVariables false
namespace Mine
local macro_rules | `(tactic| walk_at "lit") => `(tactic| dsimp only [bodyAt, lawDef, forBody, fnBody, fnScope, PySem.Challenge.pw_kn0103_02, List.getD, List.getElem?_cons_succ, List.getElem?_cons_zero, Option.getD, List.drop])
local macro_rules | `(tactic| walk_at "ks1") => `(tactic| (first | (k_unfold; (try dsimp only)) | (k_end; wrow_close) | walk1 | (dsimp only; walk1) | (leave1; walk_say "STEP leave1"; try dsimp only) | fail "no step"))
local macro_rules | `(tactic| walk_at "ks") => `(tactic| repeat' ((fail_if_success (with_reducible show wpAny _ _ (exec (Stmt.For _ _ _ _ _) _) _ _ _)); (fail_if_success (with_reducible show wpAny _ _ (pyIter _) (fun it s₂ => OwnAt _ _ _ _ _ _ _ _ it s₂) _ _)); (fail_if_success (with_reducible show wpAny _ _ (eval (PySem.Expr.Dict [] [] _) _) _ _ _)); (fail_if_success (with_reducible show TurnPost _ _ _ _ _ _ _ _ _)); walk_at "ks1"))
local macro_rules | `(tactic| walk_at "kst") => `(tactic| repeat' ((fail_if_success (with_reducible show TB _ _ → _)); walk_at "ks1"))
local macro_rules | `(tactic| walk_at "execs cons") => `(tactic| (k_here; (rename TB _ _ => hTBo); refine execs_tb (TB.mono hTBo (Nat.le_refl _) (by (try dsimp only); omega)) ?_; clear hTBo; intro tk hTB; (try dsimp only)))
local macro_rules | `(tactic| walk_at "sub") => `(tactic| first | exact List.forall_mem_nil _ | (refine List.forall_mem_cons.mpr ⟨by k_mem, ?_⟩; walk_at "sub") | (intro p hp; repeat' (first | exact hp | refine List.mem_cons_of_mem _ ?_)))
local macro_rules | `(tactic| walk_at "execs nil") => `(tactic| (refine wpAny_execs_nil ?_; (try dsimp only)))
theorem sm_key (r : RL) : Sm r.key := sm_two _ _
local macro_rules | `(tactic| walk_at "sm1") => `(tactic| first | exact sm_one _ | exact sm_two _ _ | exact sm_0 | exact sm_1 | exact sm_b | exact sm_key _)
local macro_rules | `(tactic| walk_at "sm") => `(tactic| first | (refine smc_one ?_; walk_at "sm1") | (refine smc_app ?_ ?_ <;> walk_at "sm1") | (refine smc_app3 ?_ ?_ ?_ <;> walk_at "sm1"))
local macro_rules | `(tactic| walk_at "binaryOp Add str str") => `(tactic| (refine add_sm (by walk_at "sm") (by walk_at "sm") ?_))
theorem fill4 : PySem.Challenge.rw_kn0103_02 = PySem.Challenge.rw_kn0103_02 ∧ hd2.heap_39 = hd2.heap_39 := by
  w_top off
  k_fill
  exact ⟨rfl, rfl⟩
/-- an entry: its key and what it stands for, with the tokens and the tuple's address -/
structure EL where
  key : Str
  kt : Tok
  val : Str
  vt : Tok
  adr : Addr
def EL.obj (e : EL) : Obj := { cls := .type "tuple", data := .seq #[.str e.key e.kt, .str e.val e.vt] }
def EL.kv (e : EL) : Str × Str := (e.key, e.val)
structure EL.Ok (e : EL) (tk : Nat) : Prop where
  h0 : 0 < e.kt
  h1 : e.kt < e.vt
  h2 : e.vt < tk
theorem EL.Ok.mono {e : EL} {t t' : Nat} (h : e.Ok t) (ht : t ≤ t') : e.Ok t' := ⟨h.h0, h.h1, Nat.lt_of_lt_of_le h.h2 ht⟩
def eTups (el : List EL) : Led := el.map fun e => (e.adr, e.obj)
def eRefs (el : List EL) : List Value := el.map fun e => .ref e.adr
def three (a b c : Nat) : Str := ⟨#[a, b, c]⟩
def four (a b c d : Nat) : Str := ⟨#[a, b, c, d]⟩
def entsR (r : RL) : List (Str × Str) :=
  if r.left = 1 then [(three 48 r.s r.c, three r.n 48 r.l), (three 49 r.s r.c, three r.n 49 r.l), (three 124 r.s r.c, four 124 r.n 48 r.l)] else [(two r.s r.c, two r.l r.n)]
def ents (rl : List RL) : List (Str × Str) := [(two 80 124, three 80 48 124), (two 81 124, three 81 48 124)] ++ rl.flatMap entsR
theorem ents_snoc {rl : List RL} {i : Nat} {r : RL} (h : rl[i]? = some r) : ents (rl.take (i + 1)) = ents (rl.take i) ++ entsR r := by
  unfold ents
  rw [List.take_add_one, h, List.flatMap_append, List.append_assoc]
  simp
def Jents (w : World) (rl : List RL) (nR : Nat) (R : Addr) (rest : Led) (E : Addr) (i : Nat) (m : Loc) (nx : Led) (tk : Nat) : Prop :=
  ∃ el n, el.map EL.kv = ents (rl.take i) ∧ (∀ e ∈ el, EL.Ok e tk) ∧ Has m [(Str.ofString "rules", .ref R), (Str.ofString "entries", .ref E)] ∧
    nx = (E, PySem.W.listOf (eRefs el).toArray n) :: (R, rDict w rl nR) :: (eTups el ++ rest) ∧ (nx.map (·.1)).Nodup
abbrev entsEnv (L fa : Addr) (cd : Value) : Env := envOf (Str.ofString "_law_entries") (fnScope entriesDef) L fa cd
def entsLoop : List Stmt := forBody ((fnBody entriesDef).getD 1 (.Pass default))
local macro_rules | `(tactic| walk_at "lit2") => `(tactic| dsimp only [entsLoop, entriesDef, bodyAt, lawDef, forBody, fnBody, fnScope, PySem.Challenge.pw_kn0103_02, List.getD, List.getElem?_cons_succ, List.getElem?_cons_zero, Option.getD, List.drop])
theorem entsR_len (r : RL) : (entsR r).length ≤ 3 := by
  unfold entsR
  split <;> simp
theorem flat_len {α : Type} {f : RL → List α} (h : ∀ r, (f r).length ≤ 3) : ∀ l : List RL, (l.flatMap f).length ≤ 3 * l.length
  | [] => by simp
  | r :: t => by
    rw [List.flatMap_cons, List.length_append, List.length_cons]
    have := flat_len h t
    have := h r
    omega
theorem ents_len (rl : List RL) (i : Nat) : (ents (rl.take i)).length ≤ 2 + 3 * rl.length := by
  unfold ents
  rw [List.length_append]
  have h1 := flat_len entsR_len (rl.take i)
  have h2 : (rl.take i).length ≤ rl.length := List.length_take_le' ..
  show 2 + _ ≤ _
  omega
theorem perm_mid {α : Type} {a a' p x y : List α} (h : a.Perm a') : (a ++ (p ++ (x ++ y))).Perm (p ++ ((x ++ a') ++ y)) := by
  refine List.perm_append_comm_assoc .. |>.trans ?_
  refine List.Perm.append_left p ?_
  refine List.perm_append_comm_assoc .. |>.trans ?_
  rw [List.append_assoc]
  exact List.Perm.append_left x (h.append_right y)
theorem ents_fin {w : World} {g h : Heap} {L I R E : Addr} {oI : Obj} {i n nR : Nat} {rl : List RL} {r : RL} {rest : Led} {el es : List EL} {a : Led} {s : Shared} {P : Flow → Shared → Prop} {m' : Loc} {tk tk0 : Nat}
   (hr : rl[i]? = some r) (hle : tk0 ≤ tk) (hel : el.map EL.kv = ents (rl.take i)) (hE : ∀ e ∈ el, EL.Ok e tk0) (hes : es.map EL.kv = entsR r) (hS : ∀ e ∈ es, EL.Ok e tk)
   (ha : a.Perm (eTups es)) {o1 : Obj} (hnd : ((a ++ ((I, oI) :: (E, o1) :: (R, rDict w rl nR) :: (eTups el ++ rest))).map (·.1)).Nodup)
   (F : Fr g L h m') (hm : Has m' [(Str.ofString "rules", .ref R), (Str.ofString "entries", .ref E)])
   (N : News g L h (a ++ ((I, oI) :: (E, PySem.W.listOf (eRefs (el ++ es)).toArray n) :: (R, rDict w rl nR) :: (eTups el ++ rest)))) :
   TurnPost g L I oI (Jents w rl nR R rest E (i + 1)) s P .next { s with heap := h, toks := tk } := by
  have e1 : eTups (el ++ es) = eTups el ++ eTups es := by unfold eTups; rw [List.map_append]
  have hp := perm_mid (p := [(I, oI), (E, PySem.W.listOf (eRefs (el ++ es)).toArray n), (R, rDict w rl nR)]) (x := eTups el) (y := rest) ha
  have N' : News g L h ((I, oI) :: (E, PySem.W.listOf (eRefs (el ++ es)).toArray n) :: (R, rDict w rl nR) :: (eTups (el ++ es) ++ rest)) := by
    rw [e1]
    exact news_sub N fun p hp' => hp.mem_iff.mpr hp'
  have hnd3 : (((I, oI) :: (E, PySem.W.listOf (eRefs (el ++ es)).toArray n) :: (R, rDict w rl nR) :: (eTups (el ++ es) ++ rest)).map (·.1)).Nodup := by
    rw [e1]
    refine (hp.map (·.1)).nodup_iff.mp ?_
    rw [List.map_append] at hnd ⊢
    exact hnd
  refine TurnPost.next _ F N' (fun q hq => .tail _ hq) (.head _) (nd_off hnd3) ⟨el ++ es, n, ?_, ?_, hm, rfl, nd_tail hnd3⟩
  · rw [List.map_append, hel, hes, ents_snoc hr]
  · intro e he
    rcases List.mem_append.mp he with he | he
    · exact (hE e he).mono hle
    · exact hS e he
theorem eRefs_append (a b : List EL) : eRefs (a ++ b) = eRefs a ++ eRefs b := by unfold eRefs; rw [List.map_append]
theorem ents_fin1 {w : World} {g h : Heap} {L I R E D1 : Addr} {oI : Obj} {i n nR : Nat} {rl : List RL} {r : RL} {rest : Led} {el : List EL} {s : Shared} {P : Flow → Shared → Prop} {m' : Loc} {tk tk0 : Nat} {k v : Str} {kt vt : Tok}
   (hr : rl[i]? = some r) (hle : tk0 ≤ tk) (hel : el.map EL.kv = ents (rl.take i)) (hE : ∀ e ∈ el, EL.Ok e tk0) (hes : [(k, v)] = entsR r) (h0 : 0 < kt) (h1 : kt < vt) (h2 : vt < tk)
   {o1 o2 : Obj} (hnd : (((D1, o2) :: (I, oI) :: (E, o1) :: (R, rDict w rl nR) :: (eTups el ++ rest)).map (·.1)).Nodup)
   (F : Fr g L h m') (hm : Has m' [(Str.ofString "rules", .ref R), (Str.ofString "entries", .ref E)])
   (N : News g L h ((D1, { cls := .type "tuple", data := .seq #[.str k kt, .str v vt] }) :: (I, oI) :: (E, PySem.W.listOf (eRefs el ++ [Value.ref D1]).toArray n) :: (R, rDict w rl nR) :: (eTups el ++ rest))) :
   TurnPost g L I oI (Jents w rl nR R rest E (i + 1)) s P .next { s with heap := h, toks := tk } :=
  ents_fin (es := [⟨k, kt, v, vt, D1⟩]) (a := [(D1, _)]) (n := n) hr hle hel hE hes (fun e he => by rw [List.mem_singleton.mp he]; exact ⟨h0, h1, h2⟩) (List.Perm.refl _) (o1 := o1) hnd F hm (by rw [eRefs_append]; exact N)
theorem ents_fin3 {w : World} {g h : Heap} {L I R E D1 D2 D3 : Addr} {oI : Obj} {i n nR : Nat} {rl : List RL} {r : RL} {rest : Led} {el : List EL} {s : Shared} {P : Flow → Shared → Prop} {m' : Loc} {tk tk0 : Nat} {k v k2 v2 k3 v3 : Str} {kt vt kt2 vt2 kt3 vt3 : Tok}
   (hr : rl[i]? = some r) (hle : tk0 ≤ tk) (hel : el.map EL.kv = ents (rl.take i)) (hE : ∀ e ∈ el, EL.Ok e tk0) (hes : [(k, v), (k2, v2), (k3, v3)] = entsR r)
   (h1 : 0 < kt ∧ kt < vt ∧ vt < tk) (h2 : 0 < kt2 ∧ kt2 < vt2 ∧ vt2 < tk) (h3 : 0 < kt3 ∧ kt3 < vt3 ∧ vt3 < tk)
   {o1 o2 o3 o4 : Obj} (hnd : (((D3, o4) :: (D2, o3) :: (D1, o2) :: (I, oI) :: (E, o1) :: (R, rDict w rl nR) :: (eTups el ++ rest)).map (·.1)).Nodup)
   (F : Fr g L h m') (hm : Has m' [(Str.ofString "rules", .ref R), (Str.ofString "entries", .ref E)])
   (N : News g L h ((D3, { cls := .type "tuple", data := .seq #[.str k3 kt3, .str v3 vt3] }) :: (D2, { cls := .type "tuple", data := .seq #[.str k2 kt2, .str v2 vt2] }) :: (D1, { cls := .type "tuple", data := .seq #[.str k kt, .str v vt] }) :: (I, oI) :: (E, PySem.W.listOf ((eRefs el ++ [Value.ref D1, Value.ref D2]) ++ [Value.ref D3]).toArray n) :: (R, rDict w rl nR) :: (eTups el ++ rest))) :
   TurnPost g L I oI (Jents w rl nR R rest E (i + 1)) s P .next { s with heap := h, toks := tk } := by
  refine ents_fin (es := [⟨k, kt, v, vt, D1⟩, ⟨k2, kt2, v2, vt2, D2⟩, ⟨k3, kt3, v3, vt3, D3⟩]) (a := [(D3, _), (D2, _), (D1, _)]) (n := n) hr hle hel hE hes ?_ (List.reverse_perm [(D1, _), (D2, _), (D3, _)]) (o1 := o1) hnd F hm (by rw [eRefs_append]; rw [List.append_assoc] at N; exact N)
  intro e he
  simp only [List.mem_cons, List.not_mem_nil, or_false] at he
  rcases he with rfl | rfl | rfl
  · exact ⟨h1.1, h1.2.1, h1.2.2⟩
  · exact ⟨h2.1, h2.2.1, h2.2.2⟩
  · exact ⟨h3.1, h3.2.1, h3.2.2⟩
theorem lits : Str.ofString "0" = ⟨#[48]⟩ ∧ Str.ofString "1" = ⟨#[49]⟩ ∧ Str.ofString "|" = ⟨#[124]⟩ := by
  refine ⟨?_, ?_, ?_⟩ <;> decide +kernel
theorem app11 (a b : Nat) : ((⟨#[a]⟩ : Str) ++ ⟨#[b]⟩) = two a b := by
  apply PySem.Str.ext'
  rw [PySem.Str.cps_append]; rfl
theorem app12 (a b c : Nat) : ((⟨#[a]⟩ : Str) ++ two b c) = three a b c := by
  apply PySem.Str.ext'
  rw [PySem.Str.cps_append]; rfl
theorem app21 (a b c : Nat) : (two a b ++ (⟨#[c]⟩ : Str)) = three a b c := by
  apply PySem.Str.ext'
  rw [PySem.Str.cps_append]; rfl
theorem app31 (a b c d : Nat) : (three a b c ++ (⟨#[d]⟩ : Str)) = four a b c d := by
  apply PySem.Str.ext'
  rw [PySem.Str.cps_append]; rfl
theorem ents_t {w : World} {g base : Heap} {mg mb : Str → Option Value} {mean : ExcName → Option Value} {A₀ : Around} {e₁ : Env}
   (KX : (hd2.heap_39 w.params).In g) (T0 : Top hd2.view_39 (looseW hd2.view_39 []) mean mg mb g) (B : Below A₀ base [e₁] g)
   {L fa : Addr} {cd : Value} {s s₀ : Shared} {P : Flow → Shared → Prop} (h1 : 0 < s.toks) (hTB : TB s.toks s.toks) (hs0 : ∃ h tk, s = { s₀ with heap := h, toks := tk }) {u : Loc} {R E I : Addr} {oI : Obj} {n nR i : Nat}
   {rl : List RL} {r : RL} {rest : Led} (hr : rl[i]? = some r) (hok : r.Ok s.toks) (hin : ∀ p ∈ rTups rl, p ∈ rest) (hks : (rl.map RL.key).Nodup) (hl4 : rl.length ≤ 4) {el : List EL} (hel : el.map EL.kv = ents (rl.take i)) (hE : ∀ e ∈ el, EL.Ok e s.toks)
   (F : Fr g L s.heap (fun y => if y = Str.ofString "sign" then some (.str r.key r.tok) else Set [(Str.ofString "rules", .ref R), (Str.ofString "entries", .ref E)] u y))
   (N : News g L s.heap ((I, oI) :: (E, PySem.W.listOf (eRefs el).toArray n) :: (R, rDict w rl nR) :: (eTups el ++ rest))) (hnd : (((I, oI) :: (E, PySem.W.listOf (eRefs el).toArray n) :: (R, rDict w rl nR) :: (eTups el ++ rest)).map (·.1)).Nodup) :
   wpAny (model P02 w) ((callerA.deeper e₁).deeper (entsEnv L fa cd)) (execs entsLoop (entsEnv L fa cd)) (TurnPost g L I oI (Jents w rl nR R rest E (i + 1)) s₀ P) (fun _ _ => False) s := by
  obtain ⟨hx, tkx, rfl⟩ := hs0
  obtain ⟨heap, gens, drawn, toks, os⟩ := s₀
  dsimp only at h1 hTB F N hok hE ⊢
  unfold entsEnv
  walk_at "lit2"
  walk_at "ks"
  have hnk : ((rl.map RL.ent).map (·.1)).Nodup := by rw [rl_keys]; exact hks
  have hra : (r.adr, r.obj) ∈ rest := hin _ (List.mem_map.mpr ⟨r, List.mem_of_getElem? hr, rfl⟩)
  refine kda_item (knd := strKind P02 w) (kvs := kvsOf (rl.map RL.ent)) (k := r.key) (v := .ref r.adr) N (d := R) (by k_mem) (sdict_is hnk) (strKind_is P02 w _ _) (valueAt_of_get (i := i) ?_ ?_) ?_
  · simpa [kvsOf, List.map_map, Function.comp_def] using hnk
  · simp [kvsOf, hr]; exact ⟨rfl, rfl⟩
  refine unpackN_ F N (t := r.adr) (items := #[.str ⟨#[r.l]⟩ r.lt, .int r.left r.it, .str ⟨#[r.n]⟩ r.nt]) ⟨_, (N _ (.tail _ (.tail _ (.tail _ (List.mem_append_right _ hra))))).1, rfl, _, rfl⟩ rfl rfl rfl ?_
  intro h2 F2 N2
  have hlen : el.length ≤ 14 := by
    have e := congrArg List.length hel
    rw [List.length_map] at e
    have := ents_len rl i
    omega
  walk_at "ks"
  · (rename r.left = 1 => hleft)
    (rename News _ _ _ _ => N3)
    (rename Fr _ _ _ _ => F3)
    rename_i tkt hTBt D1 hh1 lt1 D2 hh2 lt2 lv hh3 lt3
    have nd1 := nd_new (o := oI) hnd (allLt_all lt1)
    have nd2 := nd_new (o := oI) nd1 (allLt_all lt2)
    have N4 := news_tail N3
    refine kl_extend F3 N3 (by k_mem) rfl (by simp) (upd_mid [_, _, _, _] (nd_new (o := oI) nd2 (allLt_all lt3))) ?_ ?_ ?_ ?_
    · unfold Builtin.List.listTooLong
      have e1 : (eRefs el).toArray.size = el.length := by unfold eRefs; simp
      simp [e1, sizeLine_eq]; omega
    · unfold eRefs; simp [sizeLine_eq]; omega
    · unfold eRefs; simp [sizeLine_eq]; omega
    intro h4 F4 N4
    have N5 : News g L h4 ((D2, _) :: (D1, _) :: (I, oI) :: (E, PySem.W.listOf (eRefs el ++ [Value.ref D1, Value.ref D2]).toArray (n + 1)) :: (R, rDict w rl nR) :: (eTups el ++ rest)) := news_tail N4
    clear N4 N3 F3
    walk_at "kst"
    intro _
    have hTB5 : TB (tkt + 10) (tkt + 10) := Nat.le_refl _
    walk_at "ks"
    (rename News _ _ _ _ => N6)
    (rename Fr _ _ _ _ => F6)
    (rename _ < _ ∧ _ < _ ∧ _ < _ ∧ _ < _ ∧ _ < _ ∧ AllLt _ _ => lt5)
    (with_reducible rename TB (tkt + 10) _ => hTB3)
    have nd3 := nd_new (o := oI) nd2 (allLt_all lt5)
    refine r_append (vs := eRefs el ++ [Value.ref D1, Value.ref D2]) F6 N6 (upd_mid [_, _, _, _] nd3) (by unfold eRefs; rw [List.length_append, List.length_map]; simp; omega) ?_
    intro h7 F7 N7
    walk_at "ks"
    unfold TB at hTB3 hTBt
    obtain ⟨l0, l1, lb⟩ := lits
    refine ents_fin3 hr ?_ hel hE ?_ ?_ ?_ ?_ nd3 F7 ⟨rfl, rfl, trivial⟩ N7
    · omega
    · have ek : r.key = two r.s r.c := rfl
      rw [l0, l1, lb, ek, app12, app12, app12, app11, app11, app21, app21, app11, app21, app31]; unfold entsR; rw [if_pos hleft]
    · refine ⟨ltN ?_, ltN ?_, ltN ?_⟩ <;> omega
    · refine ⟨ltN ?_, ltN ?_, ltN ?_⟩ <;> omega
    · refine ⟨ltN ?_, ltN ?_, ltN ?_⟩ <;> omega
  · (rename r.left ≠ 1 => hleft)
    (rename News _ _ _ _ => N3)
    (rename Fr _ _ _ _ => F3)
    (rename _ < _ ∧ _ < _ ∧ _ < _ ∧ AllLt _ _ => lt1)
    have nd1 := nd_new (o := oI) hnd (allLt_all lt1)
    refine r_append (vs := eRefs el) F3 N3 (upd_mid [_, _] nd1) (by unfold eRefs; rw [List.length_map]; omega) ?_
    (with_reducible rename TB tkx _ => hTB4)
    have hTB5 : tkx ≤ _ := hTB4
    intro h4 F4 N4
    walk_at "ks"
    (rename TB tkx _ => hTBe)
    unfold TB at hTBe
    have hlt := ltN hok.ht
    refine ents_fin1 hr ?_ hel hE ?_ hok.h0 ?_ ?_ nd1 F4 ⟨rfl, rfl, trivial⟩ N4
    · omega
    · rw [app11]; unfold entsR; rw [if_neg hleft]; rfl
    · refine ltN ?_; omega
    · refine ltN ?_; omega
end Mine

open PySem PySem.W PySem.Calls PyProof.Rows PyProof.V PySem.Spec
set_option Elab.async false
set_option maxRecDepth 100000
set_option maxHeartbeats 8000000
set_option linter.unusedVariables false
namespace Mine
local macro_rules | `(tactic| walk_at "lit") => `(tactic| dsimp only [bodyAt, lawDef, forBody, fnBody, fnScope, PySem.Challenge.pw_kn0103_02, List.getD, List.getElem?_cons_succ, List.getElem?_cons_zero, Option.getD, List.drop])
local macro_rules | `(tactic| walk_at "ks1") => `(tactic| (first | (k_unfold; (try dsimp only)) | (k_end; wrow_close) | walk1 | (dsimp only; walk1) | (leave1; walk_say "STEP leave1"; try dsimp only) | fail "no step"))
local macro_rules | `(tactic| walk_at "ks") => `(tactic| repeat' ((fail_if_success (with_reducible show wpAny _ _ (exec (Stmt.For _ _ _ _ _) _) _ _ _)); (fail_if_success (with_reducible show wpAny _ _ (pyIter _) (fun it s₂ => OwnAt _ _ _ _ _ _ _ _ it s₂) _ _)); (fail_if_success (with_reducible show wpAny _ _ (eval (PySem.Expr.Dict [] [] _) _) _ _ _)); (fail_if_success (with_reducible show TurnPost _ _ _ _ _ _ _ _ _)); walk_at "ks1"))
local macro_rules | `(tactic| walk_at "kst") => `(tactic| repeat' ((fail_if_success (with_reducible show TB _ _ → _)); walk_at "ks1"))
local macro_rules | `(tactic| walk_at "execs cons") => `(tactic| (k_here; (rename TB _ _ => hTBo); refine execs_tb (TB.mono hTBo (Nat.le_refl _) (by (try dsimp only); omega)) ?_; clear hTBo; intro tk hTB; (try dsimp only)))
local macro_rules | `(tactic| walk_at "sub") => `(tactic| first | exact List.forall_mem_nil _ | (refine List.forall_mem_cons.mpr ⟨by k_mem, ?_⟩; walk_at "sub") | (intro p hp; repeat' (first | exact hp | refine List.mem_cons_of_mem _ ?_)))
local macro_rules | `(tactic| walk_at "execs nil") => `(tactic| (refine wpAny_execs_nil ?_; (try dsimp only)))
local macro_rules | `(tactic| walk_at "ks0") => `(tactic| repeat' ((fail_if_success (with_reducible show wpAny _ _ (eval (PySem.Expr.BinOp _ _ _ _) _) _ _ _)); walk_at "ks1"))
theorem fill5 : PySem.Challenge.rw_kn0103_02 = PySem.Challenge.rw_kn0103_02 ∧ hd2.heap_39 = hd2.heap_39 := by
  w_top off
  k_fill
  exact ⟨rfl, rfl⟩
theorem tb_intro {T k : Nat} {P : Prop} (h : TB k k → P) : TB T k → P := fun _ => h (Nat.le_refl _)
theorem own_ents {prog : Program} {w : World} {A : Around} {Er : Value → Shared → Prop} {s : Shared} {env : Env} {g : Heap} {body : List Stmt} {Q : Flow → Shared → Prop}
    {x : Str} {px : Pos} {E A1 A2 R : Addr} {k1 v1 k2 v2 : Str} {kt1 vt1 kt2 vt2 : Tok} {n0 nR : Nat} {rl : List RL} {rest : Led} {m : Loc}
    (hh : A.handled = none) (F : Fr g env.locals s.heap m)
    (N : News g env.locals s.heap ((E, PySem.W.listOf #[.ref A1, .ref A2] n0) :: (A2, { cls := .type "tuple", data := .seq #[.str k2 kt2, .str v2 vt2] }) :: (A1, { cls := .type "tuple", data := .seq #[.str k1 kt1, .str v1 vt1] }) :: (R, rDict w rl nR) :: rest))
    {o1 o2 o3 o4 : Obj} (hnd : (((E, o1) :: (A2, o2) :: (A1, o3) :: (R, o4) :: rest).map (·.1)).Nodup) (hks : (rl.map RL.key).Nodup) (lo : (R == sysModules) = false)
    (hx : env.kindOf x = some .local) (hp : (env.scope.kind == .class || (env.scope.kind == .module && env.locals != env.globals)) = false)
    (hm : Has m [(Str.ofString "rules", .ref R), (Str.ofString "entries", .ref E)]) (hkv : [(k1, v1), (k2, v2)] = ents []) (ok1 : 0 < kt1 ∧ kt1 < vt1 ∧ vt1 < s.toks) (ok2 : 0 < kt2 ∧ kt2 < vt2 ∧ vt2 < s.toks)
    (turn : ∀ i r m₁ nx h₁ tk₁ I oI, rl[i]? = some r → s.toks ≤ tk₁ → Jents w rl nR R rest E i m₁ nx tk₁ → (∀ p ∈ nx, p.1 ≠ I) → Fr g env.locals h₁ (fun y => if y = x then some (.str r.key r.tok) else m₁ y) → News g env.locals h₁ ((I, oI) :: nx) →
      wpAny (model prog w) A (execs body env) (TurnPost g env.locals I oI (Jents w rl nR R rest E (i + 1)) s Q) Er { s with heap := h₁, toks := tk₁ })
    (done : ∀ h' tk m' nx, s.toks ≤ tk → Fr g env.locals h' m' → News g env.locals h' nx → Jents w rl nR R rest E rl.length m' nx tk → Q .next { s with heap := h', toks := tk })
    (hE : PassesOwn (model prog w) A env Er) :
    wpAny (model prog w) A (pyIter (.ref R)) (fun it s₂ => OwnAt prog w A env (.Name x px) body Q Er it s₂) Er s := by
  have hp1 : ([(A2, ({ cls := .type "tuple", data := .seq #[.str k2 kt2, .str v2 vt2] } : Obj)), (A1, { cls := .type "tuple", data := .seq #[.str k1 kt1, .str v1 vt1] })] ++ ((R, rDict w rl nR) :: rest)).Perm
      ((R, rDict w rl nR) :: ([(A1, ({ cls := .type "tuple", data := .seq #[.str k1 kt1, .str v1 vt1] } : Obj)), (A2, { cls := .type "tuple", data := .seq #[.str k2 kt2, .str v2 vt2] })] ++ rest)) :=
    perm_mid (p := [(R, rDict w rl nR)]) (x := []) (y := rest) (List.Perm.swap _ _ _)
  have N' : News g env.locals s.heap ((E, PySem.W.listOf #[.ref A1, .ref A2] n0) :: (R, rDict w rl nR) :: ([(A1, ({ cls := .type "tuple", data := .seq #[.str k1 kt1, .str v1 vt1] } : Obj)), (A2, { cls := .type "tuple", data := .seq #[.str k2 kt2, .str v2 vt2] })] ++ rest)) :=
    news_sub N fun p hp' => (hp1.cons _).mem_iff.mpr hp'
  have hnk : ((rl.map RL.ent).map (·.1)).Nodup := by rw [rl_keys]; exact hks
  refine own_keys (es := rl.map RL.ent) (ep := nR) hh F N' hnk lo hx hp (Jents w rl nR R rest E) ?_ ?_ ?_ ?_ (fun h' tk m' nx a b c d => done h' tk m' nx a b c (by rw [List.length_map] at d; exact d)) hE
  · rintro i m nx t t' h ⟨el, n, a, b, c⟩
    exact ⟨el, n, a, fun e he => (b e he).mono h, c⟩
  · rintro i m nx t ⟨el, n, a, b, c, rfl, d⟩
    exact .tail _ (.head _)
  · refine ⟨[⟨k1, kt1, v1, vt1, A1⟩, ⟨k2, kt2, v2, vt2, A2⟩], n0, hkv, ?_, hm, rfl, ?_⟩
    · intro e he
      simp only [List.mem_cons, List.not_mem_nil, or_false] at he
      rcases he with rfl | rfl
      · exact ⟨ok1.1, ok1.2.1, ok1.2.2⟩
      · exact ⟨ok2.1, ok2.2.1, ok2.2.2⟩
    · exact ((hp1.cons (E, PySem.W.listOf #[.ref A1, .ref A2] n0)).map (·.1)).nodup_iff.mp hnd
  · intro i p m₁ nx h₁ tk₁ I oI hp htk hJ hoff F₁ N₁
    rw [List.getElem?_map] at hp
    cases hr : rl[i]? with
    | none => rw [hr] at hp; cases hp
    | some r =>
      rw [hr] at hp
      cases hp
      exact turn i r m₁ nx h₁ tk₁ I oI hr htk hJ hoff F₁ N₁
theorem two_lits : [(Str.ofString "P|", Str.ofString "P0|"), (Str.ofString "Q|", Str.ofString "Q0|")] = ents [] := by decide +kernel
theorem sign_nodup {rl : List RL} (h : (rl.map RL.key).Sublist signs4) : (rl.map RL.key).Nodup := h.nodup (by decide +kernel)
theorem law_c {w : World} {h₀ : Heap} {mg mb : Str → Option Value} {mean : ExcName → Option Value} {l : Addr} {vs : List Value} {ns : List Int} (G : Given w h₀ mg mb mean l vs ns)
   {L fa : Addr} {cd : Value} {s : Shared} {Q : Flow → Shared → Prop} (h1 : 0 < s.toks) (hs : TB s.toks s.toks) {m : Loc} {D R : Addr} {oD : Obj} {rl : List RL} {nR : Nat} (hok : ∀ r ∈ rl, RL.Ok r s.toks) (hsub : (rl.map RL.key).Sublist signs4) (lo : (R == sysModules) = false)
   (F : Fr h₀ L s.heap m) (hm : Has m [(Str.ofString "cells", .ref D), (Str.ofString "script", .ref l), (Str.ofString "rules", .ref R)]) (N : News h₀ L s.heap ((R, rDict w rl nR) :: (D, oD) :: rTups rl))
   (hnd : (((R, rDict w rl nR) :: (D, oD) :: rTups rl).map (·.1)).Nodup)
   (next : ∀ h tk m' E Tb el n tr, el.map EL.kv = ents rl → (∀ e ∈ el, EL.Ok e tk) → (Tb == sysModules) = false → Fr h₀ L h m' →
      Has m' [(Str.ofString "cells", .ref D), (Str.ofString "rules", .ref R), (Str.ofString "pool", .ref E), (Str.ofString "table", .ref Tb), (Str.ofString "rest", .int (ns.sum + 6) tr)] →
      News h₀ L h ((Tb, sdict w [] 0) :: (E, PySem.W.listOf (eRefs el).toArray n) :: (R, rDict w rl nR) :: (eTups el ++ (D, oD) :: rTups rl)) →
      (((Tb, sdict w [] 0) :: (E, PySem.W.listOf (eRefs el).toArray n) :: (R, rDict w rl nR) :: (eTups el ++ (D, oD) :: rTups rl)).map (·.1)).Nodup → 0 < tk →
      wpAny (model P02 w) (callerA.deeper (lawEnv L fa cd)) (execs ((fnBody lawDef).drop 4) (lawEnv L fa cd)) Q (fun _ _ => False) { s with heap := h, toks := tk }) :
   wpAny (model P02 w) (callerA.deeper (lawEnv L fa cd)) (execs ((fnBody lawDef).drop 3) (lawEnv L fa cd)) Q (fun _ _ => False) s := by
  obtain ⟨heap, gens, drawn, toks, os⟩ := s
  dsimp only at h1 hs F N hok next ⊢
  obtain ⟨KX, T, K0, hL, hI, lay, len⟩ := G
  rw [hm.eq] at F
  revert next
  unfold lawEnv
  walk_at "lit"
  intro next
  walk_at "kst"
  refine tb_intro ?_
  intro hTB2
  dsimp only at hTB2
  walk_at "ks"
  k_fold
  refine For_own ?_
  walk_at "ks"
  (rename Fr _ _ _ _ => F1)
  (rename News _ _ _ _ => N1)
  (rename Top _ _ _ _ _ _ => T1)
  (rename Below _ _ _ _ => B1)
  (with_reducible rename TB _ _ => hTB3)
  rename_i tkb hTBa A1 hh1 lt1 A2 hh2 lt2 E hh3 lt3 hh4 tkc
  have hl4 : rl.length ≤ 4 := by
    have := hsub.length_le
    rw [List.length_map] at this
    exact this
  have h3 := ltN h1
  unfold TB at hTBa
  have hTB4 : tkb + 1 + 1 + 1 + 1 + 1 ≤ tkc := hTB3
  refine own_ents rfl F1 N1 (nd_new (o := oD) (nd_new (o := oD) (nd_new (o := oD) hnd (allLt_all lt1)) (allLt_all lt2)) (allLt_all lt3)) (sign_nodup hsub) lo rfl rfl ⟨rfl, rfl, trivial⟩ two_lits ?_ ?_ ?_ ?_ ?_
  · refine ⟨ltN ?_, ltN ?_, ltN ?_⟩ <;> (try dsimp only) <;> omega
  · refine ⟨ltN ?_, ltN ?_, ltN ?_⟩ <;> (try dsimp only) <;> omega
  · rintro i r m₁ nx h₁ tk₁ I oI hr htk ⟨el, n, hel, hE, hm1, rfl, hnd1⟩ hoff F₁ N₁
    rw [hm1.eq] at F₁
    dsimp only at htk
    have hrok := (hok r (List.mem_of_getElem? hr)).mono (t' := tk₁) (by omega)
    refine wpAny_mono (ents_t (by assumption) T1 B1 ?_ (Nat.le_refl _) ?_ hr hrok (fun p hp => .tail _ hp) (sign_nodup hsub) hl4 hel hE F₁ N₁ (nd_cons hnd1 hoff)) (fun _ _ h => h) (fun _ _ h => h.elim)
    · show 0 < tk₁
      omega
    · exact ⟨_, _, rfl⟩
  · rintro h' tk' m' nx htk F' N' ⟨el, n, hel, hE, hm1, rfl, hnd1⟩
    rw [hm1.eq] at F'
    k_unfold
    dsimp only
    refine tb_intro ?_
    intro hTB5
    walk_at "ks"
    (rename Fr _ _ _ _ => F5)
    (rename News _ _ _ _ => N5)
    (rename Top _ _ _ _ _ _ => T5)
    (with_reducible rename TB tk' _ => hTB6)
    have hTB7 : tk' ≤ _ := hTB6
    refine r_newDict F5 N5 T5.nolimit ?_
    intro Tb h6 F6 N6 l6 lo6
    walk_at "ks0"
    refine with_tb (T := tk') ?_ ?_
    · unfold TB; dsimp only; omega
    walk_at "kst"
    intro hTB9
    walk_at "kst"
    intro hTB8
    unfold TB at hTB9
    dsimp only at hTB9
    (rename Fr _ _ _ _ => F7)
    (rename News _ _ _ _ => N7)
    have N8 := news_sub (b := (Tb, sdict w [] 0) :: (E, PySem.W.listOf (eRefs el).toArray n) :: (R, rDict w rl nR) :: (eTups el ++ (D, oD) :: rTups rl)) N7 (by walk_at "sub")
    have e9 : rl.take rl.length = rl := List.take_length
    rw [e9] at hel
    dsimp only at htk
    refine next _ _ _ E Tb el n _ hel (fun e he => (hE e he).mono ?_) lo6 F7 ⟨rfl, rfl, rfl, rfl, rfl, trivial⟩ N8 (nd_new hnd1 l6) ?_
    · dsimp only; omega
    · show 0 < (_ : Nat)
      dsimp only; omega
  · passes_own
end Mine

open PySem PySem.W PySem.Calls PyProof.Rows PyProof.V PySem.Spec
set_option Elab.async false
set_option maxRecDepth 100000
set_option maxHeartbeats 8000000
set_option linter.unusedVariables false
namespace Mine
local macro_rules | `(tactic| walk_at "lit") => `(tactic| dsimp only [bodyAt, lawDef, forBody, fnBody, fnScope, PySem.Challenge.pw_kn0103_02, List.getD, List.getElem?_cons_succ, List.getElem?_cons_zero, Option.getD, List.drop])
local macro_rules | `(tactic| walk_at "ks1") => `(tactic| (first | (k_unfold; (try dsimp only)) | (k_end; wrow_close) | walk1 | (dsimp only; walk1) | (leave1; walk_say "STEP leave1"; try dsimp only) | fail "no step"))
local macro_rules | `(tactic| walk_at "ks") => `(tactic| repeat' ((fail_if_success (with_reducible show wpAny _ _ (exec (Stmt.For _ _ _ _ _) _) _ _ _)); (fail_if_success (with_reducible show wpAny _ _ (pyIter _) (fun it s₂ => OwnAt _ _ _ _ _ _ _ _ it s₂) _ _)); (fail_if_success (with_reducible show wpAny _ _ (eval (PySem.Expr.Dict [] [] _) _) _ _ _)); (fail_if_success (with_reducible show TurnPost _ _ _ _ _ _ _ _ _)); walk_at "ks1"))
local macro_rules | `(tactic| walk_at "kst") => `(tactic| repeat' ((fail_if_success (with_reducible show TB _ _ → _)); walk_at "ks1"))
local macro_rules | `(tactic| walk_at "execs cons") => `(tactic| (k_here; (rename TB _ _ => hTBo); refine execs_tb (TB.mono hTBo (Nat.le_refl _) (by (try dsimp only); omega)) ?_; clear hTBo; intro tk hTB; (try dsimp only)))
local macro_rules | `(tactic| walk_at "sub") => `(tactic| first | exact List.forall_mem_nil _ | (refine List.forall_mem_cons.mpr ⟨by k_mem, ?_⟩; walk_at "sub") | (intro p hp; repeat' (first | exact hp | refine List.mem_cons_of_mem _ ?_)))
local macro_rules | `(tactic| walk_at "execs nil") => `(tactic| (refine wpAny_execs_nil ?_; (try dsimp only)))
local macro_rules | `(tactic| walk_at "ks0") => `(tactic| repeat' ((fail_if_success (with_reducible show wpAny _ _ (eval (PySem.Expr.BinOp _ _ _ _) _) _ _ _)); walk_at "ks1"))
theorem fill6 : PySem.Challenge.rw_kn0103_02 = PySem.Challenge.rw_kn0103_02 ∧ hd2.heap_39 = hd2.heap_39 := by
  w_top off
  k_fill
  exact ⟨rfl, rfl⟩
def EL.ent (e : EL) : Ent := (e.key, e.kt, .str e.val e.vt)
def whileBody : Stmt → List Stmt
  | .While _ b _ _ => b
  | _ => []
def poolBody : List Stmt := whileBody ((fnBody lawDef).getD 4 (.Pass default))
local macro_rules | `(tactic| walk_at "lit2") => `(tactic| dsimp only [poolBody, whileBody, bodyAt, lawDef, forBody, fnBody, fnScope, PySem.Challenge.pw_kn0103_02, List.getD, List.getElem?_cons_succ, List.getElem?_cons_zero, Option.getD, List.drop])
def Jpool (w : World) (D R E Tb : Addr) (el : List EL) (base : Led) (n : Nat) (m : Loc) (nx : Led) (tk : Nat) : Prop :=
  ∃ done rem nT nE r tr, rem.length = n ∧ (done ++ rem).Perm el ∧ Has m [(Str.ofString "cells", .ref D), (Str.ofString "rules", .ref R), (Str.ofString "pool", .ref E), (Str.ofString "table", .ref Tb), (Str.ofString "rest", .int r tr)] ∧
    nx = (Tb, sdict w (done.map EL.ent) nT) :: (E, PySem.W.listOf (eRefs rem).toArray nE) :: base ∧ 0 < tk
theorem pool_t {w : World} {h₀ : Heap} {mg mb : Str → Option Value} {mean : ExcName → Option Value}
   (KX : (hd2.heap_39 w.params).In h₀) (T0 : Top hd2.view_39 (looseW hd2.view_39 []) mean mg mb h₀) (K0 : Below callerA h₀ [] h₀)
   {L fa : Addr} {cd : Value} {s s₀ : Shared} {P : Flow → Shared → Prop} (hTB : TB 1 s.toks) (hs0 : ∃ h tk, s = { s₀ with heap := h, toks := tk }) {u : Loc} {D R E Tb : Addr} {el done rem : List EL} {base : Led} {nT nE : Nat} {r : Int} {tr : Tok}
   (hp : (done ++ rem).Perm el) (hkn : (el.map EL.key).Nodup) (hl : el.length ≤ 14) (hin : ∀ p ∈ eTups el, p ∈ base) (hne : rem.length ≠ 0)
   (F : Fr h₀ L s.heap (Set [(Str.ofString "cells", .ref D), (Str.ofString "rules", .ref R), (Str.ofString "pool", .ref E), (Str.ofString "table", .ref Tb), (Str.ofString "rest", .int r tr)] u))
   (N : News h₀ L s.heap ((Tb, sdict w (done.map EL.ent) nT) :: (E, PySem.W.listOf (eRefs rem).toArray nE) :: base)) {o1 o2 : Obj} (hnd : (((Tb, o1) :: (E, o2) :: base).map (·.1)).Nodup) :
   wpAny (model P02 w) (callerA.deeper (lawEnv L fa cd)) (execs poolBody (lawEnv L fa cd)) (WhilePost h₀ L (Jpool w D R E Tb el base) s₀ P rem.length) (fun _ _ => False) s := by
  obtain ⟨hx, tkx, rfl⟩ := hs0
  obtain ⟨heap, gens, drawn, toks, os⟩ := s₀
  dsimp only at hTB F N ⊢
  have hsz : (eRefs rem).length = rem.length := by unfold eRefs; rw [List.length_map]
  have hsz2 : (eRefs rem).toArray.size = rem.length := by rw [List.size_toArray]; exact hsz
  have hpl : done.length + rem.length = el.length := by rw [← List.length_append]; exact hp.length_eq
  unfold lawEnv
  walk_at "lit2"
  walk_at "ks"
  (rename Fr _ _ _ _ => F1)
  (rename News _ _ _ _ => N1)
  have hm0 := Int.emod_nonneg r (b := (rem.length : Int)) (by omega)
  have hm1 := Int.emod_lt_of_pos r (b := (rem.length : Int)) (by omega)
  have hfm : r.fmod (rem.length : Int) = r % (rem.length : Int) := Int.fmod_eq_emod_of_nonneg _ (by omega)
  generalize hj : (r % (rem.length : Int)).toNat = j at *
  have hjl : j < rem.length := by omega
  refine r_popAt (vs := eRefs rem) j (by omega) (y := .ref rem[j].adr) (by unfold eRefs; simp [hjl]) F1 N1 (upd_mid [_] hnd) (by rw [hsz]; omega) ?_
  intro h2 F2 N2
  walk_at "ks"
  have hej : rem[j] ∈ el := hp.subset (List.mem_append_right _ (List.getElem_mem hjl))
  have hbj : (rem[j].adr, rem[j].obj) ∈ base := hin _ (List.mem_map.mpr ⟨_, hej, rfl⟩)
  refine unpackN_ F2 N2 (t := rem[j].adr) (items := #[.str rem[j].key rem[j].kt, .str rem[j].val rem[j].vt]) ⟨_, (N2 _ (.tail _ (.tail _ hbj))).1, rfl, _, rfl⟩ rfl rfl rfl ?_
  intro h3 F3 N3
  walk_at "ks"
  (rename Fr _ _ _ _ => F4)
  (rename News _ _ _ _ => N4)
  refine r_setNew (es := done.map EL.ent) (n := nT) ?_ F4 N4 (upd_mid [] hnd) ?_ ?_
  · intro hm
    have hk2 : ((done ++ rem).map EL.key).Nodup := (hp.map EL.key).nodup_iff.mpr hkn
    rw [List.map_append, List.nodup_append] at hk2
    rw [List.map_map] at hm
    exact hk2.2.2 _ hm _ (List.mem_map.mpr ⟨_, List.getElem_mem hjl, rfl⟩) rfl
  · rw [List.length_map]; omega
  intro h5 F5 N5
  walk_at "ks"
  (rename Fr _ _ _ _ => F6)
  (rename News _ _ _ _ => N6)
  refine WhilePost.next (rem.eraseIdx j).length _ ?_ F6 N6 (fun q hq => hq) ⟨done ++ [rem[j]], rem.eraseIdx j, nT + 1, nE + 1, _, _, rfl, ?_, ⟨rfl, rfl, rfl, rfl, rfl, trivial⟩, ?_, ?_⟩
  · rw [List.length_eraseIdx_of_lt hjl]; omega
  · rw [List.append_assoc]
    exact (List.Perm.append_left done (erase_perm hjl)).trans hp
  · unfold eRefs
    rw [List.map_append, map_erase]
    rfl
  · exact Nat.succ_pos _
end Mine

open PySem PySem.W PySem.Calls PyProof.Rows PyProof.V PySem.Spec
set_option Elab.async false
set_option maxRecDepth 100000
set_option maxHeartbeats 8000000
set_option linter.unusedVariables false
namespace Mine
local macro_rules | `(tactic| walk_at "lit") => `(tactic| dsimp only [bodyAt, lawDef, forBody, fnBody, fnScope, PySem.Challenge.pw_kn0103_02, List.getD, List.getElem?_cons_succ, List.getElem?_cons_zero, Option.getD, List.drop])
local macro_rules | `(tactic| walk_at "ks1") => `(tactic| (first | (k_unfold; (try dsimp only)) | (k_end; wrow_close) | walk1 | (dsimp only; walk1) | (leave1; walk_say "STEP leave1"; try dsimp only) | fail "no step"))
local macro_rules | `(tactic| walk_at "ks") => `(tactic| repeat' ((fail_if_success (with_reducible show wpAny _ _ (exec (Stmt.For _ _ _ _ _) _) _ _ _)); (fail_if_success (with_reducible show wpAny _ _ (exec (Stmt.While _ _ _ _) _) _ _ _)); (fail_if_success (with_reducible show wpAny _ _ (pyIter _) (fun it s₂ => OwnAt _ _ _ _ _ _ _ _ it s₂) _ _)); (fail_if_success (with_reducible show wpAny _ _ (eval (PySem.Expr.Dict [] [] _) _) _ _ _)); (fail_if_success (with_reducible show TurnPost _ _ _ _ _ _ _ _ _)); walk_at "ks1"))
local macro_rules | `(tactic| walk_at "kst") => `(tactic| repeat' ((fail_if_success (with_reducible show TB _ _ → _)); walk_at "ks1"))
local macro_rules | `(tactic| walk_at "execs cons") => `(tactic| (k_here; (rename TB _ _ => hTBo); refine execs_tb (TB.mono hTBo (Nat.le_refl _) (by (try dsimp only); omega)) ?_; clear hTBo; intro tk hTB; (try dsimp only)))
local macro_rules | `(tactic| walk_at "sub") => `(tactic| first | exact List.forall_mem_nil _ | (refine List.forall_mem_cons.mpr ⟨by k_mem, ?_⟩; walk_at "sub") | (intro p hp; repeat' (first | exact hp | refine List.mem_cons_of_mem _ ?_)))
local macro_rules | `(tactic| walk_at "execs nil") => `(tactic| (refine wpAny_execs_nil ?_; (try dsimp only)))
local macro_rules | `(tactic| walk_at "ks0") => `(tactic| repeat' ((fail_if_success (with_reducible show wpAny _ _ (eval (PySem.Expr.BinOp _ _ _ _) _) _ _ _)); walk_at "ks1"))
local macro_rules | `(tactic| walk_at "ksi") => `(tactic| repeat' ((fail_if_success (with_reducible show ite _ _ _)); walk_at "ks1"))
theorem fill7 : PySem.Challenge.rw_kn0103_02 = PySem.Challenge.rw_kn0103_02 ∧ hd2.heap_39 = hd2.heap_39 := by
  w_top off
  k_fill
  exact ⟨rfl, rfl⟩
theorem keys_vals : ∀ (ds : List EL) (vs : List Value), vs.length = ds.length → (∀ (j : Nat) (v : Value), vs[j]? = some v → ∃ e, ds[j]? = some e ∧ Value.isStrOf e.key v = true) → ∃ ksl : List (Str × Tok), vs = strValues ksl ∧ ksl.map (·.1) = ds.map EL.key
  | [], [], _, _ => ⟨[], rfl, rfl⟩
  | e :: ds, v :: vs, h, hv => by
    obtain ⟨e', h1, h2⟩ := hv 0 v rfl
    cases h1
    obtain ⟨t, rfl⟩ := Value.isStrOf_shape h2
    obtain ⟨ksl, h3, h4⟩ := keys_vals ds vs (by simpa using h) (fun j v hj => hv (j + 1) v hj)
    exact ⟨(e.key, t) :: ksl, by rw [h3]; rfl, by rw [List.map_cons, List.map_cons, h4]⟩
theorem law_d {w : World} {h₀ : Heap} {mg mb : Str → Option Value} {mean : ExcName → Option Value} {l : Addr} {vs : List Value} {ns : List Int} (G : Given w h₀ mg mb mean l vs ns)
   {L fa : Addr} {cd : Value} {s : Shared} {Q : Flow → Shared → Prop} (h1 : 0 < s.toks) {m : Loc} {D R E Tb : Addr} {r : Int} {tr : Tok} {el : List EL} {n : Nat} {base : Led} (hkn : (el.map EL.key).Nodup) (hl : el.length ≤ 14) (hin : ∀ p ∈ eTups el, p ∈ base) (lo : (Tb == sysModules) = false)
   (F : Fr h₀ L s.heap m) (hm : Has m [(Str.ofString "cells", .ref D), (Str.ofString "rules", .ref R), (Str.ofString "pool", .ref E), (Str.ofString "table", .ref Tb), (Str.ofString "rest", .int r tr)])
   (N : News h₀ L s.heap ((Tb, sdict w [] 0) :: (E, PySem.W.listOf (eRefs el).toArray n) :: base)) {o1 o2 : Obj} (hnd : (((Tb, o1) :: (E, o2) :: base).map (·.1)).Nodup)
   (next : ∀ h tk m' K nK nT (done : List EL) (ksl : List (Str × Tok)), done.Perm el → ksl.map (·.1) = done.map EL.key → Fr h₀ L h m' → Has m' [(Str.ofString "cells", .ref D), (Str.ofString "rules", .ref R), (Str.ofString "table", .ref Tb), (Str.ofString "keys", .ref K)] →
      News h₀ L h ((K, PySem.W.listOf (strValues ksl).toArray nK) :: (Tb, sdict w (done.map EL.ent) nT) :: base) → (((K, PySem.W.listOf (strValues ksl).toArray nK) :: (Tb, sdict w (done.map EL.ent) nT) :: base).map (·.1)).Nodup → 0 < tk →
      wpAny (model P02 w) (callerA.deeper (lawEnv L fa cd)) (execs ((fnBody lawDef).drop 6) (lawEnv L fa cd)) Q (fun _ _ => False) { s with heap := h, toks := tk }) :
   wpAny (model P02 w) (callerA.deeper (lawEnv L fa cd)) (execs ((fnBody lawDef).drop 4) (lawEnv L fa cd)) Q (fun _ _ => False) s := by
  obtain ⟨heap, gens, drawn, toks, os⟩ := s
  dsimp only at h1 F N next ⊢
  obtain ⟨KX, T, K0, hL, hI, lay, len⟩ := G
  have hs : TB 1 toks := h1
  rw [hm.eq] at F
  revert next
  unfold lawEnv
  walk_at "lit"
  intro next
  walk_at "ks"
  k_fold
  (rename TB _ _ => hTB0)
  refine While_own (Jpool w D R E Tb el base) (n₀ := el.length) F N ⟨[], el, 0, n, r, tr, rfl, List.Perm.refl _, ⟨rfl, rfl, rfl, rfl, rfl, trivial⟩, rfl, hTB0⟩ ?_ ?_
  · rintro k m₁ nx h₁ tk₁ F₁ N₁ ⟨done, rem, nT, nE, r', tr', rfl, hp, hm1, rfl, htk⟩
    rw [hm1.eq] at F₁
    change Fr h₀ L h₁ _ at F₁
    change News h₀ L h₁ _ at N₁
    walk_at "ks"
    (rename Fr _ _ _ _ => F2)
    (rename News _ _ _ _ => N2)
    refine r_neNil (News.get N2 (by k_mem)) (News.get N2 (by k_mem)) (by k_units) ?_
    cases hrem : rem with
    | nil =>
      subst hrem
      simp only [eRefs, List.map_nil, List.isEmpty_nil, Bool.not_true]
      walk_at "ks"
      have hdp : done.Perm el := by rw [List.append_nil] at hp; exact hp
      have hdn : ((done.map EL.ent).map (·.1)).Nodup := by
        rw [List.map_map]
        exact (hdp.map EL.key).nodup_iff.mpr hkn
      refine kdl_N (kdl_dict (knd := strKind P02 w) (kvs := kvsOf (done.map EL.ent)) (ep := nT) lo) rfl F2 N2 (sdict_at (N2 _ (.tail _ (.head _))).1 hdn) ?_ ?_
      · have := hdp.length_eq
        rw [sizeLine_eq]; simp [kvsOf]; omega
      intro K nK h3 tk3 vs' F3 N3 lt3 hlen hvs
      obtain ⟨ksl, rfl, hksl⟩ := keys_vals done vs' (by rw [hlen]; simp [kvsOf]) (fun j v hj => by
        obtain ⟨k, x, h4, h5⟩ := hvs j v hj
        simp only [kvsOf, List.getElem?_map, Option.map_eq_some_iff] at h4
        obtain ⟨p, ⟨e, he, rfl⟩, h6⟩ := h4
        cases h6
        exact ⟨e, he, h5⟩)
      walk_at "kst"
      intro hTBe
      (rename Fr _ _ _ _ => F5)
      (rename News _ _ _ _ => N5)
      have hnd2 : (((Tb, o1) :: base).map (·.1)).Nodup := by
        have h7 : (((Tb, o1) :: base).map (·.1)).Sublist (((Tb, o1) :: (E, o2) :: base).map (·.1)) := .cons_cons _ (.cons _ (List.Sublist.refl _))
        exact h7.nodup hnd
      refine next _ _ _ K nK nT done ksl hdp hksl F5 ⟨rfl, rfl, rfl, rfl, trivial⟩ (news_sub N5 (by walk_at "sub")) (nd_new (o := PySem.W.listOf (strValues ksl).toArray nK) (l := (Tb, sdict w (done.map EL.ent) nT) :: base) hnd2 fun p hp => lt3 p ?_) hTBe
      rcases List.mem_cons.mp hp with rfl | hp
      · exact .tail _ (.head _)
      · exact .tail _ (.tail _ (.tail _ hp))
    | cons x rem' =>
      have hb : (!(eRefs rem).isEmpty) = true := by rw [hrem]; rfl
      rw [← hrem]
      walk_at "ksi"
      rw [if_pos hb]
      refine wpAny_mono (pool_t KX T K0 (show TB 1 tk₁ from htk) ?_ hp hkn hl hin (by rw [hrem]; simp) F2 (news_tail N2) hnd) (fun _ _ h => h) (fun _ _ h => h.elim)
      exact ⟨_, _, rfl⟩
  · passes_own
end Mine

open PySem PySem.W PySem.Calls PyProof.Rows PyProof.V PySem.Spec
set_option Elab.async false
set_option maxRecDepth 100000
set_option maxHeartbeats 8000000
set_option linter.unusedVariables false
namespace Mine
local macro_rules | `(tactic| walk_at "lit") => `(tactic| dsimp only [bodyAt, lawDef, forBody, fnBody, fnScope, PySem.Challenge.pw_kn0103_02, List.getD, List.getElem?_cons_succ, List.getElem?_cons_zero, Option.getD, List.drop])
local macro_rules | `(tactic| walk_at "ks1") => `(tactic| (first | (k_unfold; (try dsimp only)) | (k_end; wrow_close) | walk1 | (dsimp only; walk1) | (leave1; walk_say "STEP leave1"; try dsimp only) | fail "no step"))
local macro_rules | `(tactic| walk_at "ks") => `(tactic| repeat' ((fail_if_success (with_reducible show wpAny _ _ (exec (Stmt.For _ _ _ _ _) _) _ _ _)); (fail_if_success (with_reducible show wpAny _ _ (exec (Stmt.While _ _ _ _) _) _ _ _)); (fail_if_success (with_reducible show wpAny _ _ (pyIter _) (fun it s₂ => OwnAt _ _ _ _ _ _ _ _ it s₂) _ _)); (fail_if_success (with_reducible show wpAny _ _ (eval (PySem.Expr.Dict [] [] _) _) _ _ _)); (fail_if_success (with_reducible show TurnPost _ _ _ _ _ _ _ _ _)); walk_at "ks1"))
local macro_rules | `(tactic| walk_at "kst") => `(tactic| repeat' ((fail_if_success (with_reducible show TB _ _ → _)); walk_at "ks1"))
local macro_rules | `(tactic| walk_at "execs cons") => `(tactic| (k_here; (rename TB _ _ => hTBo); refine execs_tb (TB.mono hTBo (Nat.le_refl _) (by (try dsimp only); omega)) ?_; clear hTBo; intro tk hTB; (try dsimp only)))
local macro_rules | `(tactic| walk_at "sub") => `(tactic| first | exact List.forall_mem_nil _ | (refine List.forall_mem_cons.mpr ⟨by k_mem, ?_⟩; walk_at "sub") | (intro p hp; repeat' (first | exact hp | refine List.mem_cons_of_mem _ ?_)))
local macro_rules | `(tactic| walk_at "execs nil") => `(tactic| (refine wpAny_execs_nil ?_; (try dsimp only)))
local macro_rules | `(tactic| walk_at "ks0") => `(tactic| repeat' ((fail_if_success (with_reducible show wpAny _ _ (eval (PySem.Expr.BinOp _ _ _ _) _) _ _ _)); walk_at "ks1"))
local macro_rules | `(tactic| walk_at "ksc") => `(tactic| repeat' ((fail_if_success (with_reducible show LCg.CompSrc _ _ _ _ _ _ _ _ _ _ _ _ _ _)); walk_at "ks1"))
theorem fill8 : PySem.Challenge.rw_kn0103_02 = PySem.Challenge.rw_kn0103_02 ∧ hd2.heap_39 = hd2.heap_39 := by
  w_top off
  k_fill
  exact ⟨rfl, rfl⟩
abbrev shownEnv (L fa : Addr) (cd : Value) : Env := envOfC (Str.ofString "_law_shown") (fnScope shownDef) L fa cd
local macro_rules | `(tactic| walk_at "lit2") => `(tactic| dsimp only [shownDef, bodyAt, lawDef, forBody, fnBody, fnScope, PySem.Challenge.pw_kn0103_02, List.getD, List.getElem?_cons_succ, List.getElem?_cons_zero, Option.getD, List.drop])
/-- a comprehension whose turns make nothing new -/
theorem comp_all {prog : Program} {w : World} {A : Around} {h₀ : Heap} {L : Addr} {m : Loc} {env : Env} {elt : Expr} {x : Str} {scope : Scope} {cl : List (Str × Addr)} {s : Shared} {S : Led → Prop} {P : Nat → Value → Prop} {Fin : List Value → Led → Prop} {n : Nat} {news : Led} (T : Nat → Value → Prop) (hS : S news)
    (turn : ∀ i v I oI C oC D oD m₂ h tk (Q : Value → Shared → Prop) (E : Value → Shared → Prop), i < n → P i v → LCg.NsObj oC m₂ → m₂ x = some v → Fr h₀ L h m → News h₀ L h ((I, oI) :: (C, oC) :: (D, oD) :: news) →
      (∀ y h' tk', T i y → Fr h₀ L h' m → News h₀ L h' ((I, oI) :: (C, oC) :: (D, oD) :: news) → Q y { s with heap := h', toks := tk' }) →
      wpAny (model prog w) A (eval elt (compEnvC scope cl C env)) Q E { s with heap := h, toks := tk })
    (fin : ∀ ys : List Value, ys.length = n → (∀ j y, ys[j]? = some y → T j y) → Fin ys news) : LCg.CompRest prog w A h₀ L m env elt x scope cl s S P Fin n 0 [] news := by
  have key : ∀ (k i : Nat) (ys : List Value), i + k = n → ys.length = i → (∀ j y, ys[j]? = some y → T j y) → LCg.CompRest prog w A h₀ L m env elt x scope cl s S P Fin k i ys news := by
    intro k
    induction k with
    | zero =>
      intro i ys h1 h2 h3
      exact LCg.CompRest.zero (fin ys (by omega) h3)
    | succ k ih =>
      intro i ys h1 h2 h3
      refine LCg.CompRest.succ ?_
      intro v I oI C oC D m₂ h tk E' hv hC hx F N off ne
      refine turn i v I oI C oC D _ m₂ h tk _ E' (by omega) hv hC hx F N ?_
      intro y h' tk' hy F' N'
      refine ⟨h', tk', news, rfl, F', N', off, hS, ?_⟩
      refine ih (i + 1) (ys ++ [y]) (by omega) (by simp [h2]) ?_
      intro j z hz
      rcases Nat.lt_or_ge j ys.length with hj | hj
      · rw [List.getElem?_append_left hj] at hz
        exact h3 j z hz
      · rw [List.getElem?_append_right hj] at hz
        cases hjj : j - ys.length with
        | zero =>
          rw [hjj] at hz
          simp at hz
          subst hz
          have : j = i := by omega
          rw [this]; exact hy
        | succ q =>
          rw [hjj] at hz
          simp at hz
  exact key n 0 [] (by omega) rfl (fun j y h => by simp at h)
end Mine

open PySem PySem.W PySem.Calls PyProof.Rows PyProof.V PySem.Spec
set_option Elab.async false
set_option maxRecDepth 100000
set_option maxHeartbeats 8000000
set_option linter.unusedVariables false
namespace Mine
local macro_rules | `(tactic| walk_at "lit") => `(tactic| dsimp only [bodyAt, lawDef, forBody, fnBody, fnScope, PySem.Challenge.pw_kn0103_02, List.getD, List.getElem?_cons_succ, List.getElem?_cons_zero, Option.getD, List.drop])
local macro_rules | `(tactic| walk_at "ks1") => `(tactic| (first | (k_unfold; (try dsimp only)) | (k_end; wrow_close) | walk1 | (dsimp only; walk1) | (leave1; walk_say "STEP leave1"; try dsimp only) | fail "no step"))
local macro_rules | `(tactic| walk_at "ks") => `(tactic| repeat' ((fail_if_success (with_reducible show wpAny _ _ (exec (Stmt.For _ _ _ _ _) _) _ _ _)); (fail_if_success (with_reducible show wpAny _ _ (exec (Stmt.While _ _ _ _) _) _ _ _)); (fail_if_success (with_reducible show wpAny _ _ (pyIter _) (fun it s₂ => OwnAt _ _ _ _ _ _ _ _ it s₂) _ _)); (fail_if_success (with_reducible show wpAny _ _ (eval (PySem.Expr.Dict [] [] _) _) _ _ _)); (fail_if_success (with_reducible show TurnPost _ _ _ _ _ _ _ _ _)); walk_at "ks1"))
local macro_rules | `(tactic| walk_at "kst") => `(tactic| repeat' ((fail_if_success (with_reducible show TB _ _ → _)); walk_at "ks1"))
local macro_rules | `(tactic| walk_at "execs cons") => `(tactic| (k_here; (rename TB _ _ => hTBo); refine execs_tb (TB.mono hTBo (Nat.le_refl _) (by (try dsimp only); omega)) ?_; clear hTBo; intro tk hTB; (try dsimp only)))
local macro_rules | `(tactic| walk_at "sub") => `(tactic| first | exact List.forall_mem_nil _ | (refine List.forall_mem_cons.mpr ⟨by k_mem, ?_⟩; walk_at "sub") | (intro p hp; repeat' (first | exact hp | refine List.mem_cons_of_mem _ ?_)))
local macro_rules | `(tactic| walk_at "execs nil") => `(tactic| (refine wpAny_execs_nil ?_; (try dsimp only)))
local macro_rules | `(tactic| walk_at "ks0") => `(tactic| repeat' ((fail_if_success (with_reducible show wpAny _ _ (eval (PySem.Expr.BinOp _ _ _ _) _) _ _ _)); walk_at "ks1"))
local macro_rules | `(tactic| walk_at "ksc") => `(tactic| repeat' ((fail_if_success (with_reducible show LCg.CompSrc _ _ _ _ _ _ _ _ _ _ _ _ _ _)); walk_at "ks1"))
local macro_rules | `(tactic| walk_at "kslc") => `(tactic| repeat' ((fail_if_success (with_reducible show wpAny _ _ (exec (Stmt.Assign _ (PySem.Expr.ListComp _ _ _ _) _) _) _ _ _)); walk_at "ks1"))
local macro_rules | `(tactic| walk_at "ksc") => `(tactic| repeat' ((fail_if_success (with_reducible show LCg.CompSrc _ _ _ _ _ _ _ _ _ _ _ _ _ _)); walk_at "ks1"))
theorem fill9 : PySem.Challenge.rw_kn0103_02 = PySem.Challenge.rw_kn0103_02 ∧ hd2.heap_39 = hd2.heap_39 := by
  w_top off
  k_fill
  exact ⟨rfl, rfl⟩
local macro_rules | `(tactic| walk_at "lit2") => `(tactic| dsimp only [shownDef, bodyAt, lawDef, forBody, fnBody, fnScope, PySem.Challenge.pw_kn0103_02, List.getD, List.getElem?_cons_succ, List.getElem?_cons_zero, Option.getD, List.drop])
theorem strs_of : ∀ ys : List Value, (∀ (j : Nat) (y : Value), ys[j]? = some y → ∃ b t, (b = 48 ∨ b = 49) ∧ y = Value.str ⟨#[b]⟩ t) → ∃ tl : List (Nat × Tok), (∀ p ∈ tl, p.1 = 48 ∨ p.1 = 49) ∧ ys = tl.map fun p => Value.str ⟨#[p.1]⟩ p.2
  | [], _ => ⟨[], fun _ h => (nomatch h), rfl⟩
  | y :: ys, h => by
    obtain ⟨b, t, hb, rfl⟩ := h 0 y rfl
    obtain ⟨tl, h1, h2⟩ := strs_of ys fun j z hz => h (j + 1) z hz
    refine ⟨(b, t) :: tl, ?_, by rw [h2]; rfl⟩
    intro p hp
    rcases List.mem_cons.mp hp with rfl | hp
    · exact hb
    · exact h1 p hp
def tVals (tl : List (Nat × Tok)) : List Value := tl.map fun p => .str ⟨#[p.1]⟩ p.2
theorem off1_all {D : Addr} : ∀ {l : Led}, LCg.Off1 D l → ∀ p ∈ l, p.1 ≠ D
  | [], _, _, h => nomatch h
  | q :: r, h, p, hp => by
    rcases List.mem_cons.mp hp with rfl | hp
    · exact h.1
    · exact off1_all h.2 p hp
theorem shown_a {w : World} {g base : Heap} {mg mb : Str → Option Value} {mean : ExcName → Option Value} {A₀ : Around} {e₁ : Env}
   (KX : (hd2.heap_39 w.params).In g) (T0 : Top hd2.view_39 (looseW hd2.view_39 []) mean mg mb g) (B : Below A₀ base [e₁] g)
   {L fa : Addr} {cd : Value} {s : Shared} {Q : Flow → Shared → Prop} (hTB : TB 0 s.toks) {m : Loc} {R K : Addr} {o : Obj} {cell : Int} {tc t6 : Tok} {nK : Nat} {ksl : List (Str × Tok)} {rest : Led} (hk : ksl.length ≤ 14)
   (F : Fr g L s.heap m) (hm : Has m [(Str.ofString "rules", .ref R), (Str.ofString "keys", .ref K), (Str.ofString "calls", .int 6 t6)]) (ho : o.data = Data.cell (some (.int cell tc)))
   (N : News g L s.heap ((L + 1, o) :: (K, PySem.W.listOf (strValues ksl).toArray nK) :: rest)) {oK : Obj} (hnd : (((K, oK) :: rest).map (·.1)).Nodup)
   (next : ∀ h tk m' Tp Sh tl nT (hd st : Nat) t1 t2 t3, tl.length = 6 → (∀ p ∈ tl, p.1 = 48 ∨ p.1 = 49) → hd ≤ 6 → (st = 80 ∨ st = 81) → Fr g L h m' →
      Has m' [(Str.ofString "rules", .ref R), (Str.ofString "keys", .ref K), (Str.ofString "calls", .int 6 t6), (Str.ofString "tape", .ref Tp), (Str.ofString "head", .int (hd : Int) t1), (Str.ofString "state", .str ⟨#[st]⟩ t2), (Str.ofString "shown", .ref Sh), (Str.ofString "last", .int (ksl.length : Int) t3)] →
      News g L h ((Tp, PySem.W.listOf (tVals tl).toArray nT) :: (Sh, PySem.W.listOf #[] 0) :: (K, PySem.W.listOf (strValues ksl).toArray nK) :: rest) →
      (((Tp, PySem.W.listOf (tVals tl).toArray nT) :: (Sh, PySem.W.listOf #[] 0) :: (K, PySem.W.listOf (strValues ksl).toArray nK) :: rest).map (·.1)).Nodup → TB 0 tk →
      wpAny (model P02 w) ((callerA.deeper e₁).deeper (shownEnv L fa cd)) (execs ((fnBody shownDef).drop 3) (shownEnv L fa cd)) Q (fun _ _ => False) { s with heap := h, toks := tk }) :
   wpAny (model P02 w) ((callerA.deeper e₁).deeper (shownEnv L fa cd)) (execs (fnBody shownDef) (shownEnv L fa cd)) Q (fun _ _ => False) s := by
  obtain ⟨heap, gens, drawn, toks, os⟩ := s
  dsimp only at hTB F N next ⊢
  have hks : (strValues ksl).length = ksl.length := sv_length ksl
  have hks2 : (strValues ksl).toArray.size = ksl.length := by rw [List.size_toArray]; exact hks
  rw [hm.eq] at F
  revert next
  unfold shownEnv
  walk_at "lit2"
  intro next
  walk_at "kslc"
  refine LCg.Assign_ListComp_U (F₀ := F) (by rfl) (by with_unfolding_all rfl) (by with_unfolding_all rfl) (by decide) (by rfl) (by decide) (by rfl) (by rfl) (by rfl) ?_
  walk_at "ksc"
  (rename (IsRange _ _ _ _ _ _ _ _) => hR)
  (rename Fr _ _ _ _ => F1)
  (rename News _ _ _ _ => N1)
  refine LCg.CompSrc.range (n := 6) rfl F1 N1 hR (by decide) (by first | rfl | decide) (by rw [sizeLine_eq]; decide) ?_
  intro g1
  refine comp_all (fun i v => ∃ b t, (b = 48 ∨ b = 49) ∧ v = .str ⟨#[b]⟩ t) trivial ?_ ?_
  · rintro i v I oI C oC D' oD m₂ h tk Q' E' hi ⟨t, rfl⟩ hC hx F2 N2 k
    obtain ⟨kk, hk0, hk6, e⟩ : ∃ kk : Int, 0 ≤ kk ∧ kk < 6 ∧ 0 + (i : Int) = kk := ⟨_, by omega, by omega, rfl⟩
    rw [e] at hx
    walk_at "ks"
    refine k _ _ _ ⟨_, _, ?_, by rw [item01]⟩ (by assumption) (by assumption)
    rcases mod_two (cell.fdiv (2 ^ kk.toNat)) with e | e <;> rw [e] <;> simp
  · intro ys hl hy
    unfold LCg.FinA
    intro Tp h6 tk6 F6 N6 off6
    obtain ⟨tl, htl, rfl⟩ := strs_of ys hy
    walk_at "kst"
    intro _
    walk_at "kst"
    intro _
    rw [itemPQ] at *
    walk_at "kst"
    intro hTBe
    (rename Fr _ _ _ _ => F7)
    (rename News _ _ _ _ => N7)
    (rename _ < _ ∧ _ < _ ∧ _ < _ ∧ _ < _ ∧ AllLt _ _ => lt7)
    have hmod : (cell.fdiv 64).fmod 7 = (((cell.fdiv 64) % 7).toNat : Int) := by
      rw [Int.fmod_eq_emod_of_nonneg _ (by decide)]
      omega
    rw [hmod] at F7
    have hlt7 := allLt_all (l := (K, PySem.W.listOf (strValues ksl).toArray nK) :: rest) ⟨lt7.2.2.2.1, lt7.2.2.2.2⟩
    have hT := off1_all off6
    refine next _ _ _ Tp _ tl (tVals tl).length ((cell.fdiv 64) % 7).toNat (80 + ((cell.fdiv 448).fmod 2).toNat) _ _ _ (by simpa using hl) htl (by omega) ?_ F7 ⟨rfl, rfl, rfl, rfl, rfl, rfl, rfl, rfl, trivial⟩ (news_sub N7 (by walk_at "sub")) ?_ hTBe
    · rcases mod_two (cell.fdiv 448) with e | e <;> rw [e] <;> simp
    · refine nd_cons (oI := PySem.W.listOf (tVals tl).toArray (tVals tl).length) (nd_new (o := PySem.W.listOf #[] 0) (l := (K, PySem.W.listOf (strValues ksl).toArray nK) :: rest) hnd hlt7) ?_
      intro p hp
      rcases List.mem_cons.mp hp with rfl | hp
      · exact Nat.ne_of_gt lt7.2.1
      · exact hT p (.tail _ hp)
end Mine

open PySem PySem.W PySem.Calls PyProof.Rows PyProof.V PySem.Spec
set_option Elab.async false
set_option linter.unusedVariables false
namespace Mine
/-- a tape alone: its places, where the machine is, its state -/
structure Cfg where
  tape : List Nat
  head : Nat
  st : Nat
def cur (c : Cfg) : Nat := if c.head < c.tape.length then c.tape.getD c.head 0 else 124
def prv (c : Cfg) : Nat := if 0 < c.head then c.tape.getD (c.head - 1) 0 else 124
def rul (rl : List RL) (s c : Nat) : Option RL := rl.find? fun r => r.key == two s c
def kkey (rl : List RL) (c : Cfg) : Str :=
  match rul rl c.st (cur c) with
  | some r => if r.left = 1 then three (prv c) c.st (cur c) else two c.st (cur c)
  | none => two c.st (cur c)
def entry (rl : List RL) (keys : List Str) (c : Cfg) : Int := if kkey rl c ∈ keys then (keys.idxOf (kkey rl c) : Nat) else -1
def moved (c : Cfg) (r : RL) : Cfg :=
  if r.left = 0 then { tape := c.tape.set c.head r.l, head := c.head + 1, st := r.n }
  else if 0 < c.head then { tape := c.tape.set c.head r.l, head := c.head - 1, st := r.n }
  else { tape := 48 :: c.tape.set c.head r.l, head := 0, st := r.n }
def stp (rl : List RL) (c : Cfg) : Cfg :=
  if c.head < c.tape.length then
    match rul rl c.st (cur c) with
    | some r => moved c r
    | none => c
  else { c with tape := c.tape ++ [48] }
def txt (c : Cfg) : List Nat := 124 :: (c.tape.take c.head ++ c.st :: (c.tape.drop c.head ++ [124]))
structure LS where
  c : Cfg
  shown : List (List Nat)
  last : Int
def iter (rl : List RL) (keys : List Str) (x : LS) : LS :=
  if entry rl keys x.c ≤ x.last then { c := x.c, shown := x.shown ++ [txt x.c], last := -1 }
  else { c := stp rl x.c, shown := x.shown, last := entry rl keys x.c }
def iters (rl : List RL) (keys : List Str) (x : LS) : Nat → LS
  | 0 => x
  | k + 1 => iter rl keys (iters rl keys x k)
structure CfgOk (c : Cfg) : Prop where
  head : c.head ≤ c.tape.length
  tape : ∀ x ∈ c.tape, x = 48 ∨ x = 49
  st : c.st = 80 ∨ c.st = 81
theorem moved_ok {c : Cfg} {r : RL} {tk : Nat} (h : CfgOk c) (hr : r.Ok tk) (hl : c.head < c.tape.length) : CfgOk (moved c r) := by
  have ht : ∀ x ∈ c.tape.set c.head r.l, x = 48 ∨ x = 49 := fun x hx => by
    rcases List.mem_or_eq_of_mem_set hx with hx | rfl
    · exact h.tape x hx
    · exact hr.hl
  unfold moved
  split
  · exact ⟨by simp; omega, ht, hr.hn⟩
  · split
    · exact ⟨by simp; omega, ht, hr.hn⟩
    · refine ⟨by simp, ?_, hr.hn⟩
      intro x hx
      rcases List.mem_cons.mp hx with rfl | hx
      · exact .inl rfl
      · exact ht x hx
theorem stp_ok {rl : List RL} {c : Cfg} {tk : Nat} (h : CfgOk c) (hr : ∀ r ∈ rl, RL.Ok r tk) : CfgOk (stp rl c) := by
  unfold stp
  by_cases hl : c.head < c.tape.length
  · rw [if_pos hl]
    split
    · rename_i r e
      exact moved_ok h (hr r (List.mem_of_find?_eq_some e)) hl
    · exact h
  · rw [if_neg hl]
    refine ⟨by have := h.head; simp; omega, ?_, h.st⟩
    intro x hx
    rcases List.mem_append.mp hx with hx | hx
    · exact h.tape x hx
    · rw [List.mem_singleton.mp hx]; exact .inl rfl
theorem stp_len (rl : List RL) (c : Cfg) : (stp rl c).tape.length ≤ c.tape.length + 1 := by
  unfold stp moved
  split
  · split
    · split
      · simp
      · split <;> simp
    · omega
  · simp
end Mine

open PySem PySem.W PySem.Calls PyProof.Rows PyProof.V PySem.Spec
set_option Elab.async false
set_option maxRecDepth 100000
set_option maxHeartbeats 8000000
set_option linter.unusedVariables false
namespace Mine
local macro_rules | `(tactic| walk_at "lit") => `(tactic| dsimp only [bodyAt, lawDef, forBody, fnBody, fnScope, PySem.Challenge.pw_kn0103_02, List.getD, List.getElem?_cons_succ, List.getElem?_cons_zero, Option.getD, List.drop])
local macro_rules | `(tactic| walk_at "ks1") => `(tactic| (first | (k_unfold; (try dsimp only)) | (k_end; wrow_close) | walk1 | (dsimp only; walk1) | (leave1; walk_say "STEP leave1"; try dsimp only) | fail "no step"))
local macro_rules | `(tactic| walk_at "ks") => `(tactic| repeat' ((fail_if_success (with_reducible show wpAny _ _ (exec (Stmt.For _ _ _ _ _) _) _ _ _)); (fail_if_success (with_reducible show wpAny _ _ (exec (Stmt.While _ _ _ _) _) _ _ _)); (fail_if_success (with_reducible show wpAny _ _ (pyIter _) (fun it s₂ => OwnAt _ _ _ _ _ _ _ _ it s₂) _ _)); (fail_if_success (with_reducible show wpAny _ _ (eval (PySem.Expr.Dict [] [] _) _) _ _ _)); (fail_if_success (with_reducible show TurnPost _ _ _ _ _ _ _ _ _)); walk_at "ks1"))
local macro_rules | `(tactic| walk_at "kst") => `(tactic| repeat' ((fail_if_success (with_reducible show TB _ _ → _)); walk_at "ks1"))
local macro_rules | `(tactic| walk_at "execs cons") => `(tactic| (k_here; (rename TB _ _ => hTBo); refine execs_tb (TB.mono hTBo (Nat.le_refl _) (by (try dsimp only); omega)) ?_; clear hTBo; intro tk hTB; (try dsimp only)))
local macro_rules | `(tactic| walk_at "sub") => `(tactic| first | exact List.forall_mem_nil _ | (refine List.forall_mem_cons.mpr ⟨by k_mem, ?_⟩; walk_at "sub") | (intro p hp; repeat' (first | exact hp | refine List.mem_cons_of_mem _ ?_)))
local macro_rules | `(tactic| walk_at "execs nil") => `(tactic| (refine wpAny_execs_nil ?_; (try dsimp only)))
local macro_rules | `(tactic| walk_at "ks0") => `(tactic| repeat' ((fail_if_success (with_reducible show wpAny _ _ (eval (PySem.Expr.BinOp _ _ _ _) _) _ _ _)); walk_at "ks1"))
local macro_rules | `(tactic| walk_at "ksc") => `(tactic| repeat' ((fail_if_success (with_reducible show LCg.CompSrc _ _ _ _ _ _ _ _ _ _ _ _ _ _)); walk_at "ks1"))
local macro_rules | `(tactic| walk_at "kslc") => `(tactic| repeat' ((fail_if_success (with_reducible show wpAny _ _ (exec (Stmt.Assign _ (PySem.Expr.ListComp _ _ _ _) _) _) _ _ _)); walk_at "ks1"))
local macro_rules | `(tactic| walk_at "ksc") => `(tactic| repeat' ((fail_if_success (with_reducible show LCg.CompSrc _ _ _ _ _ _ _ _ _ _ _ _ _ _)); walk_at "ks1"))
theorem fillA : PySem.Challenge.rw_kn0103_02 = PySem.Challenge.rw_kn0103_02 ∧ hd2.heap_39 = hd2.heap_39 := by
  w_top off
  k_fill
  exact ⟨rfl, rfl⟩
def shownBody : List Stmt := whileBody ((fnBody shownDef).getD 3 (.Pass default))
def HL (R K Tp Sh : Addr) (t6 : Tok) (hd st : Nat) (last : Int) (t1 t2 t3 : Tok) : List (Str × Value) :=
  [(Str.ofString "rules", .ref R), (Str.ofString "keys", .ref K), (Str.ofString "calls", .int 6 t6), (Str.ofString "tape", .ref Tp), (Str.ofString "head", .int (hd : Int) t1), (Str.ofString "state", .str ⟨#[st]⟩ t2), (Str.ofString "shown", .ref Sh), (Str.ofString "last", .int last t3)]
local macro_rules | `(tactic| walk_at "lit2") => `(tactic| dsimp only [shownBody, whileBody, shownDef, bodyAt, lawDef, forBody, fnBody, fnScope, PySem.Challenge.pw_kn0103_02, List.getD, List.getElem?_cons_succ, List.getElem?_cons_zero, Option.getD, List.drop])
theorem tv_len (tl : List (Nat × Tok)) : (tVals tl).length = tl.length := by unfold tVals; rw [List.length_map]
theorem tv_get {tl : List (Nat × Tok)} {i : Nat} (h : i < tl.length) : ∃ t, (tVals tl)[i]? = some (.str ⟨#[(tl.map (·.1)).getD i 0]⟩ t) := ⟨tl[i].2, by simp [tVals, h, List.getD]⟩
theorem sh_1 {w : World} {g base : Heap} {mg mb : Str → Option Value} {mean : ExcName → Option Value} {A₀ : Around} {e₁ : Env}
   (KX : (hd2.heap_39 w.params).In g) (T0 : Top hd2.view_39 (looseW hd2.view_39 []) mean mg mb g) (B : Below A₀ base [e₁] g)
   {L fa : Addr} {cd : Value} {s : Shared} {Q : Flow → Shared → Prop} (hTB : TB 0 s.toks) {m : Loc} {R K Tp Sh : Addr} {t6 t1 t2 t3 : Tok} {hd st nT : Nat} {last : Int} {tl : List (Nat × Tok)} {rest : Led} (hh : hd ≤ tl.length) (hl : tl.length ≤ 300)
   (F : Fr g L s.heap m) (hm : Has m (HL R K Tp Sh t6 hd st last t1 t2 t3)) (N : News g L s.heap ((Tp, PySem.W.listOf (tVals tl).toArray nT) :: rest))
   (next : ∀ h tk m' t, Fr g L h m' → Has m' ((Str.ofString "sign", .str (two st (cur ⟨tl.map (·.1), hd, st⟩)) t) :: HL R K Tp Sh t6 hd st last t1 t2 t3) → News g L h ((Tp, PySem.W.listOf (tVals tl).toArray nT) :: rest) → TB 0 tk →
      wpAny (model P02 w) ((callerA.deeper e₁).deeper (shownEnv L fa cd)) (execs (shownBody.drop 1) (shownEnv L fa cd)) Q (fun _ _ => False) { s with heap := h, toks := tk }) :
   wpAny (model P02 w) ((callerA.deeper e₁).deeper (shownEnv L fa cd)) (execs shownBody (shownEnv L fa cd)) Q (fun _ _ => False) s := by
  obtain ⟨heap, gens, drawn, toks, os⟩ := s
  dsimp only at hTB F N next ⊢
  have hs1 : (tVals tl).length = tl.length := tv_len tl
  have hs2 : (tVals tl).toArray.size = tl.length := by rw [List.size_toArray]; exact hs1
  rw [hm.eq] at F
  unfold HL at F next
  revert next
  unfold shownEnv
  walk_at "lit2"
  intro next
  walk_at "kst"
  · (rename (hd : Int) < _ => hlt)
    have hlt' : hd < tl.length := by omega
    obtain ⟨tg, eg⟩ := tv_get hlt'
    refine r_item hd (News.get N (.head _)) eg (by omega) ?_
    walk_at "kst"
    intro hTB2
    (rename Fr _ _ _ _ => F2)
    (rename News _ _ _ _ => N2)
    rw [app11] at F2
    have ec : cur ⟨tl.map (·.1), hd, st⟩ = (tl.map (·.1)).getD hd 0 := by unfold cur; rw [if_pos (by simpa using hlt')]
    rw [ec] at next
    exact next _ _ _ _ F2 ⟨rfl, rfl, rfl, rfl, rfl, rfl, rfl, rfl, rfl, trivial⟩ N2 hTB2
  · (rename ¬ (hd : Int) < _ => hlt)
    intro hTB2
    (rename Fr _ _ _ _ => F2)
    (rename News _ _ _ _ => N2)
    rw [lits.2.2, app11] at F2
    have ec : cur ⟨tl.map (·.1), hd, st⟩ = 124 := by
      unfold cur
      rw [if_neg]
      simp
      omega
    rw [ec] at next
    exact next _ _ _ _ F2 ⟨rfl, rfl, rfl, rfl, rfl, rfl, rfl, rfl, rfl, trivial⟩ N2 hTB2
end Mine

open PySem PySem.W PySem.Calls PyProof.Rows PyProof.V PySem.Spec
set_option Elab.async false
set_option maxRecDepth 100000
set_option maxHeartbeats 8000000
set_option linter.unusedVariables false
namespace Mine
local macro_rules | `(tactic| walk_at "lit") => `(tactic| dsimp only [bodyAt, lawDef, forBody, fnBody, fnScope, PySem.Challenge.pw_kn0103_02, List.getD, List.getElem?_cons_succ, List.getElem?_cons_zero, Option.getD, List.drop])
local macro_rules | `(tactic| walk_at "ks1") => `(tactic| (first | (k_unfold; (try dsimp only)) | (k_end; wrow_close) | walk1 | (dsimp only; walk1) | (leave1; walk_say "STEP leave1"; try dsimp only) | fail "no step"))
local macro_rules | `(tactic| walk_at "ks") => `(tactic| repeat' ((fail_if_success (with_reducible show wpAny _ _ (exec (Stmt.For _ _ _ _ _) _) _ _ _)); (fail_if_success (with_reducible show wpAny _ _ (exec (Stmt.While _ _ _ _) _) _ _ _)); (fail_if_success (with_reducible show wpAny _ _ (pyIter _) (fun it s₂ => OwnAt _ _ _ _ _ _ _ _ it s₂) _ _)); (fail_if_success (with_reducible show wpAny _ _ (eval (PySem.Expr.Dict [] [] _) _) _ _ _)); (fail_if_success (with_reducible show TurnPost _ _ _ _ _ _ _ _ _)); walk_at "ks1"))
local macro_rules | `(tactic| walk_at "kst") => `(tactic| repeat' ((fail_if_success (with_reducible show TB _ _ → _)); walk_at "ks1"))
local macro_rules | `(tactic| walk_at "execs cons") => `(tactic| (k_here; (rename TB _ _ => hTBo); refine execs_tb (TB.mono hTBo (Nat.le_refl _) (by (try dsimp only); omega)) ?_; clear hTBo; intro tk hTB; (try dsimp only)))
local macro_rules | `(tactic| walk_at "sub") => `(tactic| first | exact List.forall_mem_nil _ | (refine List.forall_mem_cons.mpr ⟨by k_mem, ?_⟩; walk_at "sub") | (intro p hp; repeat' (first | exact hp | refine List.mem_cons_of_mem _ ?_)))
local macro_rules | `(tactic| walk_at "execs nil") => `(tactic| (refine wpAny_execs_nil ?_; (try dsimp only)))
local macro_rules | `(tactic| walk_at "ks0") => `(tactic| repeat' ((fail_if_success (with_reducible show wpAny _ _ (eval (PySem.Expr.BinOp _ _ _ _) _) _ _ _)); walk_at "ks1"))
local macro_rules | `(tactic| walk_at "ksc") => `(tactic| repeat' ((fail_if_success (with_reducible show LCg.CompSrc _ _ _ _ _ _ _ _ _ _ _ _ _ _)); walk_at "ks1"))
local macro_rules | `(tactic| walk_at "kslc") => `(tactic| repeat' ((fail_if_success (with_reducible show wpAny _ _ (exec (Stmt.Assign _ (PySem.Expr.ListComp _ _ _ _) _) _) _ _ _)); walk_at "ks1"))
local macro_rules | `(tactic| walk_at "ksc") => `(tactic| repeat' ((fail_if_success (with_reducible show LCg.CompSrc _ _ _ _ _ _ _ _ _ _ _ _ _ _)); walk_at "ks1"))
theorem fillB : PySem.Challenge.rw_kn0103_02 = PySem.Challenge.rw_kn0103_02 ∧ hd2.heap_39 = hd2.heap_39 := by
  w_top off
  k_fill
  exact ⟨rfl, rfl⟩
local macro_rules | `(tactic| walk_at "lit2") => `(tactic| dsimp only [shownBody, whileBody, shownDef, bodyAt, lawDef, forBody, fnBody, fnScope, PySem.Challenge.pw_kn0103_02, List.getD, List.getElem?_cons_succ, List.getElem?_cons_zero, Option.getD, List.drop])
theorem rul_some {rl : List RL} (hks : (rl.map RL.key).Nodup) {s c : Nat} {r : RL} (h : rul rl s c = some r) : r ∈ rl ∧ r.key = two s c ∧ valueAt (kvsOf (rl.map RL.ent)) (two s c) = some (.ref r.adr) := by
  have h1 := List.mem_of_find?_eq_some h
  have h2 := List.find?_some h
  have h3 : r.key = two s c := by simpa using h2
  refine ⟨h1, h3, ?_⟩
  obtain ⟨i, hi, e⟩ := List.mem_iff_getElem.mp h1
  have hr : rl[i]? = some r := by rw [List.getElem?_eq_getElem hi, e]
  refine valueAt_of_get (i := i) ?_ ?_
  · have hnk : ((rl.map RL.ent).map (·.1)).Nodup := by rw [rl_keys]; exact hks
    simpa [kvsOf, List.map_map, Function.comp_def] using hnk
  · simp [kvsOf, hr]; exact ⟨h3, rfl⟩
theorem rul_none {rl : List RL} {s c : Nat} (h : rul rl s c = none) : two s c ∉ rl.map RL.key ∧ valueAt (kvsOf (rl.map RL.ent)) (two s c) = none := by
  have h1 : two s c ∉ rl.map RL.key := fun hm => by
    obtain ⟨r, hr, e⟩ := List.mem_map.mp hm
    have := List.find?_eq_none.mp h r hr
    simp [e] at this
  refine ⟨h1, valueAt_none_of_not_mem ?_⟩
  intro hm
  apply h1
  have e : (kvsOf (rl.map RL.ent)).map (·.1) = rl.map RL.key := by
    unfold kvsOf
    rw [List.map_map, List.map_map]; rfl
  rw [e] at hm
  exact hm
theorem sh_2 {w : World} {g base : Heap} {mg mb : Str → Option Value} {mean : ExcName → Option Value} {A₀ : Around} {e₁ : Env}
   (KX : (hd2.heap_39 w.params).In g) (T0 : Top hd2.view_39 (looseW hd2.view_39 []) mean mg mb g) (B : Below A₀ base [e₁] g)
   {L fa : Addr} {cd : Value} {s : Shared} {Q : Flow → Shared → Prop} (hTB : TB 0 s.toks) {m : Loc} {R K Tp Sh : Addr} {t6 t1 t2 t3 ts : Tok} {hd st nT nR : Nat} {last : Int} {tl : List (Nat × Tok)} {rest : Led} {rl : List RL} (hh : hd ≤ tl.length) (hl : tl.length ≤ 300)
   (hks : (rl.map RL.key).Nodup) (lo : (R == sysModules) = false) (hR : (R, rDict w rl nR) ∈ rest) (hRt : ∀ p ∈ rTups rl, p ∈ rest) {c : Cfg} (hc : c = ⟨tl.map (·.1), hd, st⟩)
   (F : Fr g L s.heap m) (hm : Has m ((Str.ofString "sign", .str (two st (cur c)) ts) :: HL R K Tp Sh t6 hd st last t1 t2 t3)) (N : News g L s.heap ((Tp, PySem.W.listOf (tVals tl).toArray nT) :: rest))
   (next : ∀ h tk m' t, Fr g L h m' → Has m' ((Str.ofString "sign", .str (kkey rl c) t) :: HL R K Tp Sh t6 hd st last t1 t2 t3) → News g L h ((Tp, PySem.W.listOf (tVals tl).toArray nT) :: rest) → TB 0 tk →
      wpAny (model P02 w) ((callerA.deeper e₁).deeper (shownEnv L fa cd)) (execs (shownBody.drop 2) (shownEnv L fa cd)) Q (fun _ _ => False) { s with heap := h, toks := tk }) :
   wpAny (model P02 w) ((callerA.deeper e₁).deeper (shownEnv L fa cd)) (execs (shownBody.drop 1) (shownEnv L fa cd)) Q (fun _ _ => False) s := by
  obtain ⟨heap, gens, drawn, toks, os⟩ := s
  dsimp only at hTB F N next ⊢
  have hs1 : (tVals tl).length = tl.length := tv_len tl
  have hs2 : (tVals tl).toArray.size = tl.length := by rw [List.size_toArray]; exact hs1
  have hnk : ((rl.map RL.ent).map (·.1)).Nodup := by rw [rl_keys]; exact hks
  rw [hm.eq] at F
  unfold HL at F next
  revert next
  unfold shownEnv
  walk_at "lit2"
  intro next
  walk_at "kst"
  cases hrul : rul rl st (cur c) with
  | none =>
    refine kda_in (knd := strKind P02 w) N (.tail _ hR) (sdict_is hnk) lo (strKind_is P02 w _ _) false (by rw [(rul_none hrul).2]; rfl) ?_
    walk_at "kst"
    intro hTB2
    have ek : kkey rl c = two st (cur c) := by unfold kkey; subst hc; rw [hrul]
    rw [ek] at next
    (rename Fr _ _ _ _ => F2)
    (rename News _ _ _ _ => N2)
    exact next _ _ _ _ F2 ⟨rfl, rfl, rfl, rfl, rfl, rfl, rfl, rfl, rfl, trivial⟩ N2 hTB2
  | some r =>
    obtain ⟨hr1, hr2, hr3⟩ := rul_some hks hrul
    refine kda_in (knd := strKind P02 w) N (.tail _ hR) (sdict_is hnk) lo (strKind_is P02 w _ _) true (by rw [hr3]; rfl) ?_
    walk_at "kst"
    refine kda_item (knd := strKind P02 w) N (.tail _ hR) (sdict_is hnk) (strKind_is P02 w _ _) hr3 ?_
    walk_at "kst"
    refine kim_tup (a := r.adr) (l := [.str ⟨#[r.l]⟩ r.lt, .int r.left r.it, .str ⟨#[r.n]⟩ r.nt]) (j := 1) (x := .int r.left r.it) N (.tail _ (hRt _ (List.mem_map.mpr ⟨r, hr1, rfl⟩))) rfl rfl (by decide) (by decide) (by rfl) rfl ?_
    walk_at "kst"
    · (rename 0 < (hd : Int) => hpos)
      (rename r.left = 1 => hleft)
      have ei : (hd : Int) - 1 = ((hd - 1 : Nat) : Int) := by omega
      have hlt' : hd - 1 < tl.length := by omega
      obtain ⟨tg, eg⟩ := tv_get hlt'
      rw [ei]
      refine r_item (hd - 1) (News.get N (.head _)) eg (by omega) ?_
      walk_at "kst"
      dsimp only
      intro hTB0
      refine wpAny_execs_nil ?_
      intro hTB2
      (rename Fr _ _ _ _ => F2)
      (rename News _ _ _ _ => N2)
      rw [app12] at F2
      have ek : kkey rl c = three ((tl.map (·.1)).getD (hd - 1) 0) st (cur c) := by
        unfold kkey prv
        subst hc
        rw [hrul]
        dsimp only
        rw [if_pos hleft, if_pos (by omega)]
      rw [ek] at next
      exact next _ _ _ _ F2 ⟨rfl, rfl, rfl, rfl, rfl, rfl, rfl, rfl, rfl, trivial⟩ N2 hTB2
    · (rename ¬ 0 < (hd : Int) => hpos)
      (rename r.left = 1 => hleft)
      dsimp only
      intro hTB0
      refine wpAny_execs_nil ?_
      intro hTB2
      (rename Fr _ _ _ _ => F2)
      (rename News _ _ _ _ => N2)
      rw [lits.2.2, app12] at F2
      have ek : kkey rl c = three 124 st (cur c) := by
        unfold kkey prv
        subst hc
        rw [hrul]
        dsimp only
        rw [if_pos hleft, if_neg (by omega)]
      rw [ek] at next
      exact next _ _ _ _ F2 ⟨rfl, rfl, rfl, rfl, rfl, rfl, rfl, rfl, rfl, trivial⟩ N2 hTB2
    · (rename r.left ≠ 1 => hleft)
      intro hTB2
      (rename Fr _ _ _ _ => F2)
      (rename News _ _ _ _ => N2)
      have ek : kkey rl c = two st (cur c) := by
        unfold kkey
        subst hc
        rw [hrul]
        dsimp only
        rw [if_neg hleft]
      rw [ek] at next
      exact next _ _ _ _ F2 ⟨rfl, rfl, rfl, rfl, rfl, rfl, rfl, rfl, rfl, trivial⟩ N2 hTB2
end Mine

open PySem PySem.W PySem.Calls PyProof.Rows PyProof.V PySem.Spec
set_option Elab.async false
set_option maxRecDepth 100000
set_option maxHeartbeats 8000000
set_option linter.unusedVariables false
namespace Mine
local macro_rules | `(tactic| walk_at "lit") => `(tactic| dsimp only [bodyAt, lawDef, forBody, fnBody, fnScope, PySem.Challenge.pw_kn0103_02, List.getD, List.getElem?_cons_succ, List.getElem?_cons_zero, Option.getD, List.drop])
local macro_rules | `(tactic| walk_at "ks1") => `(tactic| (first | (k_unfold; (try dsimp only)) | (k_end; wrow_close) | walk1 | (dsimp only; walk1) | (leave1; walk_say "STEP leave1"; try dsimp only) | fail "no step"))
local macro_rules | `(tactic| walk_at "ks") => `(tactic| repeat' ((fail_if_success (with_reducible show wpAny _ _ (exec (Stmt.For _ _ _ _ _) _) _ _ _)); (fail_if_success (with_reducible show wpAny _ _ (exec (Stmt.While _ _ _ _) _) _ _ _)); (fail_if_success (with_reducible show wpAny _ _ (pyIter _) (fun it s₂ => OwnAt _ _ _ _ _ _ _ _ it s₂) _ _)); (fail_if_success (with_reducible show wpAny _ _ (eval (PySem.Expr.Dict [] [] _) _) _ _ _)); (fail_if_success (with_reducible show TurnPost _ _ _ _ _ _ _ _ _)); walk_at "ks1"))
local macro_rules | `(tactic| walk_at "kst") => `(tactic| repeat' ((fail_if_success (with_reducible show TB _ _ → _)); walk_at "ks1"))
local macro_rules | `(tactic| walk_at "execs cons") => `(tactic| (k_here; (rename TB _ _ => hTBo); refine execs_tb (TB.mono hTBo (Nat.le_refl _) (by (try dsimp only); omega)) ?_; clear hTBo; intro tk hTB; (try dsimp only)))
local macro_rules | `(tactic| walk_at "sub") => `(tactic| first | exact List.forall_mem_nil _ | (refine List.forall_mem_cons.mpr ⟨by k_mem, ?_⟩; walk_at "sub") | (intro p hp; repeat' (first | exact hp | refine List.mem_cons_of_mem _ ?_)))
local macro_rules | `(tactic| walk_at "execs nil") => `(tactic| (refine wpAny_execs_nil ?_; (try dsimp only)))
local macro_rules | `(tactic| walk_at "ks0") => `(tactic| repeat' ((fail_if_success (with_reducible show wpAny _ _ (eval (PySem.Expr.BinOp _ _ _ _) _) _ _ _)); walk_at "ks1"))
local macro_rules | `(tactic| walk_at "ksc") => `(tactic| repeat' ((fail_if_success (with_reducible show LCg.CompSrc _ _ _ _ _ _ _ _ _ _ _ _ _ _)); walk_at "ks1"))
local macro_rules | `(tactic| walk_at "kslc") => `(tactic| repeat' ((fail_if_success (with_reducible show wpAny _ _ (exec (Stmt.Assign _ (PySem.Expr.ListComp _ _ _ _) _) _) _ _ _)); walk_at "ks1"))
local macro_rules | `(tactic| walk_at "ksc") => `(tactic| repeat' ((fail_if_success (with_reducible show LCg.CompSrc _ _ _ _ _ _ _ _ _ _ _ _ _ _)); walk_at "ks1"))
theorem fillC : PySem.Challenge.rw_kn0103_02 = PySem.Challenge.rw_kn0103_02 ∧ hd2.heap_39 = hd2.heap_39 := by
  w_top off
  k_fill
  exact ⟨rfl, rfl⟩
local macro_rules | `(tactic| walk_at "lit2") => `(tactic| dsimp only [shownBody, whileBody, shownDef, bodyAt, lawDef, forBody, fnBody, fnScope, PySem.Challenge.pw_kn0103_02, List.getD, List.getElem?_cons_succ, List.getElem?_cons_zero, Option.getD, List.drop])
theorem sh_3 {w : World} {g base : Heap} {mg mb : Str → Option Value} {mean : ExcName → Option Value} {A₀ : Around} {e₁ : Env}
   (KX : (hd2.heap_39 w.params).In g) (T0 : Top hd2.view_39 (looseW hd2.view_39 []) mean mg mb g) (B : Below A₀ base [e₁] g)
   {L fa : Addr} {cd : Value} {s : Shared} {Q : Flow → Shared → Prop} (hTB : TB 0 s.toks) {m : Loc} {R K Tp Sh : Addr} {t6 t1 t2 t3 ts : Tok} {hd st nK : Nat} {last : Int} {news : Led} {rl : List RL} {ksl : List (Str × Tok)} {c : Cfg} (hkl : ksl.length ≤ 14)
   (hK : (K, PySem.W.listOf (strValues ksl).toArray nK) ∈ news)
   (F : Fr g L s.heap m) (hm : Has m ((Str.ofString "sign", .str (kkey rl c) ts) :: HL R K Tp Sh t6 hd st last t1 t2 t3)) (N : News g L s.heap news)
   (next : ∀ h tk m' t, Fr g L h m' → Has m' ((Str.ofString "entry", .int (entry rl (ksl.map (·.1)) c) t) :: HL R K Tp Sh t6 hd st last t1 t2 t3) → News g L h news → TB 0 tk →
      wpAny (model P02 w) ((callerA.deeper e₁).deeper (shownEnv L fa cd)) (execs (shownBody.drop 3) (shownEnv L fa cd)) Q (fun _ _ => False) { s with heap := h, toks := tk }) :
   wpAny (model P02 w) ((callerA.deeper e₁).deeper (shownEnv L fa cd)) (execs (shownBody.drop 2) (shownEnv L fa cd)) Q (fun _ _ => False) s := by
  obtain ⟨heap, gens, drawn, toks, os⟩ := s
  dsimp only at hTB F N next ⊢
  rw [hm.eq] at F
  unfold HL at F next
  revert next
  unfold shownEnv
  walk_at "lit2"
  intro next
  walk_at "kst"
  refine r_inStrs (l := ksl) (News.get N hK) ?_
  unfold entry at next
  by_cases hk : kkey rl c ∈ ksl.map (·.1)
  · rw [decide_eq_true hk]
    walk_at "kst"
    refine r_index (l := ksl) (News.get N hK) hk (by omega) ?_
    walk_at "kst"
    intro hTB2
    (rename Fr _ _ _ _ => F2)
    (rename News _ _ _ _ => N2)
    rw [if_pos hk] at next
    exact next _ _ _ _ F2 ⟨rfl, rfl, rfl, rfl, rfl, rfl, rfl, rfl, rfl, trivial⟩ N2 hTB2
  · rw [decide_eq_false hk]
    walk_at "kst"
    intro hTB2
    (rename Fr _ _ _ _ => F2)
    (rename News _ _ _ _ => N2)
    rw [if_neg hk] at next
    exact next _ _ _ _ F2 ⟨rfl, rfl, rfl, rfl, rfl, rfl, rfl, rfl, rfl, trivial⟩ N2 hTB2
end Mine

open PySem PySem.W PySem.Calls PyProof.Rows PyProof.V PySem.Spec
set_option Elab.async false
set_option maxRecDepth 100000
set_option maxHeartbeats 8000000
set_option linter.unusedVariables false
namespace Mine
local macro_rules | `(tactic| walk_at "lit") => `(tactic| dsimp only [bodyAt, lawDef, forBody, fnBody, fnScope, PySem.Challenge.pw_kn0103_02, List.getD, List.getElem?_cons_succ, List.getElem?_cons_zero, Option.getD, List.drop])
local macro_rules | `(tactic| walk_at "ks1") => `(tactic| (first | (k_unfold; (try dsimp only)) | (k_end; wrow_close) | walk1 | (dsimp only; walk1) | (leave1; walk_say "STEP leave1"; try dsimp only) | fail "no step"))
local macro_rules | `(tactic| walk_at "ks") => `(tactic| repeat' ((fail_if_success (with_reducible show wpAny _ _ (exec (Stmt.For _ _ _ _ _) _) _ _ _)); (fail_if_success (with_reducible show wpAny _ _ (exec (Stmt.While _ _ _ _) _) _ _ _)); (fail_if_success (with_reducible show wpAny _ _ (pyIter _) (fun it s₂ => OwnAt _ _ _ _ _ _ _ _ it s₂) _ _)); (fail_if_success (with_reducible show wpAny _ _ (eval (PySem.Expr.Dict [] [] _) _) _ _ _)); (fail_if_success (with_reducible show TurnPost _ _ _ _ _ _ _ _ _)); walk_at "ks1"))
local macro_rules | `(tactic| walk_at "kst") => `(tactic| repeat' ((fail_if_success (with_reducible show TB _ _ → _)); walk_at "ks1"))
local macro_rules | `(tactic| walk_at "execs cons") => `(tactic| (k_here; (rename TB _ _ => hTBo); refine execs_tb (TB.mono hTBo (Nat.le_refl _) (by (try dsimp only); omega)) ?_; clear hTBo; intro tk hTB; (try dsimp only)))
local macro_rules | `(tactic| walk_at "sub") => `(tactic| first | exact List.forall_mem_nil _ | (refine List.forall_mem_cons.mpr ⟨by k_mem, ?_⟩; walk_at "sub") | (intro p hp; repeat' (first | exact hp | refine List.mem_cons_of_mem _ ?_)))
local macro_rules | `(tactic| walk_at "execs nil") => `(tactic| (refine wpAny_execs_nil ?_; (try dsimp only)))
local macro_rules | `(tactic| walk_at "ks0") => `(tactic| repeat' ((fail_if_success (with_reducible show wpAny _ _ (eval (PySem.Expr.BinOp _ _ _ _) _) _ _ _)); walk_at "ks1"))
local macro_rules | `(tactic| walk_at "ksc") => `(tactic| repeat' ((fail_if_success (with_reducible show LCg.CompSrc _ _ _ _ _ _ _ _ _ _ _ _ _ _)); walk_at "ks1"))
local macro_rules | `(tactic| walk_at "kslc") => `(tactic| repeat' ((fail_if_success (with_reducible show wpAny _ _ (exec (Stmt.Assign _ (PySem.Expr.ListComp _ _ _ _) _) _) _ _ _)); walk_at "ks1"))
local macro_rules | `(tactic| walk_at "ksc") => `(tactic| repeat' ((fail_if_success (with_reducible show LCg.CompSrc _ _ _ _ _ _ _ _ _ _ _ _ _ _)); walk_at "ks1"))
theorem fillD : PySem.Challenge.rw_kn0103_02 = PySem.Challenge.rw_kn0103_02 ∧ hd2.heap_39 = hd2.heap_39 := by
  w_top off
  k_fill
  exact ⟨rfl, rfl⟩
local macro_rules | `(tactic| walk_at "lit2") => `(tactic| dsimp only [shownBody, whileBody, shownDef, bodyAt, lawDef, forBody, fnBody, fnScope, PySem.Challenge.pw_kn0103_02, List.getD, List.getElem?_cons_succ, List.getElem?_cons_zero, Option.getD, List.drop])
theorem tv_strs (tl : List (Nat × Tok)) : StrsAre (tVals tl) (tl.map fun p => (⟨#[p.1]⟩ : Str)) := by
  induction tl with
  | nil => exact .nil
  | cons p r ih => exact .cons _ _ ih
theorem tv_take (tl : List (Nat × Tok)) (h : Nat) : (tVals tl).take h = tVals (tl.take h) := by unfold tVals; rw [List.map_take]
theorem tv_drop (tl : List (Nat × Tok)) (h : Nat) : (tVals tl).drop h = tVals (tl.drop h) := by unfold tVals; rw [List.map_drop]
theorem tv_sum (tl : List (Nat × Tok)) : ((tl.map fun p => (⟨#[p.1]⟩ : Str)).map (·.length)).sum = tl.length := by
  induction tl with
  | nil => rfl
  | cons p r ih =>
    rw [List.map_cons, List.map_cons, List.sum_cons, ih, List.length_cons]
    show 1 + r.length = _
    omega
theorem tv_join (tl : List (Nat × Tok)) : Txt.join (Str.ofString "") (tl.map fun p => (⟨#[p.1]⟩ : Str)) = ⟨(tl.map (·.1)).toArray⟩ := by
  have e0 : Str.ofString "" = ⟨#[]⟩ := by decide +kernel
  rw [e0]
  show Builtin.Str.glued ⟨#[]⟩ (tl.map fun p => (⟨#[p.1]⟩ : Str)) = _
  rw [StrLaws.glued_eq_join]
  have := join_ones (tl.map (·.1))
  rw [List.map_map] at this
  exact this
theorem txt_str (tl : List (Nat × Tok)) (hd st : Nat) : Str.ofString "|" ++ ⟨((tl.take hd).map (·.1)).toArray⟩ ++ ⟨#[st]⟩ ++ ⟨((tl.drop hd).map (·.1)).toArray⟩ ++ Str.ofString "|" = ⟨(txt ⟨tl.map (·.1), hd, st⟩).toArray⟩ := by
  rw [lits.2.2]
  apply PySem.Str.ext'
  simp only [PySem.Str.cps_append]
  apply Array.toList_inj.mp
  simp [txt, List.map_take, List.map_drop]
theorem sv_snoc {dl : List (Str × Tok)} {x : Str} {t : Tok} : strValues dl ++ [Value.str x t] = strValues (dl ++ [(x, t)]) := by
  rw [sv_append]; rfl
theorem sh_4a {w : World} {g base : Heap} {mg mb : Str → Option Value} {mean : ExcName → Option Value} {A₀ : Around} {e₁ : Env}
   (KX : (hd2.heap_39 w.params).In g) (T0 : Top hd2.view_39 (looseW hd2.view_39 []) mean mg mb g) (B : Below A₀ base [e₁] g)
   {L fa : Addr} {cd : Value} {s : Shared} {Q : Flow → Shared → Prop} (hTB : TB 0 s.toks) {m : Loc} {R K Tp Sh : Addr} {t6 t1 t2 t3 te : Tok} {hd st nT nS : Nat} {last e : Int} {tl : List (Nat × Tok)} {sl : List (Str × Tok)} {rest : Led} (hh : hd ≤ tl.length) (hl : tl.length ≤ 300) (hsl : sl.length ≤ 300) (hle : e ≤ last)
   (F : Fr g L s.heap m) (hm : Has m ((Str.ofString "entry", .int e te) :: HL R K Tp Sh t6 hd st last t1 t2 t3)) (N : News g L s.heap ((Tp, PySem.W.listOf (tVals tl).toArray nT) :: (Sh, PySem.W.listOf (strValues sl).toArray nS) :: rest))
   {o1 o2 : Obj} (hnd : (((Tp, o1) :: (Sh, o2) :: rest).map (·.1)).Nodup)
   (next : ∀ h tk m' t t', Fr g L h m' → Has m' (HL R K Tp Sh t6 hd st (-1) t1 t2 t') → News g L h ((Tp, PySem.W.listOf (tVals tl).toArray nT) :: (Sh, PySem.W.listOf (strValues (sl ++ [(⟨(txt ⟨tl.map (·.1), hd, st⟩).toArray⟩, t)])).toArray (nS + 1)) :: rest) → TB 0 tk →
      Q .next { s with heap := h, toks := tk }) :
   wpAny (model P02 w) ((callerA.deeper e₁).deeper (shownEnv L fa cd)) (execs (shownBody.drop 3) (shownEnv L fa cd)) Q (fun _ _ => False) s := by
  obtain ⟨heap, gens, drawn, toks, os⟩ := s
  dsimp only at hTB F N next ⊢
  have hs1 : (tVals tl).length = tl.length := tv_len tl
  have hs2 : (tVals tl).toArray.size = tl.length := by rw [List.size_toArray]; exact hs1
  rw [hm.eq] at F
  unfold HL at F next
  revert next
  unfold shownEnv
  walk_at "lit2"
  intro next
  walk_at "kst"
  (rename News _ _ _ _ => N1)
  (rename Fr _ _ _ _ => F1)
  dsimp only at N1
  rw [slice_upto (by omega), tv_take] at N1
  refine join_list (items := (tVals (tl.take hd)).toArray) ⟨_, (N1 _ (.head _)).1, rfl, _, rfl⟩ (tv_strs (tl.take hd)) ?_ ?_
  · rw [tv_sum, List.length_map, List.length_take]
    have e0 : (Str.ofString "").length = 0 := by decide +kernel
    rw [e0]; omega
  intro t8 k8
  rw [tv_join]
  have hz1 : (⟨((tl.take hd).map (·.1)).toArray⟩ : Str).length ≤ 300 := by show ((tl.take hd).map (·.1)).toArray.size ≤ 300; simp; omega
  walk_at "kst"
  (rename News _ _ _ _ => N2)
  (rename Fr _ _ _ _ => F2)
  dsimp only at N2
  rw [slice_from (by omega), tv_drop] at N2
  refine join_list (items := (tVals (tl.drop hd)).toArray) ⟨_, (N2 _ (.head _)).1, rfl, _, rfl⟩ (tv_strs (tl.drop hd)) ?_ ?_
  · rw [tv_sum, List.length_map, List.length_drop]
    have e0 : (Str.ofString "").length = 0 := by decide +kernel
    rw [e0]; omega
  intro t9 k9
  rw [tv_join]
  have hz2 : (⟨((tl.drop hd).map (·.1)).toArray⟩ : Str).length ≤ 300 := by show ((tl.drop hd).map (·.1)).toArray.size ≤ 300; simp; omega
  walk_at "kst"
  (rename News _ _ _ _ => N3)
  (rename Fr _ _ _ _ => F3)
  rw [txt_str]
  have N4 := news_sub (b := (Tp, _) :: (Sh, _) :: rest) N3 (by walk_at "sub")
  refine r_append (vs := strValues sl) F3 N4 (upd_mid [_] hnd) (by rw [sv_length]; omega) ?_
  intro h5 F5 N5
  clear N3 N4 F3
  walk_at "kst"
  intro hTB6
  walk_at "kst"
  intro hTB7
  walk_at "kst"
  intro hTB8
  refine wpAny_execs_nil ?_
  (rename News _ _ _ _ => N6)
  (rename Fr _ _ _ _ => F6)
  rw [sv_snoc] at N6
  exact next _ _ _ _ _ F6 ⟨rfl, rfl, rfl, rfl, rfl, rfl, rfl, rfl, trivial⟩ N6 hTB8
end Mine

open PySem PySem.W PySem.Calls PyProof.Rows PyProof.V PySem.Spec
set_option Elab.async false
set_option maxRecDepth 100000
set_option maxHeartbeats 8000000
set_option linter.unusedVariables false
namespace Mine
local macro_rules | `(tactic| walk_at "lit") => `(tactic| dsimp only [bodyAt, lawDef, forBody, fnBody, fnScope, PySem.Challenge.pw_kn0103_02, List.getD, List.getElem?_cons_succ, List.getElem?_cons_zero, Option.getD, List.drop])
local macro_rules | `(tactic| walk_at "ks1") => `(tactic| (first | (k_unfold; (try dsimp only)) | (k_end; wrow_close) | walk1 | (dsimp only; walk1) | (leave1; walk_say "STEP leave1"; try dsimp only) | fail "no step"))
local macro_rules | `(tactic| walk_at "ks") => `(tactic| repeat' ((fail_if_success (with_reducible show wpAny _ _ (exec (Stmt.For _ _ _ _ _) _) _ _ _)); (fail_if_success (with_reducible show wpAny _ _ (exec (Stmt.While _ _ _ _) _) _ _ _)); (fail_if_success (with_reducible show wpAny _ _ (pyIter _) (fun it s₂ => OwnAt _ _ _ _ _ _ _ _ it s₂) _ _)); (fail_if_success (with_reducible show wpAny _ _ (eval (PySem.Expr.Dict [] [] _) _) _ _ _)); (fail_if_success (with_reducible show TurnPost _ _ _ _ _ _ _ _ _)); walk_at "ks1"))
local macro_rules | `(tactic| walk_at "kst") => `(tactic| repeat' ((fail_if_success (with_reducible show TB _ _ → _)); walk_at "ks1"))
local macro_rules | `(tactic| walk_at "execs cons") => `(tactic| (k_here; (rename TB _ _ => hTBo); refine execs_tb (TB.mono hTBo (Nat.le_refl _) (by (try dsimp only); omega)) ?_; clear hTBo; intro tk hTB; (try dsimp only)))
local macro_rules | `(tactic| walk_at "sub") => `(tactic| first | exact List.forall_mem_nil _ | (refine List.forall_mem_cons.mpr ⟨by k_mem, ?_⟩; walk_at "sub") | (intro p hp; repeat' (first | exact hp | refine List.mem_cons_of_mem _ ?_)))
local macro_rules | `(tactic| walk_at "execs nil") => `(tactic| (refine wpAny_execs_nil ?_; (try dsimp only)))
local macro_rules | `(tactic| walk_at "ks0") => `(tactic| repeat' ((fail_if_success (with_reducible show wpAny _ _ (eval (PySem.Expr.BinOp _ _ _ _) _) _ _ _)); walk_at "ks1"))
local macro_rules | `(tactic| walk_at "ksc") => `(tactic| repeat' ((fail_if_success (with_reducible show LCg.CompSrc _ _ _ _ _ _ _ _ _ _ _ _ _ _)); walk_at "ks1"))
local macro_rules | `(tactic| walk_at "kslc") => `(tactic| repeat' ((fail_if_success (with_reducible show wpAny _ _ (exec (Stmt.Assign _ (PySem.Expr.ListComp _ _ _ _) _) _) _ _ _)); walk_at "ks1"))
local macro_rules | `(tactic| walk_at "ksc") => `(tactic| repeat' ((fail_if_success (with_reducible show LCg.CompSrc _ _ _ _ _ _ _ _ _ _ _ _ _ _)); walk_at "ks1"))
theorem fillE : PySem.Challenge.rw_kn0103_02 = PySem.Challenge.rw_kn0103_02 ∧ hd2.heap_39 = hd2.heap_39 := by
  w_top off
  k_fill
  exact ⟨rfl, rfl⟩
local macro_rules | `(tactic| walk_at "lit2") => `(tactic| dsimp only [shownBody, whileBody, shownDef, bodyAt, lawDef, forBody, fnBody, fnScope, PySem.Challenge.pw_kn0103_02, List.getD, List.getElem?_cons_succ, List.getElem?_cons_zero, Option.getD, List.drop])
local macro_rules | `(tactic| walk_at "kfin") => `(tactic| repeat' (first | ((with_reducible show TB _ _ → _); intro _) | (refine wpAny_execs_nil ?_) | (dsimp only)))
theorem tv_snoc {tl : List (Nat × Tok)} {b : Nat} {t : Tok} : tVals tl ++ [Value.str ⟨#[b]⟩ t] = tVals (tl ++ [(b, t)]) := by unfold tVals; rw [List.map_append]; rfl
theorem tv_set {tl : List (Nat × Tok)} {i b : Nat} {t : Tok} : (tVals tl).set i (Value.str ⟨#[b]⟩ t) = tVals (tl.set i (b, t)) := by unfold tVals; rw [List.map_set]
theorem ins_zero (vs : List Value) (y : Value) : kl_ins vs.toArray.toList 0 y = y :: vs := by simp [kl_ins]
theorem tv_cons {tl : List (Nat × Tok)} {b : Nat} {t : Tok} : Value.str ⟨#[b]⟩ t :: tVals tl = tVals ((b, t) :: tl) := rfl
theorem sh_4b {w : World} {g base : Heap} {mg mb : Str → Option Value} {mean : ExcName → Option Value} {A₀ : Around} {e₁ : Env}
   (KX : (hd2.heap_39 w.params).In g) (T0 : Top hd2.view_39 (looseW hd2.view_39 []) mean mg mb g) (B : Below A₀ base [e₁] g)
   {L fa : Addr} {cd : Value} {s : Shared} {Q : Flow → Shared → Prop} (hTB : TB 0 s.toks) {m : Loc} {R K Tp Sh : Addr} {t6 t1 t2 t3 te : Tok} {hd st nT nR : Nat} {last e : Int} {tl : List (Nat × Tok)} {rl : List RL} {rest : Led} (hh : hd ≤ tl.length) (hl : tl.length ≤ 300) (hle : ¬ e ≤ last)
   (hks : (rl.map RL.key).Nodup) (lo : (R == sysModules) = false) (hR : (R, rDict w rl nR) ∈ rest) (hRt : ∀ p ∈ rTups rl, p ∈ rest) {c : Cfg} (hc : c = ⟨tl.map (·.1), hd, st⟩) (hrul : hd < tl.length → ∃ r, rul rl st (cur c) = some r ∧ (r.left = 0 ∨ r.left = 1))
   (F : Fr g L s.heap m) (hm : Has m ((Str.ofString "entry", .int e te) :: HL R K Tp Sh t6 hd st last t1 t2 t3)) (N : News g L s.heap ((Tp, PySem.W.listOf (tVals tl).toArray nT) :: rest))
   {o1 : Obj} (hnd : (((Tp, o1) :: rest).map (·.1)).Nodup)
   (next : ∀ h tk m' tl' nT' (hd' st' : Nat) t1' t2' t3', (⟨tl'.map (·.1), hd', st'⟩ : Cfg) = stp rl c → Fr g L h m' → Has m' (HL R K Tp Sh t6 hd' st' e t1' t2' t3') → News g L h ((Tp, PySem.W.listOf (tVals tl').toArray nT') :: rest) → TB 0 tk →
      Q .next { s with heap := h, toks := tk }) :
   wpAny (model P02 w) ((callerA.deeper e₁).deeper (shownEnv L fa cd)) (execs (shownBody.drop 3) (shownEnv L fa cd)) Q (fun _ _ => False) s := by
  obtain ⟨heap, gens, drawn, toks, os⟩ := s
  dsimp only at hTB F N next ⊢
  have hs1 : (tVals tl).length = tl.length := tv_len tl
  have hs2 : (tVals tl).toArray.size = tl.length := by rw [List.size_toArray]; exact hs1
  have hnk : ((rl.map RL.ent).map (·.1)).Nodup := by rw [rl_keys]; exact hks
  rw [hm.eq] at F
  unfold HL at F next
  revert next
  unfold shownEnv
  walk_at "lit2"
  intro next
  walk_at "kst"
  intro hTB2
  walk_at "kst"
  · (rename (hd : Int) = _ => heq)
    (rename Fr _ _ _ _ => F2)
    (rename News _ _ _ _ => N2)
    have heq' : hd = tl.length := by omega
    refine r_append (vs := tVals tl) F2 N2 (upd_mid [] hnd) (by omega) ?_
    intro h3 F3 N3
    rw [lits.1, tv_snoc] at N3
    walk_at "kst"
    intro hTB3
    refine wpAny_execs_nil ?_
    intro hTB4
    refine wpAny_execs_nil ?_
    intro hTB5
    refine wpAny_execs_nil ?_
    refine next _ _ _ _ _ hd st _ _ _ ?_ F3 ⟨rfl, rfl, rfl, rfl, rfl, rfl, rfl, rfl, trivial⟩ N3 hTB5
    subst hc
    unfold stp
    rw [if_neg (by simp; omega)]
    simp
  · (rename (hd : Int) ≠ _ => hne)
    (rename Fr _ _ _ _ => F2)
    (rename News _ _ _ _ => N2)
    have hlt : hd < tl.length := by omega
    obtain ⟨r, hr, hleft⟩ := hrul hlt
    obtain ⟨hr1, hr2, hr3⟩ := rul_some hks hr
    obtain ⟨tg, eg⟩ := tv_get hlt
    refine r_item hd (News.get N2 (.head _)) eg (by omega) ?_
    walk_at "kst"
    rw [app11]
    have ec : (tl.map (·.1)).getD hd 0 = cur c := by subst hc; unfold cur; rw [if_pos (by simpa using hlt)]
    rw [ec]
    refine kda_item (knd := strKind P02 w) N2 (.tail _ hR) (sdict_is hnk) (strKind_is P02 w _ _) hr3 ?_
    walk_at "kst"
    refine unpackN_ F2 N2 (t := r.adr) (items := #[.str ⟨#[r.l]⟩ r.lt, .int r.left r.it, .str ⟨#[r.n]⟩ r.nt]) ⟨_, (N2 _ (.tail _ (hRt _ (List.mem_map.mpr ⟨r, hr1, rfl⟩)))).1, rfl, _, rfl⟩ rfl rfl rfl ?_
    intro h3 F3 N3
    walk_at "kst"
    refine r_setItem (vs := tVals tl) hd (by omega) (by omega) F3 N3 (upd_mid [] hnd) ?_
    intro h4 F4 N4
    rw [tv_set] at N4
    have hs3 : (tVals (tl.set hd (r.l, r.lt))).length = tl.length := by rw [tv_len, List.length_set]
    walk_at "kst"
    intro hTB3
    have hm0 : ∀ b t, (tl.set hd (b, t)).map (·.1) = (tl.map (·.1)).set hd b := fun b t => by rw [List.map_set]
    have hst : stp rl c = moved c r := by
      have hlt' : hd < (tl.map (·.1)).length := by simpa using hlt
      have hr' : rul rl c.st (cur c) = some r := by rw [← hr]; subst hc; rfl
      unfold stp
      rw [hr']
      subst hc
      rw [if_pos hlt']
    walk_at "kst"
    · (rename r.left = 0 => hl0)
      walk_at "kfin"
      (rename Fr _ _ _ _ => F6)
      (rename News _ _ _ _ => N6)
      have ei : (hd : Int) + 1 = ((hd + 1 : Nat) : Int) := by omega
      rw [ei] at F6
      refine next _ _ _ _ _ (hd + 1) r.n _ _ _ ?_ F6 ⟨rfl, rfl, rfl, rfl, rfl, rfl, rfl, rfl, trivial⟩ N6 (by assumption)
      rw [hst, hm0]
      unfold moved
      rw [if_pos hl0]
      subst hc
      rfl
    · (rename ¬ r.left = 0 => hl0)
      (rename 0 < (hd : Int) => hpos)
      walk_at "kfin"
      (rename Fr _ _ _ _ => F6)
      (rename News _ _ _ _ => N6)
      have ei : (hd : Int) - 1 = ((hd - 1 : Nat) : Int) := by omega
      rw [ei] at F6
      refine next _ _ _ _ _ (hd - 1) r.n _ _ _ ?_ F6 ⟨rfl, rfl, rfl, rfl, rfl, rfl, rfl, rfl, trivial⟩ N6 (by assumption)
      rw [hst, hm0]
      unfold moved
      subst hc
      rw [if_neg hl0, if_pos (by dsimp only; omega)]
    · (rename ¬ r.left = 0 => hl0)
      (rename ¬ 0 < (hd : Int) => hpos)
      (rename Fr _ _ _ _ => F5)
      (rename News _ _ _ _ => N5)
      refine kl_insert F5 N5 (by decide) (ins_zero _ _) (upd_mid [] hnd) (by rw [sizeLine_eq]; show (tVals _).length ≤ _; omega) ?_
      intro h6 F6 N6
      rw [lits.1, tv_cons] at N6
      walk_at "kst"
      walk_at "kfin"
      refine next _ _ _ _ _ hd r.n _ _ _ ?_ F6 ⟨rfl, rfl, rfl, rfl, rfl, rfl, rfl, rfl, trivial⟩ N6 (by assumption)
      rw [hst, List.map_cons, hm0]
      unfold moved
      subst hc
      rw [if_neg hl0, if_neg (by dsimp only; omega)]
      have : hd = 0 := by omega
      subst this
      rfl
end Mine

open PySem PySem.W PySem.Calls PyProof.Rows PyProof.V PySem.Spec
set_option Elab.async false
set_option maxRecDepth 100000
set_option maxHeartbeats 8000000
set_option linter.unusedVariables false
namespace Mine
local macro_rules | `(tactic| walk_at "lit") => `(tactic| dsimp only [bodyAt, lawDef, forBody, fnBody, fnScope, PySem.Challenge.pw_kn0103_02, List.getD, List.getElem?_cons_succ, List.getElem?_cons_zero, Option.getD, List.drop])
local macro_rules | `(tactic| walk_at "ks1") => `(tactic| (first | (k_unfold; (try dsimp only)) | (k_end; wrow_close) | walk1 | (dsimp only; walk1) | (leave1; walk_say "STEP leave1"; try dsimp only) | fail "no step"))
local macro_rules | `(tactic| walk_at "ks") => `(tactic| repeat' ((fail_if_success (with_reducible show wpAny _ _ (exec (Stmt.For _ _ _ _ _) _) _ _ _)); (fail_if_success (with_reducible show wpAny _ _ (exec (Stmt.While _ _ _ _) _) _ _ _)); (fail_if_success (with_reducible show wpAny _ _ (pyIter _) (fun it s₂ => OwnAt _ _ _ _ _ _ _ _ it s₂) _ _)); (fail_if_success (with_reducible show wpAny _ _ (eval (PySem.Expr.Dict [] [] _) _) _ _ _)); (fail_if_success (with_reducible show TurnPost _ _ _ _ _ _ _ _ _)); walk_at "ks1"))
local macro_rules | `(tactic| walk_at "kst") => `(tactic| repeat' ((fail_if_success (with_reducible show TB _ _ → _)); walk_at "ks1"))
local macro_rules | `(tactic| walk_at "execs cons") => `(tactic| (k_here; (rename TB _ _ => hTBo); refine execs_tb (TB.mono hTBo (Nat.le_refl _) (by (try dsimp only); omega)) ?_; clear hTBo; intro tk hTB; (try dsimp only)))
local macro_rules | `(tactic| walk_at "sub") => `(tactic| first | exact List.forall_mem_nil _ | (refine List.forall_mem_cons.mpr ⟨by k_mem, ?_⟩; walk_at "sub") | (intro p hp; repeat' (first | exact hp | refine List.mem_cons_of_mem _ ?_)))
local macro_rules | `(tactic| walk_at "execs nil") => `(tactic| (refine wpAny_execs_nil ?_; (try dsimp only)))
local macro_rules | `(tactic| walk_at "ks0") => `(tactic| repeat' ((fail_if_success (with_reducible show wpAny _ _ (eval (PySem.Expr.BinOp _ _ _ _) _) _ _ _)); walk_at "ks1"))
local macro_rules | `(tactic| walk_at "ksc") => `(tactic| repeat' ((fail_if_success (with_reducible show LCg.CompSrc _ _ _ _ _ _ _ _ _ _ _ _ _ _)); walk_at "ks1"))
local macro_rules | `(tactic| walk_at "kslc") => `(tactic| repeat' ((fail_if_success (with_reducible show wpAny _ _ (exec (Stmt.Assign _ (PySem.Expr.ListComp _ _ _ _) _) _) _ _ _)); walk_at "ks1"))
local macro_rules | `(tactic| walk_at "ksc") => `(tactic| repeat' ((fail_if_success (with_reducible show LCg.CompSrc _ _ _ _ _ _ _ _ _ _ _ _ _ _)); walk_at "ks1"))
local macro_rules | `(tactic| walk_at "ksi") => `(tactic| repeat' ((fail_if_success (with_reducible show ite _ _ _)); walk_at "ks1"))
theorem fillF : PySem.Challenge.rw_kn0103_02 = PySem.Challenge.rw_kn0103_02 ∧ hd2.heap_39 = hd2.heap_39 := by
  w_top off
  k_fill
  exact ⟨rfl, rfl⟩
local macro_rules | `(tactic| walk_at "lit2") => `(tactic| dsimp only [shownBody, whileBody, shownDef, bodyAt, lawDef, forBody, fnBody, fnScope, PySem.Challenge.pw_kn0103_02, List.getD, List.getElem?_cons_succ, List.getElem?_cons_zero, Option.getD, List.drop])
def meas (K : Nat) (x : LS) : Nat := (7 - x.shown.length) * (K + 2) + ((K : Int) - x.last).toNat
structure LsOk (K : Nat) (x : LS) : Prop where
  c : CfgOk x.c
  s : x.shown.length ≤ 7
  lo : -1 ≤ x.last
  hi : x.last ≤ K
  z : x.c.tape.length + meas K x ≤ 200
def Jsh (R K Tp Sh : Addr) (t6 : Tok) (rl : List RL) (keys : List Str) (x0 : LS) (rest : Led) (n : Nat) (m : Loc) (nx : Led) (tk : Nat) : Prop :=
  ∃ (k : Nat) (tl : List (Nat × Tok)) (hd st : Nat) (sl : List (Str × Tok)) (t1 t2 t3 : Tok) (nT nS : Nat),
    (iters rl keys x0 k).c = ⟨tl.map (·.1), hd, st⟩ ∧ sl.map (fun p => p.1.cps.toList) = (iters rl keys x0 k).shown ∧ n = meas keys.length (iters rl keys x0 k) ∧ LsOk keys.length (iters rl keys x0 k) ∧
    Has m (HL R K Tp Sh t6 hd st (iters rl keys x0 k).last t1 t2 t3) ∧ nx = (Tp, PySem.W.listOf (tVals tl).toArray nT) :: (Sh, PySem.W.listOf (strValues sl).toArray nS) :: rest ∧ TB 0 tk
theorem entry_lt (rl : List RL) (keys : List Str) (c : Cfg) : -1 ≤ entry rl keys c ∧ entry rl keys c < keys.length := by
  unfold entry
  split
  · rename_i h
    have := List.idxOf_lt_length_of_mem h
    omega
  · omega
theorem meas_show {K : Nat} {x : LS} {t : List Nat} (h : LsOk K x) (h6 : x.shown.length ≤ 6) : meas K { c := x.c, shown := x.shown ++ [t], last := -1 } < meas K x := by
  unfold meas
  dsimp only
  have h1 := h.hi
  have h2 := h.lo
  rw [List.length_append, List.length_singleton]
  have e : 7 - x.shown.length = (7 - (x.shown.length + 1)) + 1 := by omega
  rw [e, Nat.succ_mul]
  omega
theorem meas_step {K : Nat} {x : LS} {c : Cfg} {e : Int} (h : x.last < e) (hk : e < K) : meas K { c := c, shown := x.shown, last := e } < meas K x := by
  unfold meas
  dsimp only
  omega
theorem shown_b {w : World} {g base : Heap} {mg mb : Str → Option Value} {mean : ExcName → Option Value} {A₀ : Around} {e₁ : Env}
   (KX : (hd2.heap_39 w.params).In g) (T0 : Top hd2.view_39 (looseW hd2.view_39 []) mean mg mb g) (B : Below A₀ base [e₁] g)
   {L fa : Addr} {cd : Value} {s : Shared} {Q : Flow → Shared → Prop} (hTB : TB 0 s.toks) {m : Loc} {R K Tp Sh : Addr} {t6 t1 t2 t3 : Tok} {hd st nT nR nK tk0 : Nat} {tl : List (Nat × Tok)} {rl : List RL} {ksl : List (Str × Tok)} {rest : Led}
   (h6 : tl.length = 6) (hb : ∀ p ∈ tl, p.1 = 48 ∨ p.1 = 49) (hh : hd ≤ 6) (hst : st = 80 ∨ st = 81) (hkl : ksl.length ≤ 14)
   (hks : (rl.map RL.key).Nodup) (hrl : ∀ r ∈ rl, RL.Ok r tk0) (lo : (R == sysModules) = false) (hR : (R, rDict w rl nR) ∈ rest) (hRt : ∀ p ∈ rTups rl, p ∈ rest) (hK : (K, PySem.W.listOf (strValues ksl).toArray nK) ∈ rest)
   (hkeys : ∀ c : Cfg, CfgOk c → c.head < c.tape.length → kkey rl c ∈ ksl.map (·.1) → ∃ r, rul rl c.st (cur c) = some r)
   (F : Fr g L s.heap m) (hm : Has m (HL R K Tp Sh t6 hd st (ksl.length : Int) t1 t2 t3)) (N : News g L s.heap ((Tp, PySem.W.listOf (tVals tl).toArray nT) :: (Sh, PySem.W.listOf #[] 0) :: rest))
   {o1 o2 : Obj} (hnd : (((Tp, o1) :: (Sh, o2) :: rest).map (·.1)).Nodup)
   (next : ∀ h tk m' k sl nS, sl.map (fun p : Str × Tok => p.1.cps.toList) = (iters rl (ksl.map (·.1)) ⟨⟨tl.map (·.1), hd, st⟩, [], (ksl.length : Int)⟩ k).shown → sl.length = 7 → Fr g L h m' → News g L h ((Sh, PySem.W.listOf (strValues sl).toArray nS) :: rest) → TB 0 tk →
      Q (.ret (.ref Sh)) { s with heap := h, toks := tk }) :
   wpAny (model P02 w) ((callerA.deeper e₁).deeper (shownEnv L fa cd)) (execs ((fnBody shownDef).drop 3) (shownEnv L fa cd)) Q (fun _ _ => False) s := by
  obtain ⟨heap, gens, drawn, toks, os⟩ := s
  dsimp only at hTB F N next ⊢
  rw [hm.eq] at F
  revert next
  unfold shownEnv
  walk_at "lit2"
  intro next
  have hklen : (ksl.map (·.1)).length = ksl.length := List.length_map ..
  walk_at "ks"
  (rename TB _ _ => hTB0)
  refine While_own (Jsh R K Tp Sh t6 rl (ksl.map (·.1)) ⟨⟨tl.map (·.1), hd, st⟩, [], (ksl.length : Int)⟩ rest) (n₀ := 7 * (ksl.length + 2)) F N
    ⟨0, tl, hd, st, [], t1, t2, t3, nT, 0, rfl, rfl, ?_, ?_, ⟨rfl, rfl, rfl, rfl, rfl, rfl, rfl, rfl, trivial⟩, rfl, hTB0⟩ ?_ PassesOwn.never
  · show _ = meas _ (LS.mk _ _ _)
    unfold meas
    rw [hklen]
    simp
  · show LsOk _ (LS.mk _ _ _)
    refine ⟨⟨by show hd ≤ (tl.map (·.1)).length; rw [List.length_map]; omega, ?_, hst⟩, by simp, by show -1 ≤ (ksl.length : Int); omega, by show (ksl.length : Int) ≤ _; rw [hklen]; omega, ?_⟩
    · intro x hx
      obtain ⟨p, hp, rfl⟩ := List.mem_map.mp hx
      exact hb p hp
    · unfold meas
      rw [hklen]
      simp
      omega
  · rintro n m₁ nx h₁ tk₁ F₁ N₁ ⟨k, tl', hd', st', sl, t1', t2', t3', nT', nS', hc, hsl, rfl, ok, hm1, rfl, htk⟩
    rw [hm1.eq] at F₁
    change Fr g L h₁ _ at F₁
    change News g L h₁ _ at N₁
    have hsz : (strValues sl).length = sl.length := sv_length sl
    have hsz2 : (strValues sl).toArray.size = sl.length := by rw [List.size_toArray]; exact hsz
    have hs7 : sl.length ≤ 7 := by
      have e := congrArg List.length hsl
      rw [List.length_map] at e
      have := ok.s
      omega
    generalize hx : iters rl (ksl.map (·.1)) ⟨⟨tl.map (·.1), hd, st⟩, [], (ksl.length : Int)⟩ k = x at hc hsl ok F₁ N₁ ⊢
    have hiter : iters rl (ksl.map (·.1)) ⟨⟨tl.map (·.1), hd, st⟩, [], (ksl.length : Int)⟩ (k + 1) = iter rl (ksl.map (·.1)) x := by rw [← hx]; rfl
    have hx7 : x.shown.length = sl.length := by
      have e := congrArg List.length hsl
      rw [List.length_map] at e
      exact e.symm
    obtain ⟨okc, oks, oklo, okhi, okz⟩ := ok
    have htl : tl'.length ≤ 200 := by
      have e := congrArg (fun c : Cfg => c.tape.length) hc
      dsimp only at e
      rw [List.length_map] at e
      omega
    have hhd : hd' ≤ tl'.length := by
      have e := okc.head
      rw [hc] at e
      simpa using e
    walk_at "ksi"
    by_cases h6' : (sl.length : Int) ≤ 6
    · rw [if_pos (decide_eq_true h6')]
      (rename Fr _ _ _ _ => F2)
      (rename News _ _ _ _ => N2)
      refine wpAny_mono (sh_1 KX T0 B (TB.mono htk (Nat.le_refl _) (by (try dsimp only); omega)) hhd (by omega) F2 ⟨rfl, rfl, rfl, rfl, rfl, rfl, rfl, rfl, trivial⟩ N2 ?_) (fun _ _ h => h) (fun _ _ h => h.elim)
      intro h3 tk3 m3 ts3 F3 hm3 N3 hTB3
      refine sh_2 KX T0 B hTB3 hhd (by omega) hks lo (.tail _ hR) (fun p hp => .tail _ (hRt p hp)) hc F3 (by rw [hc]; exact hm3) N3 ?_
      intro h4 tk4 m4 ts4 F4 hm4 N4 hTB4
      refine sh_3 KX T0 B hTB4 hkl (.tail _ (.tail _ hK)) F4 hm4 N4 ?_
      intro h5 tk5 m5 te5 F5 hm5 N5 hTB5
      by_cases hle : entry rl (ksl.map (·.1)) x.c ≤ x.last
      · have hit : iter rl (ksl.map (·.1)) x = { c := x.c, shown := x.shown ++ [txt x.c], last := -1 } := by unfold iter; rw [if_pos hle]
        refine sh_4a KX T0 B hTB5 hhd (by omega) (by omega) hle F5 hm5 N5 hnd ?_
        intro h7 tk7 m7 t7 t7' F7 hm7 N7 hTB7
        refine WhilePost.next (meas (ksl.map (·.1)).length (iter rl (ksl.map (·.1)) x)) _ ?_ F7 N7 (fun _ h => h) ⟨k + 1, tl', hd', st', _, t1', t2', t7', nT', nS' + 1, ?_, ?_, ?_, ?_, ?_, rfl, hTB7⟩
        · rw [hit]
          exact meas_show ⟨okc, oks, oklo, okhi, okz⟩ (by omega)
        · rw [hiter, hit]; exact hc
        · rw [hiter, hit, List.map_append, hsl, hc]; rfl
        · rw [hiter]
        · rw [hiter, hit]
          refine ⟨okc, ?_, ?_, ?_, ?_⟩
          · show (x.shown ++ [txt x.c]).length ≤ 7
            rw [List.length_append, List.length_singleton]
            omega
          · show -1 ≤ (-1 : Int)
            omega
          · show (-1 : Int) ≤ _
            omega
          · have e := meas_show (K := (ksl.map (·.1)).length) (t := txt x.c) ⟨okc, oks, oklo, okhi, okz⟩ (by omega)
            show x.c.tape.length + _ ≤ 200
            omega
        · rw [hiter, hit]; exact hm7
      · have hit : iter rl (ksl.map (·.1)) x = { c := stp rl x.c, shown := x.shown, last := entry rl (ksl.map (·.1)) x.c } := by unfold iter; rw [if_neg hle]
        have hek := entry_lt rl (ksl.map (·.1)) x.c
        have hlen := stp_len rl x.c
        refine sh_4b KX T0 B hTB5 hhd (by omega) hle hks lo (.tail _ hR) (fun p hp => .tail _ (hRt p hp)) hc ?_ F5 hm5 N5 hnd ?_
        · intro hlt
          have hm : kkey rl x.c ∈ ksl.map (·.1) := by
            by_cases hm : kkey rl x.c ∈ ksl.map (·.1)
            · exact hm
            · exfalso
              unfold entry at hle
              rw [if_neg hm] at hle
              exact hle oklo
          obtain ⟨r, hr⟩ := hkeys x.c okc (by rw [hc]; simpa using hlt) hm
          refine ⟨r, ?_, (hrl r (rul_some hks hr).1).hf⟩
          rw [hc] at hr
          rw [hc]
          exact hr
        intro h7 tk7 m7 tl7 nT7 hd7 st7 t17 t27 t37 hc7 F7 hm7 N7 hTB7
        have hms := meas_step (K := (ksl.map (·.1)).length) (x := x) (c := stp rl x.c) (Int.not_le.mp hle) hek.2
        refine WhilePost.next (meas (ksl.map (·.1)).length (iter rl (ksl.map (·.1)) x)) _ ?_ F7 N7 (fun _ h => h) ⟨k + 1, tl7, hd7, st7, sl, t17, t27, t37, nT7, nS', ?_, ?_, ?_, ?_, ?_, rfl, hTB7⟩
        · rw [hit]
          exact hms
        · rw [hiter, hit]; exact hc7.symm
        · rw [hiter, hit]; exact hsl
        · rw [hiter]
        · rw [hiter, hit]
          refine ⟨stp_ok okc hrl, oks, hek.1, Int.le_of_lt hek.2, ?_⟩
          show (stp rl x.c).tape.length + _ ≤ 200
          omega
        · rw [hiter, hit]; exact hm7
    · rw [if_neg (by rw [decide_eq_false h6']; exact Bool.false_ne_true)]
      walk_at "ks"
      (with_reducible rename TB _ _ => hTB2)
      (rename Fr _ _ _ _ => F2)
      (rename News _ _ _ _ => N2)
      refine next _ _ _ (k := k) (sl := sl) (nS := nS') ?_ ?_ F2 (news_tail N2) hTB2
      · rw [hx]; exact hsl
      · omega
end Mine

open PySem PySem.W PySem.Calls PyProof.Rows PyProof.V PySem.Spec
set_option Elab.async false
set_option linter.unusedVariables false
namespace Mine
/-- replace, sign by sign -/
def rep (y z : List Nat) : Nat → List Nat → List Nat
  | _, [] => []
  | k + 1, _ :: r => rep y z k r
  | 0, c :: r => if (c :: r).take y.length = y then z ++ rep y z (y.length - 1) r else c :: rep y z 0 r
section
variable {y z : List Nat}
theorem rep_nil (k : Nat) : rep y z k [] = [] := by cases k <;> rfl
theorem rep_skip : ∀ (k : Nat) (l : List Nat), rep y z k l = rep y z 0 (l.drop k)
  | 0, l => rfl
  | k + 1, [] => by simp [rep_nil]
  | k + 1, c :: r => by
    show rep y z k r = _
    rw [rep_skip k r]; rfl
theorem rep_hit (hy : y ≠ []) {l : List Nat} (h : l.take y.length = y) : rep y z 0 l = z ++ rep y z 0 (l.drop y.length) := by
  cases l with
  | nil => simp at h; exact absurd h.symm (by simpa using hy)
  | cons c r =>
    conv => lhs; unfold rep
    rw [if_pos h, rep_skip]
    obtain ⟨n, hn⟩ : ∃ n, y.length = n + 1 := ⟨y.length - 1, by have := List.length_pos_iff.mpr hy; omega⟩
    rw [hn]; rfl
theorem rep_miss {c : Nat} {r : List Nat} (h : (c :: r).take y.length ≠ y) : rep y z 0 (c :: r) = c :: rep y z 0 r := by
  conv => lhs; unfold rep
  rw [if_neg h]
theorem rep_free : ∀ (m : Nat) (l : List Nat), (∀ k, k < m → (l.drop k).take y.length ≠ y) → rep y z 0 l = l.take m ++ rep y z 0 (l.drop m)
  | 0, l, _ => by simp
  | m + 1, [], _ => by simp [rep_nil]
  | m + 1, c :: r, h => by
    rw [rep_miss (h 0 (Nat.zero_lt_succ _)), rep_free m r fun k hk => by simpa using h (k + 1) (by omega)]
    rfl
end
open Builtin Builtin.Str StrLaws in
theorem at_iff {x y : Str} (hy : 1 ≤ y.length) (i : Nat) : At x y x.length i ↔ (x.cps.toList.drop i).take y.length = y.cps.toList := by
  unfold At
  rw [subAt_eq, beq_iff_eq]
  refine ⟨fun h => h.2, fun h => ⟨?_, h⟩⟩
  have e := congrArg List.length h
  rw [List.length_take, List.length_drop] at e
  have e1 : x.cps.toList.length = x.length := by simp [Str.length]
  have e2 : y.cps.toList.length = y.length := by simp [Str.length]
  omega
open Builtin Builtin.Str StrLaws in
theorem join_rep {x y : Str} (z : Str) (hy : 1 ≤ y.length) : ∀ (cuts : List Nat) (a f : Nat), ChainG x y x.length a cuts f → (∀ k, f ≤ k → ¬ At x y x.length k) →
    (Str.join z (partsFrom x y.length a cuts)).cps.toList = rep y.cps.toList z.cps.toList 0 (x.cps.toList.drop a)
  | [], a, f, h, hn => by
    have e : f = a := h
    subst e
    show (strSub x f x.length).cps.toList = _
    have e1 : x.cps.toList.length = x.length := by simp [Str.length]
    have e2 : y.cps.toList.length = y.length := by simp [Str.length]
    rw [strSub_toList, rep_free (x.length - f), List.drop_drop, List.drop_eq_nil_of_le (as := x.cps.toList) (i := f + (x.length - f)) (by omega), rep_nil, List.append_nil]
    intro k hk
    rw [List.drop_drop, e2]
    intro he
    exact hn (f + k) (by omega) ((at_iff hy _).mpr he)
  | c :: r, a, f, h, hn => by
    have e1 : x.cps.toList.length = x.length := by simp [Str.length]
    have e2 : y.cps.toList.length = y.length := by simp [Str.length]
    have hne : y.cps.toList ≠ [] := by intro e; rw [e] at e2; simp at e2; omega
    obtain ⟨p, ps, hp⟩ := partsFrom_ne x y.length (c + y.length) r
    show (Str.join z (strSub x a c :: partsFrom x y.length (c + y.length) r)).cps.toList = _
    have ih := join_rep z hy r (c + y.length) f h.2.2.2 hn
    rw [hp] at ih ⊢
    show (strSub x a c ++ z ++ Str.join z (p :: ps)).cps.toList = _
    simp only [Str.cps_append, Array.toList_append]
    rw [ih, rep_free (c - a) (x.cps.toList.drop a), List.drop_drop, show a + (c - a) = c by have := h.1; omega, strSub_toList]
    · rw [rep_hit hne (l := x.cps.toList.drop c) (by rw [e2]; exact (at_iff hy c).mp h.2.1), e2, List.drop_drop, List.append_assoc]
    · intro k hk
      rw [List.drop_drop, e2]
      intro he
      exact h.2.2.1 (a + k) (by omega) (by omega) ((at_iff hy _).mpr he)
open Builtin Builtin.Str StrLaws in
theorem replace_rep {x y : Str} (z : Str) (hy : 1 ≤ y.length) : (Txt.replace x y z).cps.toList = rep y.cps.toList z.cps.toList 0 x.cps.toList := by
  obtain ⟨f, h1, h2⟩ := occ_tight x y hy
  have key := join_rep z hy _ 0 f h1 h2
  rw [List.drop_zero] at key
  rw [← key]
  unfold Txt.replace
  cases he : (occurrences x y 0 x.length (x.length + 1)).isEmpty
  · have h3 : (y.length == 0) = false := by simp; omega
    rw [h3]
    simp only [Bool.false_and, Bool.or_false, Bool.false_eq_true, if_false]
    rw [glued_eq_join, partsBetween_eq]
  · simp only [Bool.true_or, if_true]
    have : occurrences x y 0 x.length (x.length + 1) = [] := by simpa using he
    rw [this]
    show x.cps.toList = (strSub x 0 x.length).cps.toList
    rw [strSub_toList, List.drop_zero, List.take_of_length_le (by simp [Str.length])]
section
variable {y z : List Nat}
theorem rep_len (hy : y ≠ []) (hz : z.length ≤ y.length) : ∀ (n : Nat) (l : List Nat), l.length ≤ n → (rep y z 0 l).length ≤ l.length
  | _, [], _ => by simp [rep_nil]
  | 0, c :: r, h => by simp at h
  | n + 1, c :: r, h => by
    by_cases hh : (c :: r).take y.length = y
    · rw [rep_hit hy hh, List.length_append]
      have e : y.length ≤ (c :: r).length := by
        have := congrArg List.length hh
        rw [List.length_take] at this
        omega
      have hp := List.length_pos_iff.mpr hy
      have ih := rep_len hy hz n ((c :: r).drop y.length) (by rw [List.length_drop]; omega)
      rw [List.length_drop] at ih
      omega
    · rw [rep_miss hh, List.length_cons, List.length_cons]
      have ih := rep_len hy hz n r (by simpa using h)
      omega
end
theorem replace_len {x y z : Str} (hy : 1 ≤ y.length) (hz : z.length ≤ y.length) : (Txt.replace x y z).length ≤ x.length := by
  have e : ∀ s : Str, s.length = s.cps.toList.length := fun s => by simp [Str.length]
  rw [e, e x, replace_rep z hy]
  rw [e, e y] at hz
  rw [e] at hy
  exact rep_len (by intro h; rw [h] at hy; simp at hy) hz _ _ (Nat.le_refl _)
end Mine

open PySem PySem.W PySem.Calls PyProof.Rows PyProof.V PySem.Spec
set_option Elab.async false
set_option linter.unusedVariables false
namespace Mine
/-- a sign that is no state -/
def nol (x : Nat) : Prop := x ≠ 80 ∧ x ≠ 81
theorem rep2_free {a b : Nat} {z : List Nat} (ha : a = 80 ∨ a = 81) (R : List Nat) : ∀ B : List Nat, (∀ x ∈ B, nol x) → rep [a, b] z 0 (B ++ R) = B ++ rep [a, b] z 0 R
  | [], _ => rfl
  | c :: r, h => by
    have hc := h c (.head _)
    rw [List.cons_append, rep_miss, rep2_free ha R r (fun x hx => h x (.tail _ hx)), List.cons_append]
    intro e
    have e1 := (List.cons.inj (show c :: (r ++ R).take 1 = [a, b] from e)).1
    unfold nol at hc
    omega
theorem rep3_free {d a b : Nat} {z : List Nat} (ha : a = 80 ∨ a = 81) {R : List Nat} (hR : ∀ x r, R = x :: r → nol x) : ∀ B : List Nat, (∀ x ∈ B, nol x) → rep [d, a, b] z 0 (B ++ R) = B ++ rep [d, a, b] z 0 R
  | [], _ => rfl
  | c :: r, h => by
    rw [List.cons_append, rep_miss, rep3_free ha hR r (fun x hx => h x (.tail _ hx)), List.cons_append]
    intro e
    have e2 : (r ++ R).take 2 = [a, b] := (List.cons.inj (show c :: (r ++ R).take 2 = [d, a, b] from e)).2
    have key : ∀ x q, r ++ R = x :: q → nol x := by
      intro x q hx
      cases r with
      | nil => exact hR x q hx
      | cons y r' =>
        have := (List.cons.inj hx).1
        subst this
        exact h y (.tail _ (.head _))
    cases hX : r ++ R with
    | nil => rw [hX] at e2; cases e2
    | cons x q =>
      rw [hX] at e2
      have e3 := (List.cons.inj (show x :: q.take 1 = [a, b] from e2)).1
      have hn := key x q hX
      unfold nol at hn
      omega
theorem nol_one {p : Nat} (hp : nol p) : ∀ x ∈ [p], nol x := fun x hx => by rw [List.mem_singleton.mp hx]; exact hp
theorem rep2_txt {a b st q p : Nat} {z A B R : List Nat} (ha : a = 80 ∨ a = 81) (hA : ∀ x ∈ A, nol x) (hp : nol p) (hq : nol q) (hB : ∀ x ∈ B, nol x) :
    rep [a, b] z 0 (A ++ p :: st :: q :: (B ++ R)) = A ++ p :: ((if a = st ∧ b = q then z else [st, q]) ++ (B ++ rep [a, b] z 0 R)) := by
  rw [rep2_free ha _ A hA, show p :: st :: q :: (B ++ R) = [p] ++ st :: q :: (B ++ R) from rfl, rep2_free ha _ [p] (nol_one hp)]
  refine congrArg (A ++ ·) (congrArg (p :: ·) ?_)
  by_cases h : a = st ∧ b = q
  · rw [if_pos h, h.1, h.2, rep_hit (by simp) rfl]
    show z ++ rep [st, q] z 0 (B ++ R) = _
    rw [rep2_free (h.1 ▸ ha) R B hB]
  · rw [if_neg h, rep_miss, show q :: (B ++ R) = [q] ++ (B ++ R) from rfl, rep2_free ha _ [q] (nol_one hq), rep2_free ha R B hB]
    · rfl
    · intro e
      have e1 : st :: [q] = [a, b] := e
      injection e1 with e1 e2
      injection e2 with e2
      exact h ⟨e1.symm, e2.symm⟩
theorem rep3_txt {d a b st q p : Nat} {z A B R : List Nat} (ha : a = 80 ∨ a = 81) (hst : st = 80 ∨ st = 81) (hd : nol d) (hA : ∀ x ∈ A, nol x) (hp : nol p) (hq : nol q) (hB : ∀ x ∈ B, nol x) (hR : ∀ x r, R = x :: r → nol x) :
    rep [d, a, b] z 0 (A ++ p :: st :: q :: (B ++ R)) = A ++ ((if d = p ∧ a = st ∧ b = q then z else [p, st, q]) ++ (B ++ rep [d, a, b] z 0 R)) := by
  rw [rep3_free ha _ A hA]
  · refine congrArg (A ++ ·) ?_
    by_cases h : d = p ∧ a = st ∧ b = q
    · rw [if_pos h, h.1, h.2.1, h.2.2, rep_hit (by simp) rfl]
      show z ++ rep [p, st, q] z 0 (B ++ R) = _
      rw [rep3_free (h.2.1 ▸ ha) hR B hB]
    · rw [if_neg h, rep_miss, rep_miss, show q :: (B ++ R) = (q :: B) ++ R from rfl, rep3_free ha hR (q :: B)]
      · rfl
      · intro x hx
        rcases List.mem_cons.mp hx with rfl | hx
        · exact hq
        · exact hB x hx
      · intro e
        have e1 := (List.cons.inj (show st :: (q :: (B ++ R)).take 2 = [d, a, b] from e)).1
        unfold nol at hd
        omega
      · intro e
        have e1 : p :: st :: [q] = [d, a, b] := e
        injection e1 with e1 e2
        injection e2 with e2 e3
        injection e3 with e3
        exact h ⟨e1.symm, e2.symm, e3.symm⟩
  · intro x r hx
    rw [← (List.cons.inj hx).1]
    exact hp
/-- what stands ahead of the sign ahead of the state, and behind the sign behind it -/
def tA (c : Cfg) : List Nat := if 0 < c.head then 124 :: c.tape.take (c.head - 1) else []
def tB (c : Cfg) : List Nat := if c.head < c.tape.length then c.tape.drop (c.head + 1) ++ [124] else []
theorem tA_prv (c : Cfg) (h : c.head ≤ c.tape.length) : 124 :: c.tape.take c.head = tA c ++ [prv c] := by
  obtain ⟨tape, head, st⟩ := c
  cases head with
  | zero => rfl
  | succ k =>
    unfold tA prv
    dsimp only at h ⊢
    have hk : k < tape.length := h
    rw [if_pos (Nat.succ_pos k), if_pos (Nat.succ_pos k), Nat.add_sub_cancel, List.take_add_one, List.getElem?_eq_getElem hk, List.getD_eq_getElem?_getD, List.getElem?_eq_getElem hk]
    rfl
theorem tB_cur (c : Cfg) : c.tape.drop c.head ++ [124] = cur c :: tB c := by
  obtain ⟨tape, head, st⟩ := c
  unfold tB cur
  dsimp only
  by_cases h : head < tape.length
  · rw [if_pos h, if_pos h, List.drop_eq_getElem_cons h, List.getD_eq_getElem?_getD, List.getElem?_eq_getElem h]
    rfl
  · rw [if_neg h, if_neg h, List.drop_eq_nil_of_le (by omega)]
    rfl
theorem txt_split {c : Cfg} (h : CfgOk c) : txt c = tA c ++ prv c :: c.st :: cur c :: tB c := by
  unfold txt
  rw [tB_cur, ← List.cons_append, tA_prv c h.head, List.append_assoc]
  rfl
theorem nol_tape {x : Nat} (h : x = 48 ∨ x = 49 ∨ x = 124) : nol x := by unfold nol; omega
theorem tape_get {c : Cfg} (h : CfgOk c) {i : Nat} (hi : i < c.tape.length) : c.tape.getD i 0 = 48 ∨ c.tape.getD i 0 = 49 := by
  rw [List.getD_eq_getElem?_getD, List.getElem?_eq_getElem hi]
  exact h.tape _ (List.getElem_mem hi)
theorem prv_is {c : Cfg} (h : CfgOk c) : prv c = 48 ∨ prv c = 49 ∨ prv c = 124 := by
  unfold prv
  have h1 := h.head
  split
  · rcases tape_get h (i := c.head - 1) (by omega) with e | e <;> rw [e] <;> simp
  · simp
theorem cur_in {c : Cfg} (h : CfgOk c) (hl : c.head < c.tape.length) : cur c = 48 ∨ cur c = 49 := by
  unfold cur
  rw [if_pos hl]
  exact tape_get h hl
theorem cur_out {c : Cfg} (hl : ¬ c.head < c.tape.length) : cur c = 124 := by
  unfold cur
  rw [if_neg hl]
theorem cur_is {c : Cfg} (h : CfgOk c) : cur c = 48 ∨ cur c = 49 ∨ cur c = 124 := by
  by_cases hl : c.head < c.tape.length
  · rcases cur_in h hl with e | e
    · exact .inl e
    · exact .inr (.inl e)
  · exact .inr (.inr (cur_out hl))
theorem tA_nol {c : Cfg} (h : CfgOk c) : ∀ x ∈ tA c, nol x := by
  unfold tA
  split
  · intro x hx
    rcases List.mem_cons.mp hx with rfl | hx
    · exact nol_tape (by simp)
    · rcases h.tape x (List.mem_of_mem_take hx) with e | e <;> (rw [e]; exact nol_tape (by simp))
  · intro x hx; cases hx
theorem tB_nol {c : Cfg} (h : CfgOk c) : ∀ x ∈ tB c, nol x := by
  unfold tB
  split
  · intro x hx
    rcases List.mem_append.mp hx with hx | hx
    · rcases h.tape x (List.mem_of_mem_drop hx) with e | e <;> (rw [e]; exact nol_tape (by simp))
    · rw [List.mem_singleton.mp hx]; exact nol_tape (by simp)
  · intro x hx; cases hx
theorem txt_end {c : Cfg} (hl : ¬ c.head < c.tape.length) (h : CfgOk c) : txt { c with tape := c.tape ++ [48] } = tA c ++ prv c :: c.st :: 48 :: 124 :: tB c := by
  have e : c.head = c.tape.length := by have := h.head; omega
  have e1 := tA_prv c h.head
  rw [e, List.take_length] at e1
  unfold txt tB
  dsimp only
  rw [if_neg hl, e, List.take_left, List.drop_left, ← List.cons_append, e1, List.append_assoc]
  rfl
theorem tape_split {c : Cfg} (hl : c.head < c.tape.length) : ∃ T1 x T2, c.tape = T1 ++ x :: T2 ∧ T1.length = c.head :=
  ⟨c.tape.take c.head, c.tape[c.head], c.tape.drop (c.head + 1), by rw [← List.drop_eq_getElem_cons hl, List.take_append_drop], by rw [List.length_take]; omega⟩
theorem set_mid {T1 T2 : List Nat} {x y : Nat} : (T1 ++ x :: T2).set T1.length y = T1 ++ y :: T2 := by
  induction T1 with
  | nil => rfl
  | cons a t ih => show a :: ((t ++ x :: T2).set t.length y) = _; rw [ih]; rfl
theorem drop_mid {T1 T2 : List Nat} {x : Nat} : (T1 ++ x :: T2).drop (T1.length + 1) = T2 := by
  rw [show T1 ++ x :: T2 = (T1 ++ [x]) ++ T2 by simp, show T1.length + 1 = (T1 ++ [x]).length by simp, List.drop_left]
theorem take_mid {T1 T2 : List Nat} {x : Nat} : (T1 ++ x :: T2).take (T1.length + 1) = T1 ++ [x] := by
  rw [show T1 ++ x :: T2 = (T1 ++ [x]) ++ T2 by simp, show T1.length + 1 = (T1 ++ [x]).length by simp, List.take_left]
theorem txt_right {c : Cfg} {r : RL} (hl : c.head < c.tape.length) (hr : r.left = 0) : txt (moved c r) = tA c ++ prv c :: r.l :: r.n :: tB c := by
  have e1 := tA_prv c (by omega)
  obtain ⟨T1, x, T2, ht, hh⟩ := tape_split hl
  obtain ⟨tape, head, st⟩ := c
  dsimp only at ht hh hl
  subst ht hh
  unfold moved tB
  rw [if_pos hr, if_pos hl]
  unfold txt
  dsimp only at e1 ⊢
  rw [set_mid, take_mid, drop_mid, drop_mid]
  rw [List.take_left] at e1
  rw [← List.cons_append, ← List.cons_append, e1]
  simp
theorem txt_left {c : Cfg} {r : RL} (hl : c.head < c.tape.length) (hr : r.left = 1) (h0 : 0 < c.head) : txt (moved c r) = tA c ++ r.n :: prv c :: r.l :: tB c := by
  obtain ⟨T1, x, T2, ht, hh⟩ := tape_split hl
  obtain ⟨tape, head, st⟩ := c
  dsimp only at ht hh hl h0
  subst ht hh
  obtain ⟨T, y, rfl⟩ : ∃ T y, T1 = T ++ [y] := ⟨T1.dropLast, T1.getLast (by intro e; subst e; simp at h0), (List.dropLast_concat_getLast _).symm⟩
  unfold moved tB tA prv
  rw [if_neg (by rw [hr]; decide), if_pos h0, if_pos hl, if_pos h0, if_pos h0]
  unfold txt
  dsimp only
  rw [set_mid, drop_mid]
  have e : (T ++ [y]).length - 1 = T.length := by simp
  rw [e, List.append_assoc T [y], List.append_assoc T [y], List.take_left, List.take_left, List.drop_left]
  simp
theorem txt_edge {c : Cfg} {r : RL} (hl : c.head < c.tape.length) (hr : r.left = 1) (h0 : ¬ 0 < c.head) : txt (moved c r) = tA c ++ 124 :: r.n :: 48 :: r.l :: tB c := by
  obtain ⟨T1, x, T2, ht, hh⟩ := tape_split hl
  obtain ⟨tape, head, st⟩ := c
  dsimp only at ht hh hl h0
  subst ht hh
  have e : T1 = [] := List.eq_nil_of_length_eq_zero (by omega)
  subst e
  unfold moved tB tA
  rw [if_neg (by rw [hr]; decide), if_neg h0, if_pos hl, if_neg h0]
  rfl
end Mine

open PySem PySem.W PySem.Calls PyProof.Rows PyProof.V PySem.Spec
set_option Elab.async false
set_option linter.unusedVariables false
namespace Mine
theorem two_eq {a b c d : Nat} : two a b = two c d ↔ a = c ∧ b = d := by
  constructor
  · intro h
    have e : [a, b] = [c, d] := congrArg (fun s : Str => s.cps.toList) h
    injection e with e1 e2
    injection e2 with e2
    exact ⟨e1, e2⟩
  · rintro ⟨rfl, rfl⟩; rfl
theorem three_eq {a b c d e f : Nat} : three a b c = three d e f ↔ a = d ∧ b = e ∧ c = f := by
  constructor
  · intro h
    have e : [a, b, c] = [d, e, f] := congrArg (fun s : Str => s.cps.toList) h
    injection e with e1 e2
    injection e2 with e2 e3
    injection e3 with e3
    exact ⟨e1, e2, e3⟩
  · rintro ⟨rfl, rfl, rfl⟩; rfl
theorem two_three {a b c d e : Nat} : two a b ≠ three c d e := by
  intro h
  have := congrArg (fun s : Str => s.cps.toList.length) h
  exact absurd this (by show (2 : Nat) ≠ 3; decide)
theorem rul_mem {rl : List RL} {r : RL} (h : r ∈ rl) (hks : (rl.map RL.key).Nodup) : rul rl r.s r.c = some r := by
  induction rl with
  | nil => cases h
  | cons a t ih =>
    rw [List.map_cons, List.nodup_cons] at hks
    unfold rul
    rw [List.find?_cons]
    rcases List.mem_cons.mp h with rfl | hr
    · rw [show (r.key == two r.s r.c) = true from beq_self_eq_true _]
    · have hne : a.key ≠ two r.s r.c := fun e => hks.1 (List.mem_map.mpr ⟨r, hr, e.symm⟩)
      rw [beq_eq_false_iff_ne.mpr hne]
      exact ih hr hks.2
theorem rul_is {rl : List RL} {s c : Nat} {r : RL} (h : rul rl s c = some r) : r ∈ rl ∧ r.s = s ∧ r.c = c := by
  have h1 := List.find?_some h
  have h2 := two_eq.mp (eq_of_beq h1)
  exact ⟨List.mem_of_find?_eq_some h, h2.1, h2.2⟩
/-- the entry that ends a tape's text at the bar -/
theorem ents_mem {rl : List RL} {y z : Str} (h : (y, z) ∈ ents rl) :
    (∃ s, (s = 80 ∨ s = 81) ∧ y = two s 124 ∧ z = three s 48 124) ∨
    (∃ r ∈ rl, r.left ≠ 1 ∧ y = two r.s r.c ∧ z = two r.l r.n) ∨
    (∃ r ∈ rl, r.left = 1 ∧ ∃ d, (d = 48 ∨ d = 49) ∧ y = three d r.s r.c ∧ z = three r.n d r.l) ∨
    (∃ r ∈ rl, r.left = 1 ∧ y = three 124 r.s r.c ∧ z = four 124 r.n 48 r.l) := by
  unfold ents at h
  rcases List.mem_append.mp h with h | h
  · simp only [List.mem_cons, List.not_mem_nil, or_false, Prod.mk.injEq] at h
    rcases h with ⟨rfl, rfl⟩ | ⟨rfl, rfl⟩
    · exact .inl ⟨80, .inl rfl, rfl, rfl⟩
    · exact .inl ⟨81, .inr rfl, rfl, rfl⟩
  · obtain ⟨r, hr, h⟩ := List.mem_flatMap.mp h
    unfold entsR at h
    split at h
    · rename_i hl
      simp only [List.mem_cons, List.not_mem_nil, or_false, Prod.mk.injEq] at h
      rcases h with ⟨rfl, rfl⟩ | ⟨rfl, rfl⟩ | ⟨rfl, rfl⟩
      · exact .inr (.inr (.inl ⟨r, hr, hl, 48, .inl rfl, rfl, rfl⟩))
      · exact .inr (.inr (.inl ⟨r, hr, hl, 49, .inr rfl, rfl, rfl⟩))
      · exact .inr (.inr (.inr ⟨r, hr, hl, rfl, rfl⟩))
    · rename_i hl
      simp only [List.mem_cons, List.not_mem_nil, or_false, Prod.mk.injEq] at h
      obtain ⟨rfl, rfl⟩ := h
      exact .inr (.inl ⟨r, hr, hl, rfl, rfl⟩)
def turnC (rl : List RL) (c : Cfg) (y : Str) : Cfg := if y = kkey rl c then stp rl c else c
theorem turn_ok {rl : List RL} {c : Cfg} {tk : Nat} (h : CfgOk c) (hr : ∀ r ∈ rl, RL.Ok r tk) (y : Str) : CfgOk (turnC rl c y) := by
  unfold turnC
  split
  · exact stp_ok h hr
  · exact h
theorem turn_len (rl : List RL) (c : Cfg) (y : Str) : (turnC rl c y).tape.length ≤ c.tape.length + 1 := by
  unfold turnC
  split
  · exact stp_len rl c
  · omega
section
variable {rl : List RL} {c : Cfg} {tk : Nat}
theorem cur_rule (h : CfgOk c) (hok : ∀ r ∈ rl, RL.Ok r tk) {r : RL} (hr : rul rl c.st (cur c) = some r) : c.head < c.tape.length := by
  by_cases hl : c.head < c.tape.length
  · exact hl
  · obtain ⟨h1, h2, h3⟩ := rul_is hr
    have h4 := (hok r h1).hc
    rw [cur_out hl] at h3
    omega
theorem kkey_bar (h : CfgOk c) (hok : ∀ r ∈ rl, RL.Ok r tk) (hl : ¬ c.head < c.tape.length) : kkey rl c = two c.st 124 := by
  have hn : rul rl c.st (cur c) = none := by
    cases e : rul rl c.st (cur c) with
    | none => rfl
    | some r => exact absurd (cur_rule h hok e) hl
  unfold kkey
  rw [hn, cur_out hl]
theorem kkey_two (h : CfgOk c) (hok : ∀ r ∈ rl, RL.Ok r tk) {s : Nat} : two s 124 = kkey rl c ↔ s = c.st ∧ 124 = cur c := by
  by_cases hl : c.head < c.tape.length
  · have hc := cur_in h hl
    unfold kkey
    split
    · split
      · refine ⟨fun e => absurd e two_three, fun e => ?_⟩
        have := e.2
        omega
      · exact two_eq
    · exact two_eq
  · rw [kkey_bar h hok hl, cur_out hl, two_eq]
theorem kkey_r0 (hks : (rl.map RL.key).Nodup) {r : RL} (hr : r ∈ rl) (h0 : r.left ≠ 1) : two r.s r.c = kkey rl c ↔ r.s = c.st ∧ r.c = cur c := by
  constructor
  · intro e
    unfold kkey at e
    split at e
    · split at e
      · exact absurd e two_three
      · exact two_eq.mp e
    · exact two_eq.mp e
  · rintro ⟨e1, e2⟩
    unfold kkey
    rw [← e1, ← e2, rul_mem hr hks]
    dsimp only
    rw [if_neg h0]
theorem kkey_r1 (hks : (rl.map RL.key).Nodup) {r : RL} (hr : r ∈ rl) (h1 : r.left = 1) {d : Nat} : three d r.s r.c = kkey rl c ↔ d = prv c ∧ r.s = c.st ∧ r.c = cur c := by
  constructor
  · intro e
    unfold kkey at e
    split at e
    · split at e
      · exact three_eq.mp e
      · exact absurd e.symm two_three
    · exact absurd e.symm two_three
  · rintro ⟨e0, e1, e2⟩
    unfold kkey
    rw [← e0, ← e1, ← e2, rul_mem hr hks]
    dsimp only
    rw [if_pos h1]
theorem stp_rule {r : RL} (hl : c.head < c.tape.length) (h : rul rl c.st (cur c) = some r) : stp rl c = moved c r := by
  unfold stp
  rw [if_pos hl, h]
/-- one entry's turn at a tape's text, with more text behind it -/
theorem rep_turn (hok : ∀ r ∈ rl, RL.Ok r tk) (hks : (rl.map RL.key).Nodup) (h : CfgOk c) {y z : Str} (hm : (y, z) ∈ ents rl) {R : List Nat} (hR : ∀ x r, R = x :: r → nol x) :
    rep y.cps.toList z.cps.toList 0 (txt c ++ R) = txt (turnC rl c y) ++ rep y.cps.toList z.cps.toList 0 R := by
  have hA := tA_nol h
  have hB := tB_nol h
  have hp : nol (prv c) := nol_tape (prv_is h)
  have hq : nol (cur c) := nol_tape (cur_is h)
  have ht := txt_split h
  have e0 : txt c ++ R = tA c ++ prv c :: c.st :: cur c :: (tB c ++ R) := by rw [ht]; simp
  rcases ents_mem hm with ⟨s, hs, rfl, rfl⟩ | ⟨r, hr, hl, rfl, rfl⟩ | ⟨r, hr, hl, d, hd, rfl, rfl⟩ | ⟨r, hr, hl, rfl, rfl⟩
  · show rep [s, 124] [s, 48, 124] 0 _ = _ ++ rep [s, 124] [s, 48, 124] 0 R
    rw [e0, rep2_txt hs hA hp hq hB]
    unfold turnC
    by_cases e : s = c.st ∧ 124 = cur c
    · rw [if_pos e, if_pos ((kkey_two h hok).mpr e)]
      have hn : ¬ c.head < c.tape.length := by
        intro hl
        have := cur_in h hl
        omega
      unfold stp
      rw [if_neg hn, txt_end hn h, e.1]
      simp
    · rw [if_neg e, if_neg (fun h' => e ((kkey_two h hok).mp h')), ht]
      simp
  · have ok := hok r hr
    show rep [r.s, r.c] [r.l, r.n] 0 _ = _ ++ rep [r.s, r.c] [r.l, r.n] 0 R
    rw [e0, rep2_txt ok.hs hA hp hq hB]
    unfold turnC
    by_cases e : r.s = c.st ∧ r.c = cur c
    · rw [if_pos e, if_pos ((kkey_r0 hks hr hl).mpr e)]
      have hru : rul rl c.st (cur c) = some r := by rw [← e.1, ← e.2, rul_mem hr hks]
      have hn := cur_rule h hok hru
      have h0 : r.left = 0 := by have := ok.hf; omega
      rw [stp_rule hn hru, txt_right hn h0]
      simp
    · rw [if_neg e, if_neg (fun h' => e ((kkey_r0 hks hr hl).mp h')), ht]
      simp
  · have ok := hok r hr
    show rep [d, r.s, r.c] [r.n, d, r.l] 0 _ = _ ++ rep [d, r.s, r.c] [r.n, d, r.l] 0 R
    rw [e0, rep3_txt ok.hs h.st (by unfold nol; omega) hA hp hq hB hR]
    unfold turnC
    by_cases e : d = prv c ∧ r.s = c.st ∧ r.c = cur c
    · rw [if_pos e, if_pos ((kkey_r1 hks hr hl).mpr e)]
      have hru : rul rl c.st (cur c) = some r := by rw [← e.2.1, ← e.2.2, rul_mem hr hks]
      have hn := cur_rule h hok hru
      have h0 : 0 < c.head := by
        have e1 := e.1
        unfold prv at e1
        split at e1
        · assumption
        · omega
      rw [stp_rule hn hru, txt_left hn hl h0, e.1]
      simp
    · rw [if_neg e, if_neg (fun h' => e ((kkey_r1 hks hr hl).mp h')), ht]
      simp
  · have ok := hok r hr
    show rep [124, r.s, r.c] [124, r.n, 48, r.l] 0 _ = _ ++ rep [124, r.s, r.c] [124, r.n, 48, r.l] 0 R
    rw [e0, rep3_txt ok.hs h.st (by unfold nol; omega) hA hp hq hB hR]
    unfold turnC
    by_cases e : 124 = prv c ∧ r.s = c.st ∧ r.c = cur c
    · rw [if_pos e, if_pos ((kkey_r1 hks hr hl).mpr e)]
      have hru : rul rl c.st (cur c) = some r := by rw [← e.2.1, ← e.2.2, rul_mem hr hks]
      have hn := cur_rule h hok hru
      have h0 : ¬ 0 < c.head := by
        intro h0
        have e1 := e.1
        unfold prv at e1
        rw [if_pos h0] at e1
        have := tape_get h (i := c.head - 1) (by omega)
        omega
      rw [stp_rule hn hru, txt_edge hn hl h0]
      simp
    · rw [if_neg e, if_neg (fun h' => e ((kkey_r1 hks hr hl).mp h')), ht]
      simp
theorem txt_nol {c : Cfg} : ∀ x r, txt c = x :: r → nol x := by
  intro x r h
  rw [← (List.cons.inj h).1]
  exact nol_tape (by simp)
/-- one entry's turn at both tapes -/
theorem rep_both (hok : ∀ r ∈ rl, RL.Ok r tk) (hks : (rl.map RL.key).Nodup) (h : CfgOk c) {c' : Cfg} (h' : CfgOk c') {y z : Str} (hm : (y, z) ∈ ents rl) :
    rep y.cps.toList z.cps.toList 0 (txt c ++ txt c') = txt (turnC rl c y) ++ txt (turnC rl c' y) := by
  rw [rep_turn hok hks h hm txt_nol]
  have e := rep_turn hok hks h' hm (R := []) (fun x r h => by cases h)
  rw [List.append_nil, rep_nil, List.append_nil] at e
  rw [e]
end
end Mine

open PySem PySem.W PySem.Calls PyProof.Rows PyProof.V PySem.Spec
set_option Elab.async false
set_option linter.unusedVariables false
namespace Mine
def callFrom (rl : List RL) (keys : List Str) (c : Cfg) (i : Nat) : Cfg := (keys.drop i).foldl (turnC rl) c
def calls (rl : List RL) (keys : List Str) (c : Cfg) : Nat → Cfg
  | 0 => c
  | k + 1 => callFrom rl keys (calls rl keys c k) 0
section
variable {rl : List RL} {keys : List Str} {tk : Nat}
theorem fold_skip {c : Cfg} : ∀ l : List Str, (∀ y ∈ l, y ≠ kkey rl c) → l.foldl (turnC rl) c = c
  | [], _ => rfl
  | a :: t, h => by
    rw [List.foldl_cons]
    unfold turnC
    rw [if_neg (h a (.head _))]
    exact fold_skip t fun y hy => h y (.tail _ hy)
theorem from_cons {c : Cfg} {j : Nat} (h : j < keys.length) : callFrom rl keys c j = callFrom rl keys (turnC rl c keys[j]) (j + 1) := by
  unfold callFrom
  rw [List.drop_eq_getElem_cons h]
  rfl
theorem from_to (hk : keys.Nodup) {c : Cfg} {e : Nat} (he : e < keys.length) (hq : keys[e] = kkey rl c) : ∀ (n j : Nat), j + n = e → callFrom rl keys c j = callFrom rl keys (stp rl c) (e + 1)
  | 0, j, h => by
    have hj : j = e := by omega
    subst hj
    rw [from_cons he]
    unfold turnC
    rw [if_pos hq]
  | n + 1, j, h => by
    have hj : j < keys.length := by omega
    rw [from_cons hj]
    unfold turnC
    rw [if_neg, from_to hk he hq n (j + 1) (by omega)]
    intro e1
    rw [← hq] at e1
    have := (List.getElem_inj hk).mp e1
    omega
theorem from_end (hk : keys.Nodup) {c : Cfg} {j : Nat} (h : entry rl keys c < j) : callFrom rl keys c j = c := by
  refine fold_skip _ fun y hy e => ?_
  subst e
  have hm := List.mem_of_mem_drop hy
  unfold entry at h
  rw [if_pos hm] at h
  obtain ⟨i, hi, e⟩ := List.mem_iff_getElem.mp hy
  have hi2 : j + i < keys.length := by rw [List.length_drop] at hi; omega
  rw [List.getElem_drop] at e
  have h1 := List.getElem_idxOf (List.idxOf_lt_length_of_mem hm)
  rw [← h1] at e
  have := (List.getElem_inj hk).mp e
  omega
structure IterOk (rl : List RL) (keys : List Str) (c0 : Cfg) (x : LS) : Prop where
  s : x.shown = (List.range x.shown.length).map fun i => txt (calls rl keys c0 i)
  f : callFrom rl keys x.c (x.last + 1).toNat = calls rl keys c0 x.shown.length
  lo : -1 ≤ x.last
theorem iter_keep (hk : keys.Nodup) {c0 : Cfg} {x : LS} (h : IterOk rl keys c0 x) : IterOk rl keys c0 (iter rl keys x) := by
  obtain ⟨hs, hf, lo⟩ := h
  unfold iter
  by_cases he : entry rl keys x.c ≤ x.last
  · rw [if_pos he]
    have e1 : callFrom rl keys x.c (x.last + 1).toNat = x.c := from_end hk (by omega)
    rw [e1] at hf
    refine ⟨?_, ?_, by show -1 ≤ (-1 : Int); omega⟩
    · show x.shown ++ [txt x.c] = (List.range (x.shown ++ [txt x.c]).length).map _
      rw [List.length_append, List.length_singleton, List.range_succ, List.map_append, ← hs]
      show _ = _ ++ [txt (calls rl keys c0 x.shown.length)]
      rw [← hf]
    · show callFrom rl keys x.c ((-1 : Int) + 1).toNat = calls rl keys c0 (x.shown ++ [txt x.c]).length
      rw [List.length_append, List.length_singleton]
      show callFrom rl keys x.c 0 = callFrom rl keys (calls rl keys c0 x.shown.length) 0
      rw [← hf]
  · rw [if_neg he]
    have hm : kkey rl x.c ∈ keys := by
      by_cases hm : kkey rl x.c ∈ keys
      · exact hm
      · exfalso
        unfold entry at he
        rw [if_neg hm] at he
        exact he lo
    have he1 : entry rl keys x.c = (keys.idxOf (kkey rl x.c) : Nat) := by unfold entry; rw [if_pos hm]
    have hlt := List.idxOf_lt_length_of_mem hm
    have hget := List.getElem_idxOf hlt
    refine ⟨hs, ?_, by show -1 ≤ entry rl keys x.c; omega⟩
    show callFrom rl keys (stp rl x.c) (entry rl keys x.c + 1).toNat = _
    rw [← hf, he1, show ((keys.idxOf (kkey rl x.c) : Nat) + 1 : Int).toNat = keys.idxOf (kkey rl x.c) + 1 by omega]
    exact (from_to hk hlt hget (keys.idxOf (kkey rl x.c) - (x.last + 1).toNat) _ (by omega)).symm
theorem iters_ok (hk : keys.Nodup) (c0 : Cfg) {n : Nat} (hn : n = keys.length) : ∀ k, IterOk rl keys c0 (iters rl keys ⟨c0, [], (n : Int)⟩ k)
  | 0 => by
    subst hn
    refine ⟨rfl, ?_, by show -1 ≤ (keys.length : Int); omega⟩
    show callFrom rl keys c0 ((keys.length : Int) + 1).toNat = c0
    unfold callFrom
    rw [List.drop_eq_nil_of_le (by omega)]
    rfl
  | k + 1 => iter_keep hk (iters_ok hk c0 hn k)
/-- what _law_shown shows at place i -/
theorem shown_get (hk : keys.Nodup) {c0 : Cfg} {n k : Nat} (hn : n = keys.length) {sl : List (Str × Tok)} (h : sl.map (fun p => p.1.cps.toList) = (iters rl keys ⟨c0, [], (n : Int)⟩ k).shown) (h7 : sl.length = 7) {i : Nat} (hi : i < 7) :
    ∃ p, sl[i]? = some p ∧ p.1.cps.toList = txt (calls rl keys c0 i) := by
  have hs := (iters_ok (rl := rl) hk c0 hn k).s
  have hl := congrArg List.length h
  rw [List.length_map, h7] at hl
  rw [← h, List.length_map, h7] at hs
  have hi2 : i < sl.length := by omega
  refine ⟨sl[i], List.getElem?_eq_getElem hi2, ?_⟩
  have e := congrArg (fun l => l[i]?) hs
  simp only [List.getElem?_map, List.getElem?_eq_getElem hi2, List.getElem?_range hi, Option.map_some, Option.some.injEq] at e
  exact e
theorem fold_ok (hok : ∀ r ∈ rl, RL.Ok r tk) : ∀ (l : List Str) {c : Cfg}, CfgOk c → CfgOk (l.foldl (turnC rl) c)
  | [], _, h => h
  | a :: t, _, h => fold_ok hok t (turn_ok h hok a)
theorem fold_len : ∀ (l : List Str) (c : Cfg), (l.foldl (turnC rl) c).tape.length ≤ c.tape.length + l.length
  | [], _ => Nat.le_refl _
  | a :: t, c => by
    have h1 := fold_len t (turnC rl c a)
    have h2 := turn_len rl c a
    rw [List.foldl_cons, List.length_cons]
    omega
theorem calls_ok (hok : ∀ r ∈ rl, RL.Ok r tk) {c : Cfg} (h : CfgOk c) : ∀ k, CfgOk (calls rl keys c k)
  | 0 => h
  | k + 1 => fold_ok hok _ (calls_ok hok h k)
theorem calls_len (c : Cfg) : ∀ k, (calls rl keys c k).tape.length ≤ c.tape.length + keys.length * k
  | 0 => Nat.le_refl _
  | k + 1 => by
    have h1 := calls_len c k
    have h2 := fold_len (rl := rl) (keys.drop 0) (calls rl keys c k)
    rw [List.drop_zero] at h2
    have h3 : keys.length * (k + 1) = keys.length * k + keys.length := Nat.mul_succ ..
    show (List.foldl (turnC rl) _ (keys.drop 0)).tape.length ≤ _
    rw [List.drop_zero]
    omega
theorem txt_len (c : Cfg) : (txt c).length = c.tape.length + 3 := by
  unfold txt
  have h : (c.tape.take c.head).length + (c.tape.drop c.head).length = c.tape.length := by
    rw [← List.length_append, List.take_append_drop]
  simp only [List.length_cons, List.length_append, List.length_nil]
  omega
/-- the text after j turns of a call -/
def mid (rl : List RL) (keys : List Str) (c c' : Cfg) (j : Nat) : List Nat := txt ((keys.take j).foldl (turnC rl) c) ++ txt ((keys.take j).foldl (turnC rl) c')
theorem mid_zero (c c' : Cfg) : mid rl keys c c' 0 = txt c ++ txt c' := rfl
theorem mid_end (c c' : Cfg) (k : Nat) : mid rl keys (calls rl keys c k) (calls rl keys c' k) keys.length = txt (calls rl keys c (k + 1)) ++ txt (calls rl keys c' (k + 1)) := by
  unfold mid
  rw [List.take_length]
  rfl
theorem mid_len {c c' : Cfg} {j : Nat} : (mid rl keys c c' j).length ≤ c.tape.length + c'.tape.length + 2 * keys.length + 6 := by
  unfold mid
  rw [List.length_append, txt_len, txt_len]
  have h1 := fold_len (rl := rl) (keys.take j) c
  have h2 := fold_len (rl := rl) (keys.take j) c'
  have h3 : (keys.take j).length ≤ keys.length := List.length_take_le' ..
  omega
theorem mid_turn (hok : ∀ r ∈ rl, RL.Ok r tk) (hks : (rl.map RL.key).Nodup) {c c' : Cfg} (h : CfgOk c) (h' : CfgOk c') {j : Nat} {x y z : Str} (hj : keys[j]? = some y) (hm : (y, z) ∈ ents rl) (hx : x.cps.toList = mid rl keys c c' j) :
    (Txt.replace x y z).cps.toList = mid rl keys c c' (j + 1) := by
  have hy : 1 ≤ y.length := by
    rcases ents_mem hm with ⟨s, hs, rfl, rfl⟩ | ⟨r, hr, hl, rfl, rfl⟩ | ⟨r, hr, hl, d, hd, rfl, rfl⟩ | ⟨r, hr, hl, rfl, rfl⟩ <;> exact Nat.le_add_left 1 _
  rw [replace_rep z hy, hx]
  unfold mid
  rw [rep_both hok hks (fold_ok hok _ h) (fold_ok hok _ h') hm, List.take_add_one, hj, List.foldl_append, List.foldl_append]
  rfl
theorem key_ents {es : List EL} (hp : (es.map EL.kv).Perm (ents rl)) {y : Str} (h : y ∈ es.map EL.key) : ∃ z, (y, z) ∈ ents rl := by
  obtain ⟨e, he, rfl⟩ := List.mem_map.mp h
  exact ⟨e.val, hp.mem_iff.mp (List.mem_map.mpr ⟨e, he, rfl⟩)⟩
theorem keys_rule (hks : (rl.map RL.key).Nodup) (hmem : ∀ y ∈ keys, ∃ z, (y, z) ∈ ents rl) {c : Cfg} (h : CfgOk c) (hl : c.head < c.tape.length) (hk : kkey rl c ∈ keys) : ∃ r, rul rl c.st (cur c) = some r := by
  cases e : rul rl c.st (cur c) with
  | some r => exact ⟨r, rfl⟩
  | none =>
    exfalso
    obtain ⟨z, hz⟩ := hmem _ hk
    have e1 : kkey rl c = two c.st (cur c) := by unfold kkey; rw [e]
    rw [e1] at hz
    have hc := cur_in h hl
    rcases ents_mem hz with ⟨s, hs, e2, -⟩ | ⟨r, hr, h0, e2, -⟩ | ⟨r, hr, h1, d, hd, e2, -⟩ | ⟨r, hr, h1, e2, -⟩
    · have := (two_eq.mp e2).2
      omega
    · obtain ⟨e3, e4⟩ := two_eq.mp e2
      rw [e3, e4, rul_mem hr hks] at e
      cases e
    · exact two_three e2
    · exact two_three e2
theorem entsR_tail {r : RL} : ∀ p ∈ entsR r, p.1.cps.toList.reverse.take 2 = [r.c, r.s] := by
  intro p hp
  unfold entsR at hp
  split at hp
  · simp only [List.mem_cons, List.not_mem_nil, or_false] at hp
    rcases hp with rfl | rfl | rfl <;> rfl
  · rw [List.mem_singleton.mp hp]; rfl
theorem flat_nodup : ∀ {l : List RL}, (l.map RL.key).Nodup → ((l.flatMap entsR).map (·.1)).Nodup
  | [], _ => List.nodup_nil
  | r :: t, h => by
    rw [List.map_cons, List.nodup_cons] at h
    rw [List.flatMap_cons, List.map_append, List.nodup_append]
    refine ⟨?_, flat_nodup h.2, ?_⟩
    · unfold entsR
      split
      · show [three 48 r.s r.c, three 49 r.s r.c, three 124 r.s r.c].Nodup
        simp [three_eq]
      · exact List.nodup_cons.mpr ⟨by simp, List.nodup_nil⟩
    · intro a ha b hb e
      subst e
      obtain ⟨p, hp, rfl⟩ := List.mem_map.mp ha
      obtain ⟨q, hq, hqe⟩ := List.mem_map.mp hb
      obtain ⟨r', hr', hq'⟩ := List.mem_flatMap.mp hq
      have e1 := entsR_tail p hp
      have e2 := entsR_tail q hq'
      rw [hqe, e1] at e2
      injection e2 with e3 e4
      injection e4 with e4
      exact h.1 (List.mem_map.mpr ⟨r', hr', two_eq.mpr ⟨e4.symm, e3.symm⟩⟩)
theorem ents_nodup (hok : ∀ r ∈ rl, RL.Ok r tk) (hks : (rl.map RL.key).Nodup) : ((ents rl).map (·.1)).Nodup := by
  unfold ents
  rw [List.map_append, List.nodup_append]
  refine ⟨?_, flat_nodup hks, ?_⟩
  · show [two 80 124, two 81 124].Nodup
    decide +kernel
  · intro a ha b hb e
    subst e
    obtain ⟨q, hq, hqe⟩ := List.mem_map.mp hb
    obtain ⟨r, hr, hq'⟩ := List.mem_flatMap.mp hq
    have e2 := entsR_tail q hq'
    have ok := (hok r hr).hc
    rw [hqe] at e2
    have ha' : a = two 80 124 ∨ a = two 81 124 := by simpa using ha
    rcases ha' with rfl | rfl <;> (have e3 := (List.cons.inj e2).1; omega)
end
end Mine

open PySem PySem.W PySem.Calls PyProof.Rows PyProof.V PySem.Spec
set_option Elab.async false
set_option maxRecDepth 100000
set_option maxHeartbeats 8000000
set_option linter.unusedVariables false
namespace Mine
local macro_rules | `(tactic| walk_at "lit") => `(tactic| dsimp only [bodyAt, lawDef, forBody, fnBody, fnScope, PySem.Challenge.pw_kn0103_02, List.getD, List.getElem?_cons_succ, List.getElem?_cons_zero, Option.getD, List.drop])
local macro_rules | `(tactic| walk_at "ks1") => `(tactic| (first | (k_unfold; (try dsimp only)) | (k_end; wrow_close) | walk1 | (dsimp only; walk1) | (leave1; walk_say "STEP leave1"; try dsimp only) | fail "no step"))
local macro_rules | `(tactic| walk_at "ks") => `(tactic| repeat' ((fail_if_success (with_reducible show wpAny _ _ (exec (Stmt.For _ _ _ _ _) _) _ _ _)); (fail_if_success (with_reducible show wpAny _ _ (exec (Stmt.While _ _ _ _) _) _ _ _)); (fail_if_success (with_reducible show wpAny _ _ (pyIter _) (fun it s₂ => OwnAt _ _ _ _ _ _ _ _ it s₂) _ _)); (fail_if_success (with_reducible show wpAny _ _ (eval (PySem.Expr.Dict [] [] _) _) _ _ _)); (fail_if_success (with_reducible show TurnPost _ _ _ _ _ _ _ _ _)); walk_at "ks1"))
local macro_rules | `(tactic| walk_at "kst") => `(tactic| repeat' ((fail_if_success (with_reducible show TB _ _ → _)); walk_at "ks1"))
local macro_rules | `(tactic| walk_at "execs cons") => `(tactic| (k_here; (rename TB _ _ => hTBo); refine execs_tb (TB.mono hTBo (Nat.le_refl _) (by (try dsimp only); omega)) ?_; clear hTBo; intro tk hTB; (try dsimp only)))
local macro_rules | `(tactic| walk_at "sub") => `(tactic| first | exact List.forall_mem_nil _ | (refine List.forall_mem_cons.mpr ⟨by k_mem, ?_⟩; walk_at "sub") | (intro p hp; repeat' (first | exact hp | refine List.mem_cons_of_mem _ ?_)))
local macro_rules | `(tactic| walk_at "execs nil") => `(tactic| (refine wpAny_execs_nil ?_; (try dsimp only)))
local macro_rules | `(tactic| walk_at "ks0") => `(tactic| repeat' ((fail_if_success (with_reducible show wpAny _ _ (eval (PySem.Expr.BinOp _ _ _ _) _) _ _ _)); walk_at "ks1"))
local macro_rules | `(tactic| walk_at "ksc") => `(tactic| repeat' ((fail_if_success (with_reducible show LCg.CompSrc _ _ _ _ _ _ _ _ _ _ _ _ _ _)); walk_at "ks1"))
local macro_rules | `(tactic| walk_at "kslc") => `(tactic| repeat' ((fail_if_success (with_reducible show wpAny _ _ (exec (Stmt.Assign _ (PySem.Expr.ListComp _ _ _ _) _) _) _ _ _)); walk_at "ks1"))
local macro_rules | `(tactic| walk_at "ksc") => `(tactic| repeat' ((fail_if_success (with_reducible show LCg.CompSrc _ _ _ _ _ _ _ _ _ _ _ _ _ _)); walk_at "ks1"))
local macro_rules | `(tactic| walk_at "ksi") => `(tactic| repeat' ((fail_if_success (with_reducible show ite _ _ _)); walk_at "ks1"))
local macro_rules | `(tactic| walk_at "kse") => `(tactic| repeat' ((fail_if_success (with_reducible show wpAny _ (Around.deeper (Around.deeper _ _) _) (execs _ _) _ _ _)); walk_at "ks1"))
theorem fillG : PySem.Challenge.rw_kn0103_02 = PySem.Challenge.rw_kn0103_02 ∧ hd2.heap_39 = hd2.heap_39 := by
  w_top off
  k_fill
  exact ⟨rfl, rfl⟩
theorem cfg_ok {tl : List (Nat × Tok)} {hd st : Nat} (h6 : tl.length = 6) (hb : ∀ p ∈ tl, p.1 = 48 ∨ p.1 = 49) (hh : hd ≤ 6) (hst : st = 80 ∨ st = 81) : CfgOk ⟨tl.map (·.1), hd, st⟩ := by
  refine ⟨by show hd ≤ (tl.map (·.1)).length; rw [List.length_map]; omega, ?_, hst⟩
  intro x hx
  obtain ⟨p, hp, rfl⟩ := List.mem_map.mp hx
  exact hb p hp
theorem law_e {w : World} {h₀ : Heap} {mg mb : Str → Option Value} {mean : ExcName → Option Value} {l : Addr} {vs : List Value} {ns : List Int} (G : Given w h₀ mg mb mean l vs ns)
   {L fa : Addr} {cd : Value} {s : Shared} {Q : Flow → Shared → Prop} (h1 : 0 < s.toks) {m : Loc} {D R K Tb : Addr} {rl : List RL} {nR n nK tk0 : Nat} {cv : List Value} {c : List Int} {ksl : List (Str × Tok)} {rest : Led} (hcv : IntsAre cv c) (hc6 : c.length = 6)
   (hkl : ksl.length ≤ 14) (hks : (rl.map RL.key).Nodup) (hrl : ∀ r ∈ rl, RL.Ok r tk0) (lo : (R == sysModules) = false) (hR : (R, rDict w rl nR) ∈ rest) (hRt : ∀ p ∈ rTups rl, p ∈ rest) (hD : (D, PySem.W.listOf cv.toArray n) ∈ rest)
   (hmem : ∀ y ∈ ksl.map (·.1), ∃ z, (y, z) ∈ ents rl)
   (F : Fr h₀ L s.heap m) (hm : Has m [(Str.ofString "cells", .ref D), (Str.ofString "rules", .ref R), (Str.ofString "table", .ref Tb), (Str.ofString "keys", .ref K)])
   (N : News h₀ L s.heap ((K, PySem.W.listOf (strValues ksl).toArray nK) :: rest)) {o1 : Obj} (hnd : (((K, o1) :: rest).map (·.1)).Nodup)
   (next : ∀ h tk m' S1 S2 (sl1 sl2 : List (Str × Tok)) n1 n2 (c1 c2 : Cfg) k1 k2, CfgOk c1 → CfgOk c2 → c1.tape.length = 6 → c2.tape.length = 6 → sl1.length = 7 → sl2.length = 7 →
      sl1.map (fun p => p.1.cps.toList) = (iters rl (ksl.map (·.1)) ⟨c1, [], (ksl.length : Int)⟩ k1).shown → sl2.map (fun p => p.1.cps.toList) = (iters rl (ksl.map (·.1)) ⟨c2, [], (ksl.length : Int)⟩ k2).shown →
      Fr h₀ L h m' → Has m' [(Str.ofString "table", .ref Tb), (Str.ofString "one", .ref S1), (Str.ofString "other", .ref S2)] →
      News h₀ L h ((S2, PySem.W.listOf (strValues sl2).toArray n2) :: (S1, PySem.W.listOf (strValues sl1).toArray n1) :: rest) → TB 0 tk →
      wpAny (model P02 w) (callerA.deeper (lawEnv L fa cd)) (execs ((fnBody lawDef).drop 7) (lawEnv L fa cd)) Q (fun _ _ => False) { s with heap := h, toks := tk }) :
   wpAny (model P02 w) (callerA.deeper (lawEnv L fa cd)) (execs ((fnBody lawDef).drop 6) (lawEnv L fa cd)) Q (fun _ _ => False) s := by
  obtain ⟨heap, gens, drawn, toks, os⟩ := s
  dsimp only at h1 F N next ⊢
  obtain ⟨KX, T, K0, hL, hI, lay, len⟩ := G
  have hs : TB 0 toks := Nat.zero_le _
  rw [hm.eq] at F
  revert next
  unfold lawEnv
  walk_at "lit"
  intro next
  walk_at "kse"
  obtain ⟨t4, e4⟩ := ints_at hcv (i := 4) (by omega)
  obtain ⟨t5, e5⟩ := ints_at hcv (i := 5) (by omega)
  have hcl : cv.length ≤ 16777216 := by rw [ints_len hcv, hc6]; decide
  refine r_item (vs := cv) 4 (News.get N (.tail _ hD)) e4 hcl ?_
  walk_at "kse"
  rename_i g' L' h' tk' FG' F' B' X' T' l1 o' d1' N'
  refine wpAny_mono (shown_a X' T' B' (Nat.zero_le _) hkl F' ⟨rfl, rfl, rfl, trivial⟩ d1' N' hnd ?_) (fun _ _ h => h) (fun _ _ h => h.elim)
  intro h2 tk2 m2 Tp Sh tl nT2 hd st t1 t2 t3 h6 hb hh hst F2 hm2 N2 hnd2 hTB2
  refine shown_b X' T' B' hTB2 h6 hb hh hst hkl hks hrl lo (.tail _ hR) (fun p hp => .tail _ (hRt p hp)) (.head _) (fun c hc hl hk => keys_rule hks hmem hc hl hk) F2 hm2 N2 hnd2 ?_
  intro h3 tk3 m3 k3 sl nS hsl h7 F3 N3 hTB3
  walk_at "kse"
  (rename News h₀ _ _ _ => N4)
  refine r_item (vs := cv) 5 (News.get N4 (.tail _ (.tail _ hD))) e5 hcl ?_
  walk_at "kse"
  rename_i g5 L5 h5 tk5 FG5 F5 B5 X5 T5 l5 o5 d5 N5
  have hnd3 := nd_tail hnd2
  have hnd5 : (((K, PySem.W.listOf (strValues ksl).toArray nK) :: (Sh, PySem.W.listOf #[] 0) :: rest).map (·.1)).Nodup :=
    ((List.Perm.swap (K, PySem.W.listOf (strValues ksl).toArray nK) (Sh, PySem.W.listOf #[] 0) rest).map (·.1)).nodup_iff.mp hnd3
  refine wpAny_mono (shown_a X5 T5 B5 (Nat.zero_le _) hkl F5 ⟨rfl, rfl, rfl, trivial⟩ d5 (rest := (Sh, PySem.W.listOf (strValues sl).toArray nS) :: rest) (news_sub N5 (by walk_at "sub")) hnd5 ?_) (fun _ _ h => h) (fun _ _ h => h.elim)
  intro hp6 tk6 m6 Tp6 Sh6 tl6 nT6 hd6 st6 t16 t26 t36 h66 hb6 hh6 hst6 F6 hm6 N6 hnd6 hTB6
  refine shown_b X5 T5 B5 hTB6 h66 hb6 hh6 hst6 hkl hks hrl lo (.tail _ (.tail _ hR)) (fun p hp => .tail _ (.tail _ (hRt p hp))) (.head _) (fun c hc hl hk => keys_rule hks hmem hc hl hk) F6 hm6 N6 hnd6 ?_
  intro h7' tk7 m7 k7 sl7 nS7 hsl7 h77 F7 N7 hTB7
  walk_at "kst"
  intro hTBe
  (rename Fr h₀ _ _ _ => F8)
  (rename News h₀ _ _ _ => N8)
  refine next _ _ _ Sh Sh6 sl sl7 nS nS7 ⟨tl.map (·.1), hd, st⟩ ⟨tl6.map (·.1), hd6, st6⟩ k3 k7 ?_ ?_ ?_ ?_ h7 h77 hsl hsl7 F8 ⟨rfl, rfl, rfl, trivial⟩ (news_sub N8 (by walk_at "sub")) hTBe
  · exact cfg_ok h6 hb hh hst
  · exact cfg_ok h66 hb6 hh6 hst6
  · simpa using h6
  · simpa using h66
end Mine

open PySem PySem.W PySem.Calls PyProof.Rows PyProof.V PySem.Spec
set_option Elab.async false
set_option maxRecDepth 100000
set_option maxHeartbeats 8000000
set_option linter.unusedVariables false
namespace Mine
local macro_rules | `(tactic| walk_at "lit") => `(tactic| dsimp only [bodyAt, lawDef, forBody, fnBody, fnScope, PySem.Challenge.pw_kn0103_02, List.getD, List.getElem?_cons_succ, List.getElem?_cons_zero, Option.getD, List.drop])
local macro_rules | `(tactic| walk_at "ks1") => `(tactic| (first | (k_unfold; (try dsimp only)) | (k_end; wrow_close) | walk1 | (dsimp only; walk1) | (leave1; walk_say "STEP leave1"; try dsimp only) | fail "no step"))
local macro_rules | `(tactic| walk_at "ks") => `(tactic| repeat' ((fail_if_success (with_reducible show wpAny _ _ (exec (Stmt.For _ _ _ _ _) _) _ _ _)); (fail_if_success (with_reducible show wpAny _ _ (exec (Stmt.While _ _ _ _) _) _ _ _)); (fail_if_success (with_reducible show wpAny _ _ (pyIter _) (fun it s₂ => OwnAt _ _ _ _ _ _ _ _ it s₂) _ _)); (fail_if_success (with_reducible show wpAny _ _ (eval (PySem.Expr.Dict [] [] _) _) _ _ _)); (fail_if_success (with_reducible show TurnPost _ _ _ _ _ _ _ _ _)); walk_at "ks1"))
local macro_rules | `(tactic| walk_at "kst") => `(tactic| repeat' ((fail_if_success (with_reducible show TB _ _ → _)); walk_at "ks1"))
local macro_rules | `(tactic| walk_at "sub") => `(tactic| first | exact List.forall_mem_nil _ | (refine List.forall_mem_cons.mpr ⟨by k_mem, ?_⟩; walk_at "sub") | (intro p hp; repeat' (first | exact hp | refine List.mem_cons_of_mem _ ?_)))
local macro_rules | `(tactic| walk_at "execs nil") => `(tactic| (refine wpAny_execs_nil ?_; (try dsimp only)))
local macro_rules | `(tactic| walk_at "ks0") => `(tactic| repeat' ((fail_if_success (with_reducible show wpAny _ _ (eval (PySem.Expr.BinOp _ _ _ _) _) _ _ _)); walk_at "ks1"))
local macro_rules | `(tactic| walk_at "ksc") => `(tactic| repeat' ((fail_if_success (with_reducible show LCg.CompSrc _ _ _ _ _ _ _ _ _ _ _ _ _ _)); walk_at "ks1"))
local macro_rules | `(tactic| walk_at "kslc") => `(tactic| repeat' ((fail_if_success (with_reducible show wpAny _ _ (exec (Stmt.Assign _ (PySem.Expr.ListComp _ _ _ _) _) _) _ _ _)); walk_at "ks1"))
local macro_rules | `(tactic| walk_at "ksc") => `(tactic| repeat' ((fail_if_success (with_reducible show LCg.CompSrc _ _ _ _ _ _ _ _ _ _ _ _ _ _)); walk_at "ks1"))
local macro_rules | `(tactic| walk_at "ksi") => `(tactic| repeat' ((fail_if_success (with_reducible show ite _ _ _)); walk_at "ks1"))
local macro_rules | `(tactic| walk_at "execs cons") => `(tactic| (k_here; (rename TB _ _ => hTBo); refine execs_tb (TB.mono hTBo (Nat.le_refl _) (by (try dsimp only); omega)) ?_; clear hTBo; intro tk hTB; (try dsimp only)))
local macro_rules | `(tactic| walk_at "ksm") => `(tactic| repeat' ((fail_if_success (with_reducible show wpAny _ _ (subscriptTail _ _ _ _) _ _ _)); (fail_if_success (with_reducible show wpAny _ _ (binaryOp _ _ _) _ _ _)); (fail_if_success (with_reducible show TB _ _ → _)); walk_at "ks1"))
theorem fillH : PySem.Challenge.rw_kn0103_02 = PySem.Challenge.rw_kn0103_02 ∧ hd2.heap_39 = hd2.heap_39 := by
  w_top off
  k_fill
  exact ⟨rfl, rfl⟩
def ShowsT (rl : List RL) (keys : List Str) (c : Cfg) (sl : List (Str × Tok)) : Prop := ∀ i, i < 7 → ∃ p, sl[i]? = some p ∧ p.1.cps.toList = txt (calls rl keys c i)
theorem sv_at {sl : List (Str × Tok)} {i : Nat} {p : Str × Tok} (h : sl[i]? = some p) : (strValues sl)[i]? = some (.str p.1 p.2) := by
  simp [strValues, h]
theorem str_len {x : Str} {l : List Nat} (h : x.cps.toList = l) : x.length = l.length := by
  rw [← h]; simp [Str.length]
theorem app_list {x y : Str} {a b : List Nat} (h : x.cps.toList = a) (h' : y.cps.toList = b) : (x ++ y).cps.toList = a ++ b := by
  rw [PySem.Str.cps_append, Array.toList_append, h, h']
theorem str_ext {x y : Str} (h : x.cps.toList = y.cps.toList) : x = y := PySem.Str.ext' (Array.toList_inj.mp h)
theorem law_f {w : World} {h₀ : Heap} {mg mb : Str → Option Value} {mean : ExcName → Option Value} {l : Addr} {vs : List Value} {ns : List Int} (G : Given w h₀ mg mb mean l vs ns)
   {L fa : Addr} {cd : Value} {s : Shared} {Q : Flow → Shared → Prop} {m : Loc} {S1 S2 Tb : Addr} {rl : List RL} {keys : List Str} {n1 n2 : Nat} {sl1 sl2 : List (Str × Tok)} {c1 c2 : Cfg} {rest : Led}
   (h71 : sl1.length = 7) (h72 : sl2.length = 7) (hs1 : ShowsT rl keys c1 sl1) (hs2 : ShowsT rl keys c2 sl2) (h61 : c1.tape.length = 6) (h62 : c2.tape.length = 6)
   (F : Fr h₀ L s.heap m) (hm : Has m [(Str.ofString "table", .ref Tb), (Str.ofString "one", .ref S1), (Str.ofString "other", .ref S2)])
   (N : News h₀ L s.heap ((S2, PySem.W.listOf (strValues sl2).toArray n2) :: (S1, PySem.W.listOf (strValues sl1).toArray n1) :: rest))
   (next : ∀ h tk m' X tX, X.cps.toList = txt c1 ++ txt c2 → Fr h₀ L h m' → Has m' [(Str.ofString "told", .str X tX), (Str.ofString "table", .ref Tb), (Str.ofString "one", .ref S1), (Str.ofString "other", .ref S2)] →
      News h₀ L h ((S2, PySem.W.listOf (strValues sl2).toArray n2) :: (S1, PySem.W.listOf (strValues sl1).toArray n1) :: rest) →
      wpAny (model P02 w) (callerA.deeper (lawEnv L fa cd)) (execs ((fnBody lawDef).drop 8) (lawEnv L fa cd)) Q (fun _ _ => False) { s with heap := h, toks := tk }) :
   wpAny (model P02 w) (callerA.deeper (lawEnv L fa cd)) (execs ((fnBody lawDef).drop 7) (lawEnv L fa cd)) Q (fun _ _ => False) s := by
  obtain ⟨heap, gens, drawn, toks, os⟩ := s
  dsimp only at F N next ⊢
  obtain ⟨KX, T, K0, hL, hI, lay, len⟩ := G
  rw [hm.eq] at F
  obtain ⟨p1, hp1, ht1⟩ := hs1 0 (by decide)
  obtain ⟨p2, hp2, ht2⟩ := hs2 0 (by decide)
  have hl1 : p1.1.length = 9 := by rw [str_len ht1, txt_len]; show c1.tape.length + 3 = 9; omega
  have hl2 : p2.1.length = 9 := by rw [str_len ht2, txt_len]; show c2.tape.length + 3 = 9; omega
  have hz1 : (strValues sl1).length = 7 := by rw [sv_length]; exact h71
  have hz2 : (strValues sl2).length = 7 := by rw [sv_length]; exact h72
  have hTB00 : TB 0 toks := Nat.zero_le _
  revert next
  unfold lawEnv
  walk_at "lit"
  intro next
  walk_at "ksm"
  refine r_item (vs := strValues sl1) 0 (News.get N (.tail _ (.head _))) (sv_at hp1) (by omega) ?_
  walk_at "ksm"
  refine r_item (vs := strValues sl2) 0 (News.get N (.head _)) (sv_at hp2) (by omega) ?_
  walk_at "ksm"
  refine add_strT (by omega) (by omega) (by omega) ?_
  walk_at "kst"
  intro hTBe
  (rename Fr _ _ _ _ => F8)
  (rename News _ _ _ _ => N8)
  exact next _ _ _ _ _ (app_list ht1 ht2) F8 ⟨rfl, rfl, rfl, rfl, trivial⟩ N8
end Mine

open PySem PySem.W PySem.Calls PyProof.Rows PyProof.V PySem.Spec
set_option Elab.async false
set_option maxRecDepth 100000
set_option maxHeartbeats 8000000
set_option linter.unusedVariables false
namespace Mine
local macro_rules | `(tactic| walk_at "lit") => `(tactic| dsimp only [bodyAt, lawDef, forBody, fnBody, fnScope, PySem.Challenge.pw_kn0103_02, List.getD, List.getElem?_cons_succ, List.getElem?_cons_zero, Option.getD, List.drop])
local macro_rules | `(tactic| walk_at "ks1") => `(tactic| (first | (k_unfold; (try dsimp only)) | (k_end; wrow_close) | walk1 | (dsimp only; walk1) | (leave1; walk_say "STEP leave1"; try dsimp only) | fail "no step"))
local macro_rules | `(tactic| walk_at "ks") => `(tactic| repeat' ((fail_if_success (with_reducible show wpAny _ _ (exec (Stmt.For _ _ _ _ _) _) _ _ _)); (fail_if_success (with_reducible show wpAny _ _ (exec (Stmt.While _ _ _ _) _) _ _ _)); (fail_if_success (with_reducible show wpAny _ _ (pyIter _) (fun it s₂ => OwnAt _ _ _ _ _ _ _ _ it s₂) _ _)); (fail_if_success (with_reducible show wpAny _ _ (eval (PySem.Expr.Dict [] [] _) _) _ _ _)); (fail_if_success (with_reducible show TurnPost _ _ _ _ _ _ _ _ _)); walk_at "ks1"))
local macro_rules | `(tactic| walk_at "kst") => `(tactic| repeat' ((fail_if_success (with_reducible show TB _ _ → _)); walk_at "ks1"))
local macro_rules | `(tactic| walk_at "sub") => `(tactic| first | exact List.forall_mem_nil _ | (refine List.forall_mem_cons.mpr ⟨by k_mem, ?_⟩; walk_at "sub") | (intro p hp; repeat' (first | exact hp | refine List.mem_cons_of_mem _ ?_)))
local macro_rules | `(tactic| walk_at "execs nil") => `(tactic| (refine wpAny_execs_nil ?_; (try dsimp only)))
local macro_rules | `(tactic| walk_at "ks0") => `(tactic| repeat' ((fail_if_success (with_reducible show wpAny _ _ (eval (PySem.Expr.BinOp _ _ _ _) _) _ _ _)); walk_at "ks1"))
local macro_rules | `(tactic| walk_at "ksc") => `(tactic| repeat' ((fail_if_success (with_reducible show LCg.CompSrc _ _ _ _ _ _ _ _ _ _ _ _ _ _)); walk_at "ks1"))
local macro_rules | `(tactic| walk_at "kslc") => `(tactic| repeat' ((fail_if_success (with_reducible show wpAny _ _ (exec (Stmt.Assign _ (PySem.Expr.ListComp _ _ _ _) _) _) _ _ _)); walk_at "ks1"))
local macro_rules | `(tactic| walk_at "ksc") => `(tactic| repeat' ((fail_if_success (with_reducible show LCg.CompSrc _ _ _ _ _ _ _ _ _ _ _ _ _ _)); walk_at "ks1"))
local macro_rules | `(tactic| walk_at "ksi") => `(tactic| repeat' ((fail_if_success (with_reducible show ite _ _ _)); walk_at "ks1"))
local macro_rules | `(tactic| walk_at "execs cons") => `(tactic| (k_here; (rename TB _ _ => hTBo); refine execs_tb (TB.mono hTBo (Nat.le_refl _) (by (try dsimp only); omega)) ?_; clear hTBo; intro tk hTB; (try dsimp only)))
local macro_rules | `(tactic| walk_at "ksm") => `(tactic| repeat' ((fail_if_success (with_reducible show wpAny _ _ (subscriptTail _ _ _ _) _ _ _)); (fail_if_success (with_reducible show wpAny _ _ (binaryOp _ _ _) _ _ _)); (fail_if_success (with_reducible show TB _ _ → _)); walk_at "ks1"))
local macro_rules | `(tactic| walk_at "ksq") => `(tactic| repeat' ((fail_if_success (with_reducible show wpAny _ _ (subscriptTail _ _ _ _) _ _ _)); (fail_if_success (with_reducible show wpAny _ _ (binaryOp _ _ _) _ _ _)); (fail_if_success (with_reducible show TurnPost _ _ _ _ _ _ _ _ _)); walk_at "ks1"))
theorem fillI : PySem.Challenge.rw_kn0103_02 = PySem.Challenge.rw_kn0103_02 ∧ hd2.heap_39 = hd2.heap_39 := by
  w_top off
  k_fill
  exact ⟨rfl, rfl⟩
def callsLoop : List Stmt := forBody ((fnBody lawDef).getD 8 (.Pass default))
local macro_rules | `(tactic| walk_at "lit2") => `(tactic| dsimp only [callsLoop, bodyAt, lawDef, forBody, fnBody, fnScope, PySem.Challenge.pw_kn0103_02, List.getD, List.getElem?_cons_succ, List.getElem?_cons_zero, Option.getD, List.drop])
def Jcalls (w : World) (rl : List RL) (keys : List Str) (c1 c2 : Cfg) (S1 S2 Tb : Addr) (rest : Led) (i : Nat) (m : Loc) (nx : Led) (tk : Nat) : Prop :=
  ∃ X tX, X.cps.toList = txt (calls rl keys c1 i) ++ txt (calls rl keys c2 i) ∧ Has m [(Str.ofString "told", .str X tX), (Str.ofString "table", .ref Tb), (Str.ofString "one", .ref S1), (Str.ofString "other", .ref S2)] ∧ nx = rest
theorem ents_kv {rl : List RL} {tk : Nat} (hok : ∀ r ∈ rl, RL.Ok r tk) {y z : Str} (h : (y, z) ∈ ents rl) : (y == z) = false ∧ z.length ≤ 14 := by
  rcases ents_mem h with ⟨s, hs, rfl, rfl⟩ | ⟨r, hr, hl, rfl, rfl⟩ | ⟨r, hr, hl, d, hd, rfl, rfl⟩ | ⟨r, hr, hl, rfl, rfl⟩
  · exact ⟨beq_eq_false_iff_ne.mpr two_three, by show 3 ≤ 14; omega⟩
  · refine ⟨beq_eq_false_iff_ne.mpr fun e => ?_, by show 2 ≤ 14; omega⟩
    have h1 := (two_eq.mp e).1
    have ok := hok r hr
    have h2 := ok.hs
    have h3 := ok.hl
    omega
  · refine ⟨beq_eq_false_iff_ne.mpr fun e => ?_, by show 3 ≤ 14; omega⟩
    have h1 := (three_eq.mp e).1
    have h2 := (hok r hr).hn
    omega
  · refine ⟨beq_eq_false_iff_ne.mpr fun e => ?_, by show 4 ≤ 14; omega⟩
    have := congrArg (fun s : Str => s.cps.toList.length) e
    exact absurd this (by show (3 : Nat) ≠ 4; decide)
theorem call_t {w : World} {h₀ : Heap} {mg mb : Str → Option Value} {mean : ExcName → Option Value}
   (KX : (hd2.heap_39 w.params).In h₀) (T0 : Top hd2.view_39 (looseW hd2.view_39 []) mean mg mb h₀) (K0 : Below callerA h₀ [] h₀)
   {L fa : Addr} {cd : Value} {s s₀ : Shared} {P : Flow → Shared → Prop} (hs0 : ∃ h tk, s = { s₀ with heap := h, toks := tk }) {u : Loc} {S1 S2 Tb : Addr} {rl : List RL} {n1 n2 nT tk1 tk2 : Nat} {sl1 sl2 : List (Str × Tok)} {c1 c2 : Cfg} {rest : Led} {done : List EL} {tX tp : Tok} {X : Str}
   (hok : ∀ r ∈ rl, RL.Ok r tk1) (hks : (rl.map RL.key).Nodup) (hE : ∀ e ∈ done, EL.Ok e tk2) (hen : ∀ e ∈ done, e.kv ∈ ents rl) (hdn : (done.map EL.key).Nodup) (hd14 : done.length ≤ 14) (lo : (Tb == sysModules) = false)
   (hTb : (Tb, sdict w (done.map EL.ent) nT) ∈ rest) (hS1 : (S1, PySem.W.listOf (strValues sl1).toArray n1) ∈ rest) (hS2 : (S2, PySem.W.listOf (strValues sl2).toArray n2) ∈ rest) 
   (h71 : sl1.length = 7) (h72 : sl2.length = 7) (hs1 : ShowsT rl (done.map EL.key) c1 sl1) (hs2 : ShowsT rl (done.map EL.key) c2 sl2) (ok1 : CfgOk c1) (ok2 : CfgOk c2) (h61 : c1.tape.length = 6) (h62 : c2.tape.length = 6)
   {i0 : Nat} {I : Addr} {oI : Obj} (hi : i0 < 6) (hX : X.cps.toList = txt (calls rl (done.map EL.key) c1 i0) ++ txt (calls rl (done.map EL.key) c2 i0))
   (F0 : Fr h₀ L s.heap (fun y => if y = Str.ofString "call" then some (.int (1 + (i0 : Int)) tp) else Set [(Str.ofString "told", .str X tX), (Str.ofString "table", .ref Tb), (Str.ofString "one", .ref S1), (Str.ofString "other", .ref S2)] u y))
   (N : News h₀ L s.heap ((I, oI) :: rest)) (hoff : ∀ p ∈ rest, p.1 ≠ I) :
   wpAny (model P02 w) (callerA.deeper (lawEnv L fa cd)) (execs callsLoop (lawEnv L fa cd)) (TurnPost h₀ L I oI (Jcalls w rl (done.map EL.key) c1 c2 S1 S2 Tb rest (i0 + 1)) s₀ P) (fun _ _ => False) s := by
  obtain ⟨hx, tkx, rfl⟩ := hs0
  obtain ⟨heap, gens, drawn, toks, os⟩ := s₀
  dsimp only at F0 N ⊢
  have ei : (1 + (i0 : Int)) = ((i0 + 1 : Nat) : Int) := by omega
  rw [ei] at F0
  obtain ⟨p1, hp1, ht1⟩ := hs1 (i0 + 1) (by omega)
  obtain ⟨p2, hp2, ht2⟩ := hs2 (i0 + 1) (by omega)
  have hz1 : (strValues sl1).length = 7 := by rw [sv_length]; exact h71
  have hz2 : (strValues sl2).length = 7 := by rw [sv_length]; exact h72
  have hTB00 : TB 0 tkx := Nat.zero_le _
  unfold lawEnv
  walk_at "lit2"
  walk_at "ks"
  k_fold
  refine For_own ?_
  walk_at "ks"
  have hen' : ((done.map EL.ent).map (·.1)).Nodup := by
    rw [List.map_map]; exact hdn
  (rename News _ _ _ _ => N1)
  refine kdl_method F.slot_dict_items F.type_dict_items N1 (d := Tb) (.tail _ hTb) (sdict_is (prog := P02) (n := nT) hen') ?_
  dsimp only
  walk_at "ks"
  (rename Fr _ _ _ _ => F1)
  refine kdx_view F1 N1 (.tail _ hTb) (sdict_is (prog := P02) (n := nT) hen') lo ?_
  intro vw h3 F3 N3 lt3
  have hvw : h3.IsItemsView vw Tb := ⟨_, (N3 _ (.head _)).1, rfl, rfl⟩
  have N4 := news_tail N3
  walk_at "ks"
  refine own_items (es := done.map EL.ent) (ep := nT) rfl F3 N4 hvw hen'
    (fun i m nx tk => ∃ (X : Str) (tX : Tok), X.cps.toList = mid rl (done.map EL.key) (calls rl (done.map EL.key) c1 i0) (calls rl (done.map EL.key) c2 i0) i ∧ Has m [(Str.ofString "s", .str X tX), (Str.ofString "d", .ref Tb)] ∧ nx = (I, oI) :: rest) (fun _ _ _ _ _ _ h => h) ?_ ?_ ?_ ?_ ?_
  · rintro i m nx t ⟨X', tX', hX', hm1, rfl⟩
    exact .tail _ hTb
  · exact ⟨X, _, hX, ⟨rfl, rfl, trivial⟩, rfl⟩
  · rintro i t p m₁ nx h₁ tk₁ I' oI' hp hT htk ⟨X', tX', hX', hm1, rfl⟩ hoff' F₁ N₁
    rw [List.getElem?_map, Option.map_eq_some_iff] at hp
    obtain ⟨e, he, rfl⟩ := hp
    have hem : e ∈ done := List.mem_of_getElem? he
    have hel := hE e hem
    have hkv := hen e hem
    have hz := ents_kv hok hkv
    rw [hm1.eq] at F₁
    refine unpackN_ F₁ N₁ ⟨_, hT, rfl, _, rfl⟩ rfl rfl rfl ?_
    intro h5 F5 N5
    walk_at "ks"
    have q0 : e.kt ≠ 0 := by
      have h1 := ltN hel.h0
      show (_ : Nat) ≠ _
      omega
    have q1 : e.vt ≠ 0 := by
      have h1 := ltN hel.h0
      have h2 := ltN hel.h1
      show (_ : Nat) ≠ _
      omega
    have q2 : e.kt ≠ e.vt := by
      have h2 := ltN hel.h1
      show (_ : Nat) ≠ _
      omega
    refine SC.replaceW q0 q1 q2 hz.1 (x := X') ?_ hz.2 ?_
    · have h8 := str_len hX'
      have h9 := mid_len (rl := rl) (keys := done.map EL.key) (c := calls rl (done.map EL.key) c1 i0) (c' := calls rl (done.map EL.key) c2 i0) (j := i)
      have h10 := calls_len (rl := rl) (keys := done.map EL.key) c1 i0
      have h11 := calls_len (rl := rl) (keys := done.map EL.key) c2 i0
      rw [List.length_map] at h9 h10 h11
      have h12 : done.length * i0 ≤ 14 * 6 := Nat.mul_le_mul hd14 (by omega)
      omega
    intro t6 k6
    walk_at "ks"
    (rename Fr _ _ _ _ => F6)
    (rename News _ _ _ _ => N6)
    refine TurnPost.next _ F6 N6 (fun q hq => .tail _ hq) (.head _) hoff' ⟨_, t6, ?_, ⟨rfl, rfl, trivial⟩, rfl⟩
    exact mid_turn hok hks (calls_ok hok ok1 i0) (calls_ok hok ok2 i0) (by rw [List.getElem?_map, he]; rfl) hkv hX'
  · rintro h' tk' m' nx htk F' N' ⟨X', tX', hX', hm1, rfl⟩
    k_unfold
    dsimp only
    rw [List.length_map, show done.length = (done.map EL.key).length from (List.length_map ..).symm, mid_end] at hX'
    rw [hm1.eq] at F'
    walk_at "ksq"
    (rename News h₀ _ _ _ => N6)
    refine r_item (vs := strValues sl1) (i0 + 1) (News.get N6 (.tail _ hS1)) (sv_at hp1) (by omega) ?_
    walk_at "ksq"
    (rename News h₀ _ _ _ => N7)
    refine r_item (vs := strValues sl2) (i0 + 1) (News.get N7 (.tail _ hS2)) (sv_at hp2) (by omega) ?_
    walk_at "ksq"
    have g1 := str_len ht1
    have g2 := str_len ht2
    rw [txt_len] at g1 g2
    have h10 := calls_len (rl := rl) (keys := done.map EL.key) c1 (i0 + 1)
    have h11 := calls_len (rl := rl) (keys := done.map EL.key) c2 (i0 + 1)
    rw [List.length_map] at h10 h11
    have h12 : done.length * (i0 + 1) ≤ 14 * 6 := Nat.mul_le_mul hd14 (by omega)
    refine add_strT (by omega) (by omega) (by omega) ?_
    have eX : p1.1 ++ p2.1 = X' := str_ext (by rw [app_list ht1 ht2, hX'])
    rw [eX]
    walk_at "ks"
    · (rename ((_ != _) = true) => hne)
      simp at hne
    · (rename Fr h₀ _ _ _ => F9)
      (rename News h₀ _ _ _ => N9)
      exact TurnPost.next _ F9 N9 (fun q hq => .tail _ hq) (.head _) hoff ⟨X', tX', hX', ⟨rfl, rfl, rfl, rfl, trivial⟩, rfl⟩
  · passes_own
end Mine

open PySem PySem.W PySem.Calls PyProof.Rows PyProof.V PySem.Spec
set_option Elab.async false
set_option maxRecDepth 100000
set_option maxHeartbeats 8000000
set_option linter.unusedVariables false
namespace Mine
local macro_rules | `(tactic| walk_at "lit") => `(tactic| dsimp only [bodyAt, lawDef, forBody, fnBody, fnScope, PySem.Challenge.pw_kn0103_02, List.getD, List.getElem?_cons_succ, List.getElem?_cons_zero, Option.getD, List.drop])
local macro_rules | `(tactic| walk_at "ks1") => `(tactic| (first | (k_unfold; (try dsimp only)) | (k_end; wrow_close) | walk1 | (dsimp only; walk1) | (leave1; walk_say "STEP leave1"; try dsimp only) | fail "no step"))
local macro_rules | `(tactic| walk_at "ks") => `(tactic| repeat' ((fail_if_success (with_reducible show wpAny _ _ (exec (Stmt.For _ _ _ _ _) _) _ _ _)); (fail_if_success (with_reducible show wpAny _ _ (exec (Stmt.While _ _ _ _) _) _ _ _)); (fail_if_success (with_reducible show wpAny _ _ (pyIter _) (fun it s₂ => OwnAt _ _ _ _ _ _ _ _ it s₂) _ _)); (fail_if_success (with_reducible show wpAny _ _ (eval (PySem.Expr.Dict [] [] _) _) _ _ _)); (fail_if_success (with_reducible show TurnPost _ _ _ _ _ _ _ _ _)); walk_at "ks1"))
local macro_rules | `(tactic| walk_at "kst") => `(tactic| repeat' ((fail_if_success (with_reducible show TB _ _ → _)); walk_at "ks1"))
local macro_rules | `(tactic| walk_at "sub") => `(tactic| first | exact List.forall_mem_nil _ | (refine List.forall_mem_cons.mpr ⟨by k_mem, ?_⟩; walk_at "sub") | (intro p hp; repeat' (first | exact hp | refine List.mem_cons_of_mem _ ?_)))
local macro_rules | `(tactic| walk_at "execs nil") => `(tactic| (refine wpAny_execs_nil ?_; (try dsimp only)))
local macro_rules | `(tactic| walk_at "ks0") => `(tactic| repeat' ((fail_if_success (with_reducible show wpAny _ _ (eval (PySem.Expr.BinOp _ _ _ _) _) _ _ _)); walk_at "ks1"))
local macro_rules | `(tactic| walk_at "ksc") => `(tactic| repeat' ((fail_if_success (with_reducible show LCg.CompSrc _ _ _ _ _ _ _ _ _ _ _ _ _ _)); walk_at "ks1"))
local macro_rules | `(tactic| walk_at "kslc") => `(tactic| repeat' ((fail_if_success (with_reducible show wpAny _ _ (exec (Stmt.Assign _ (PySem.Expr.ListComp _ _ _ _) _) _) _ _ _)); walk_at "ks1"))
local macro_rules | `(tactic| walk_at "ksc") => `(tactic| repeat' ((fail_if_success (with_reducible show LCg.CompSrc _ _ _ _ _ _ _ _ _ _ _ _ _ _)); walk_at "ks1"))
local macro_rules | `(tactic| walk_at "ksi") => `(tactic| repeat' ((fail_if_success (with_reducible show ite _ _ _)); walk_at "ks1"))
local macro_rules | `(tactic| walk_at "execs cons") => `(tactic| (k_here; (rename TB _ _ => hTBo); refine execs_tb (TB.mono hTBo (Nat.le_refl _) (by (try dsimp only); omega)) ?_; clear hTBo; intro tk hTB; (try dsimp only)))
local macro_rules | `(tactic| walk_at "ksm") => `(tactic| repeat' ((fail_if_success (with_reducible show wpAny _ _ (subscriptTail _ _ _ _) _ _ _)); (fail_if_success (with_reducible show wpAny _ _ (binaryOp _ _ _) _ _ _)); (fail_if_success (with_reducible show TB _ _ → _)); walk_at "ks1"))
local macro_rules | `(tactic| walk_at "ksq") => `(tactic| repeat' ((fail_if_success (with_reducible show wpAny _ _ (subscriptTail _ _ _ _) _ _ _)); (fail_if_success (with_reducible show wpAny _ _ (binaryOp _ _ _) _ _ _)); (fail_if_success (with_reducible show TurnPost _ _ _ _ _ _ _ _ _)); walk_at "ks1"))
theorem fillJ : PySem.Challenge.rw_kn0103_02 = PySem.Challenge.rw_kn0103_02 ∧ hd2.heap_39 = hd2.heap_39 := by
  w_top off
  k_fill
  exact ⟨rfl, rfl⟩
theorem law_g {w : World} {h₀ : Heap} {mg mb : Str → Option Value} {mean : ExcName → Option Value} {l : Addr} {vs : List Value} {ns : List Int} (G : Given w h₀ mg mb mean l vs ns)
   {L fa : Addr} {cd : Value} {s : Shared} {Q : Flow → Shared → Prop} {m : Loc} {S1 S2 Tb : Addr} {rl : List RL} {n1 n2 nT tk1 tk2 : Nat} {sl1 sl2 : List (Str × Tok)} {c1 c2 : Cfg} {rest : Led} {done : List EL} {tX : Tok} {X : Str}
   (hok : ∀ r ∈ rl, RL.Ok r tk1) (hks : (rl.map RL.key).Nodup) (hE : ∀ e ∈ done, EL.Ok e tk2) (hen : ∀ e ∈ done, e.kv ∈ ents rl) (hdn : (done.map EL.key).Nodup) (hd14 : done.length ≤ 14) (lo : (Tb == sysModules) = false)
   (hTb : (Tb, sdict w (done.map EL.ent) nT) ∈ rest) (hS1 : (S1, PySem.W.listOf (strValues sl1).toArray n1) ∈ rest) (hS2 : (S2, PySem.W.listOf (strValues sl2).toArray n2) ∈ rest)
   (h71 : sl1.length = 7) (h72 : sl2.length = 7) (hs1 : ShowsT rl (done.map EL.key) c1 sl1) (hs2 : ShowsT rl (done.map EL.key) c2 sl2) (ok1 : CfgOk c1) (ok2 : CfgOk c2) (h61 : c1.tape.length = 6) (h62 : c2.tape.length = 6)
   (hX : X.cps.toList = txt c1 ++ txt c2)
   (F : Fr h₀ L s.heap m) (hm : Has m [(Str.ofString "told", .str X tX), (Str.ofString "table", .ref Tb), (Str.ofString "one", .ref S1), (Str.ofString "other", .ref S2)])
   (N : News h₀ L s.heap rest)
   (fin : ∀ h' tk m', Fr h₀ L h' m' → Q (.ret (.bool true)) { s with heap := h', toks := tk }) :
   wpAny (model P02 w) (callerA.deeper (lawEnv L fa cd)) (execs ((fnBody lawDef).drop 8) (lawEnv L fa cd)) Q (fun _ _ => False) s := by
  obtain ⟨heap, gens, drawn, toks, os⟩ := s
  dsimp only at F N fin ⊢
  obtain ⟨KX, T, K0, hL, hI, lay, len⟩ := G
  rw [hm.eq] at F
  have hTB00 : TB 0 toks := Nat.zero_le _
  unfold lawEnv
  walk_at "lit"
  walk_at "ks"
  k_fold
  refine For_own ?_
  walk_at "ks"
  (rename (IsRange _ _ _ _ _ _ _ _) => hR)
  (rename Fr _ _ _ _ => F1)
  (rename News _ _ _ _ => N1)
  refine own_range rfl hR (small_one (by omega) (by omega) (by omega) (by omega)) F1 N1 rfl rfl
    (Jcalls w rl (done.map EL.key) c1 c2 S1 S2 Tb rest) (fun _ _ _ _ _ _ h => h) ?_ ?_ ?_ PassesOwn.never
  · exact ⟨X, tX, hX, ⟨rfl, rfl, rfl, rfl, trivial⟩, rfl⟩
  · rintro i t m₁ nx h₁ tk₁ I oI hi htk ⟨X', tX', hX', hm1, rfl⟩ hoff F₁ N₁
    rw [hm1.eq] at F₁
    refine call_t KX T K0 ?_ hok hks hE hen hdn hd14 lo hTb hS1 hS2 h71 h72 hs1 hs2 ok1 ok2 h61 h62 hi hX' F₁ N₁ hoff
    exact ⟨_, _, rfl⟩
  · rintro h' tk' m' nx htk F' N' ⟨X', tX', hX', hm1, rfl⟩
    k_unfold
    dsimp only
    intro hTB2
    rw [hm1.eq] at F'
    walk_at "kst"
    exact fin _ _ _ F'
end Mine

open PySem PySem.W PySem.Calls PyProof.Rows PyProof.V PySem.Spec
set_option Elab.async false
set_option maxRecDepth 100000
set_option maxHeartbeats 8000000
set_option linter.unusedVariables false
namespace Mine
theorem law_all {w : World} {h₀ : Heap} {mg mb : Str → Option Value} {mean : ExcName → Option Value} {l : Addr} {vs : List Value} {ns : List Int} (G : Given w h₀ mg mb mean l vs ns)
   {L fa : Addr} {cd : Value} {s : Shared} {Q : Flow → Shared → Prop} (ha : 0 < s.toks)
   (F : Fr h₀ L s.heap (fun x => [(Str.ofString "script", Value.ref l)].reverse.lookup x)) (N : News h₀ L s.heap [])
   (fin : ∀ h' tk m', Fr h₀ L h' m' → Q (.ret (.bool true)) { s with heap := h', toks := tk }) :
   wpAny (model P02 w) (callerA.deeper (lawEnv L fa cd)) (execs (fnBody lawDef) (lawEnv L fa cd)) Q (fun _ _ => False) s := by
  refine law_a G (show TB 1 _ from ha) F N ?_
  intro h1 tk1 m1 D cv c n hcv hc6 F1 hm1 N1 T1
  refine law_b G T1 hcv hc6 F1 hm1 N1 ?_
  intro h2 tk2 m2 R rl nR hrl hsub lo F2 hm2 N2 hnd2 T2
  have hks := sign_nodup hsub
  have hl4 : rl.length ≤ 4 := by
    have := hsub.length_le
    rw [List.length_map] at this
    exact this
  refine law_c G (show 0 < _ from T2) (show TB _ _ from Nat.le_refl _) hrl hsub lo F2 hm2 N2 hnd2 ?_
  intro h3 tk3 m3 E Tb el ne tr hel hE loT F3 hm3 N3 hnd3 h03
  have hkn : (el.map EL.key).Nodup := by
    have e : el.map EL.key = (ents rl).map (·.1) := by rw [← hel, List.map_map]; rfl
    rw [e]
    exact ents_nodup hrl hks
  have hl14 : el.length ≤ 14 := by
    have e := congrArg List.length hel
    have h := ents_len rl rl.length
    rw [List.take_length] at h
    rw [List.length_map] at e
    omega
  refine law_d G h03 hkn hl14 (base := (R, rDict w rl nR) :: (eTups el ++ (D, PySem.W.listOf cv.toArray n) :: rTups rl)) (fun p hp => .tail _ (List.mem_append_left _ hp)) loT F3 hm3 N3 hnd3 ?_
  intro h4 tk4 m4 K nK nT done ksl hperm hksl F4 hm4 N4 hnd4 h04
  have hdl : done.length ≤ 14 := by rw [hperm.length_eq]; exact hl14
  have hkl : ksl.length = done.length := by
    have e := congrArg List.length hksl
    rw [List.length_map, List.length_map] at e
    exact e
  have hkv : (done.map EL.kv).Perm (ents rl) := by rw [← hel]; exact hperm.map _
  have hdn : (done.map EL.key).Nodup := (hperm.map EL.key).nodup_iff.mpr hkn
  refine law_e G h04 hcv hc6 (by omega) hks hrl lo (.tail _ (.head _)) (fun p hp => .tail _ (.tail _ (List.mem_append_right _ (.tail _ hp)))) (.tail _ (.tail _ (List.mem_append_right _ (.head _)))) ?_ F4 hm4 N4 hnd4 ?_
  · intro y hy
    rw [hksl] at hy
    exact key_ents hkv hy
  intro h5 tk5 m5 S1 S2 sl1 sl2 n1 n2 c1 c2 k1 k2 ok1 ok2 h61 h62 h71 h72 hs1 hs2 F5 hm5 N5 T5
  have hkk : ksl.length = (done.map EL.key).length := by rw [List.length_map]; exact hkl
  rw [hksl] at hs1 hs2
  have g1 : ShowsT rl (done.map EL.key) c1 sl1 := fun i hi => shown_get hdn hkk hs1 h71 hi
  have g2 : ShowsT rl (done.map EL.key) c2 sl2 := fun i hi => shown_get hdn hkk hs2 h72 hi
  refine law_f G h71 h72 g1 g2 h61 h62 F5 hm5 N5 ?_
  intro h6 tk6 m6 X tX hX F6 hm6 N6
  exact law_g G hrl hks (fun e he => hE e (hperm.mem_iff.mp he)) (fun e he => hkv.mem_iff.mp (List.mem_map.mpr ⟨e, he, rfl⟩)) hdn hdl loT (.tail _ (.tail _ (.head _))) (.tail _ (.head _)) (.head _) h71 h72 g1 g2 ok1 ok2 h61 h62 hX F6 hm6 N6 fin
end Mine
theorem PySem.Challenge.cw_kn0103_02_holds : PySem.Challenge.rw_kn0103_02.Holds := by
  exact Mine.hd2 (by
  k_go0
  (rename ((Mine.hd2.heap_39 _).In _) => KX)
  (rename Top _ _ _ _ _ _ => T)
  (rename Below _ _ _ _ => K0)
  (rename Heap.IsList _ _ _ => hL)
  (rename IntsAre _ _ => hI)
  (rename (PyData.layable0 _ = true) => lay)
  (rename (¬ (63 : Int) < _) => hlen)
  (rename Fr _ _ _ _ => F)
  (rename News _ _ _ _ => N)
  refine wpAny_noRaise ?_
  refine Mine.law_all ⟨KX, T, K0, hL, hI, lay, by omega⟩ (Nat.succ_pos _) F N ?_
  intro h' tk' m' F'
  first
  | (k_end; wrow_close)
  | (dsimp only; k_end; wrow_close)
  | (dsimp only; wrow_close))
