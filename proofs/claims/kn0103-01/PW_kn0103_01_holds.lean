import PyProof.Rows.All
import Wide.All
import OpenK.AllK
import Wide.FinOn
import PySem.Challenge.RW_kn0103_01
open PySem PySem.W PyProof.Rows
set_option Elab.async false
set_option maxRecDepth 100000
set_option maxHeartbeats 8000000
namespace Mine
open_top hd1 for PySem.Challenge.rw_kn0103_01
end Mine

open PySem PySem.W PySem.Calls PyProof.Rows PyProof.V PySem.Spec
set_option Elab.async false
set_option maxRecDepth 100000
namespace Mine

abbrev Loc := Str → Option Value
abbrev Led := List (Addr × Obj)

/-- what a turn leaves -/
def TurnPost (h₀ : Heap) (L I : Addr) (oI : Obj) (J : Loc → Led → Prop) (s : Shared) (Q : Flow → Shared → Prop) (f : Flow) (s₂ : Shared) : Prop :=
  match f with
  | .ret v => Q (.ret v) s₂
  | .brk => Q .next s₂
  | _ => ∃ h' tk m' nx all, s₂ = { s with heap := h', toks := tk } ∧ Fr h₀ L h' m' ∧ News h₀ L h' all ∧ (∀ p ∈ nx, p ∈ all) ∧ (I, oI) ∈ all ∧ (∀ p ∈ nx, p.1 ≠ I) ∧ J m' nx

section
variable {prog : Program} {w : World} {A : Around} {E : Value → Shared → Prop} {s : Shared} {env : Env} {h₀ : Heap} {target : Expr} {body : List Stmt} {Q : Flow → Shared → Prop}

theorem own_loop {R : Result → Shared → Prop} {I : Addr} {fp : List Addr} {n : Nat} {P Md : Nat → Value → Heap → Prop} {St : Nat → Heap → Prop} {m : Loc} {news : Led}
    (W : KTurns prog w A target I fp [I] n P Md St) (keep : Led)
    (hLf : env.locals ∉ fp) (hI : h₀.get? I = none) (hfp : ∀ b ∈ fp, b = I ∨ (∃ o, h₀.get? b = some o) ∨ ∃ o, (b, o) ∈ keep)
    (hobj : ∀ i h, St i h → ∃ o, h.get? I = some o) (hnw : ∀ p ∈ news, p.1 ≠ I)
    (hst : St 0 s.heap) (F : Fr h₀ env.locals s.heap m) (N : News h₀ env.locals s.heap news)
    (J : Nat → Loc → Led → Prop) (hk : ∀ i m nx, J i m nx → ∀ p ∈ keep, p ∈ nx) (h0 : J 0 m news)
    (step : ∀ i v m₁ nx h₁ tk₁ oI, i < n → P i v h₁ → s.toks ≤ tk₁ → J i m₁ nx → (∀ p ∈ nx, p.1 ≠ I) → Fr h₀ env.locals h₁ m₁ → News h₀ env.locals h₁ ((I, oI) :: nx) →
      wpAny (model prog w) A (assign target env v) (fun _ s₂ => wpAny (model prog w) A (execs body env)
        (TurnPost h₀ env.locals I oI (J (i + 1)) s (fun f s' => R (.ok f) s')) (notedBy (model prog w) A env fun e s' => R (.error e) s') s₂) (notedBy (model prog w) A env fun e s' => R (.error e) s') { s with heap := h₁, toks := tk₁ })
    (hR : ∀ h' tk m' nx, s.toks ≤ tk → Fr h₀ env.locals h' m' → News h₀ env.locals h' nx → J n m' nx → R (.ok .next) { s with heap := h', toks := tk }) :
    codeAny (model prog w) A (.forLoop target (.ref I) body [] env) R s := by
  have hIf : I ∈ fp := W.sub I (by simp)
  have hLI : env.locals ≠ I := fun e => hLf (e ▸ hIf)
  have old : ∀ b o, h₀.get? b = some o → b ≠ I := fun b o e hb => by rw [hb, hI] at e; cases e
  refine codeAny_forLoop_any
    (fun k s' => ∃ h' tk m' nx i, s' = { s with heap := h', toks := tk } ∧ St i h' ∧ Fr h₀ env.locals h' m' ∧ News h₀ env.locals h' nx ∧ (∀ p ∈ nx, p.1 ≠ I) ∧ J i m' nx ∧ i ≤ n ∧ k = n + 1 - i ∧ s.toks ≤ tk) ?_ (n + 1)
    ⟨s.heap, s.toks, m, news, 0, rfl, hst, F, N, hnw, h0, Nat.zero_le _, rfl, Nat.le_refl _⟩
  rintro k s' ⟨h', tk, m', nx, i, rfl, hst', F', N', hnw', hJ, hi, rfl, htk⟩
  have next : ∀ h₁ : Heap, (∀ b o, b ∉ [I] → h'.get? b = some o → h₁.get? b = some o) → Fr h₀ env.locals h₁ m' ∧ News h₀ env.locals h₁ nx := fun h₁ hk₁ =>
    ⟨⟨F'.ns.at' fun o e => hk₁ _ o (by simpa using hLI) e, fun b o e => hk₁ b o (by simpa using old b o e) (F'.keep b o e), F'.above⟩,
     fun p hp => ⟨hk₁ _ _ (by simpa using hnw' p hp) (N' p hp).1, (N' p hp).2⟩⟩
  refine wpAny_with_toks (n := s.toks) htk ?_
  by_cases hlt : i < n
  · refine W.item i _ _ _ hlt hst' fun v h₁ tk₁ hMd hk₁ htk₁ => ?_
    dsimp only at htk₁ ⊢
    refine W.go i v _ _ _ hMd fun h₂ hP hst₂ hk₂ => ?_
    obtain ⟨F₂, N₂⟩ := next h₂ fun b o hb x => hk₂ b o hb (hk₁ b o hb x)
    obtain ⟨oI, hoI⟩ := hobj _ _ hst₂
    have NI : News h₀ env.locals h₂ ((I, oI) :: nx) := fun p hp => by
      rcases List.mem_cons.mp hp with rfl | hp
      · exact ⟨hoI, hLI.symm, hI⟩
      · exact N₂ p hp
    refine wpAny_mono (wpAny_toks_of (n := s.toks) htk₁ (step i v m' nx h₂ tk₁ oI hlt hP htk₁ hJ hnw' F₂ NI)) (fun _ s₂ h₂' => wpAny_mono (wpAny_toks_of (n := s.toks) h₂'.1 h₂'.2) (fun f s₃ h₃ => ?_) fun _ _ e => e.2) fun _ _ e => e.2
    obtain ⟨ht₃, h₃⟩ := h₃
    have fin : (∃ h' tk m' nx all, s₃ = { s with heap := h', toks := tk } ∧ Fr h₀ env.locals h' m' ∧ News h₀ env.locals h' all ∧ (∀ p ∈ nx, p ∈ all) ∧ (I, oI) ∈ all ∧ (∀ p ∈ nx, p.1 ≠ I) ∧ J (i + 1) m' nx) →
        ∃ m, m < n + 1 - i ∧ ∃ h' tk m' nx j, s₃ = { s with heap := h', toks := tk } ∧ St j h' ∧ Fr h₀ env.locals h' m' ∧ News h₀ env.locals h' nx ∧ (∀ p ∈ nx, p.1 ≠ I) ∧ J j m' nx ∧ j ≤ n ∧ m = n + 1 - j ∧ s.toks ≤ tk := by
      rintro ⟨h₃', tk₃, m₂, nx₂, all, rfl, F₃, N₃, hsub, hIall, hoff, hJ₃⟩
      refine ⟨n + 1 - (i + 1), by omega, h₃', tk₃, m₂, nx₂, i + 1, rfl, ?_, F₃, fun p hp => N₃ p (hsub p hp), hoff, hJ₃, hlt, rfl, ht₃⟩
      refine W.frame _ _ _ hst₂ fun b hb o e => ?_
      rcases hfp b hb with rfl | ⟨o₀, hn⟩ | ⟨o₀, hn⟩
      · rw [hoI] at e; cases e
        exact (N₃ _ hIall).1
      · have : o₀ = o := by have q := F₂.keep b o₀ hn; rw [e] at q; exact (Option.some.inj q).symm
        exact this ▸ F₃.keep b o₀ hn
      · have h1 := (N₂ _ (hk _ _ _ hJ _ hn)).1
        have h2 := (N₃ _ (hsub _ (hk _ _ _ hJ₃ _ hn))).1
        rw [h1] at e; cases e
        exact h2
    cases f with
    | ret v => exact h₃
    | brk => exact h₃
    | cont => exact fin h₃
    | next => exact fin h₃
  · have hin : i = n := by omega
    subst hin
    refine W.done _ _ _ hst' fun h₁ tk₁ hk₁ htk₁ => wpAny_execs_nil ?_
    obtain ⟨F₁, N₁⟩ := next h₁ hk₁
    exact hR h₁ tk₁ m' nx htk₁ F₁ N₁ hJ

/-- a for over something, by its iterator -/
def OwnAt (prog : Program) (w : World) (A : Around) (env : Env) (target : Expr) (body : List Stmt) (Q : Flow → Shared → Prop) (E : Value → Shared → Prop) (it : Value) (s₂ : Shared) : Prop :=
  codeAny (model prog w) A (.forLoop target it body [] env) (fun r s' => match r with | .ok f => Q f s' | .error e => cameBackBy (model prog w) A env E e s') s₂

theorem For_own {iter : Expr} {pos : Pos}
    (h : wpAny (model prog w) A (eval iter env) (fun xv s₁ => wpAny (model prog w) A (pyIter xv) (fun it s₂ => OwnAt prog w A env target body Q E it s₂) E s₁) E s)
    (hs : ∀ x, foldedSetIterable iter env x = pure x := by intro _; rfl) :
    wpAny (model prog w) A (exec (.For target iter body [] pos) env) Q E s :=
  wpAny_For (wpAny_mono h (fun xv s₁ h₁ => wpAny_mono h₁ (fun it s₂ h₂ => h₂) fun _ _ e => e) fun _ _ e => e) hs

theorem OwnAt.intro {I : Addr} {fp : List Addr} {n : Nat} {P Md : Nat → Value → Heap → Prop} {St : Nat → Heap → Prop} {m : Loc} {news : Led}
    (W : KTurns prog w A target I fp [I] n P Md St) (keep : Led)
    (hLf : env.locals ∉ fp) (hI : h₀.get? I = none) (hfp : ∀ b ∈ fp, b = I ∨ (∃ o, h₀.get? b = some o) ∨ ∃ o, (b, o) ∈ keep)
    (hobj : ∀ i h, St i h → ∃ o, h.get? I = some o) (hnw : ∀ p ∈ news, p.1 ≠ I)
    (hst : St 0 s.heap) (F : Fr h₀ env.locals s.heap m) (N : News h₀ env.locals s.heap news)
    (J : Nat → Loc → Led → Prop) (hk : ∀ i m nx, J i m nx → ∀ p ∈ keep, p ∈ nx) (h0 : J 0 m news)
    (step : ∀ i v m₁ nx h₁ tk₁ oI, i < n → P i v h₁ → s.toks ≤ tk₁ → J i m₁ nx → (∀ p ∈ nx, p.1 ≠ I) → Fr h₀ env.locals h₁ m₁ → News h₀ env.locals h₁ ((I, oI) :: nx) →
      wpAny (model prog w) A (assign target env v) (fun _ s₂ => wpAny (model prog w) A (execs body env)
        (TurnPost h₀ env.locals I oI (J (i + 1)) s Q) E s₂) E { s with heap := h₁, toks := tk₁ })
    (hR : ∀ h' tk m' nx, s.toks ≤ tk → Fr h₀ env.locals h' m' → News h₀ env.locals h' nx → J n m' nx → Q .next { s with heap := h', toks := tk })
    (hE : PassesOwn (model prog w) A env E) : OwnAt prog w A env target body Q E (.ref I) s :=
  own_loop (R := fun r s' => match r with | .ok f => Q f s' | .error e => cameBackBy (model prog w) A env E e s') W keep hLf hI hfp hobj hnw hst F N J hk h0
    (fun i v m₁ nx h₁ tk₁ oI a b c d e F₁ N₁ => wpAny_mono (step i v m₁ nx h₁ tk₁ oI a b c d e F₁ N₁) (fun _ _ x => wpAny_passesOwn hE x) hE) hR
end
end Mine

open PySem PySem.W PySem.Calls PyProof.Rows PyProof.V PySem.Spec
set_option Elab.async false
set_option maxRecDepth 100000
set_option linter.unusedVariables false
namespace Mine
section
variable {prog : Program} {w : World} {A : Around} {E : Value → Shared → Prop} {s : Shared} {env : Env} {h₀ : Heap} {body : List Stmt} {Q : Flow → Shared → Prop}

/-- a loop over one name, by what its iterator walks -/
theorem own_walks {x : Str} {px : Pos} {I : Addr} {fp : List Addr} {n : Nat} {P : Nat → Value → Prop} {St : Nat → Heap → Prop} {m : Loc} {news : Led}
    (W : Walks prog w A I fp [I] n P St) (keep : Led)
    (hLf : env.locals ∉ fp) (hI : h₀.get? I = none) (hfp : ∀ b ∈ fp, b = I ∨ (∃ o, h₀.get? b = some o) ∨ ∃ o, (b, o) ∈ keep)
    (hobj : ∀ i h, St i h → ∃ o, h.get? I = some o) (hnw : ∀ p ∈ news, p.1 ≠ I)
    (hst : St 0 s.heap) (F : Fr h₀ env.locals s.heap m) (N : News h₀ env.locals s.heap news)
    (hx : env.kindOf x = some .local) (hp : (env.scope.kind == .class || (env.scope.kind == .module && env.locals != env.globals)) = false)
    (J : Nat → Loc → Led → Prop) (hk : ∀ i m nx, J i m nx → ∀ p ∈ keep, p ∈ nx) (h0 : J 0 m news)
    (turn : ∀ i v m₁ nx h₁ tk₁ oI, i < n → P i v → s.toks ≤ tk₁ → J i m₁ nx → (∀ p ∈ nx, p.1 ≠ I) → Fr h₀ env.locals h₁ (fun y => if y = x then some v else m₁ y) → News h₀ env.locals h₁ ((I, oI) :: nx) →
      wpAny (model prog w) A (execs body env) (TurnPost h₀ env.locals I oI (J (i + 1)) s Q) E { s with heap := h₁, toks := tk₁ })
    (done : ∀ h' tk m' nx, s.toks ≤ tk → Fr h₀ env.locals h' m' → News h₀ env.locals h' nx → J n m' nx → Q .next { s with heap := h', toks := tk })
    (hE : PassesOwn (model prog w) A env E) : OwnAt prog w A env (.Name x px) body Q E (.ref I) s := by
  refine OwnAt.intro (KTurns.ofWalks W fun i v s Q E st q => ?_) keep hLf hI hfp hobj hnw hst F N J hk h0 ?_ done hE
  · exact wpAny_pure q
  · intro i v m₁ nx h₁ tk₁ oI hi hP ht hJ hoff F₁ N₁
    refine wpAny_assign_Name (wpAny_storeName_local hx F₁.ns (fun h₂ hn₂ hs₂ => ?_) hp)
    exact turn i v m₁ nx h₂ (tk₁ + 1) oI hi hP (Nat.le_succ_of_le ht) hJ hoff (F₁.set hn₂ hs₂) (N₁.set hs₂)

theorem ne_fresh {h : Heap} {L : Addr} {m : Loc} (F : Fr h₀ L h m) : L ≠ h.objs.size := fun e => absurd F.ns.lt (e ▸ Nat.lt_irrefl _)
theorem news_lt {h : Heap} {L : Addr} {news : Led} (N : News h₀ L h news) : ∀ p ∈ news, p.1 < h.objs.size := fun p hp => Heap.lt_size (N p hp).1
theorem news_push {h : Heap} {L : Addr} {news : Led} (N : News h₀ L h news) (o : Obj) : News h₀ L (h.push o) news := fun p hp => ⟨Heap.get?_push_of_some _ (N p hp).1, (N p hp).2⟩

/-- for x in range(a, b) -/
theorem own_range {x : Str} {px : Pos} {r : Addr} {a b : Int} {t u v : Tok} {m : Loc} {news : Led}
    (hh : A.handled = none) (hr : IsRange s.heap r a b 1 t u v) (hsmall : Builtin.Range.small a b 1 = true) (F : Fr h₀ env.locals s.heap m) (N : News h₀ env.locals s.heap news)
    (hx : env.kindOf x = some .local) (hp : (env.scope.kind == .class || (env.scope.kind == .module && env.locals != env.globals)) = false)
    (J : Nat → Loc → Led → Prop) (h0 : J 0 m news)
    (turn : ∀ i t m₁ nx h₁ tk₁ I oI, i < (b - a).toNat → s.toks ≤ tk₁ → J i m₁ nx → (∀ p ∈ nx, p.1 ≠ I) → Fr h₀ env.locals h₁ (fun y => if y = x then some (.int (a + (i : Int)) t) else m₁ y) → News h₀ env.locals h₁ ((I, oI) :: nx) →
      wpAny (model prog w) A (execs body env) (TurnPost h₀ env.locals I oI (J (i + 1)) s Q) E { s with heap := h₁, toks := tk₁ })
    (done : ∀ h' tk m' nx, s.toks ≤ tk → Fr h₀ env.locals h' m' → News h₀ env.locals h' nx → J (b - a).toNat m' nx → Q .next { s with heap := h', toks := tk })
    (hE : PassesOwn (model prog w) A env E) :
    wpAny (model prog w) A (pyIter (.ref r)) (fun it s₂ => OwnAt prog w A env (.Name x px) body Q E it s₂) E s := by
  refine wpAny_pyIter_range hr hsmall ?_
  have W := Walks.range (prog := prog) (w := w) hh s.heap.objs.size a 1 (b - a).toNat
  have hst : IsRangeIter (s.heap.push { cls := .type "range_iterator", data := .fields #[rawInt a, rawInt (Builtin.Range.rangeSize a b 1), rawInt 1] }) s.heap.objs.size (a + ((0 : Nat) : Int) * 1) (((b - a).toNat : Int) - ((0 : Nat) : Int)) 1 := by
    have e : (s.heap.push { cls := .type "range_iterator", data := .fields #[rawInt a, rawInt (Builtin.Range.rangeSize a b 1), rawInt 1] }).get? s.heap.objs.size = some { cls := .type "range_iterator", data := .fields #[rawInt a, rawInt (Builtin.Range.rangeSize a b 1), rawInt 1] } := Heap.get?_push_size _ rfl
    refine e.trans ?_
    rw [rangeSize_nat]
    simp
  refine own_walks (s := { s with heap := s.heap.push { cls := .type "range_iterator", data := .fields #[rawInt a, rawInt (Builtin.Range.rangeSize a b 1), rawInt 1] } }) W [] ?_ (next_is_new F) (fun b hb => .inl (by simpa using hb)) (fun i h st => ⟨_, st⟩) (fun p hp => Nat.ne_of_lt (news_lt N p hp)) hst (F.push _) (news_push N _) hx hp J (fun _ _ _ _ p hp => nomatch hp) h0 ?_ done hE
  · simpa using ne_fresh F
  · rintro i v m₁ nx h₁ tk₁ oI hi ⟨t, rfl⟩ htk hJ hoff F₁ N₁
    rw [Int.mul_one] at F₁
    exact turn i t m₁ nx h₁ tk₁ _ oI hi htk hJ hoff F₁ N₁

/-- for x in a list that the ledger keeps -/
theorem own_list {x : Str} {px : Pos} {l : Addr} {vs : List Value} {k : Nat} {m : Loc} {news : Led}
    (hh : A.handled = none) (F : Fr h₀ env.locals s.heap m) (N : News h₀ env.locals s.heap news)
    (hx : env.kindOf x = some .local) (hp : (env.scope.kind == .class || (env.scope.kind == .module && env.locals != env.globals)) = false)
    (J : Nat → Loc → Led → Prop) (hk : ∀ i m nx, J i m nx → (l, PySem.W.listOf vs.toArray k) ∈ nx) (h0 : J 0 m news)
    (turn : ∀ i v m₁ nx h₁ tk₁ I oI, vs[i]? = some v → s.toks ≤ tk₁ → J i m₁ nx → (∀ p ∈ nx, p.1 ≠ I) → Fr h₀ env.locals h₁ (fun y => if y = x then some v else m₁ y) → News h₀ env.locals h₁ ((I, oI) :: nx) →
      wpAny (model prog w) A (execs body env) (TurnPost h₀ env.locals I oI (J (i + 1)) s Q) E { s with heap := h₁, toks := tk₁ })
    (done : ∀ h' tk m' nx, s.toks ≤ tk → Fr h₀ env.locals h' m' → News h₀ env.locals h' nx → J vs.length m' nx → Q .next { s with heap := h', toks := tk })
    (hE : PassesOwn (model prog w) A env E) :
    wpAny (model prog w) A (pyIter (.ref l)) (fun it s₂ => OwnAt prog w A env (.Name x px) body Q E it s₂) E s := by
  have hl := (N _ (hk _ _ _ h0))
  have hls : s.heap.IsList l vs.toArray := ⟨_, hl.1, rfl, k, rfl⟩
  have hne : l ≠ s.heap.objs.size := Nat.ne_of_lt (Heap.lt_size hl.1)
  refine wpAny_pyIter_list hls ?_
  have W := Walks.list (prog := prog) (w := w) hh s.heap.objs.size l hne vs.toArray
  have hsz : vs.toArray.size = vs.length := by simp
  rw [hsz] at W
  refine own_walks (s := { s with heap := s.heap.push { cls := .type "list_iterator", data := .fields #[.ref l, .int 0 0] } }) W [(l, PySem.W.listOf vs.toArray k)] ?_ (next_is_new F)
    (fun b hb => ?_) (fun i h st => let ⟨o, ho, _⟩ := st.1; ⟨o, ho⟩) (fun p hp => Nat.ne_of_lt (news_lt N p hp)) ?_ (F.push _) (news_push N _) hx hp J (fun i m nx hJ p hp => by rw [List.mem_singleton.mp hp]; exact hk i m nx hJ) h0 ?_ done hE
  · intro hm
    rcases List.mem_cons.mp hm with e | hm
    · exact ne_fresh F e
    · exact hl.2.1 (List.mem_singleton.mp hm).symm
  · rcases List.mem_cons.mp hb with e | hm
    · exact .inl e
    · exact .inr (.inr ⟨_, by rw [List.mem_singleton.mp hm]; exact List.mem_singleton.mpr rfl⟩)
  · exact ⟨⟨_, Heap.get?_push_size _ rfl, rfl, rfl⟩, hls.at fun o e => Heap.get?_push_of_some _ e⟩
  · intro i v m₁ nx h₁ tk₁ oI hi hP htk hJ hoff F₁ N₁
    exact turn i v m₁ nx h₁ tk₁ _ oI (by simpa using hP) htk hJ hoff F₁ N₁

end
end Mine

open PySem PySem.W PySem.Calls PyProof.Rows PyProof.V PySem.Spec
set_option Elab.async false
set_option maxRecDepth 100000
set_option linter.unusedVariables false
namespace Mine

/-- locals that are told -/
def Has (m : Loc) : List (Str × Value) → Prop
  | [] => True
  | (x, v) :: r => m x = some v ∧ Has m r
def Set (l : List (Str × Value)) (u : Loc) : Loc := fun y => match l.lookup y with | some v => some v | none => u y
theorem Has.eq {m : Loc} : ∀ {l : List (Str × Value)}, Has m l → m = Set l m
  | [], _ => rfl
  | (x, v) :: r, h => by
    funext y
    have ih := congrFun h.2.eq y
    unfold Set at ih ⊢
    rw [List.lookup_cons]
    cases hc : y == x with
    | true =>
      have e : y = x := by simpa using hc
      subst e
      exact h.1
    | false => exact ih

theorem seq_nat {j n : Nat} (h : j < n) : seqIndex? (j : Int) n = some j := by
  unfold seqIndex?
  simp [h]
  try omega
theorem cut_nat : ∀ {vs : List Value} {j : Nat} {y : Value}, vs[j]? = some y → kl_cut vs j = some (vs.take j, y, vs.drop (j + 1))
  | [], j, y, h => by simp at h
  | x :: r, 0, y, h => by simp at h; subst h; rfl
  | x :: r, j + 1, y, h => by
    have := cut_nat (vs := r) (j := j) (y := y) (by simpa using h)
    simp [kl_cut, this]

section
variable {prog : Program} {w : World} {A : Around} {E : Value → Shared → Prop} {s : Shared} {h₀ : Heap} {L D : Addr} {m : Loc} {news news' : Led} {vs : List Value} {n : Nat}

theorem r_popAt {i : Int} {u : Tok} {y : Value} {Q : Value → Shared → Prop} (j : Nat) (hj : i = (j : Int)) (hy : vs[j]? = some y) (F : Fr h₀ L s.heap m) (N : News h₀ L s.heap news)
    (U : Upd D (PySem.W.listOf vs.toArray n) (PySem.W.listOf (vs.eraseIdx j).toArray (n + 1)) news news') (hz : vs.length ≤ 16777216)
    (h : ∀ h', Fr h₀ L h' m → News h₀ L h' news' → Q y { s with heap := h' }) : wpAny (model prog w) A (call (.builtin "list.pop") [.ref D, .int i u]) Q E s := by
  have hlt : j < vs.length := by
    rcases Nat.lt_or_ge j vs.length with h | h
    · exact h
    · rw [List.getElem?_eq_none h] at hy; cases hy
  subst hj
  have e : vs.eraseIdx j = vs.take j ++ vs.drop (j + 1) := by rw [List.eraseIdx_eq_take_drop_succ]
  rw [e] at U
  refine kl_popAt F N ?_ (seq_nat (by rw [List.size_toArray]; exact hlt)) (cut_nat (by simpa using hy)) (by simpa using U) (by rw [sizeLine_eq]; exact hz) h
  unfold Builtin.List.listFitsIndex
  simp
  omega

theorem r_append {x : Value} {Q : Value → Shared → Prop} (F : Fr h₀ L s.heap m) (N : News h₀ L s.heap news) (U : Upd D (PySem.W.listOf vs.toArray n) (PySem.W.listOf (vs ++ [x]).toArray (n + 1)) news news')
    (hz : vs.length ≤ 16777216) (h : ∀ h', Fr h₀ L h' m → News h₀ L h' news' → Q .none { s with heap := h' }) : wpAny (model prog w) A (call (.builtin "list.append") [.ref D, x]) Q E s :=
  append_K (its := vs.toArray) F N (by rw [List.push_toArray]; exact U) h (by rw [sizeLine_eq, List.size_toArray]; exact hz)
end

/-- the picks out of a pool: by the remainders by how many there are left -/
def picks {α : Type} : Nat → Int → List α → List α
  | 0, _, _ => []
  | k + 1, r, pool => (match pool[(r % ((k : Int) + 1)).toNat]? with
    | some y => [y]
    | none => []) ++ picks k (r / ((k : Int) + 1)) (pool.eraseIdx (r % ((k : Int) + 1)).toNat)
theorem erase_perm {α : Type} : ∀ {pool : List α} {j : Nat} (h : j < pool.length), (pool[j] :: pool.eraseIdx j).Perm pool
  | [], _, h => by simp at h
  | x :: r, 0, _ => .refl _
  | x :: r, j + 1, h => by
    have ih := erase_perm (pool := r) (j := j) (by simpa using h)
    exact (List.Perm.swap _ _ _).trans (.cons _ ih)
theorem picks_perm {α : Type} : ∀ (k : Nat) (r : Int) (pool : List α), pool.length = k → (picks k r pool).Perm pool
  | 0, r, pool, h => by rw [List.length_eq_zero_iff.mp h]; exact .nil
  | k + 1, r, pool, h => by
    have h1 := Int.emod_nonneg r (b := (k : Int) + 1) (by omega)
    have h2 := Int.emod_lt_of_pos r (b := (k : Int) + 1) (by omega)
    unfold picks
    have hlt : (r % ((k : Int) + 1)).toNat < pool.length := by omega
    rw [List.getElem?_eq_getElem hlt]
    have ih := picks_perm k (r / ((k : Int) + 1)) (pool.eraseIdx (r % ((k : Int) + 1)).toNat) (by rw [List.length_eraseIdx_of_lt hlt]; omega)
    refine (List.Perm.cons _ ih).trans ?_
    exact erase_perm hlt
end Mine

open PySem PySem.W PySem.Calls PyProof.Rows PyProof.V PySem.Spec
set_option Elab.async false
set_option maxRecDepth 100000
set_option linter.unusedVariables false
namespace Mine
/-- the tokens are past T -/
def TB (T k : Nat) : Prop := T ≤ k
section
variable {prog : Program} {M : Model} {w : World} {A : Around} {E : Value → Shared → Prop} {s : Shared} {env : Env}
theorem execs_tb {st : Stmt} {rest : List Stmt} {Q : Flow → Shared → Prop} {T : Nat} (hk : TB T s.toks)
    (h : ∀ k, TB T k → wpAny M A (exec st env) (fun f s' => match f with | .next => (TB T s'.toks → wpAny M A (execs rest env) Q E s') | f => Q f s') E { s with toks := k }) :
    wpAny M A (execs (st :: rest) env) Q E s := by
  refine wpAny_execs_cons ?_
  refine wpAny_with_toks (n := T) hk ?_
  refine wpAny_mono (h s.toks hk) (fun f s' h' ht => ?_) fun _ _ h _ => h
  cases f with
  | next => exact h' ht
  | ret v => exact h'
  | brk => exact h'
  | cont => exact h'
theorem with_tb {α : Type} {t : Sem α} {Q : α → Shared → Prop} {T : Nat} (hk : TB T s.toks) (h : wpAny M A t (fun a s' => TB T s'.toks → Q a s') (fun e s' => TB T s'.toks → E e s') s) : wpAny M A t Q E s :=
  wpAny_with_toks (n := T) hk h
theorem gen_tb {α : Type} {t : Sem α} {Q : α → Shared → Prop} {T : Nat} (hk : TB T s.toks) (h : ∀ k, TB T k → wpAny M A t Q E { s with toks := k }) : wpAny M A t Q E s := h s.toks hk
end
theorem TB.mono {T T' k k' : Nat} (h : TB T k) (h1 : T' ≤ T) (h2 : k ≤ k') : TB T' k' := Nat.le_trans h1 (Nat.le_trans h h2)
end Mine
namespace Mine
section
variable {M : Model} {A : Around} {E : Value → Shared → Prop} {s : Shared}
theorem gen_pos {α : Type} {t : Sem α} {Q : α → Shared → Prop} (hk : 0 < s.toks) (h : ∀ k, 0 < k → wpAny M A t Q E { s with toks := k }) : wpAny M A t Q E s := h s.toks hk
end
theorem news_sub {h₀ h : Heap} {L : Addr} {a b : Led} (N : News h₀ L h a) (hs : ∀ p ∈ b, p ∈ a) : News h₀ L h b := fun p hp => N p (hs p hp)
/-- a turn's end -/
theorem TurnPost.next {h₀ : Heap} {L I : Addr} {oI : Obj} {J : Loc → Led → Prop} {s : Shared} {Q : Flow → Shared → Prop} {h' : Heap} {tk : Nat} {m' : Loc} {all : Led} (nx : Led) (F : Fr h₀ L h' m') (N : News h₀ L h' all)
    (hs : ∀ p ∈ nx, p ∈ all) (hI : (I, oI) ∈ all) (ho : ∀ p ∈ nx, p.1 ≠ I) (hJ : J m' nx) : TurnPost h₀ L I oI J s Q .next { s with heap := h', toks := tk } :=
  ⟨h', tk, m', nx, all, rfl, F, N, hs, hI, ho, hJ⟩
end Mine
namespace Mine
theorem sv_length (l : List (Str × Tok)) : (strValues l).length = l.length := by simp [strValues]
theorem sv_append (a b : List (Str × Tok)) : strValues (a ++ b) = strValues a ++ strValues b := by simp [strValues]
theorem map_erase {α β : Type} (f : α → β) : ∀ (a : List α) (j : Nat), (a.map f).eraseIdx j = (a.eraseIdx j).map f
  | [], _ => rfl
  | _ :: _, 0 => rfl
  | x :: r, j + 1 => by simp [map_erase f r j]
theorem sv_erase (a : List (Str × Tok)) (j : Nat) : (strValues a).eraseIdx j = strValues (a.eraseIdx j) := map_erase _ a j
theorem sv_get {l : List (Str × Tok)} {j : Nat} (h : j < l.length) : (strValues l)[j]? = some (.str l[j].1 l[j].2) := by simp [strValues, h]
theorem picks_succ {α : Type} {k : Nat} {r : Int} {pool : List α} (h : (r % ((k : Int) + 1)).toNat < pool.length) :
    picks (k + 1) r pool = pool[(r % ((k : Int) + 1)).toNat] :: picks k (r / ((k : Int) + 1)) (pool.eraseIdx (r % ((k : Int) + 1)).toNat) := by
  show (match pool[(r % ((k : Int) + 1)).toNat]? with | some y => [y] | none => []) ++ _ = _
  rw [List.getElem?_eq_getElem h]
  rfl
end Mine

open PySem PySem.W PySem.Calls PyProof.Rows PyProof.V PySem.Spec
set_option Elab.async false
set_option maxRecDepth 100000
set_option linter.unusedVariables false
namespace Mine
/-- an entry of a dict by texts: the key, its token, what it stands for -/
abbrev Ent := Str × Tok × Value
def ent (w : World) (p : Ent) : DictEntry := ⟨PySem.hashStr w p.1, .str p.1 p.2.1, p.2.2⟩
def sdict (w : World) (es : List Ent) (n : Nat) : Obj := PySem.W.dictOf (es.map (ent w)) n
def kvsOf (es : List Ent) : List (Str × Value) := es.map fun p => (p.1, p.2.2)

section
variable {prog : Program} {w : World} {A : Around} {E : Value → Shared → Prop} {s : Shared} {h₀ : Heap} {L d : Addr} {m : Loc} {news news' : Led} {es : List Ent} {n : Nat}

theorem sdict_keys : KeysOf (strKind prog w) (es.map (ent w)).toArray := by
  intro e he
  obtain ⟨p, hp, rfl⟩ : ∃ p ∈ es, ent w p = e := by simpa using he
  exact ⟨p.1, strKind_is prog w p.1 p.2.1, rfl⟩
theorem sdict_pairs : ∀ es : List Ent, Pairs (strKind prog w) (es.map (ent w)) (kvsOf es)
  | [] => .nil
  | p :: r => .cons (strKind_is prog w p.1 p.2.1) rfl (sdict_pairs r)
theorem sdict_is (hn : (es.map (·.1)).Nodup) : (sdict w es n).IsDictOf (strKind prog w) (kvsOf es) :=
  ⟨_, n, ⟨rfl, rfl, rfl⟩, rfl, sdict_keys, by simpa using sdict_pairs es, by simpa [kvsOf, List.map_map, Function.comp_def] using hn⟩

theorem find_none {k : Str} : ∀ {es : List Ent}, k ∉ es.map (·.1) → ((es.map (ent w)).toArray.findIdx? fun e => (strKind prog w).is k e.key) = none := by
  intro es h
  rw [Array.findIdx?_eq_none_iff]
  intro e he
  obtain ⟨p, hp, rfl⟩ : ∃ p ∈ es, ent w p = e := by simpa using he
  show (p.1 == k) = false
  refine beq_eq_false_iff_ne.mpr fun e => h ?_
  rw [← e]
  exact List.mem_map.mpr ⟨p, hp, rfl⟩

/-- a new key goes to the end -/
theorem r_setNew {k : Str} {t : Tok} {v : Value} {Q : Unit → Shared → Prop} (hk : k ∉ es.map (·.1)) (F : Fr h₀ L s.heap m) (N : News h₀ L s.heap news)
    (U : Upd d (sdict w es n) (sdict w (es ++ [(k, t, v)]) (n + 1)) news news') (hz : es.length ≤ 16777216)
    (h : ∀ h', Fr h₀ L h' m → News h₀ L h' news' → Q () { s with heap := h', toks := s.toks + 1 }) : wpAny (model prog w) A (setItem (.ref d) (.str k t) v) Q E s := by
  obtain ⟨pre, post, rfl, rfl, a, b⟩ := U.split
  have z := N (d, sdict w es n) (List.mem_append.mpr (.inr (.head _)))
  have hT : s.TypeIs (.ref d) "dict" := ⟨_, z.1, rfl⟩
  unfold setItem
  try with_reducible refine wpAny_holding ?_
  refine wpAny_bind (wpAny_sequenceKey hT (by decide) ?_)
  refine wpAny_bind (wpAny_callSpecial?_slot (name := Str.ofString "__setitem__") hT slot_dict_setitem
    (wpAny_call_entry slot_dict_setitem hT entry_dict_setitem ?_ (args_dict_setitem _ _ _)))
  show wpAny _ _ (Builtin.Dict.notOrdered "__setitem__" ⟨[.ref d, .str k t, v], []⟩ >>= _) _ _ s
  refine wpAny_bind (wpAny_notOrdered_dict hT ?_)
  show wpAny _ _ (dictSet d (.str k t) v >>= _) _ _ s
  refine wpAny_bind ?_
  unfold dictSet
  try with_reducible refine wpAny_holding ?_
  refine wpAny_bind (wpAny_pyHash_str ?_)
  unfold dictSetHashed
  try with_reducible refine wpAny_holding ?_
  refine wpAny_bind (wpAny_dictFind_of (s := { s with toks := s.toks + 1 }) (knd := strKind prog w) (k := k) (strKind_is prog w k t) z.1 rfl sdict_keys ?_)
  rw [find_none hk]
  refine wpAny_bind (wpAny_rule ?_)
  refine wpAny_updateDictKeys (s := { s with toks := s.toks + 1 }) z.1 rfl ?_ (by rw [sizeLine_eq, List.size_toArray, List.length_map]; exact hz) (by simp)
  refine wpAny_pure ⟨.none, rfl, wpAny_pure (h _ (F.change (Heap.SameBut.update ..) z.2.1 z.2.2) (news_set N a b (Heap.SameBut.update ..) ?_))⟩
  have e := Heap.get?_update_self (h := s.heap) (a := d) (Obj.mapDictKeys fun x => x.push ⟨PySem.hashStr w k, .str k t, v⟩) z.1 rfl
  refine e.trans (congrArg some ?_)
  show (⟨.type "dict", none, .dict ((es.map (ent w)).toArray.push _) (n + 1), #[]⟩ : Obj) = ⟨.type "dict", none, .dict ((es ++ [(k, t, v)]).map (ent w)).toArray (n + 1), #[]⟩
  rw [List.push_toArray, List.map_append]
  rfl
end
end Mine

open PySem PySem.W PySem.Calls PyProof.Rows PyProof.V PySem.Spec
set_option Elab.async false
set_option maxRecDepth 100000
set_option linter.unusedVariables false
namespace Mine
section
variable {prog : Program} {w : World} {A : Around} {E : Value → Shared → Prop} {s : Shared} {env : Env} {h₀ : Heap} {body : List Stmt} {Q : Flow → Shared → Prop}

abbrev pairObj (p : Ent) : Obj := { cls := .type "tuple", data := .seq #[.str p.1 p.2.1, p.2.2] }

theorem next_item {it d : Addr} {i ep : Nat} {es : List Ent} {p : Ent} {ok ov : Value} {Q : Option Value → Shared → Prop} (hit : IsItemIter s.heap it d i es.length ep ok ov)
    (hd : s.heap.get? d = some (sdict w es ep)) (hx : es[i]? = some p)
    (hQ : ∀ h', IsItemIterOut h' it d (i + 1) es.length ep (.str p.1 p.2.1) p.2.2 s.heap.objs.size → h'.get? s.heap.objs.size = some (pairObj p) →
      (∀ b o, b ≠ it → s.heap.get? b = some o → h'.get? b = some o) → Q (some (.ref s.heap.objs.size)) { s with heap := h' }) :
    wpAny (model prog w) A (pyNext (.ref it)) Q E s := by
  obtain ⟨hp, g, dr, tk, os⟩ := s
  dsimp only at hit hd hQ
  have hil : it < hp.objs.size := Heap.lt_size hit
  have hlt : i < es.length := by
    rcases Nat.lt_or_ge i es.length with h | h
    · exact h
    · rw [List.getElem?_eq_none h] at hx; cases hx
  have hT : Shared.TypeIs ⟨hp, g, dr, tk, os⟩ (.ref it) "dict_itemiterator" := ⟨_, hit, rfl⟩
  have hsz : ((es.map (ent w)).toArray).size = es.length := by rw [List.size_toArray, List.length_map]
  have hget : ((es.map (ent w)).toArray)[i]? = some (ent w p) := by simp [hx]
  unfold pyNext
  refine wpAny_bind (wpAny_attempt (wpAny_callSpecial?_slot (name := Str.ofString "__next__") hT F.slot_dict_itemiterator_next
    (wpAny_call_entry F.slot_dict_itemiterator_next hT F.entry_dict_itemiterator_next ?_ (F.args_dict_itemiterator_next_1 _))))
  refine wpAny_bind (wpAny_pure ?_)
  refine wpAny_bind (wpAny_bind ?_)
  first | refine wpAny_bind (wpAny_typeNameOfWhole_itemiter hT (wpAny_pure ?_)) | refine wpAny_bind (wpAny_typeNameOf_itemiter hT (wpAny_pure ?_))
  refine wpAny_bind (wpAny_fieldsOf hit rfl ?_)
  simp only [show Builtin.Dict_items.ownsTuple "dict_itemiterator" = true by decide, if_true]
  show wpAny _ _ (if (Value.ref d == Value.none) = true then _ else _) _ _ _
  rw [if_neg (show ¬ ((Value.ref d == Value.none) = true) from Bool.false_ne_true)]
  refine wpAny_bind (wpAny_pure (wpAny_bind (wpAny_dictEntries hd rfl ?_)))
  rw [if_neg (by rw [hsz]; simp)]
  refine wpAny_bind (wpAny_pure (wpAny_bind (wpAny_dictEpoch hd rfl ?_)))
  rw [if_neg (by simp)]
  refine wpAny_pure ?_
  simp only [show ¬ ((i : Int) < 0) from by omega, if_false, Int.toNat_natCast, hget]
  refine wpAny_bind ?_
  first | refine wpAny_bind (wpAny_typeNameOfWhole_itemiter hT (wpAny_pure ?_)) | refine wpAny_bind (wpAny_typeNameOf_itemiter hT (wpAny_pure ?_))
  refine wpAny_bind (wpAny_isOneOf_itemiter hT ?_)
  show wpAny _ _ (setField (.ref it) 3 (rawInt ((i : Int) + 1)) >>= _) _ _ ⟨hp, g, dr, tk, os⟩
  refine wpAny_bind (wpAny_setField_rec hit (by simp) fun a₁ e₁ b₁ => ?_)
  replace e₁ : IsItemIter a₁ it d (i + 1) es.length ep ok ov := by
    have e : ((i + 1 : Nat) : Int) = (i : Int) + 1 := by omega
    unfold IsItemIter; rw [e]; simpa [rawInt] using e₁
  replace b₁ : Heap.SameBut it hp a₁ := b₁
  have hT₁ : Shared.TypeIs ⟨a₁, g, dr, tk, os⟩ (.ref it) "dict_itemiterator" := ⟨_, e₁, rfl⟩
  refine wpAny_bind (wpAny_holding (wpAny_bind (wpAny_isOneOf_itemiter hT₁ (wpAny_bind (wpAny_isOneOf_itemiter hT₁ ?_)))))
  show wpAny _ _ (Builtin.Dict_items.pairFromOwner (.ref it) 6 (.str p.1 p.2.1) p.2.2) _ _ ⟨a₁, g, dr, tk, os⟩
  unfold Builtin.Dict_items.pairFromOwner
  refine wpAny_bind (wpAny_newTuple ?_)
  have hz : a₁.objs.size = hp.objs.size := b₁.1
  have e₂ : IsItemIter (a₁.push (pairObj p)) it d (i + 1) es.length ep ok ov := Heap.get?_push_of_some _ e₁
  have t₂ : (a₁.push (pairObj p)).get? hp.objs.size = some (pairObj p) := by rw [← hz]; exact Heap.get?_push_size _ rfl
  have k₂ : ∀ b o, b ≠ it → hp.get? b = some o → (a₁.push (pairObj p)).get? b = some o := fun b o hb e => Heap.get?_push_of_some _ (b₁.extBut b o hb e)
  show wpAny _ _ (Builtin.Dict_items.ownedTupleIsFree (.ref it) >>= _) _ _ ⟨a₁.push (pairObj p), g, dr, tk, os⟩
  rw [hz]
  generalize a₁.push (pairObj p) = a₂ at e₂ t₂ k₂ ⊢
  refine wpAny_bind ?_
  unfold Builtin.Dict_items.ownedTupleIsFree
  refine wpAny_bind (wpAny_field e₂ rfl (x := .none) rfl (wpAny_pure ?_))
  simp only [if_true]
  refine wpAny_bind (wpAny_field e₂ rfl (x := ok) rfl (wpAny_bind (wpAny_field e₂ rfl (x := ov) rfl ?_)))
  refine wpAny_bind (wpAny_setField_rec e₂ (by simp) fun a₃ e₃ b₃ => wpAny_bind (wpAny_setField_rec e₃ (by simp) fun a₄ e₄ b₄ =>
    wpAny_bind (wpAny_setField_rec e₄ (by simp) fun a₅ e₅ b₅ => wpAny_bind (wpAny_setField_rec e₅ (by simp) fun a₆ e₆ b₆ => ?_))))
  have k : ∀ b o, b ≠ it → a₂.get? b = some o → a₆.get? b = some o := fun b o hb e =>
    Heap.SameBut.extBut b₆ b o hb (Heap.SameBut.extBut b₅ b o hb (Heap.SameBut.extBut b₄ b o hb (Heap.SameBut.extBut b₃ b o hb e)))
  refine wpAny_bind (wpAny_letGo (wpAny_pure (wpAny_pure ⟨_, rfl, wpAny_pure (hQ a₆ ?_ (k _ _ (Nat.ne_of_gt hil) t₂) fun b o hb e => k b o hb (k₂ b o hb e))⟩)))
  exact e₆

theorem items_turns {elts : List Expr} {kk : Nat} {pos : Pos} (hh : A.handled = none) (I d : Addr) (hne : d ≠ I) (es : List Ent) (ep : Nat) (hn : (es.map (·.1)).Nodup) :
    KTurns prog w A (.Tuple elts kk pos) I [I, d] [I] es.length
      (fun i v h => ∃ T p, v = .ref T ∧ es[i]? = some p ∧ h.get? T = some (pairObj p))
      (fun i v h => ∃ T p, v = .ref T ∧ es[i]? = some p ∧ h.get? T = some (pairObj p) ∧ IsItemIterOut h I d (i + 1) es.length ep (.str p.1 p.2.1) p.2.2 T ∧ h.get? d = some (sdict w es ep) ∧ T ≠ I)
      (fun i h => (∃ ok ov, IsItemIter h I d i es.length ep ok ov) ∧ h.get? d = some (sdict w es ep)) where
  sub := fun b hb => by simp at hb; simp [hb]
  frame := fun i h h' st hk => by
    obtain ⟨⟨ok, ov, he⟩, hm⟩ := st
    exact ⟨⟨ok, ov, hk I (by simp) _ he⟩, hk d (by simp) _ hm⟩
  item := fun i s Q E hi st hQ => by
    obtain ⟨⟨ok, ov, he⟩, hm⟩ := st
    have hx : es[i]? = some es[i] := by simp [hi]
    refine next_item he hm hx fun h' ho hT hk => ?_
    exact hQ _ h' s.toks ⟨_, _, rfl, hx, hT, ho, hk d _ hne hm, Nat.ne_of_gt (Heap.lt_size he)⟩ fun b o hb e => hk b o (fun h => hb (by simp [h])) e
  go := fun i v s Q E hm hQ => by
    obtain ⟨T, p, rfl, hx, hT, ho, hd, hTI⟩ := hm
    refine wpAny_letOwnedTupleGo_items ho fun h' he hs => ?_
    exact hQ h' ⟨T, p, rfl, hx, hs.extBut T _ hTI hT⟩ ⟨⟨_, _, he⟩, hs.extBut d _ hne hd⟩ fun b o hb e => hs.extBut b o (fun h => hb (by simp [h])) e
  done := fun s Q E st hQ => by
    obtain ⟨⟨ok, ov, he⟩, hm⟩ := st
    have hlen : es.length = (kvsOf es).length := by simp [kvsOf]
    have hat : s.heap.DictAt (strKind prog w) d (kvsOf es) ep := by
      exact ⟨_, _, hm, ⟨rfl, rfl, rfl⟩, rfl, sdict_keys, by simpa using sdict_pairs es, by simpa [kvsOf, List.map_map, Function.comp_def] using hn⟩
    refine wpAny_pyNext_items_end (knd := strKind prog w) (kvs := kvsOf es) hh (by rw [← hlen]; exact he) hat (List.getElem?_eq_none (by rw [← hlen]; exact Nat.le_refl _)) fun h' hx => hQ h' s.toks fun b o hb e => hx b o (fun h => hb (by simp [h])) e

/-- for k, v in a dict's items: the pairs with their tokens -/
theorem own_items {elts : List Expr} {kk : Nat} {pos : Pos} {d vw : Addr} {es : List Ent} {ep : Nat} {m : Loc} {news : Led}
    (hh : A.handled = none) (F : Fr h₀ env.locals s.heap m) (N : News h₀ env.locals s.heap news)
    (hvw : s.heap.IsItemsView vw d) (hn : (es.map (·.1)).Nodup)
    (J : Nat → Loc → Led → Prop) (hk : ∀ i m nx, J i m nx → (d, sdict w es ep) ∈ nx) (h0 : J 0 m news)
    (turn : ∀ i T p m₁ nx h₁ tk₁ I oI, es[i]? = some p → h₁.get? T = some (pairObj p) → s.toks ≤ tk₁ → J i m₁ nx → (∀ p ∈ nx, p.1 ≠ I) → Fr h₀ env.locals h₁ m₁ → News h₀ env.locals h₁ ((I, oI) :: nx) →
      wpAny (model prog w) A (assign (.Tuple elts kk pos) env (.ref T)) (fun _ s₂ => wpAny (model prog w) A (execs body env) (TurnPost h₀ env.locals I oI (J (i + 1)) s Q) E s₂) E { s with heap := h₁, toks := tk₁ })
    (done : ∀ h' tk m' nx, s.toks ≤ tk → Fr h₀ env.locals h' m' → News h₀ env.locals h' nx → J es.length m' nx → Q .next { s with heap := h', toks := tk })
    (hE : PassesOwn (model prog w) A env E) :
    wpAny (model prog w) A (pyIter (.ref vw)) (fun it s₂ => OwnAt prog w A env (.Tuple elts kk pos) body Q E it s₂) E s := by
  have hax := N _ (hk _ _ _ h0)
  have hlen : es.length = (kvsOf es).length := by simp [kvsOf]
  have hat : s.heap.DictAt (strKind prog w) d (kvsOf es) ep :=
    ⟨_, _, hax.1, ⟨rfl, rfl, rfl⟩, rfl, sdict_keys, by simpa using sdict_pairs es, by simpa [kvsOf, List.map_map, Function.comp_def] using hn⟩
  have hne : d ≠ s.heap.objs.size := Nat.ne_of_lt (Heap.lt_size hax.1)
  refine wpAny_pyIter_items hvw hat ?_
  rw [← hlen]
  have W := items_turns (prog := prog) (w := w) (elts := elts) (kk := kk) (pos := pos) hh s.heap.objs.size d hne es ep hn
  refine OwnAt.intro (s := { s with heap := s.heap.push _ }) W [(d, sdict w es ep)] ?_ (next_is_new F)
    (fun b hb => ?_) (fun i h st => let ⟨⟨ok, ov, ho⟩, _⟩ := st; ⟨_, ho⟩) (fun p hp => Nat.ne_of_lt (news_lt N p hp)) ?_ (F.push _) (news_push N _) J (fun i m nx hJ p hp => by rw [List.mem_singleton.mp hp]; exact hk i m nx hJ) h0 ?_ done hE
  · intro hm
    rcases List.mem_cons.mp hm with e | hm
    · exact ne_fresh F e
    · exact hax.2.1 (List.mem_singleton.mp hm).symm
  · rcases List.mem_cons.mp hb with e | hm
    · exact .inl e
    · exact .inr (.inr ⟨_, by rw [List.mem_singleton.mp hm]; exact List.mem_singleton.mpr rfl⟩)
  · exact ⟨⟨.none, .none, Heap.get?_push_size _ rfl⟩, Heap.get?_push_of_some _ hax.1⟩
  · rintro i v m₁ nx h₁ tk₁ oI hi ⟨T, p, rfl, hx, hT⟩ htk hJ hoff F₁ N₁
    exact turn i T p m₁ nx h₁ tk₁ _ oI hx hT htk hJ hoff F₁ N₁
end
end Mine
namespace Mine
section
variable {prog : Program} {w : World} {A : Around} {E : Value → Shared → Prop} {s : Shared} {env : Env} {h₀ : Heap} {L : Addr} {m : Loc} {news : Led}
theorem r_newDict {pos : Pos} {Q : Value → Shared → Prop} (F : Fr h₀ L s.heap m) (N : News h₀ L s.heap news) (hbig : h₀.NoLimit)
    (h : ∀ d h', Fr h₀ L h' m → News h₀ L h' ((d, sdict w [] 0) :: news) → (∀ p ∈ news, p.1 < d) → (d == sysModules) = false → Q (.ref d) { s with heap := h' }) :
    wpAny (model prog w) A (eval (.Dict [] [] pos) env) Q E s := by
  exact wpAny_Dict_empty (h _ _ (F.push _) (N.push F _) (news_lt N) (F.notModules (modules_low hbig)))
end
end Mine

open PySem PySem.W PySem.Calls PyProof.Rows PyProof.V PySem.Spec
set_option Elab.async false
set_option maxRecDepth 100000
set_option linter.unusedVariables false
namespace Mine
theorem ints_at : ∀ {vs : List Value} {ns : List Int}, IntsAre vs ns → ∀ {i : Nat} (h : i < ns.length), ∃ t, vs[i]? = some (.int ns[i] t)
  | _, _, .cons n t r, 0, h => ⟨t, rfl⟩
  | _, _, .cons n t r, i + 1, h => by
    obtain ⟨t', e⟩ := ints_at r (i := i) (by simpa using h)
    exact ⟨t', by simpa using e⟩
theorem ints_set : ∀ {vs : List Value} {ns : List Int}, IntsAre vs ns → ∀ (i : Nat) (k : Int) (t : Tok), IntsAre (vs.set i (.int k t)) (ns.set i k)
  | _, _, .nil, _, _, _ => .nil
  | _, _, .cons n u r, 0, k, t => .cons k t r
  | _, _, .cons n u r, i + 1, k, t => .cons n u (ints_set r i k t)
theorem ints_len {vs : List Value} {ns : List Int} (h : IntsAre vs ns) : vs.length = ns.length := h.length
theorem strs_are : ∀ l : List (Str × Tok), StrsAre (strValues l) (l.map (·.1))
  | [] => .nil
  | p :: r => .cons p.1 p.2 (strs_are r)
section
variable {prog : Program} {w : World} {A : Around} {E : Value → Shared → Prop} {s : Shared} {h₀ : Heap} {L D b : Addr} {m : Loc} {news news' : Led} {vs : List Value} {n k : Nat}

theorem isL {h : Heap} {a : Addr} (e : h.get? a = some (PySem.W.listOf vs.toArray n)) : h.IsList a vs.toArray := ⟨_, e, rfl, n, rfl⟩

/-- a list against the empty one -/
theorem r_neNil {Q : Value → Shared → Prop} (ha : s.heap.get? D = some (PySem.W.listOf vs.toArray n)) (hb : s.heap.get? b = some (PySem.W.listOf #[] k)) (hu : A.units < cLine) (h : Q (.bool (!vs.isEmpty)) s) :
    wpAny (model prog w) A (compareOp .NotEq (.ref D) (.ref b)) Q E s := by
  refine cmp_ofNotEq ?_
  cases vs with
  | nil => exact SeqAt.RcNeAt.lists (items := #[]) (items2 := #[]) (e := fun _ => true) (isL (vs := []) ha) (isL (vs := []) hb) rfl hu (fun j h1 _ => absurd h1 (Nat.not_lt_zero _)) prog w E Q h
  | cons x r => exact SeqAt.RcNeAt.lists_lengths (items := (x :: r).toArray) (items2 := #[]) (isL ha) (isL (vs := []) hb) (by simp) hu prog w E Q h

theorem r_eqNil {Q : Value → Shared → Prop} (ha : s.heap.get? D = some (PySem.W.listOf vs.toArray n)) (hb : s.heap.get? b = some (PySem.W.listOf #[] k)) (hu : A.units < cLine) (h : Q (.bool vs.isEmpty) s) :
    wpAny (model prog w) A (compareOp .Eq (.ref D) (.ref b)) Q E s := by
  cases vs with
  | nil => exact SeqAt.eq_listAt (items := #[]) (items2 := #[]) (e := fun _ => true) (isL (vs := []) ha) (isL (vs := []) hb) rfl hu (fun j h1 _ => absurd h1 (Nat.not_lt_zero _)) h
  | cons x r => exact SeqAt.eq_list_lengthsAt (items := (x :: r).toArray) (items2 := #[]) (isL ha) (isL (vs := []) hb) (by simp) hu h

/-- where a text stands in a list of texts -/
theorem r_index {l : List (Str × Tok)} {x : Str} {t : Tok} {Q : Value → Shared → Prop} (ha : s.heap.get? D = some (PySem.W.listOf (strValues l).toArray n)) (hx : x ∈ l.map (·.1)) (hz : l.length ≤ 16777216)
    (h : Q (.int ((l.map (·.1)).idxOf x : Nat) s.toks) { s with toks := s.toks + 1 }) : wpAny (model prog w) A (call (.builtin "list.index") [.ref D, .str x t]) Q E s := by
  have hj : (l.map (·.1)).idxOf x < l.length := by have := List.idxOf_lt_length_of_mem hx; simpa using this
  let e : Value → Bool := fun v => match v with | .str y _ => y.cps.toList == x.cps.toList | _ => false
  have hget : ∀ (i : Nat) (hi : i < l.length) (hi' : i < (strValues l).toArray.size), (strValues l).toArray[i] = .str l[i].1 l[i].2 := by
    intro i hi hi'
    simp [strValues]
  have hsz : (strValues l).toArray.size = l.length := by rw [List.size_toArray, sv_length]
  refine call_meets PySem.F.slot_list_index ⟨_, ha, rfl⟩ PySem.F.entry_list_index (PySem.F.args_list_index_2 _ _)
    (PySem.MeetsSeq.list_index D (strValues l).toArray n (.str x t) e ?_ ((l.map (·.1)).idxOf x) (by rw [hsz]; exact hj) (by omega) ?_ ?_) ⟨ha, h⟩
  · intro y hy
    obtain ⟨p, hp, rfl⟩ : ∃ p ∈ l, Value.str p.1 p.2 = y := by simpa [strValues] using hy
    exact PySem.SeqRoads2.EqGives.str _ _ _ _
  · rw [hget _ hj]
    show ((l[(l.map (·.1)).idxOf x]'hj).1.cps.toList == x.cps.toList) = true
    have e1 : (l[(l.map (·.1)).idxOf x]'hj).1 = x := by
      have h4 := List.getElem_idxOf (x := x) (xs := l.map (·.1)) (by simpa using hj)
      rw [List.getElem_map] at h4
      exact h4
    rw [e1]; simp
  · intro i hi hlt
    rw [hsz] at hi
    rw [hget _ hi]
    show (l[i].1.cps.toList == x.cps.toList) = false
    refine beq_eq_false_iff_ne.mpr fun e1 => ?_
    have e2 : l[i].1 = x := PySem.Str.ext' (Array.toList_inj.mp e1)
    have h3 := List.not_of_lt_findIdx (p := fun y => y == x) (xs := l.map (·.1)) hlt
    simp [e2] at h3

theorem r_inStrs {l : List (Str × Tok)} {x : Str} {t : Tok} {Q : Value → Shared → Prop} (ha : s.heap.get? D = some (PySem.W.listOf (strValues l).toArray n))
    (h : Q (.bool (decide (x ∈ l.map (·.1)))) s) : wpAny (model prog w) A (compareOp .In (.str x t) (.ref D)) Q E s := by
  refine in_list_strs (isL ha) (strs_are l) ?_
  have e : ((l.map (·.1)).any fun y => y == x) = decide (x ∈ l.map (·.1)) := by
    rw [Bool.eq_iff_iff]
    simp
  rw [e]; exact h

/-- xs[i] -/
theorem r_item {value slice : Expr} {u : Tok} {x : Value} {Q : Value → Shared → Prop} (i : Nat) (ha : s.heap.get? D = some (PySem.W.listOf vs.toArray n)) (hx : vs[i]? = some x) (hz : vs.length ≤ 16777216) (h : Q x s)
    (hs : subscripted slice false (.ref D) (.int (i : Int) u) = operate [.ref D, .int (i : Int) u] (getItem (.ref D) (.int (i : Int) u)) := by with_unfolding_all rfl) :
    wpAny (model prog w) A (subscriptTail value slice (.ref D) (.int (i : Int) u)) Q E s := by
  have hi : i < vs.length := by
    rcases Nat.lt_or_ge i vs.length with h | h
    · exact h
    · rw [List.getElem?_eq_none h] at hx; cases hx
  exact tail_any (isL ha).typeIs slot_list_getitem.lookup (wpAny_getItem_list (isL ha) (by omega) (by omega) (by simpa using hx) h) hs

/-- xs[-1] -/
theorem r_last {value slice : Expr} {u : Tok} {x : Value} {Q : Value → Shared → Prop} (ha : s.heap.get? D = some (PySem.W.listOf (vs ++ [x]).toArray n)) (hz : vs.length ≤ 16777216) (h : Q x s)
    (hs : subscripted slice false (.ref D) (.int (-1) u) = operate [.ref D, .int (-1) u] (getItem (.ref D) (.int (-1) u)) := by with_unfolding_all rfl) :
    wpAny (model prog w) A (subscriptTail value slice (.ref D) (.int (-1) u)) Q E s := by
  refine tail_any (isL ha).typeIs slot_list_getitem.lookup (wpAny_getItem_list_neg (isL ha) (by decide) ?_ (by decide) ?_ h) hs
  · rw [List.size_toArray, List.length_append]; simp; omega
  · have e : ((-1 : Int) + ((vs ++ [x]).toArray.size : Int)).toNat = vs.length := by rw [List.size_toArray, List.length_append]; simp; omega
    rw [e]; simp

/-- xs[i] = v -/
theorem r_setItem {u : Tok} {v : Value} {Q : Unit → Shared → Prop} (i : Nat) (hi : i < vs.length) (hz : vs.length ≤ 16777216) (F : Fr h₀ L s.heap m) (N : News h₀ L s.heap news)
    (U : Upd D (PySem.W.listOf vs.toArray n) (PySem.W.listOf (vs.set i v).toArray n) news news')
    (h : ∀ h', Fr h₀ L h' m → News h₀ L h' news' → Q () { s with heap := h' }) : wpAny (model prog w) A (setItem (.ref D) (.int (i : Int) u) v) Q E s := by
  refine ki_set F N (by omega) (by omega) (q := vs.set i v) ?_ (by simpa using U) h
  have : ∀ (l : List Value) (i : Nat), i < l.length → ki_setL l i v = some (l.set i v) := by
    intro l
    induction l with
    | nil => intro i h; simp at h
    | cons y r ih =>
      intro i h
      cases i with
      | zero => rfl
      | succ i => simp [ki_setL, ih i (by simpa using h)]
  simpa using this vs i hi

/-- xs.pop() -/
theorem r_pop {x : Value} {Q : Value → Shared → Prop} (F : Fr h₀ L s.heap m) (N : News h₀ L s.heap news)
    (U : Upd D (PySem.W.listOf (vs ++ [x]).toArray n) (PySem.W.listOf vs.toArray (n + 1)) news news') (hz : vs.length + 1 ≤ 16777216)
    (h : ∀ h', Fr h₀ L h' m → News h₀ L h' news' → Q x { s with heap := h' }) : wpAny (model prog w) A (call (.builtin "list.pop") [.ref D]) Q E s := by
  refine kl_pop F N ?_ U (by rw [sizeLine_eq]; simpa using hz) h
  have : ∀ l : List Value, kl_last (l ++ [x]) = some (l, x) := by
    intro l
    induction l with
    | nil => rfl
    | cons y r ih => simp [kl_last, ih]
  simpa using this vs
end
end Mine
namespace Mine
section
variable {prog : Program} {w : World} {A : Around} {E : Value → Shared → Prop} {s : Shared} {h₀ : Heap} {L D b : Addr} {m : Loc} {news news' : Led} {vs : List Value} {n k : Nat}
theorem allLt_all {d : Addr} : ∀ {l : Led}, AllLt d l → ∀ p ∈ l, p.1 < d
  | [], _, _, h => nomatch h
  | q :: r, h, p, hp => by
    rcases List.mem_cons.mp hp with rfl | hp
    · exact h.1
    · exact allLt_all h.2 p hp
theorem allLt_ne {d : Addr} {l : Led} (h : AllLt d l) : ∀ p ∈ l, p.1 ≠ d := fun p hp => Nat.ne_of_lt (allLt_all h p hp)
end
end Mine
namespace Mine
theorem upd_mid {d : Addr} {o o' : Obj} : ∀ (pre : Led) {post : Led}, ((pre ++ (d, o) :: post).map (·.1)).Nodup → Upd d o o' (pre ++ (d, o) :: post) (pre ++ (d, o') :: post)
  | [], post, h => by
    refine .head fun p hp e => ?_
    have h' : (d :: post.map (·.1)).Nodup := h
    rw [List.nodup_cons] at h'
    exact h'.1 (List.mem_map.mpr ⟨p, hp, e⟩)
  | q :: pre, post, h => by
    have h' : (q.1 :: (pre ++ (d, o) :: post).map (·.1)).Nodup := h
    rw [List.nodup_cons] at h'
    refine .tail (fun e => h'.1 ?_) (upd_mid pre h'.2)
    rw [e]
    exact List.mem_map.mpr ⟨(d, o), List.mem_append.mpr (.inr (.head _)), rfl⟩
theorem nd_off {I : Addr} {oI : Obj} {l : Led} (h : (((I, oI) :: l).map (·.1)).Nodup) : ∀ p ∈ l, p.1 ≠ I := fun p hp e => by
  have h' : (I :: l.map (·.1)).Nodup := h
  rw [List.nodup_cons] at h'
  exact h'.1 (List.mem_map.mpr ⟨p, hp, e⟩)
theorem nd_tail {q : Addr × Obj} {l : Led} (h : ((q :: l).map (·.1)).Nodup) : (l.map (·.1)).Nodup := by
  have h' : (q.1 :: l.map (·.1)).Nodup := h
  rw [List.nodup_cons] at h'
  exact h'.2
theorem news_tail {h₀ h : Heap} {L : Addr} {q : Addr × Obj} {l : Led} (N : News h₀ L h (q :: l)) : News h₀ L h l := fun p hp => N p (.tail _ hp)
end Mine

open PySem PySem.W PySem.Calls PyProof.Rows PyProof.V PySem.Spec
set_option Elab.async false
set_option maxRecDepth 100000
set_option linter.unusedVariables false
namespace Mine
/-- what the loop over the places turns: changed, gone, the stack (its top first) -/
structure Sg where
  ch : List Int
  go : List Int
  st : List (Nat × Int)

def nxt (turn entry : Int) : Int := turn + 1 + (entry - turn - 1) % 4
def two (a b : Nat) : Str := ⟨#[a, b]⟩
def dash : Str := ⟨#[45]⟩
def kidx (ks : List Str) (k : Str) : Int := (ks.idxOf k : Nat)
def isOpen (c : Nat) : Bool := c == 40 || c == 91 || c == 60
def bump (last : Int) : List (Nat × Int) → List (Nat × Int)
  | [] => []
  | (p, q) :: r => (p, max q last) :: r

def step (T : List Nat) (ks : List Str) (i : Nat) (g : Sg) : Sg :=
  let c := T.getD i 0
  if isOpen c = true then { g with st := (i, -1) :: g.st }
  else if c = 45 then { ch := g.ch.set i (kidx ks dash), go := g.go.set i (kidx ks dash), st := bump (kidx ks dash) g.st }
  else match g.st with
    | [] => { g with st := [] }
    | (p, q) :: r =>
      if two (T.getD p 0) c ∈ ks then
        let l := nxt q (kidx ks (two (T.getD p 0) c))
        let l2 := if c = 62 then nxt l (kidx ks dash) else l
        { ch := (g.ch.set p l).set i l, go := (g.go.set i l).set p l2, st := bump l2 r }
      else { g with st := [] }

def steps (T : List Nat) (ks : List Str) : Nat → Sg
  | 0 => { ch := List.replicate T.length 1000, go := List.replicate T.length 1000, st := [] }
  | i + 1 => step T ks i (steps T ks i)
end Mine

open PySem PySem.W PySem.Calls PyProof.Rows PyProof.V PySem.Spec
set_option Elab.async false
set_option maxRecDepth 100000
set_option linter.unusedVariables false
namespace Mine
theorem item_c {T : Str} {i : Nat} (h : i < T.length) : Txt.item T (i : Int) = ⟨#[T.cps.toList.getD i 0]⟩ := by
  rw [item_at (n := i) (by omega) (by omega) (by simp)]
  simp [Array.getD, List.getD]
  have h' : i < T.cps.size := h
  simp [h']
theorem open_c (c : Nat) : (Builtin.Str.occurrences (Str.ofString "([<") ⟨#[c]⟩ 0 (Str.ofString "([<").length 1).isEmpty = !isOpen c := by
  have h := StrLaws.found_one (Str.ofString "([<") c
  have e : (Str.ofString "([<").cps.toList = [40, 91, 60] := by decide +kernel
  rw [e] at h
  have h2 : decide (c ∈ [40, 91, 60]) = isOpen c := by
    rw [Bool.eq_iff_iff]
    simp [isOpen]
    omega
  rw [h2] at h
  rw [← h, Bool.not_not]
theorem one_eq (c d : Nat) {x : Str} (hx : x = ⟨#[d]⟩) : ((⟨#[c]⟩ : Str) == x) = decide (c = d) := by
  subst hx
  rw [Bool.eq_iff_iff]
  simp
theorem one_dash : Str.ofString "-" = ⟨#[45]⟩ := by decide +kernel
theorem one_gt : Str.ofString ">" = ⟨#[62]⟩ := by decide +kernel

theorem nd_mid (pre : Led) {post : Led} {q : Addr × Obj} (h : ((q :: (pre ++ post)).map (·.1)).Nodup) : ((pre ++ q :: post).map (·.1)).Nodup :=
  ((List.perm_middle (l₁ := pre) (l₂ := post) (a := q)).map (·.1)).nodup_iff.mpr h
theorem nd_new {x : Addr} {o : Obj} {l : Led} (h : (l.map (·.1)).Nodup) (hx : ∀ p ∈ l, p.1 < x) : (((x, o) :: l).map (·.1)).Nodup := by
  show (x :: l.map (·.1)).Nodup
  rw [List.nodup_cons]
  refine ⟨fun hm => ?_, h⟩
  obtain ⟨p, hp, e⟩ := List.mem_map.mp hm
  exact absurd (hx p hp) (by rw [e]; exact Nat.lt_irrefl _)
section
variable {T : List Nat} {ks : List Str} {i : Nat} {g : Sg}
theorem step_open (h : isOpen (T.getD i 0) = true) : step T ks i g = { g with st := (i, -1) :: g.st } := by
  unfold step
  simp only [h, if_true]
theorem step_dash (h : T.getD i 0 = 45) : step T ks i g = { ch := g.ch.set i (kidx ks dash), go := g.go.set i (kidx ks dash), st := bump (kidx ks dash) g.st } := by
  unfold step
  simp only [h]
  rfl
theorem step_pair {p : Nat} {q : Int} {r : List (Nat × Int)} (ho : isOpen (T.getD i 0) = false) (hd : T.getD i 0 ≠ 45) (hs : g.st = (p, q) :: r) (hk : two (T.getD p 0) (T.getD i 0) ∈ ks) :
    step T ks i g = { ch := (g.ch.set p (nxt q (kidx ks (two (T.getD p 0) (T.getD i 0))))).set i (nxt q (kidx ks (two (T.getD p 0) (T.getD i 0)))),
                      go := (g.go.set i (nxt q (kidx ks (two (T.getD p 0) (T.getD i 0))))).set p (if T.getD i 0 = 62 then nxt (nxt q (kidx ks (two (T.getD p 0) (T.getD i 0)))) (kidx ks dash) else nxt q (kidx ks (two (T.getD p 0) (T.getD i 0)))),
                      st := bump (if T.getD i 0 = 62 then nxt (nxt q (kidx ks (two (T.getD p 0) (T.getD i 0)))) (kidx ks dash) else nxt q (kidx ks (two (T.getD p 0) (T.getD i 0)))) r } := by
  unfold step
  simp only [ho, if_neg hd, hs, if_pos hk, Bool.false_eq_true, if_false]
theorem step_stuck (ho : isOpen (T.getD i 0) = false) (hd : T.getD i 0 ≠ 45) (hs : ∀ p q r, g.st = (p, q) :: r → two (T.getD p 0) (T.getD i 0) ∉ ks) :
    step T ks i g = { g with st := [] } := by
  unfold step
  simp only [ho, if_neg hd, Bool.false_eq_true, if_false]
  split
  · rfl
  · rename_i p q r e
    rw [if_neg (hs p q r e)]
end
end Mine
namespace Mine
theorem nd_five {a b c d e f : Addr × Obj} {R : Led} (h : ((a :: b :: c :: d :: e :: f :: R).map (·.1)).Nodup) : (([a, b, c, e, f] : Led).map (·.1)).Nodup := by
  have h2 : (([a, b, c, e, f] : Led).map (·.1)).Sublist ((a :: b :: c :: d :: e :: f :: R).map (·.1)) :=
    .cons₂ _ (.cons₂ _ (.cons₂ _ (.cons _ (.cons₂ _ (.cons₂ _ (List.nil_sublist _))))))
  exact h2.nodup h
theorem lt_five {a b c d e f : Addr × Obj} {R : Led} {x : Addr} (h : ∀ p ∈ a :: b :: c :: d :: e :: f :: R, p.1 < x) : ∀ p ∈ ([a, b, c, e, f] : Led), p.1 < x := fun p hp => by
  refine h p ?_
  simp only [List.mem_cons, List.not_mem_nil, or_false] at hp ⊢
  rcases hp with rfl | rfl | rfl | rfl | rfl <;> simp
end Mine
namespace Mine
section
variable {prog : Program} {w : World} {A : Around} {E : Value → Shared → Prop} {s : Shared}
theorem r_strItem {value slice : Expr} {T : Str} {t u : Tok} {i : Nat} {Q : Value → Shared → Prop} (hi : i < T.length) (hz : T.length ≤ 16777216) (h : Q (.str ⟨#[T.cps.toList.getD i 0]⟩ s.toks) { s with toks := s.toks + 1 })
    (hs : subscripted slice false (.str T t) (.int (i : Int) u) = operate [.str T t, .int (i : Int) u] (getItem (.str T t) (.int (i : Int) u)) := by with_unfolding_all rfl) (ht : ∀ r, letTemporaryGo value (.str T t) r = pure () := by intro _; with_unfolding_all rfl) :
    wpAny (model prog w) A (subscriptTail value slice (.str T t) (.int (i : Int) u)) Q E s := by
  refine item_str ?_ (by omega) (by omega) (fun _ => ?_) hs ht
  · unfold fitsSsize
    simp
    omega
  · rw [item_c hi]; exact h
end
end Mine
namespace Mine
theorem two_app (a b : Nat) : ((⟨#[a]⟩ : Str) ++ ⟨#[b]⟩) = two a b := by
  apply PySem.Str.ext'
  rw [PySem.Str.cps_append]
  rfl
end Mine
namespace Mine
theorem nd_pop {a b c d d' e f x : Addr × Obj} {R : Led} (h : ((a :: b :: c :: d :: e :: f :: x :: R).map (·.1)).Nodup) (hd : d'.1 = d.1 := by rfl) (b' c' : Obj) : ((a :: (b.1, b') :: (c.1, c') :: d' :: e :: f :: R).map (·.1)).Nodup := by
  have h2 : ((a :: b :: c :: d :: e :: f :: R).map (·.1)).Sublist ((a :: b :: c :: d :: e :: f :: x :: R).map (·.1)) :=
    .cons₂ _ (.cons₂ _ (.cons₂ _ (.cons₂ _ (.cons₂ _ (.cons₂ _ (.cons _ (List.Sublist.refl _)))))))
  have h3 := h2.nodup h
  simpa [hd] using h3
end Mine

open PySem PySem.W PySem.Calls PyProof.Rows PyProof.V PySem.Spec
set_option Elab.async false
set_option linter.unusedVariables false
namespace Mine
def SgOk (n i : Nat) (g : Sg) : Prop := g.ch.length = n ∧ g.go.length = n ∧ (∀ x ∈ g.st, x.1 < i) ∧ g.st.length ≤ i
theorem bump_len (l : Int) (st : List (Nat × Int)) : (bump l st).length = st.length := by
  match st with
  | [] => rfl
  | (p, q) :: r => rfl
theorem bump_lt {l : Int} {st : List (Nat × Int)} {i : Nat} (h : ∀ x ∈ st, x.1 < i) : ∀ x ∈ bump l st, x.1 < i := by
  match st with
  | [] => exact h
  | (p, q) :: r =>
    intro x hx
    rcases List.mem_cons.mp hx with rfl | hx
    · exact h (p, q) (.head _)
    · exact h x (.tail _ hx)
theorem SgOk.step {T : List Nat} {ks : List Str} {i n : Nat} {g : Sg} (h : SgOk n i g) : SgOk n (i + 1) (step T ks i g) := by
  obtain ⟨h1, h2, h3, h4⟩ := h
  have h3' : ∀ x ∈ g.st, x.1 < i + 1 := fun x hx => Nat.lt_succ_of_lt (h3 x hx)
  unfold Mine.step
  simp only
  split
  · refine ⟨h1, h2, ?_, by simpa using h4⟩
    intro x hx
    rcases List.mem_cons.mp hx with rfl | hx
    · exact Nat.lt_succ_self _
    · exact h3' x hx
  · split
    · refine ⟨by simpa using h1, by simpa using h2, bump_lt h3', ?_⟩
      show (bump _ g.st).length ≤ i + 1
      rw [bump_len]; omega
    · split
      · exact ⟨h1, h2, fun x hx => (nomatch hx), Nat.zero_le _⟩
      · rename_i p q r e
        split
        · refine ⟨by simpa using h1, by simpa using h2, ?_, ?_⟩
          · exact bump_lt fun x hx => h3' x (by rw [e]; exact .tail _ hx)
          · show (bump _ r).length ≤ i + 1
            rw [bump_len]; rw [e] at h4; simp at h4; omega
        · exact ⟨h1, h2, fun x hx => (nomatch hx), Nat.zero_le _⟩
theorem steps_ok (T : List Nat) (ks : List Str) : ∀ i, SgOk T.length i (steps T ks i)
  | 0 => ⟨by simp [steps], by simp [steps], fun x hx => (nomatch hx), Nat.zero_le _⟩
  | i + 1 => (steps_ok T ks i).step
end Mine
namespace Mine
theorem nd_start {x0 x1 x2 x3 x4 x5 x6 x7 : Addr} {o0 o1 o2 o3 o4 : Obj}
    (h1 : x0 < x7 ∧ x1 < x7 ∧ x2 < x7 ∧ x3 < x7 ∧ x4 < x7 ∧ x5 < x7 ∧ x6 < x7) (h2 : x2 < x1 ∧ x3 < x1 ∧ x4 < x1 ∧ x5 < x1 ∧ x6 < x1) (h3 : x4 < x3 ∧ x5 < x3 ∧ x6 < x3) (h4 : x6 < x5) :
    (([(x3, o0), (x1, o1), (x7, o2), (x5, o3), (x6, o4)] : Led).map (·.1)).Nodup := by
  obtain ⟨a1, a2, a3, a4, a5, a6, a7⟩ := h1
  obtain ⟨b1, b2, b3, b4, b5⟩ := h2
  obtain ⟨c1, c2, c3⟩ := h3
  replace a2 := ltN a2; replace a4 := ltN a4; replace a6 := ltN a6; replace a7 := ltN a7
  replace b2 := ltN b2; replace b4 := ltN b4; replace b5 := ltN b5
  replace c2 := ltN c2; replace c3 := ltN c3; replace h4 := ltN h4
  simp only [List.map_cons, List.map_nil, List.nodup_cons, List.mem_cons, List.not_mem_nil, or_false, not_or, List.nodup_nil, and_true, not_false_eq_true]
  refine ⟨⟨?_, ?_, ?_, ?_⟩, ⟨?_, ?_, ?_⟩, ⟨?_, ?_⟩, ?_⟩ <;> (refine neN ?_; omega)
end Mine
namespace Mine
theorem ints_rep (k : Int) (t : Tok) : ∀ n, IntsAre (List.replicate n (Value.int k t)) (List.replicate n k)
  | 0 => .nil
  | n + 1 => .cons k t (ints_rep k t n)
end Mine
namespace Mine
theorem nd_cons {I : Addr} {oI : Obj} {l : Led} (h : (l.map (·.1)).Nodup) (ho : ∀ p ∈ l, p.1 ≠ I) : (((I, oI) :: l).map (·.1)).Nodup := by
  show (I :: l.map (·.1)).Nodup
  rw [List.nodup_cons]
  refine ⟨fun hm => ?_, h⟩
  obtain ⟨p, hp, e⟩ := List.mem_map.mp hm
  exact ho p hp e
end Mine

open PySem PySem.W PySem.Calls PyProof.Rows PyProof.V PySem.Spec
set_option Elab.async false
set_option maxRecDepth 100000
set_option maxHeartbeats 8000000
set_option linter.unusedVariables false
namespace Mine
def fnBody : Stmt → List Stmt
  | .FunctionDef _ _ b _ _ _ _ _ _ _ => b
  | _ => []
def fnScope : Stmt → Scope
  | .FunctionDef _ _ _ _ _ _ sc _ _ _ => sc
  | _ => default
def lawDef : Stmt := PySem.Challenge.pw_kn0103_01.main.body.getD 5 (.Pass default)
local macro_rules | `(tactic| walk_at "lit") => `(tactic| dsimp only [lawDef, fnBody, fnScope, PySem.Challenge.pw_kn0103_01, List.getD, List.getElem?_cons_succ, List.getElem?_cons_zero, Option.getD, List.drop])
local macro_rules | `(tactic| walk_at "ks1") => `(tactic| (first | (k_unfold; (try dsimp only)) | (k_end; wrow_close) | walk1 | (dsimp only; walk1) | (leave1; walk_say "STEP leave1"; try dsimp only) | fail "no step"))
local macro_rules | `(tactic| walk_at "ks0") => `(tactic| repeat' ((fail_if_success (with_reducible show wpAny _ _ (eval (PySem.Expr.BinOp _ _ _ _) _) _ _ _)); walk_at "ks1"))
local macro_rules | `(tactic| walk_at "ks") => `(tactic| repeat' ((fail_if_success (with_reducible show wpAny _ _ (exec (Stmt.For _ _ _ _ _) _) _ _ _)); (fail_if_success (with_reducible show wpAny _ _ (pyIter _) (fun it s₂ => OwnAt _ _ _ _ _ _ _ _ it s₂) _ _)); (fail_if_success (with_reducible show TurnPost _ _ _ _ _ _ _ _ _)); walk_at "ks1"))
local macro_rules | `(tactic| walk_at "execs cons") => `(tactic| (k_here; (rename TB _ _ => hTBo); refine execs_tb (TB.mono hTBo (Nat.le_refl _) (by (try dsimp only); omega)) ?_; clear hTBo; intro tk hTB; (try dsimp only)))

abbrev lawEnv (L fa : Addr) (cd : Value) : Env := envOf (Str.ofString "law") (fnScope lawDef) L fa cd
abbrev P01 : Program := PySem.Challenge.rw_kn0103_01.row.prog

/-- what the walk is given -/
structure Given (w : World) (h₀ : Heap) (mg mb : Str → Option Value) (mean : ExcName → Option Value) (l : Addr) (vs : List Value) (ns : List Int) : Prop where
  KX : (hd1.heap_39 w.params).In h₀
  T : Top hd1.view_39 (looseW hd1.view_39 []) mean mg mb h₀
  K0 : Below callerA h₀ [] h₀
  hL : h₀.IsList l vs.toArray
  hI : IntsAre vs ns
  lay : (PyData.list (ns.map PyData.int)).layable0 = true
  len : ns.length ≤ 63

def pool0 (a : Tok) : List (Str × Tok) := [(Str.ofString "()", a), (Str.ofString "[]", a + 1), (Str.ofString "<>", a + 1 + 1), (Str.ofString "-", a + 1 + 1 + 1)]

def Jpick (P₀ : List (Str × Tok)) (R : Int) (pa ka la : Addr) (lv : List Value) (base : List (Str × Value)) (i : Nat) (m : Loc) (nx : Led) : Prop :=
  ∃ (ks ps : List (Str × Tok)) (r : Int) (tr : Tok) (nk np : Nat), ks.length = i ∧ ps.length = 4 - i ∧ ks ++ picks (4 - i) r ps = picks 4 R P₀ ∧
    Has m ((Str.ofString "pool", .ref pa) :: (Str.ofString "keys", .ref ka) :: (Str.ofString "rest", .int r tr) :: base) ∧
    nx = (la, PySem.W.listOf lv.toArray 0) :: (ka, PySem.W.listOf (strValues ks).toArray nk) :: (pa, PySem.W.listOf (strValues ps).toArray np) :: []

theorem fill : PySem.Challenge.rw_kn0103_01 = PySem.Challenge.rw_kn0103_01 ∧ hd1.heap_39 = hd1.heap_39 := by
  w_top off
  k_fill
  exact ⟨rfl, rfl⟩

theorem law_a {w : World} {h₀ : Heap} {mg mb : Str → Option Value} {mean : ExcName → Option Value} {l : Addr} {vs : List Value} {ns : List Int} (G : Given w h₀ mg mb mean l vs ns)
   {L fa : Addr} {cd : Value} {s : Shared} {Q : Flow → Shared → Prop} {a : Nat} (ha : 0 < a) (hs : s.toks = a)
   (F : Fr h₀ L s.heap (fun x => [(Str.ofString "script", Value.ref l)].reverse.lookup x)) (N : News h₀ L s.heap [])
   (next : ∀ h tk ka nk ks m, Fr h₀ L h m → News h₀ L h [(ka, PySem.W.listOf (strValues ks).toArray nk)] → Has m [(Str.ofString "keys", .ref ka), (Str.ofString "script", .ref l)] → ks = picks 4 (ns.sum + 5) (pool0 a) → TB (a + 4) tk →
      wpAny (model P01 w) (callerA.deeper (lawEnv L fa cd)) (execs ((fnBody lawDef).drop 2) (lawEnv L fa cd)) Q (fun _ _ => False) { s with heap := h, toks := tk }) :
   wpAny (model P01 w) (callerA.deeper (lawEnv L fa cd)) (execs (fnBody lawDef) (lawEnv L fa cd)) Q (fun _ _ => False) s := by
  obtain ⟨heap, gens, drawn, toks, os⟩ := s
  dsimp only at hs F N next ⊢
  subst hs
  obtain ⟨KX, T, K0, hL, hI, lay, len⟩ := G
  revert next
  unfold lawEnv
  walk_at "lit"
  intro next
  refine wpAny_execs_cons ?_
  walk_at "ks0"
  refine with_tb (Nat.le_refl _) ?_
  dsimp only
  walk_at "ks"
  k_fold
  refine For_own ?_
  walk_at "ks"
  rename_i pa hp0 lp0 ka hp1 lp1 hp2 tk2 t2 Da hp3 lp3 hp4 hp5 hp6 hp7 tk hTB la hh F N l1
  have Nx := news_sub (b := [(la, PySem.W.listOf #[.int 4 _, .int 3 _, .int 2 _, .int 1 _] 0), (ka, PySem.W.listOf #[] 0), (pa, PySem.W.listOf (strValues (pool0 toks)).toArray 0)]) N (by
    refine List.forall_mem_cons.mpr ⟨by k_mem, List.forall_mem_cons.mpr ⟨by k_mem, List.forall_mem_cons.mpr ⟨by k_mem, List.forall_mem_nil _⟩⟩⟩)
  clear N
  refine own_list (l := la) (vs := [.int 4 tk, .int 3 (tk+1), .int 2 (tk+1+1), .int 1 (tk+1+1+1)]) (k := 0) rfl F Nx rfl rfl
    (Jpick (pool0 toks) (ns.sum + 5) pa ka la [.int 4 tk, .int 3 (tk+1), .int 2 (tk+1+1), .int 1 (tk+1+1+1)] [(Str.ofString "script", .ref l)])
    ?_ ?_ ?_ ?_ PassesOwn.never
  · rintro i m nx ⟨ks, ps, r, tr, nk, np, h1, h2, h3, hm, rfl⟩
    exact .head _
  · exact ⟨[], pool0 toks, _, _, 0, 0, rfl, rfl, rfl, ⟨rfl, rfl, rfl, rfl, trivial⟩, rfl⟩
  · rintro i v m₁ nx h₁ tk₁ I oI hv htk ⟨ks, ps, r, tr, nk, np, h1, h2, h3, hm, rfl⟩ hoff F₁ N₁
    have hi : i < 4 := by
      rcases Nat.lt_or_ge i 4 with h | h
      · exact h
      · rw [List.getElem?_eq_none (by simpa using h)] at hv; cases hv
    obtain ⟨tv, rfl⟩ : ∃ tv, v = .int (4 - (i : Int)) tv := by
      match i, hi, hv with
      | 0, _, hv | 1, _, hv | 2, _, hv | 3, _, hv => simp at hv; exact ⟨_, hv.symm⟩
    rw [hm.eq] at F₁
    have hTB₁ : TB (toks + 1 + 1 + 1 + 1) tk₁ := TB.mono hTB (Nat.le_refl _) (by simp at htk; omega)
    simp only [List.forall_mem_cons] at hoff
    obtain ⟨o1, o2, o3, -⟩ := hoff
    replace o1 := neN o1
    replace o2 := neN o2
    replace o3 := neN o3
    clear next hv htk hTB Nx F
    change Fr h₀ L h₁ _ at F₁
    change News h₀ L h₁ _ at N₁
    walk_at "ks"
    have hm0 := Int.emod_nonneg r (b := 4 - (i : Int)) (by omega)
    have hm1 := Int.emod_lt_of_pos r (b := 4 - (i : Int)) (by omega)
    have hfm : r.fmod (4 - (i : Int)) = r % (4 - (i : Int)) := Int.fmod_eq_emod_of_nonneg _ (by omega)
    have hfd : r.fdiv (4 - (i : Int)) = r / (4 - (i : Int)) := Int.fdiv_eq_ediv_of_nonneg _ (by omega)
    have hlt : (r % (4 - (i : Int))).toNat < ps.length := by omega
    refine r_popAt (vs := strValues ps) (r % (4 - (i : Int))).toNat (by omega) (y := .str (ps[(r % (4 - (i : Int))).toNat]).1 (ps[(r % (4 - (i : Int))).toNat]).2) (sv_get hlt) F₁ N₁ (by k_upd) (by rw [sv_length, h2]; omega) ?_
    intro h₂ F₂ N₂
    walk_at "ks"
    refine r_append (vs := strValues ks) F₂ N₂ (by k_upd) (by rw [sv_length, h1]; omega) ?_
    intro h₃ F₃ N₃
    walk_at "ks"
    (rename Fr _ _ _ _ => F₄)
    (rename News _ _ _ _ => N₄)
    have e4 : 4 - i = (4 - (i + 1)) + 1 := by omega
    have e5 : (((4 - (i + 1) : Nat) : Int) + 1) = 4 - (i : Int) := by omega
    refine TurnPost.next [(la, _), (ka, _), (pa, _)] F₄ N₄ (List.forall_mem_cons.mpr ⟨by k_mem, List.forall_mem_cons.mpr ⟨by k_mem, List.forall_mem_cons.mpr ⟨by k_mem, List.forall_mem_nil _⟩⟩⟩) (by k_mem)
      (List.forall_mem_cons.mpr ⟨o1, List.forall_mem_cons.mpr ⟨o2, List.forall_mem_cons.mpr ⟨o3, List.forall_mem_nil _⟩⟩⟩)
      ⟨ks ++ [(ps[(r % (4 - (i : Int))).toNat].1, ps[(r % (4 - (i : Int))).toNat].2)], ps.eraseIdx (r % (4 - (i : Int))).toNat, r.fdiv (4 - (i : Int)), _, nk + 1, np + 1, ?_, ?_, ?_, ⟨rfl, rfl, rfl, rfl, trivial⟩, ?_⟩
    · rw [List.length_append, h1]; rfl
    · rw [List.length_eraseIdx_of_lt hlt]; omega
    · rw [← h3, e4, picks_succ (by rw [e5]; exact hlt), List.append_assoc, hfd]
      simp only [e5]
      rfl
    · rw [sv_append, sv_erase]; rfl
  · rintro h' tk' m' nx htk F' N' ⟨ks, ps, r, tr, nk, np, h1, h2, h3, hm, rfl⟩
    clear Nx F hp0 hp1 hp2
    k_unfold
    dsimp only [List.length_cons, List.length_nil] at h1 h2 h3 htk ⊢
    intro hT
    have h2' : ps = [] := List.length_eq_zero_iff.mp (by omega)
    subst h2'
    refine next h' tk' ka nk ks m' F' (news_sub N' (List.forall_mem_cons.mpr ⟨by k_mem, List.forall_mem_nil _⟩)) ⟨hm.2.1, hm.2.2.2.1, trivial⟩ (by simpa [picks] using h3) hT
end Mine

open PySem PySem.W PySem.Calls PyProof.Rows PyProof.V PySem.Spec
set_option Elab.async false
set_option maxRecDepth 100000
set_option maxHeartbeats 8000000
set_option linter.unusedVariables false
namespace Mine
local macro_rules | `(tactic| walk_at "lit") => `(tactic| dsimp only [lawDef, fnBody, fnScope, PySem.Challenge.pw_kn0103_01, List.getD, List.getElem?_cons_succ, List.getElem?_cons_zero, Option.getD, List.drop])
local macro_rules | `(tactic| walk_at "ks1") => `(tactic| (first | (k_unfold; (try dsimp only)) | (k_end; wrow_close) | walk1 | (dsimp only; walk1) | (leave1; walk_say "STEP leave1"; try dsimp only) | fail "no step"))
local macro_rules | `(tactic| walk_at "ks") => `(tactic| repeat' ((fail_if_success (with_reducible show wpAny _ _ (exec (Stmt.For _ _ _ _ _) _) _ _ _)); (fail_if_success (with_reducible show wpAny _ _ (pyIter _) (fun it s₂ => OwnAt _ _ _ _ _ _ _ _ it s₂) _ _)); (fail_if_success (with_reducible show wpAny _ _ (eval (PySem.Expr.Dict [] [] _) _) _ _ _)); (fail_if_success (with_reducible show TurnPost _ _ _ _ _ _ _ _ _)); walk_at "ks1"))
local macro_rules | `(tactic| walk_at "execs cons") => `(tactic| (k_here; (rename TB _ _ => hTBo); refine execs_tb (TB.mono hTBo (Nat.le_refl _) (by (try dsimp only); omega)) ?_; clear hTBo; intro tk hTB; (try dsimp only)))
local macro_rules | `(tactic| walk_at "kst") => `(tactic| repeat' ((fail_if_success (with_reducible show TB _ _ → _)); walk_at "ks1"))
theorem fill2 : PySem.Challenge.rw_kn0103_01 = PySem.Challenge.rw_kn0103_01 ∧ hd1.heap_39 = hd1.heap_39 := by
  w_top off
  k_fill
  exact ⟨rfl, rfl⟩

/-- what an entry of the table stands for -/
def valOf (k : Str) : Str := if (k == Str.ofString "<>") = true then Str.ofString "-" else Str.ofString ""
def Tab (T : Nat) (es : List Ent) (kl : List (Str × Tok)) : Prop := es.map (fun p => (p.1, p.2.1)) = kl ∧ ∀ p ∈ es, ∃ tv, p.2.2 = .str (valOf p.1) tv ∧ T ≤ tv
theorem Tab.snoc {T : Nat} {es : List Ent} {kl : List (Str × Tok)} {p : Str × Tok} {tv : Tok} {v : Value} (h : Tab T es kl) (hv : v = .str (valOf p.1) tv) (ht : T ≤ tv) : Tab T (es ++ [(p.1, p.2, v)]) (kl ++ [p]) := by
  refine ⟨by rw [List.map_append, h.1]; rfl, fun q hq => ?_⟩
  rcases List.mem_append.mp hq with hq | hq
  · exact h.2 q hq
  · rw [List.mem_singleton.mp hq]; exact ⟨tv, hv, ht⟩
def Jtab (w : World) (T : Nat) (ks : List (Str × Tok)) (da ka l : Addr) (nk : Nat) (i : Nat) (m : Loc) (nx : Led) : Prop :=
  ∃ es nd, Tab T es (ks.take i) ∧ Has m [(Str.ofString "table", .ref da), (Str.ofString "keys", .ref ka), (Str.ofString "script", .ref l)] ∧ nx = [(da, sdict w es nd), (ka, PySem.W.listOf (strValues ks).toArray nk)]

theorem law_b {w : World} {h₀ : Heap} {mg mb : Str → Option Value} {mean : ExcName → Option Value} {l : Addr} {vs : List Value} {ns : List Int} (G : Given w h₀ mg mb mean l vs ns)
   {L fa : Addr} {cd : Value} {s : Shared} {Q : Flow → Shared → Prop} {a : Nat} (ha : 0 < a) (hs : TB (a + 4) s.toks) {m : Loc} {ka : Addr} {nk : Nat} {ks : List (Str × Tok)}
   (F : Fr h₀ L s.heap m) (N : News h₀ L s.heap [(ka, PySem.W.listOf (strValues ks).toArray nk)]) (hm : Has m [(Str.ofString "keys", .ref ka), (Str.ofString "script", .ref l)])
   (hks : ks.Perm (pool0 a))
   (next : ∀ h tk T tt es nd da m', Fr h₀ L h m' → News h₀ L h [(da, sdict w es nd), (ka, PySem.W.listOf (strValues ks).toArray nk)] → Tab (a + 4) es ks → (da == sysModules) = false → ka < da → T.length ≤ 77 →
      Has m' [(Str.ofString "text", .str T tt), (Str.ofString "table", .ref da), (Str.ofString "keys", .ref ka)] → TB (a + 4) tk →
      wpAny (model P01 w) (callerA.deeper (lawEnv L fa cd)) (execs ((fnBody lawDef).drop 5) (lawEnv L fa cd)) Q (fun _ _ => False) { s with heap := h, toks := tk }) :
   wpAny (model P01 w) (callerA.deeper (lawEnv L fa cd)) (execs ((fnBody lawDef).drop 2) (lawEnv L fa cd)) Q (fun _ _ => False) s := by
  obtain ⟨heap, gens, drawn, toks, os⟩ := s
  dsimp only at hs F N next ⊢
  obtain ⟨KX, T, K0, hL, hI, lay, len⟩ := G
  rw [hm.eq] at F
  revert next
  unfold lawEnv
  walk_at "lit"
  intro next
  walk_at "ks"
  refine r_newDict F N T.nolimit ?_
  clear F N
  intro da h₁ F₁ N₁ l1 lo
  simp only [List.forall_mem_cons] at l1
  replace l1 := ltN l1.1
  walk_at "ks"
  k_fold
  refine For_own ?_
  walk_at "ks"
  (rename Fr _ _ _ _ => F)
  (rename News _ _ _ _ => N)
  (rename TB _ _ => hTB)
  have hkn : (ks.map (·.1)).Nodup := by
    have e : ((pool0 a).map (·.1)).Nodup := by
      show ([Str.ofString "()", Str.ofString "[]", Str.ofString "<>", Str.ofString "-"] : List Str).Nodup
      decide +kernel
    exact (hks.map _).nodup_iff.mpr e
  have hkl : ks.length = 4 := hks.length_eq
  refine own_list (l := ka) (vs := strValues ks) (k := nk) rfl F N rfl rfl (Jtab w (a + 4) ks da ka l nk) ?_ ?_ ?_ ?_ PassesOwn.never
  · rintro i m nx ⟨es, nd, h1, hm, rfl⟩
    exact .tail _ (.head _)
  · exact ⟨[], 0, ⟨rfl, fun _ h => nomatch h⟩, ⟨rfl, rfl, rfl, trivial⟩, rfl⟩
  · rintro i v m₁ nx h₂ tk₂ I oI hv htk ⟨es, nd, h1, hm, rfl⟩ hoff F₂ N₂
    change Fr h₀ L h₂ _ at F₂
    change News h₀ L h₂ _ at N₂
    have hi : i < ks.length := by
      rcases Nat.lt_or_ge i ks.length with h | h
      · exact h
      · rw [List.getElem?_eq_none (by rw [sv_length]; exact h)] at hv; cases hv
    rw [sv_get hi] at hv
    have hv' := (Option.some.inj hv).symm
    subst hv'
    rw [hm.eq] at F₂
    simp only [List.forall_mem_cons] at hoff
    obtain ⟨o1, o2, -⟩ := hoff
    replace o1 := neN o1
    replace o2 := neN o2
    have hTB₂ : TB (a + 4) tk₂ := TB.mono hTB (Nat.le_refl _) htk
    have htake : ks.take (i + 1) = ks.take i ++ [ks[i]] := by rw [List.take_succ_eq_append_getElem hi]
    have hnew : ks[i].1 ∉ es.map (·.1) := by
      have e : es.map (·.1) = (ks.take i).map (·.1) := by rw [← h1.1, List.map_map]; rfl
      rw [e]
      have hn := hkn
      rw [← List.take_append_drop (i + 1) ks, htake, List.append_assoc, List.map_append, List.nodup_append] at hn
      intro hmem
      exact hn.2.2 _ hmem _ (List.mem_map.mpr ⟨ks[i], List.mem_append_left _ (List.mem_singleton.mpr rfl), rfl⟩) rfl
    have hlen : es.length ≤ 16777216 := by
      have e := congrArg List.length h1.1
      rw [List.length_map, List.length_take] at e
      omega
    clear F N hTB hv htk next
    walk_at "ks"
    all_goals
      (rename TB _ _ => hTB)
      dsimp only
      refine r_setNew hnew F₂ N₂ (by k_upd) hlen ?_
      intro h₃ F₃ N₃
      walk_at "ks"
      (rename ((_ == PySem.Str.ofString "<>") = _) => hc)
      (rename Fr _ _ _ _ => F₄)
      (rename News _ _ _ _ => N₄)
      refine TurnPost.next [(da, _), (ka, _)] F₄ N₄ (List.forall_mem_cons.mpr ⟨by k_mem, List.forall_mem_cons.mpr ⟨by k_mem, List.forall_mem_nil _⟩⟩) (by k_mem)
        (List.forall_mem_cons.mpr ⟨o1, List.forall_mem_cons.mpr ⟨o2, List.forall_mem_nil _⟩⟩) ⟨_, _, ?_, ⟨rfl, rfl, rfl, trivial⟩, rfl⟩
      rw [htake]
    · exact Tab.snoc h1 (by rw [valOf, if_pos hc]) (by have := hTB; unfold TB at this; omega)
    · exact Tab.snoc h1 (by rw [valOf, if_neg (by rw [hc]; exact Bool.false_ne_true)]) (by have := hTB; unfold TB at this; omega)
  · rintro h' tk' m' nx htk F' N' ⟨es, nd, h1, hm', rfl⟩
    k_unfold
    dsimp only at htk ⊢
    intro hT
    have e : ks.take (strValues ks).length = ks := by rw [sv_length]; exact List.take_length
    rw [e] at h1
    clear F N hTB htk
    change Fr h₀ L h' _ at F'
    change News h₀ L h' _ at N'
    rw [hm'.eq] at F'
    walk_at "ks"
    (rename (PySem.Txt.join _ _).length = _ => hlen)
    have hf : (ns.filter fun _ => true).length = ns.length := by rw [List.filter_eq_self.mpr (by simp)]
    have h14 : (Str.ofString "(<[()]>-)x][<(").length = 14 := by decide +kernel
    refine PyProof.Rows.add_str ?_ (by rw [hlen, hf, h14, sizeLine_eq]; omega)
    intro t2 tk2
    walk_at "kst"
    (rename Fr _ _ _ _ => F₅)
    (rename News _ _ _ _ => N₅)
    intro hT5
    refine next _ _ _ _ es nd da _ F₅ (news_sub N₅ (List.forall_mem_cons.mpr ⟨by k_mem, List.forall_mem_cons.mpr ⟨by k_mem, List.forall_mem_nil _⟩⟩)) h1 lo l1 ?_ ⟨rfl, rfl, rfl, trivial⟩ hT5
    rw [PySem.Str.length_append, hlen, hf, h14]
    omega
end Mine

open PySem PySem.W PySem.Calls PyProof.Rows PyProof.V PySem.Spec
set_option Elab.async false
set_option maxRecDepth 100000
set_option maxHeartbeats 8000000
set_option linter.unusedVariables false
namespace Mine
def forBody : Stmt → List Stmt
  | .For _ _ b _ _ => b
  | _ => []
def turnsDef : Stmt := PySem.Challenge.pw_kn0103_01.main.body.getD 4 (.Pass default)
def turnsLoop : List Stmt := forBody ((fnBody turnsDef).getD 2 (.Pass default))
abbrev turnsEnv (L fa : Addr) (cd : Value) : Env := envOf (Str.ofString "_law_turns") (fnScope turnsDef) L fa cd
local macro_rules | `(tactic| walk_at "lit") => `(tactic| dsimp only [turnsDef, turnsLoop, forBody, lawDef, fnBody, fnScope, PySem.Challenge.pw_kn0103_01, List.getD, List.getElem?_cons_succ, List.getElem?_cons_zero, Option.getD, List.drop])
local macro_rules | `(tactic| walk_at "ks1") => `(tactic| (first | (k_unfold; (try dsimp only)) | (k_end; wrow_close) | walk1 | (dsimp only; walk1) | (leave1; walk_say "STEP leave1"; try dsimp only) | fail "no step"))
local macro_rules | `(tactic| walk_at "ks") => `(tactic| repeat' ((fail_if_success (with_reducible show wpAny _ _ (exec (Stmt.For _ _ _ _ _) _) _ _ _)); (fail_if_success (with_reducible show wpAny _ _ (pyIter _) (fun it s₂ => OwnAt _ _ _ _ _ _ _ _ it s₂) _ _)); (fail_if_success (with_reducible show wpAny _ _ (eval (PySem.Expr.Dict [] [] _) _) _ _ _)); (fail_if_success (with_reducible show TurnPost _ _ _ _ _ _ _ _ _)); walk_at "ks1"))
local macro_rules | `(tactic| walk_at "kst") => `(tactic| repeat' ((fail_if_success (with_reducible show TB _ _ → _)); walk_at "ks1"))
local macro_rules | `(tactic| walk_at "execs cons") => `(tactic| (k_here; (rename TB _ _ => hTBo); refine execs_tb (TB.mono hTBo (Nat.le_refl _) (by (try dsimp only); omega)) ?_; clear hTBo; intro tk hTB; (try dsimp only)))
theorem fill4 : PySem.Challenge.rw_kn0103_01 = PySem.Challenge.rw_kn0103_01 ∧ hd1.heap_39 = hd1.heap_39 := by
  w_top off
  k_fill
  exact ⟨rfl, rfl⟩

/-- the stack's lists, the top first -/
inductive Stk : List (Nat × Int) → List Addr → Led → Prop
  | nil : Stk [] [] []
  | cons {p : Nat} {q : Int} {t u : Tok} {a : Addr} {n : Nat} {st as R} : Stk st as R → Stk ((p, q) :: st) (a :: as) ((a, PySem.W.listOf #[.int p t, .int q u] n) :: R)


theorem Stk.ne {st as R} (h : Stk st as R) : st = [] ↔ as = [] := by cases h <;> simp

def Jturn (g : Heap) (T : Str) (tt : Tok) (ks : List (Str × Tok)) (ka ca ga : Addr) (od : Addr × Obj) (nk : Nat) (σ : Sg) (m : Loc) (nx : Led) : Prop :=
  ∃ cv gv as R n1 n2 n3 sa, IntsAre cv σ.ch ∧ IntsAre gv σ.go ∧ Stk σ.st as R ∧
    Has m [(Str.ofString "text", .str T tt), (Str.ofString "keys", .ref ka), (Str.ofString "changed", .ref ca), (Str.ofString "gone", .ref ga), (Str.ofString "stack", .ref sa)] ∧
    nx = (ca, PySem.W.listOf cv.toArray n1) :: (ga, PySem.W.listOf gv.toArray n2) :: (sa, PySem.W.listOf ((as.map Value.ref).reverse).toArray n3) :: od :: (ka, PySem.W.listOf (strValues ks).toArray nk) :: R ∧ (nx.map (·.1)).Nodup

/-- the turn's last statement: the top's inside -/
theorem turn_d {w : World} {g base : Heap} {mg mb : Str → Option Value} {mean : ExcName → Option Value} {A₀ : Around} {e₁ : Env}
   (KX : (hd1.heap_39 w.params).In g) (T0 : Top hd1.view_39 (looseW hd1.view_39 []) mean mg mb g) (B : Below A₀ base [e₁] g)
   {L fa : Addr} {cd : Value} {s s₀ : Shared} {P : Flow → Shared → Prop} {a : Nat} (hTB : TB (a + 4) s.toks) {u : Loc} {ka ca ga sa : Addr} {nk n1 n2 n3 : Nat} {ks : List (Str × Tok)} {T : Str} {tt tp : Tok} {I : Addr} {oI : Obj} {od : Addr × Obj}
   {σ : Sg} {last : Int} {tl : Tok} (hs0 : ∃ h tk, s = { s₀ with heap := h, toks := tk })
   {cv gv : List Value} (hcv : IntsAre cv σ.ch) (hgv : IntsAre gv σ.go) {as : List Addr} {R all : Led} (hS : Stk σ.st as R) (hlen : as.length ≤ 1000)
   (F : Fr g L s.heap (Set [(Str.ofString "text", .str T tt), (Str.ofString "keys", .ref ka), (Str.ofString "changed", .ref ca), (Str.ofString "gone", .ref ga), (Str.ofString "stack", .ref sa), (Str.ofString "last", .int last tl)] u))
   (N : News g L s.heap ((I, oI) :: (ca, PySem.W.listOf cv.toArray n1) :: (ga, PySem.W.listOf gv.toArray n2) :: (sa, PySem.W.listOf ((as.map Value.ref).reverse).toArray n3) :: od :: (ka, PySem.W.listOf (strValues ks).toArray nk) :: R))
   (hnd : (((I, oI) :: (ca, PySem.W.listOf cv.toArray n1) :: (ga, PySem.W.listOf gv.toArray n2) :: (sa, PySem.W.listOf ((as.map Value.ref).reverse).toArray n3) :: od :: (ka, PySem.W.listOf (strValues ks).toArray nk) :: R).map (·.1)).Nodup) :
   wpAny (model P01 w) ((callerA.deeper e₁).deeper (turnsEnv L fa cd)) (execs (turnsLoop.drop 2) (turnsEnv L fa cd))
     (TurnPost g L I oI (Jturn g T tt ks ka ca ga od nk { σ with st := bump last σ.st }) s₀ P) (fun _ _ => False) s := by
  obtain ⟨hx, tkx, rfl⟩ := hs0
  obtain ⟨heap, gens, drawn, toks, os⟩ := s₀
  dsimp only at hTB F N ⊢
  unfold turnsEnv
  walk_at "lit"
  walk_at "ks"
  rename_i tk1 hTB1 la h1 F1 N1 l1
  refine r_neNil (News.get N1 (by k_mem)) (News.get N1 (by k_mem)) (by k_units) ?_
  generalize hst : σ.st = st at hS
  cases hS with
  | nil =>
    simp only [List.map_nil, List.reverse_nil, List.isEmpty_nil, Bool.not_true]
    walk_at "ks"
    refine TurnPost.next [(ca, _), (ga, _), (sa, _), od, (ka, _)] F1 N1 (List.forall_mem_cons.mpr ⟨by k_mem, List.forall_mem_cons.mpr ⟨by k_mem, List.forall_mem_cons.mpr ⟨by k_mem, List.forall_mem_cons.mpr ⟨by k_mem, List.forall_mem_cons.mpr ⟨by k_mem, List.forall_mem_nil _⟩⟩⟩⟩⟩) (by k_mem) ?_
      ⟨cv, gv, [], [], n1, n2, n3, sa, hcv, hgv, .nil, ⟨rfl, rfl, rfl, rfl, rfl, trivial⟩, rfl, ?_⟩
    · intro p hp e
      rw [List.map_cons, List.nodup_cons] at hnd
      exact hnd.1 (List.mem_map.mpr ⟨p, hp, e⟩)
    · rw [List.map_cons, List.nodup_cons] at hnd
      exact hnd.2
  | @cons p q t v x n st as R hS =>
    have e : ((x :: as).map Value.ref).reverse = (as.map Value.ref).reverse ++ [.ref x] := by simp
    have e2 : (!((as.map Value.ref).reverse ++ [Value.ref x]).isEmpty) = true := by simp
    rw [e] at N1 ⊢
    rw [e2]
    have hz : ((as.map Value.ref).reverse).length ≤ 16777216 := by simp at hlen ⊢; omega
    walk_at "ks"
    dsimp only
    refine r_last (News.get N1 (by k_mem)) hz ?_
    walk_at "ks"
    (rename News _ _ _ _ => N2)
    (rename Fr _ _ _ _ => F2)
    dsimp only
    refine r_last (News.get N2 (by k_mem)) hz ?_
    walk_at "ks"
    dsimp only
    refine r_setItem (vs := [.int (p : Int) t, .int q v]) 1 (by simp) (by simp) F2 (news_tail N2) (upd_mid [_, _, _, _, _, _] hnd) ?_
    intro h3 F3 N3
    rw [← e] at N3
    walk_at "ks"
    have hmx : (if last > q then last else q) = max q last := by split <;> omega
    rw [hmx] at N3
    refine TurnPost.next _ F3 N3 (fun p hp => List.mem_cons_of_mem _ hp) (.head _) (nd_off hnd)
      ⟨cv, gv, x :: as, _, n1, n2, n3, sa, hcv, hgv, .cons hS, ⟨rfl, rfl, rfl, rfl, rfl, trivial⟩, rfl, nd_tail hnd⟩
end Mine

open PySem PySem.W PySem.Calls PyProof.Rows PyProof.V PySem.Spec
set_option Elab.async false
set_option maxRecDepth 100000
set_option maxHeartbeats 8000000
set_option linter.unusedVariables false
namespace Mine
def orElseOf : Stmt → List Stmt
  | .If _ _ o _ => o
  | _ => []
def thenOf : Stmt → List Stmt
  | .If _ b _ _ => b
  | _ => []
def pairBody : List Stmt := thenOf ((orElseOf ((orElseOf (turnsLoop.getD 1 (.Pass default))).getD 0 (.Pass default))).getD 0 (.Pass default))
local macro_rules | `(tactic| walk_at "lit") => `(tactic| dsimp only [pairBody, orElseOf, thenOf, turnsDef, turnsLoop, forBody, lawDef, fnBody, fnScope, PySem.Challenge.pw_kn0103_01, List.getD, List.getElem?_cons_succ, List.getElem?_cons_zero, Option.getD, List.drop])
local macro_rules | `(tactic| walk_at "ks1") => `(tactic| (first | (k_unfold; (try dsimp only)) | (k_end; wrow_close) | walk1 | (dsimp only; walk1) | (leave1; walk_say "STEP leave1"; try dsimp only) | fail "no step"))
local macro_rules | `(tactic| walk_at "kst") => `(tactic| repeat' ((fail_if_success (with_reducible show TB _ _ → _)); walk_at "ks1"))
local macro_rules | `(tactic| walk_at "execs cons") => `(tactic| (k_here; (rename TB _ _ => hTBo); refine execs_tb (TB.mono hTBo (Nat.le_refl _) (by (try dsimp only); omega)) ?_; clear hTBo; intro tk hTB; (try dsimp only)))
local macro_rules | `(tactic| walk_at "sub") => `(tactic| first | exact List.forall_mem_nil _ | (refine List.forall_mem_cons.mpr ⟨by k_mem, ?_⟩; walk_at "sub") | (intro p hp; repeat' (first | exact hp | refine List.mem_cons_of_mem _ ?_)))
theorem fill6 : PySem.Challenge.rw_kn0103_01 = PySem.Challenge.rw_kn0103_01 ∧ hd1.heap_39 = hd1.heap_39 := by
  w_top off
  k_fill
  exact ⟨rfl, rfl⟩

theorem turn_e {w : World} {g base : Heap} {mg mb : Str → Option Value} {mean : ExcName → Option Value} {A₀ : Around} {e₁ : Env}
   (KX : (hd1.heap_39 w.params).In g) (T0 : Top hd1.view_39 (looseW hd1.view_39 []) mean mg mb g) (B : Below A₀ base [e₁] g)
   {L fa : Addr} {cd : Value} {s : Shared} {Q : Flow → Shared → Prop} (hTB : TB 0 s.toks) {m : Loc} {ka ca ga sa x : Addr} {nk n1 n2 n3 n : Nat} {ks : List (Str × Tok)} {T : Str} {tt tp ts t v : Tok} {I : Addr} {oI : Obj} {od : Addr × Obj}
   (hkl : ks.length = 4) (hdash : Str.ofString "-" ∈ ks.map (·.1)) {c : Nat} {q : Int}
   (hlen : T.length ≤ 77) {i p : Nat} (hi : i < T.length) (hp : p < T.length) (hk : two (T.cps.toList.getD p 0) c ∈ ks.map (·.1)) {ch go : List Int} (h1 : ch.length = T.length) (h2 : go.length = T.length)
   {cv gv : List Value} (hcv : IntsAre cv ch) (hgv : IntsAre gv go) {as : List Value} {R : Led} (has : as.length ≤ 1000)
   (F : Fr g L s.heap m) (hm : Has m [(Str.ofString "text", .str T tt), (Str.ofString "keys", .ref ka), (Str.ofString "changed", .ref ca), (Str.ofString "gone", .ref ga), (Str.ofString "stack", .ref sa), (Str.ofString "sign", .str ⟨#[c]⟩ ts), (Str.ofString "place", .int (i : Int) tp)])
   (N : News g L s.heap ((I, oI) :: (ca, PySem.W.listOf cv.toArray n1) :: (ga, PySem.W.listOf gv.toArray n2) :: (sa, PySem.W.listOf (as ++ [Value.ref x]).toArray n3) :: od :: (ka, PySem.W.listOf (strValues ks).toArray nk) :: (x, PySem.W.listOf #[.int (p : Int) t, .int q v] n) :: R))
   (hnd : (((I, oI) :: (ca, PySem.W.listOf cv.toArray n1) :: (ga, PySem.W.listOf gv.toArray n2) :: (sa, PySem.W.listOf (as ++ [Value.ref x]).toArray n3) :: od :: (ka, PySem.W.listOf (strValues ks).toArray nk) :: (x, PySem.W.listOf #[.int (p : Int) t, .int q v] n) :: R).map (·.1)).Nodup)
   (next : ∀ l l2 h' tk m' cv' gv' tl, l = nxt q (kidx (ks.map (·.1)) (two (T.cps.toList.getD p 0) c)) → l2 = (if c = 62 then nxt l (kidx (ks.map (·.1)) dash) else l) →
      IntsAre cv' ((ch.set p l).set i l) → IntsAre gv' ((go.set i l).set p l2) → Fr g L h' m' →
      Has m' [(Str.ofString "text", .str T tt), (Str.ofString "keys", .ref ka), (Str.ofString "changed", .ref ca), (Str.ofString "gone", .ref ga), (Str.ofString "stack", .ref sa), (Str.ofString "last", .int l2 tl)] →
      News g L h' ((I, oI) :: (ca, PySem.W.listOf cv'.toArray n1) :: (ga, PySem.W.listOf gv'.toArray n2) :: (sa, PySem.W.listOf as.toArray (n3 + 1)) :: od :: (ka, PySem.W.listOf (strValues ks).toArray nk) :: R) →
      TB 0 tk → Q .next { s with heap := h', toks := tk }) :
   wpAny (model P01 w) ((callerA.deeper e₁).deeper (turnsEnv L fa cd)) (execs pairBody (turnsEnv L fa cd)) Q (fun _ _ => False) s := by
  obtain ⟨heap, gens, drawn, toks, os⟩ := s
  dsimp only at hTB F N next ⊢
  rw [hm.eq] at F
  unfold turnsEnv
  walk_at "lit"
  walk_at "kst"
  refine r_pop F N (upd_mid [_, _, _] hnd) (by omega) ?_
  intro h2' F2 N2
  walk_at "kst"
  intro hTB2
  (rename News _ _ _ _ => N3)
  have N4 := news_sub (b := (I, _) :: (ca, _) :: (ga, _) :: (sa, _) :: od :: (ka, _) :: R) N3 (by walk_at "sub")
  clear N3
  walk_at "kst"
  rw [item_c hp, two_app]
  (rename News _ _ _ _ => N5)
  refine r_index (l := ks) (News.get N5 (by k_mem)) hk (by omega) ?_
  walk_at "kst"
  (rename Fr _ _ _ _ => F6)
  (rename News _ _ _ _ => N6)
  have hle : q + 1 + (((List.idxOf (two (T.cps.toList.getD p 0) c) (ks.map (·.1)) : Nat) : Int) - q - 1).fmod 4 = nxt q (kidx (ks.map (·.1)) (two (T.cps.toList.getD p 0) c)) := by
    rw [Int.fmod_eq_emod_of_nonneg _ (by decide)]; rfl
  rw [hle] at F6
  generalize hl : nxt q (kidx (ks.map (·.1)) (two (T.cps.toList.getD p 0) c)) = l at F6
  generalize (tk + 1 + 1 + 1 + 1 + 1 + 1 + 1) = tkl at F6
  intro hTB3
  walk_at "kst"
  (rename Fr _ _ _ _ => F7)
  (rename News _ _ _ _ => N7)
  have N8 := news_sub (b := (I, _) :: (ca, _) :: (ga, _) :: (sa, _) :: od :: (ka, _) :: R) N7 (by walk_at "sub")
  have hnd2 : (((I, oI) :: (ca, PySem.W.listOf cv.toArray n1) :: (ga, PySem.W.listOf gv.toArray n2) :: (sa, PySem.W.listOf as.toArray (n3 + 1)) :: od :: (ka, PySem.W.listOf (strValues ks).toArray nk) :: R).map (·.1)).Nodup := by
    have h := hnd
    have h2 : (((I, oI) :: (ca, PySem.W.listOf cv.toArray n1) :: (ga, PySem.W.listOf gv.toArray n2) :: (sa, PySem.W.listOf as.toArray (n3 + 1)) :: od :: (ka, PySem.W.listOf (strValues ks).toArray nk) :: R).map (·.1)).Sublist (((I, oI) :: (ca, PySem.W.listOf cv.toArray n1) :: (ga, PySem.W.listOf gv.toArray n2) :: (sa, PySem.W.listOf (as ++ [Value.ref x]).toArray n3) :: od :: (ka, PySem.W.listOf (strValues ks).toArray nk) :: (x, PySem.W.listOf #[.int (p : Int) t, .int q v] n) :: R).map (·.1)) :=
      .cons_cons _ (.cons_cons _ (.cons_cons _ (.cons_cons _ (.cons_cons _ (.cons_cons _ (.cons _ (List.Sublist.refl _)))))))
    exact h2.nodup h
  have hcl := ints_len hcv
  have hgl := ints_len hgv
  have hcv1 := ints_set hcv p l tkl
  have hcv2 := ints_set hcv1 i l tkl
  have hgv1 := ints_set hgv i l tkl
  refine r_setItem (vs := cv) p (by omega) (by omega) F7 N8 (upd_mid [_] hnd2) ?_
  intro h9 F9 N9
  walk_at "kst"
  refine r_setItem (vs := cv.set p _) i (by rw [List.length_set]; omega) (by rw [List.length_set]; omega) F9 N9 (upd_mid [_] hnd2) ?_
  intro h10 F10 N10
  walk_at "kst"
  refine r_setItem (vs := gv) i (by omega) (by omega) F10 N10 (upd_mid [_, _] hnd2) ?_
  intro h11 F11 N11
  walk_at "kst"
  intro hTB4
  by_cases hc62 : c = 62
  · have hgt : ((⟨#[c]⟩ : Str) == Str.ofString ">") = true := by rw [one_eq _ _ one_gt]; simpa using hc62
    walk_at "kst"
    refine r_index (l := ks) (News.get N11 (by k_mem)) hdash (by omega) ?_
    have N12 := news_sub (b := (I, _) :: (ca, _) :: (ga, _) :: (sa, _) :: od :: (ka, _) :: R) N11 (by walk_at "sub")
    clear N11
    walk_at "kst"
    (rename Fr _ _ _ _ => F13)
    have hle2 : l + 1 + (((List.idxOf (Str.ofString "-") (ks.map (·.1)) : Nat) : Int) - l - 1).fmod 4 = nxt l (kidx (ks.map (·.1)) dash) := by
      rw [Int.fmod_eq_emod_of_nonneg _ (by decide)]; rfl
    rw [hle2] at F13
    intro hTB5
    walk_at "kst"
    intro hTB5b
    walk_at "kst"
    (rename News _ _ _ _ => N14)
    have hnd3 : (((I, oI) :: (ca, PySem.W.listOf ((cv.set p (.int l tkl)).set i (.int l tkl)).toArray n1) :: (ga, PySem.W.listOf (gv.set i (.int l tkl)).toArray n2) :: (sa, PySem.W.listOf as.toArray (n3 + 1)) :: od :: (ka, PySem.W.listOf (strValues ks).toArray nk) :: R).map (·.1)).Nodup := hnd2
    have hgv2 := ints_set hgv1 p (nxt l (kidx (ks.map (·.1)) dash))
    refine r_setItem (vs := gv.set i (.int l tkl)) p (by rw [List.length_set]; omega) (by rw [List.length_set]; omega) F13 N14 (upd_mid [_, _] hnd3) ?_
    intro h15 F15 N15
    walk_at "kst"
    intro hTB6
    refine wpAny_execs_nil ?_
    refine next l _ _ _ _ _ _ _ hl.symm ?_ hcv2 (hgv2 _) F15 ⟨rfl, rfl, rfl, rfl, rfl, rfl, trivial⟩ N15 hTB6
    rw [if_pos hc62]
  · have hgt : ((⟨#[c]⟩ : Str) == Str.ofString ">") = false := by rw [one_eq _ _ one_gt]; simpa using hc62
    walk_at "kst"
    intro hTB5
    walk_at "kst"
    refine r_setItem (vs := gv.set i _) p (by rw [List.length_set]; omega) (by rw [List.length_set]; omega) F11 N11 (upd_mid [_, _] hnd2) ?_
    intro h12 F12 N12
    walk_at "kst"
    intro hTB6
    refine wpAny_execs_nil ?_
    refine next l l _ _ _ _ _ _ hl.symm ?_ hcv2 (ints_set hgv1 p l _) F12 ⟨rfl, rfl, rfl, rfl, rfl, rfl, trivial⟩ N12 hTB6
    rw [if_neg hc62]
end Mine

open PySem PySem.W PySem.Calls PyProof.Rows PyProof.V PySem.Spec
set_option Elab.async false
set_option maxRecDepth 100000
set_option maxHeartbeats 8000000
set_option linter.unusedVariables false
namespace Mine
local macro_rules | `(tactic| walk_at "lit") => `(tactic| dsimp only [turnsDef, turnsLoop, forBody, lawDef, fnBody, fnScope, PySem.Challenge.pw_kn0103_01, List.getD, List.getElem?_cons_succ, List.getElem?_cons_zero, Option.getD, List.drop])
local macro_rules | `(tactic| walk_at "ks1") => `(tactic| (first | (k_unfold; (try dsimp only)) | (k_end; wrow_close) | walk1 | (dsimp only; walk1) | (leave1; walk_say "STEP leave1"; try dsimp only) | fail "no step"))
local macro_rules | `(tactic| walk_at "ku") => `(tactic| repeat' ((fail_if_success (with_reducible show wpAny _ _ (execs (Stmt.If (PySem.Expr.Compare (PySem.Expr.Name (PySem.Str.ofString "stack") _) _ _ _) _ _ _ :: _) _) _ _ _)); (fail_if_success (with_reducible show wpAny _ _ (execs (Stmt.Assign [PySem.Expr.Tuple [PySem.Expr.Name (PySem.Str.ofString "first") _, _] _ _] _ _ :: _) _) _ _ _)); walk_at "ks1"))
local macro_rules | `(tactic| walk_at "execs cons") => `(tactic| (k_here; (rename TB _ _ => hTBo); refine execs_tb (TB.mono hTBo (Nat.le_refl _) (by (try dsimp only); omega)) ?_; clear hTBo; intro tk hTB; (try dsimp only)))
local macro_rules | `(tactic| walk_at "tl") => `(tactic| first | exact hp | (refine List.mem_cons_of_mem _ ?_; walk_at "tl"))
local macro_rules | `(tactic| walk_at "sub") => `(tactic| first | exact List.forall_mem_nil _ | (refine List.forall_mem_cons.mpr ⟨by k_mem, ?_⟩; walk_at "sub") | (intro p hp; repeat' (first | exact hp | refine List.mem_cons_of_mem _ ?_)))
theorem fill5 : PySem.Challenge.rw_kn0103_01 = PySem.Challenge.rw_kn0103_01 ∧ hd1.heap_39 = hd1.heap_39 := by
  w_top off
  k_fill
  exact ⟨rfl, rfl⟩

theorem turn_d' {w : World} {g base : Heap} {mg mb : Str → Option Value} {mean : ExcName → Option Value} {A₀ : Around} {e₁ : Env}
   (KX : (hd1.heap_39 w.params).In g) (T0 : Top hd1.view_39 (looseW hd1.view_39 []) mean mg mb g) (B : Below A₀ base [e₁] g)
   {L fa : Addr} {cd : Value} {s s₀ : Shared} {P : Flow → Shared → Prop} {a : Nat} (hTB : TB (a + 4) s.toks) {m : Loc} {ka ca ga sa : Addr} {nk n1 n2 n3 : Nat} {ks : List (Str × Tok)} {T : Str} {tt tp : Tok} {I : Addr} {oI : Obj} {od : Addr × Obj}
   (σ : Sg) {σ₂ : Sg} {last : Int} {tl : Tok} (hσ : { σ with st := bump last σ.st } = σ₂) (hs0 : ∃ h tk, s = { s₀ with heap := h, toks := tk })
   {cv gv : List Value} (hcv : IntsAre cv σ.ch) (hgv : IntsAre gv σ.go) {as : List Addr} {R : Led} (hS : Stk σ.st as R) (hlen : as.length ≤ 1000)
   (F : Fr g L s.heap m) (hm : Has m [(Str.ofString "text", .str T tt), (Str.ofString "keys", .ref ka), (Str.ofString "changed", .ref ca), (Str.ofString "gone", .ref ga), (Str.ofString "stack", .ref sa), (Str.ofString "last", .int last tl)])
   (N : News g L s.heap ((I, oI) :: (ca, PySem.W.listOf cv.toArray n1) :: (ga, PySem.W.listOf gv.toArray n2) :: (sa, PySem.W.listOf ((as.map Value.ref).reverse).toArray n3) :: od :: (ka, PySem.W.listOf (strValues ks).toArray nk) :: R))
   (hnd : (((I, oI) :: (ca, PySem.W.listOf cv.toArray n1) :: (ga, PySem.W.listOf gv.toArray n2) :: (sa, PySem.W.listOf ((as.map Value.ref).reverse).toArray n3) :: od :: (ka, PySem.W.listOf (strValues ks).toArray nk) :: R).map (·.1)).Nodup) :
   wpAny (model P01 w) ((callerA.deeper e₁).deeper (turnsEnv L fa cd)) (execs (turnsLoop.drop 2) (turnsEnv L fa cd))
     (TurnPost g L I oI (Jturn g T tt ks ka ca ga od nk σ₂) s₀ P) (fun _ _ => False) s := by
  subst hσ
  rw [hm.eq] at F
  exact turn_d (all := R) (tp := tp) KX T0 B hTB hs0 hcv hgv hS hlen F N hnd

theorem turn_c {w : World} {g base : Heap} {mg mb : Str → Option Value} {mean : ExcName → Option Value} {A₀ : Around} {e₁ : Env}
   (KX : (hd1.heap_39 w.params).In g) (T0 : Top hd1.view_39 (looseW hd1.view_39 []) mean mg mb g) (B : Below A₀ base [e₁] g)
   {L fa : Addr} {cd : Value} {s s₀ : Shared} {P : Flow → Shared → Prop} {a : Nat} (hTB : TB (a + 4) s.toks) {u : Loc} {ka ca ga sa : Addr} {nk n1 n2 n3 : Nat} {ks : List (Str × Tok)} {T : Str} {tt tp : Tok} {I : Addr} {oI : Obj} {od : Addr × Obj}
   (hks : ks.Perm (pool0 a)) (hs0 : ∃ h tk, s = { s₀ with heap := h, toks := tk })
   (hlen : T.length ≤ 77) {i : Nat} (hi : i < T.length) {σ : Sg} (h1 : σ.ch.length = T.length) (h2 : σ.go.length = T.length) (h3 : ∀ x ∈ σ.st, x.1 < i) (h4 : σ.st.length ≤ i)
   {cv gv : List Value} (hcv : IntsAre cv σ.ch) (hgv : IntsAre gv σ.go) {as : List Addr} {R : Led} (hS : Stk σ.st as R)
   (F : Fr g L s.heap (fun y => if y = Str.ofString "place" then some (.int (0 + (i : Int)) tp) else Set [(Str.ofString "text", .str T tt), (Str.ofString "keys", .ref ka), (Str.ofString "changed", .ref ca), (Str.ofString "gone", .ref ga), (Str.ofString "stack", .ref sa)] u y))
   (N : News g L s.heap ((I, oI) :: (ca, PySem.W.listOf cv.toArray n1) :: (ga, PySem.W.listOf gv.toArray n2) :: (sa, PySem.W.listOf ((as.map Value.ref).reverse).toArray n3) :: od :: (ka, PySem.W.listOf (strValues ks).toArray nk) :: R))
   (hnd : (((I, oI) :: (ca, PySem.W.listOf cv.toArray n1) :: (ga, PySem.W.listOf gv.toArray n2) :: (sa, PySem.W.listOf ((as.map Value.ref).reverse).toArray n3) :: od :: (ka, PySem.W.listOf (strValues ks).toArray nk) :: R).map (·.1)).Nodup) :
   wpAny (model P01 w) ((callerA.deeper e₁).deeper (turnsEnv L fa cd)) (execs turnsLoop (turnsEnv L fa cd))
     (TurnPost g L I oI (Jturn g T tt ks ka ca ga od nk (step T.cps.toList (ks.map (·.1)) i σ)) s₀ P) (fun _ _ => False) s := by
  obtain ⟨hx, tkx, rfl⟩ := hs0
  obtain ⟨heap, gens, drawn, toks, os⟩ := s₀
  dsimp only at hTB F N ⊢
  unfold turnsEnv
  walk_at "lit"
  rw [Int.zero_add] at F
  have hic := item_c hi
  generalize hc : T.cps.toList.getD i 0 = c at hic
  have hasl : as.length ≤ 77 := by
    have : ∀ {st as R}, Stk st as R → as.length = st.length := by
      intro st as R h
      induction h with
      | nil => rfl
      | cons _ ih => simp [ih]
    rw [this hS]; omega
  have hdash : Str.ofString "-" ∈ ks.map (·.1) := by
    have e : Str.ofString "-" ∈ (pool0 a).map (·.1) := by simp [pool0]
    exact (hks.map _).mem_iff.mpr e
  have hkl : ks.length = 4 := hks.length_eq
  walk_at "ku"
  · (rename Fr _ _ _ _ => F1)
    (rename News _ _ _ _ => N1)
    (rename ((_ == PySem.Str.ofString "-") = _) => hd)
    have hd' : c = 45 := by
      rw [hic, one_eq _ _ one_dash] at hd
      simpa using hd
    refine r_index (l := ks) (News.get N1 (by k_mem)) hdash (by omega) ?_
    walk_at "ku"
    (rename Fr _ _ _ _ => F2)
    (rename News _ _ _ _ => N2)
    have N3 := news_sub (b := (I, _) :: (ca, _) :: (ga, _) :: (sa, _) :: od :: (ka, _) :: R) N2 (by walk_at "sub")
    refine r_setItem (vs := cv) i (by rw [ints_len hcv]; omega) (by rw [ints_len hcv]; omega) F2 N3 (upd_mid [_] hnd) ?_
    intro h4 F4 N4
    walk_at "ku"
    refine r_setItem (vs := gv) i (by rw [ints_len hgv]; omega) (by rw [ints_len hgv]; omega) F4 N4 (upd_mid [_, _] hnd) ?_
    intro h5 F5 N5
    walk_at "ku"
    (rename TB _ _ => hTB3)
    refine turn_d' (tp := tp) KX T0 B hTB3 { ch := σ.ch.set i (kidx (ks.map (·.1)) dash), go := σ.go.set i (kidx (ks.map (·.1)) dash), st := σ.st } ?_ ⟨_, _, rfl⟩ (ints_set hcv _ _ _) (ints_set hgv _ _ _) hS (by omega) F5 ⟨rfl, rfl, rfl, rfl, rfl, rfl, trivial⟩ N5 hnd
    rw [step_dash (by rw [hc]; exact hd')]
    rfl
  · (rename Fr _ _ _ _ => F1)
    (rename News _ _ _ _ => N1)
    (rename ((_ == PySem.Str.ofString "-") = _) => hd)
    (rename ((Builtin.Str.occurrences _ _ _ _ _).isEmpty = _) => ho)
    have hop : isOpen c = false := by
      rw [hic, open_c] at ho
      simpa using ho
    have hd' : c ≠ 45 := by
      rw [hic, one_eq _ _ one_dash] at hd
      simpa using hd
    refine r_neNil (News.get N1 (by k_mem)) (News.get N1 (by k_mem)) (by k_units) ?_
    generalize hst : σ.st = st at hS
    cases hS with
    | nil =>
      simp only [List.map_nil, List.reverse_nil, List.isEmpty_nil, Bool.not_true]
      walk_at "ku"
      (rename Fr _ _ _ _ => F2)
      (rename News _ _ _ _ => N2)
      (rename TB _ _ => hTB3)
      rename_i x hx2 l2 hx3 hx4 hx5 hx6
      have N3 := news_sub (b := (I, _) :: (ca, _) :: (ga, _) :: (x, _) :: od :: (ka, _) :: []) N2 (by walk_at "sub")
      have hlt5 : ∀ p ∈ ([(I, oI), (ca, PySem.W.listOf cv.toArray n1), (ga, PySem.W.listOf gv.toArray n2), od, (ka, PySem.W.listOf (strValues ks).toArray nk)] : Led), p.1 < x :=
        List.forall_mem_cons.mpr ⟨l2.2.2.1, List.forall_mem_cons.mpr ⟨l2.2.2.2.1, List.forall_mem_cons.mpr ⟨l2.2.2.2.2.1, List.forall_mem_cons.mpr ⟨l2.2.2.2.2.2.2.1, List.forall_mem_cons.mpr ⟨l2.2.2.2.2.2.2.2, List.forall_mem_nil _⟩⟩⟩⟩⟩
      refine turn_d' (tp := tp) KX T0 B hTB3 { σ with st := [] } (last := -1) ?_ ⟨_, _, rfl⟩ hcv hgv (as := []) .nil (by simp) F2 ⟨rfl, rfl, rfl, rfl, rfl, rfl, trivial⟩ N3
        (nd_mid [(I, _), (ca, _), (ga, _)] (nd_new (o := PySem.W.listOf #[] 0) (nd_five hnd) hlt5))
      rw [step_stuck (by rw [hc]; exact hop) (by rw [hc]; exact hd') (by rw [hst]; intro p q r e; cases e)]
      rfl
    | @cons p q t v x n st as R hS =>
      have e : ((x :: as).map Value.ref).reverse = (as.map Value.ref).reverse ++ [.ref x] := by simp
      have e2 : (!((as.map Value.ref).reverse ++ [Value.ref x]).isEmpty) = true := by simp
      rw [e] at N1 ⊢
      rw [e2]
      have hz : ((as.map Value.ref).reverse).length ≤ 16777216 := by simp at hasl ⊢; omega
      have hz2 : ((as.map Value.ref).reverse).length ≤ 1000 := by simp at hasl ⊢; omega
      have hp : p < i := h3 (p, q) (by rw [hst]; exact .head _)
      have hpT : p < T.length := by omega
      have hip := item_c hpT
      walk_at "ku"
      dsimp only
      refine r_last (News.get N1 (by k_mem)) hz ?_
      walk_at "ku"
      dsimp only
      refine r_strItem hpT (by omega) ?_
      walk_at "ku"
      dsimp only
      refine r_inStrs (l := ks) (News.get N1 (by k_mem)) ?_
      rw [hic, two_app]
      by_cases hk : two (T.cps.toList.getD p 0) c ∈ ks.map (·.1)
      · rw [decide_eq_true hk]
        walk_at "ku"
        rw [hic] at F1
        have N3 := news_sub (b := (I, _) :: (ca, _) :: (ga, _) :: (sa, _) :: od :: (ka, _) :: (x, _) :: R) N1 (by walk_at "sub")
        refine turn_e KX T0 B (Nat.zero_le _) hkl hdash hlen hi hpT hk h1 h2 hcv hgv hz2 F1 ⟨rfl, rfl, rfl, rfl, rfl, rfl, rfl, trivial⟩ N3 hnd ?_
        intro l l2 h' tk' m' cv' gv' tl hl hl2 hcv' hgv' F' hm' N' hTB'
        walk_at "ku"
        (with_reducible rename TB (a + 4) _ => hTB4)
        have hnd2 : (((I, oI) :: (ca, PySem.W.listOf cv'.toArray n1) :: (ga, PySem.W.listOf gv'.toArray n2) :: (sa, PySem.W.listOf ((as.map Value.ref).reverse).toArray (n3 + 1)) :: od :: (ka, PySem.W.listOf (strValues ks).toArray nk) :: R).map (·.1)).Nodup := nd_pop (d' := (sa, _)) hnd rfl _ _
        refine turn_d' (tp := tp) KX T0 B hTB4 { ch := (σ.ch.set p l).set i l, go := (σ.go.set i l).set p l2, st := st } (last := l2) ?_ ⟨_, _, rfl⟩ hcv' hgv' hS (by simpa using hz2) F' hm' N' hnd2
        rw [step_pair (by rw [hc]; exact hop) (by rw [hc]; exact hd') hst (by rw [hc]; exact hk), hc, ← hl, ← hl2]
      · rw [decide_eq_false hk]
        walk_at "ku"
        (rename Fr _ _ _ _ => F2)
        (rename News _ _ _ _ => N2)
        (with_reducible rename TB _ _ => hTB3)
        rename_i y hy2 l2 hy3 hy4 hy5
        have N3 := news_sub (b := (I, _) :: (ca, _) :: (ga, _) :: (y, _) :: od :: (ka, _) :: []) N2 (by walk_at "sub")
        have hlt5 : ∀ p ∈ ([(I, oI), (ca, PySem.W.listOf cv.toArray n1), (ga, PySem.W.listOf gv.toArray n2), od, (ka, PySem.W.listOf (strValues ks).toArray nk)] : Led), p.1 < y :=
          List.forall_mem_cons.mpr ⟨l2.2.2.1, List.forall_mem_cons.mpr ⟨l2.2.2.2.1, List.forall_mem_cons.mpr ⟨l2.2.2.2.2.1, List.forall_mem_cons.mpr ⟨l2.2.2.2.2.2.2.1, List.forall_mem_cons.mpr ⟨l2.2.2.2.2.2.2.2.1, List.forall_mem_nil _⟩⟩⟩⟩⟩
        refine turn_d' (tp := tp) KX T0 B hTB3 { σ with st := [] } (last := -1) ?_ ⟨_, _, rfl⟩ hcv hgv (as := []) .nil (by simp) F2 ⟨rfl, rfl, rfl, rfl, rfl, rfl, trivial⟩ N3
          (nd_mid [(I, _), (ca, _), (ga, _)] (nd_new (o := PySem.W.listOf #[] 0) (nd_five hnd) hlt5))
        rw [step_stuck (by rw [hc]; exact hop) (by rw [hc]; exact hd') (by rw [hst]; intro p' q' r' e; cases e; rw [hc]; exact hk)]
        rfl
  · (rename Fr _ _ _ _ => F1)
    (rename News _ _ _ _ => N1)
    (rename ((Builtin.Str.occurrences _ _ _ _ _).isEmpty = _) => ho)
    rename_i D1 hp1 l2 hp2 hp3 tk2 tk3 hTB2 x hp4 l1
    have hop : isOpen c = true := by
      rw [hic, open_c] at ho
      simpa using ho
    have hnd2 := nd_new (x := x) (o := PySem.W.listOf #[.int (i : Int) tp, .int (-1) (tk3 + 1)] 0) hnd (allLt_all l1.2)
    have N2 := news_sub (b := (x, _) :: (I, _) :: (ca, _) :: (ga, _) :: (sa, _) :: od :: (ka, _) :: R) N1 (by walk_at "sub")
    refine r_append (vs := (as.map Value.ref).reverse) F1 N2 (upd_mid [_, _, _, _] hnd2) (by simp; omega) ?_
    intro h3 F3 N3
    walk_at "ku"
    (rename TB _ _ => hTB3)
    have e : (as.map Value.ref).reverse ++ [Value.ref x] = ((x :: as).map Value.ref).reverse := by simp
    rw [e] at N3
    have N4 := news_sub (b := (I, _) :: (ca, _) :: (ga, _) :: (sa, _) :: od :: (ka, _) :: (x, _) :: R) N3 (by walk_at "sub")
    refine turn_d' (tp := tp) KX T0 B hTB3 { σ with st := (i, -1) :: σ.st } (last := -1) ?_ ⟨_, _, rfl⟩ hcv hgv (.cons hS) (by simp; omega) F3 ⟨rfl, rfl, rfl, rfl, rfl, rfl, trivial⟩ N4 (nd_mid [(I, _), (ca, _), (ga, _), (sa, _), od, (ka, _)] hnd2)
    rw [step_open (by rw [hc]; exact hop)]
    rfl
end Mine

open PySem PySem.W PySem.Calls PyProof.Rows PyProof.V PySem.Spec
set_option Elab.async false
set_option maxRecDepth 100000
set_option maxHeartbeats 8000000
set_option linter.unusedVariables false
namespace Mine
local macro_rules | `(tactic| walk_at "lit") => `(tactic| dsimp only [lawDef, fnBody, fnScope, PySem.Challenge.pw_kn0103_01, List.getD, List.getElem?_cons_succ, List.getElem?_cons_zero, Option.getD, List.drop])
local macro_rules | `(tactic| walk_at "ks1") => `(tactic| (first | (k_unfold; (try dsimp only)) | (k_end; wrow_close) | walk1 | (dsimp only; walk1) | (leave1; walk_say "STEP leave1"; try dsimp only) | fail "no step"))
local macro_rules | `(tactic| walk_at "ks") => `(tactic| repeat' ((fail_if_success (with_reducible show wpAny _ _ (exec (Stmt.For _ _ _ _ _) _) _ _ _)); (fail_if_success (with_reducible show wpAny _ _ (pyIter _) (fun it s₂ => OwnAt _ _ _ _ _ _ _ _ it s₂) _ _)); (fail_if_success (with_reducible show wpAny _ _ (eval (PySem.Expr.Dict [] [] _) _) _ _ _)); (fail_if_success (with_reducible show TurnPost _ _ _ _ _ _ _ _ _)); walk_at "ks1"))
local macro_rules | `(tactic| walk_at "kst") => `(tactic| repeat' ((fail_if_success (with_reducible show TB _ _ → _)); walk_at "ks1"))
local macro_rules | `(tactic| walk_at "execs cons") => `(tactic| (k_here; (rename TB _ _ => hTBo); refine execs_tb (TB.mono hTBo (Nat.le_refl _) (by (try dsimp only); omega)) ?_; clear hTBo; intro tk hTB; (try dsimp only)))
theorem fill3 : PySem.Challenge.rw_kn0103_01 = PySem.Challenge.rw_kn0103_01 ∧ hd1.heap_39 = hd1.heap_39 := by
  w_top off
  k_fill
  exact ⟨rfl, rfl⟩

theorem own_turns {prog : Program} {w : World} {A : Around} {E : Value → Shared → Prop} {s : Shared} {env : Env} {g : Heap} {body : List Stmt} {Q : Flow → Shared → Prop}
    {x : Str} {px : Pos} {r : Addr} {t u v tt : Tok} {m : Loc} {ca ga sa ka : Addr} {t1 t2 : Tok} {nk : Nat} {T : Str} {ks : List (Str × Tok)} {od : Addr × Obj}
    (hh : A.handled = none) (hr : IsRange s.heap r 0 (T.length : Int) 1 t u v) (hlen : T.length ≤ 77) (F : Fr g env.locals s.heap m)
    (N : News g env.locals s.heap ((ca, PySem.W.listOf (List.replicate T.length (Value.int 1000 t1)).toArray 0) :: (ga, PySem.W.listOf (List.replicate T.length (Value.int 1000 t2)).toArray 0) :: (sa, PySem.W.listOf #[] 0) :: od :: (ka, PySem.W.listOf (strValues ks).toArray nk) :: []))
    (hx : env.kindOf x = some .local) (hp : (env.scope.kind == .class || (env.scope.kind == .module && env.locals != env.globals)) = false)
    (hm : Has m [(Str.ofString "text", .str T tt), (Str.ofString "keys", .ref ka), (Str.ofString "changed", .ref ca), (Str.ofString "gone", .ref ga), (Str.ofString "stack", .ref sa)])
    (hnd : (((ca, PySem.W.listOf (List.replicate T.length (Value.int 1000 t1)).toArray 0) :: (ga, PySem.W.listOf (List.replicate T.length (Value.int 1000 t2)).toArray 0) :: (sa, PySem.W.listOf #[] 0) :: od :: (ka, PySem.W.listOf (strValues ks).toArray nk) :: [] : Led).map (·.1)).Nodup)
    (turn : ∀ i t m₁ nx h₁ tk₁ I oI, i < T.length → s.toks ≤ tk₁ → Jturn g T tt ks ka ca ga od nk (steps T.cps.toList (ks.map (·.1)) i) m₁ nx → (∀ p ∈ nx, p.1 ≠ I) → Fr g env.locals h₁ (fun y => if y = x then some (.int (0 + (i : Int)) t) else m₁ y) → News g env.locals h₁ ((I, oI) :: nx) →
      wpAny (model prog w) A (execs body env) (TurnPost g env.locals I oI (Jturn g T tt ks ka ca ga od nk (steps T.cps.toList (ks.map (·.1)) (i + 1))) s Q) E { s with heap := h₁, toks := tk₁ })
    (done : ∀ h' tk m' nx, s.toks ≤ tk → Fr g env.locals h' m' → News g env.locals h' nx → Jturn g T tt ks ka ca ga od nk (steps T.cps.toList (ks.map (·.1)) T.length) m' nx → Q .next { s with heap := h', toks := tk })
    (hE : PassesOwn (model prog w) A env E) :
    wpAny (model prog w) A (pyIter (.ref r)) (fun it s₂ => OwnAt prog w A env (.Name x px) body Q E it s₂) E s :=
  own_range hh hr (small_one (by omega) (by omega) (by omega) (by omega)) F N hx hp
    (fun i => Jturn g T tt ks ka ca ga od nk (steps T.cps.toList (ks.map (·.1)) i)) ⟨_, _, [], [], 0, 0, 0, sa, ints_rep _ _ _, ints_rep _ _ _, .nil, hm, rfl, hnd⟩ (fun i t m₁ nx h₁ tk₁ I oI hi => turn i t m₁ nx h₁ tk₁ I oI (by omega)) done hE

theorem law_c {w : World} {h₀ : Heap} {mg mb : Str → Option Value} {mean : ExcName → Option Value} {l : Addr} {vs : List Value} {ns : List Int} (G : Given w h₀ mg mb mean l vs ns)
   {L fa : Addr} {cd : Value} {s : Shared} {Q : Flow → Shared → Prop} {a : Nat} (ha : 0 < a) (hs : TB (a + 4) s.toks) {m : Loc} {ka da : Addr} {nk nd : Nat} {ks : List (Str × Tok)} {es : List Ent} {T : Str} {tt : Tok}
   (F : Fr h₀ L s.heap m) (N : News h₀ L s.heap [(da, sdict w es nd), (ka, PySem.W.listOf (strValues ks).toArray nk)])
   (hm : Has m [(Str.ofString "text", .str T tt), (Str.ofString "table", .ref da), (Str.ofString "keys", .ref ka)])
   (hks : ks.Perm (pool0 a)) (hlt : ka < da) (hlen : T.length ≤ 77)
   (next : ∀ h tk m' ca ga n1 n2 cv gv, IntsAre cv (steps T.cps.toList (ks.map (·.1)) T.length).ch → IntsAre gv (steps T.cps.toList (ks.map (·.1)) T.length).go → Fr h₀ L h m' →
      Has m' [(Str.ofString "text", .str T tt), (Str.ofString "table", .ref da), (Str.ofString "changed", .ref ca), (Str.ofString "gone", .ref ga)] →
      News h₀ L h [(ca, PySem.W.listOf cv.toArray n1), (ga, PySem.W.listOf gv.toArray n2), (da, sdict w es nd)] → ca ≠ ga → ca ≠ da → ga ≠ da → TB (a + 4) tk →
      wpAny (model P01 w) (callerA.deeper (lawEnv L fa cd)) (execs ((fnBody lawDef).drop 6) (lawEnv L fa cd)) Q (fun _ _ => False) { s with heap := h, toks := tk }) :
   wpAny (model P01 w) (callerA.deeper (lawEnv L fa cd)) (execs ((fnBody lawDef).drop 5) (lawEnv L fa cd)) Q (fun _ _ => False) s := by
  obtain ⟨heap, gens, drawn, toks, os⟩ := s
  dsimp only at hs F N next ⊢
  obtain ⟨KX, T0, K0, hL, hI, lay, len⟩ := G
  rw [hm.eq] at F
  revert next
  unfold lawEnv
  walk_at "lit"
  intro next
  walk_at "ks"
  k_fold
  refine For_own ?_
  (with_reducible rename TB (a + 4) _ => hTB0)
  refine with_tb (TB.mono hTB0 (Nat.le_refl _) (by (try dsimp only); omega)) ?_
  walk_at "kst"
  intro hTB1
  walk_at "ks"
  (rename (IsRange _ _ _ _ _ _ _ _) => hR)
  (rename Fr _ _ _ _ => F1)
  (rename News _ _ _ _ => N1)
  (rename Top _ _ _ _ _ _ => T1)
  (rename Below _ _ _ _ => B1)
  (rename _ < _ ∧ _ < _ ∧ _ < _ ∧ _ < _ ∧ _ < _ ∧ _ < _ ∧ _ < _ => lt1)
  (rename _ < _ ∧ _ < _ ∧ _ < _ ∧ _ < _ ∧ _ < _ => lt2)
  (rename _ < _ ∧ _ < _ ∧ _ < _ => lt3)
  (with_reducible rename TB (a + 4) _ => hTB)
  have e0 : (T.length : Int).toNat = T.length := rfl
  rw [e0, List.flatten_replicate_singleton, List.flatten_replicate_singleton] at N1
  have Nx := news_sub (b := (_, PySem.W.listOf (List.replicate T.length (Value.int 1000 _)).toArray 0) :: (_, PySem.W.listOf (List.replicate T.length (Value.int 1000 (_ + 1 + 1 + 1))).toArray 0) :: (_, PySem.W.listOf #[] 0) :: (da, sdict w es nd) :: (ka, PySem.W.listOf (strValues ks).toArray nk) :: []) N1
    (List.forall_mem_cons.mpr ⟨.tail _ (.tail _ (.tail _ (.tail _ (.head _)))), List.forall_mem_cons.mpr ⟨.tail _ (.tail _ (.head _)), List.forall_mem_cons.mpr ⟨.head _, List.forall_mem_cons.mpr ⟨by k_mem, List.forall_mem_cons.mpr ⟨by k_mem, List.forall_mem_nil _⟩⟩⟩⟩⟩)
  refine own_turns (tt := tt) (ks := ks) rfl hR hlen F1 Nx rfl rfl ⟨rfl, rfl, rfl, rfl, rfl, trivial⟩ (nd_start lt1 lt2 lt3 hlt) ?_ ?_ ?_
  · rintro i t m₁ nx h₁ tk₁ I oI hi htk ⟨cv, gv, as, R, n1, n2, n3, sa, hcv, hgv, hS, hm1, rfl, hnd⟩ hoff F₁ N₁
    have ok := steps_ok T.cps.toList (ks.map (·.1)) i
    rw [hm1.eq] at F₁
    refine wpAny_mono (turn_c (by assumption) T1 B1 (TB.mono hTB (Nat.le_refl _) ?_) hks ?_ hlen hi ok.1 ok.2.1 ok.2.2.1 ok.2.2.2 hcv hgv hS F₁ N₁ (nd_cons hnd hoff)) (fun _ _ h => h) (fun _ _ h => h.elim)
    · dsimp only at htk ⊢; omega
    · exact ⟨_, _, rfl⟩
  · rintro h' tk' m' nx htk F' N' ⟨cv, gv, as, R, n1, n2, n3, sa, hcv, hgv, hS, hm1, rfl, hnd⟩
    rw [hm1.eq] at F'
    k_unfold
    dsimp only
    intro hTB3
    walk_at "kst"
    intro hTB4
    (rename Fr _ _ _ _ => F5)
    (rename News _ _ _ _ => N5)
    simp only [List.map_cons, List.nodup_cons, List.mem_cons, not_or] at hnd
    exact next _ _ _ _ _ _ _ _ _ hcv hgv F5 ⟨rfl, rfl, rfl, rfl, trivial⟩ (news_sub N5 (List.forall_mem_cons.mpr ⟨by k_mem, List.forall_mem_cons.mpr ⟨by k_mem, List.forall_mem_cons.mpr ⟨by k_mem, List.forall_mem_nil _⟩⟩⟩))
      hnd.1.1 hnd.1.2.2.1 hnd.2.1.2.1 hTB4
  · passes_own
end Mine

open PySem PySem.W PySem.Calls PyProof.Rows PyProof.V PySem.Spec
set_option Elab.async false
set_option linter.unusedVariables false
namespace Mine
/-- replace, sign by sign -/
def rep (y z : List Nat) : Nat → List Nat → List Nat
  | _, [] => []
  | k + 1, _ :: r => rep y z k r
  | 0, c :: r => if (c :: r).take y.length = y then z ++ rep y z (y.length - 1) r else c :: rep y z 0 r
section
variable {y z : List Nat}
theorem rep_nil (k : Nat) : rep y z k [] = [] := by cases k <;> rfl
theorem rep_skip : ∀ (k : Nat) (l : List Nat), rep y z k l = rep y z 0 (l.drop k)
  | 0, l => rfl
  | k + 1, [] => by simp [rep_nil]
  | k + 1, c :: r => by
    show rep y z k r = _
    rw [rep_skip k r]; rfl
theorem rep_hit (hy : y ≠ []) {l : List Nat} (h : l.take y.length = y) : rep y z 0 l = z ++ rep y z 0 (l.drop y.length) := by
  cases l with
  | nil => simp at h; exact absurd h.symm (by simpa using hy)
  | cons c r =>
    conv => lhs; unfold rep
    rw [if_pos h, rep_skip]
    obtain ⟨n, hn⟩ : ∃ n, y.length = n + 1 := ⟨y.length - 1, by have := List.length_pos_iff.mpr hy; omega⟩
    rw [hn]; rfl
theorem rep_miss {c : Nat} {r : List Nat} (h : (c :: r).take y.length ≠ y) : rep y z 0 (c :: r) = c :: rep y z 0 r := by
  conv => lhs; unfold rep
  rw [if_neg h]
theorem rep_free : ∀ (m : Nat) (l : List Nat), (∀ k, k < m → (l.drop k).take y.length ≠ y) → rep y z 0 l = l.take m ++ rep y z 0 (l.drop m)
  | 0, l, _ => by simp
  | m + 1, [], _ => by simp [rep_nil]
  | m + 1, c :: r, h => by
    rw [rep_miss (h 0 (Nat.zero_lt_succ _)), rep_free m r fun k hk => by simpa using h (k + 1) (by omega)]
    rfl
end
open Builtin Builtin.Str StrLaws in
theorem at_iff {x y : Str} (hy : 1 ≤ y.length) (i : Nat) : At x y x.length i ↔ (x.cps.toList.drop i).take y.length = y.cps.toList := by
  unfold At
  rw [subAt_eq, beq_iff_eq]
  refine ⟨fun h => h.2, fun h => ⟨?_, h⟩⟩
  have e := congrArg List.length h
  rw [List.length_take, List.length_drop] at e
  have e1 : x.cps.toList.length = x.length := by simp [Str.length]
  have e2 : y.cps.toList.length = y.length := by simp [Str.length]
  omega
open Builtin Builtin.Str StrLaws in
theorem join_rep {x y : Str} (z : Str) (hy : 1 ≤ y.length) : ∀ (cuts : List Nat) (a f : Nat), ChainG x y x.length a cuts f → (∀ k, f ≤ k → ¬ At x y x.length k) →
    (Str.join z (partsFrom x y.length a cuts)).cps.toList = rep y.cps.toList z.cps.toList 0 (x.cps.toList.drop a)
  | [], a, f, h, hn => by
    have e : f = a := h
    subst e
    show (strSub x f x.length).cps.toList = _
    have e1 : x.cps.toList.length = x.length := by simp [Str.length]
    have e2 : y.cps.toList.length = y.length := by simp [Str.length]
    rw [strSub_toList, rep_free (x.length - f), List.drop_drop, List.drop_eq_nil_of_le (as := x.cps.toList) (i := f + (x.length - f)) (by omega), rep_nil, List.append_nil]
    intro k hk
    rw [List.drop_drop, e2]
    intro he
    exact hn (f + k) (by omega) ((at_iff hy _).mpr he)
  | c :: r, a, f, h, hn => by
    have e1 : x.cps.toList.length = x.length := by simp [Str.length]
    have e2 : y.cps.toList.length = y.length := by simp [Str.length]
    have hne : y.cps.toList ≠ [] := by intro e; rw [e] at e2; simp at e2; omega
    obtain ⟨p, ps, hp⟩ := partsFrom_ne x y.length (c + y.length) r
    show (Str.join z (strSub x a c :: partsFrom x y.length (c + y.length) r)).cps.toList = _
    have ih := join_rep z hy r (c + y.length) f h.2.2.2 hn
    rw [hp] at ih ⊢
    show (strSub x a c ++ z ++ Str.join z (p :: ps)).cps.toList = _
    simp only [Str.cps_append, Array.toList_append]
    rw [ih, rep_free (c - a) (x.cps.toList.drop a), List.drop_drop, show a + (c - a) = c by have := h.1; omega, strSub_toList]
    · rw [rep_hit hne (l := x.cps.toList.drop c) (by rw [e2]; exact (at_iff hy c).mp h.2.1), e2, List.drop_drop, List.append_assoc]
    · intro k hk
      rw [List.drop_drop, e2]
      intro he
      exact h.2.2.1 (a + k) (by omega) (by omega) ((at_iff hy _).mpr he)
open Builtin Builtin.Str StrLaws in
theorem replace_rep {x y : Str} (z : Str) (hy : 1 ≤ y.length) : (Txt.replace x y z).cps.toList = rep y.cps.toList z.cps.toList 0 x.cps.toList := by
  obtain ⟨f, h1, h2⟩ := occ_tight x y hy
  have key := join_rep z hy _ 0 f h1 h2
  rw [List.drop_zero] at key
  rw [← key]
  unfold Txt.replace
  cases he : (occurrences x y 0 x.length (x.length + 1)).isEmpty
  · have h3 : (y.length == 0) = false := by simp; omega
    rw [h3]
    simp only [Bool.false_and, Bool.or_false, Bool.false_eq_true, if_false]
    rw [glued_eq_join, partsBetween_eq]
  · simp only [Bool.true_or, if_true]
    have : occurrences x y 0 x.length (x.length + 1) = [] := by simpa using he
    rw [this]
    show x.cps.toList = (strSub x 0 x.length).cps.toList
    rw [strSub_toList, List.drop_zero, List.take_of_length_le (by simp [Str.length])]
section
variable {y z : List Nat}
theorem rep_len (hy : y ≠ []) (hz : z.length ≤ y.length) : ∀ (n : Nat) (l : List Nat), l.length ≤ n → (rep y z 0 l).length ≤ l.length
  | _, [], _ => by simp [rep_nil]
  | 0, c :: r, h => by simp at h
  | n + 1, c :: r, h => by
    by_cases hh : (c :: r).take y.length = y
    · rw [rep_hit hy hh, List.length_append]
      have e : y.length ≤ (c :: r).length := by
        have := congrArg List.length hh
        rw [List.length_take] at this
        omega
      have hp := List.length_pos_iff.mpr hy
      have ih := rep_len hy hz n ((c :: r).drop y.length) (by rw [List.length_drop]; omega)
      rw [List.length_drop] at ih
      omega
    · rw [rep_miss hh, List.length_cons, List.length_cons]
      have ih := rep_len hy hz n r (by simpa using h)
      omega
end
theorem replace_len {x y z : Str} (hy : 1 ≤ y.length) (hz : z.length ≤ y.length) : (Txt.replace x y z).length ≤ x.length := by
  have e : ∀ s : Str, s.length = s.cps.toList.length := fun s => by simp [Str.length]
  rw [e, e x, replace_rep z hy]
  rw [e, e y] at hz
  rw [e] at hy
  exact rep_len (by intro h; rw [h] at hy; simp at hy) hz _ _ (Nat.le_refl _)
end Mine

open PySem PySem.W PySem.Calls PyProof.Rows PyProof.V PySem.Spec
set_option Elab.async false
set_option linter.unusedVariables false
namespace Mine
section
variable {o c : Nat} {z : List Nat}
theorem rep2_hit (r : List Nat) : rep [o, c] z 0 (o :: c :: r) = z ++ rep [o, c] z 0 r := rep_hit (by simp) (by simp)
theorem rep2_miss {a : Nat} {r : List Nat} (h : ¬ (a = o ∧ r.head? = some c)) : rep [o, c] z 0 (a :: r) = a :: rep [o, c] z 0 r := by
  refine rep_miss fun e => h ?_
  cases r with
  | nil => simp at e
  | cons b r => simp at e; exact ⟨e.1, by simp [e.2]⟩
theorem rep2_append : ∀ (n : Nat) (A B : List Nat), A.length ≤ n → ¬ (A.getLast? = some o ∧ B.head? = some c) → rep [o, c] z 0 (A ++ B) = rep [o, c] z 0 A ++ rep [o, c] z 0 B
  | _, [], B, _, _ => by simp [rep_nil]
  | 0, a :: r, B, h, _ => by simp at h
  | n + 1, [a], B, _, h => by
    rw [show [a] ++ B = a :: B from rfl, rep2_miss (r := B) (by simpa using h), rep2_miss (r := []) (by simp), rep_nil]
    rfl
  | n + 1, a :: b :: r, B, hl, h => by
    by_cases hh : a = o ∧ b = c
    · rw [hh.1, hh.2]
      show rep [o, c] z 0 (o :: c :: (r ++ B)) = _
      rw [rep2_hit, rep2_hit, List.append_assoc]
      congr 1
      refine rep2_append n r B (by simp at hl; omega) ?_
      cases r with
      | nil => simp
      | cons d r => simpa using h
    · show rep [o, c] z 0 (a :: ((b :: r) ++ B)) = _
      rw [rep2_miss (r := (b :: r) ++ B) (by simpa using hh), rep2_miss (r := b :: r) (by simpa using hh)]
      show _ = a :: (rep [o, c] z 0 (b :: r) ++ rep [o, c] z 0 B)
      congr 1
      exact rep2_append n (b :: r) B (by simp at hl ⊢; omega) (by simpa using h)
end
def isClose (c : Nat) : Bool := c == 41 || c == 93 || c == 62
abbrev Ann := Nat × Int × Int
def vis1 (t : Int) (c : Nat) (x y : Int) : List Nat := if t ≤ x then [c] else if t ≤ y then [45] else []
def vis (t : Int) (s : List Ann) : List Nat := s.flatMap fun p => vis1 t p.1 p.2.1 p.2.2
theorem vis_append (t : Int) (a b : List Ann) : vis t (a ++ b) = vis t a ++ vis t b := by simp [vis]
theorem vis_cons (t : Int) (a : Ann) (b : List Ann) : vis t (a :: b) = vis1 t a.1 a.2.1 a.2.2 ++ vis t b := by simp [vis]
theorem vis_nil (t : Int) : vis t [] = [] := rfl

/-- the keys: three pairs of brackets and the dash -/
structure Keys (ks : List Str) : Prop where
  perm : ks.Perm [two 40 41, two 91 93, two 60 62, dash]
namespace Keys
variable {ks : List Str} (K : Keys ks)
include K
theorem len : ks.length = 4 := K.perm.length_eq
theorem nodup : ks.Nodup := by
  refine K.perm.nodup_iff.mpr ?_
  decide +kernel
theorem mem_two {o c : Nat} : two o c ∈ ks ↔ (o = 40 ∧ c = 41) ∨ (o = 91 ∧ c = 93) ∨ (o = 60 ∧ c = 62) := by
  rw [K.perm.mem_iff]
  simp [two, dash]
theorem open_of {o c : Nat} (h : two o c ∈ ks) : isOpen o = true ∧ isClose c = true := by
  rcases K.mem_two.mp h with ⟨rfl, rfl⟩ | ⟨rfl, rfl⟩ | ⟨rfl, rfl⟩ <;> exact ⟨rfl, rfl⟩
theorem dash_mem : dash ∈ ks := K.perm.mem_iff.mpr (by simp)
theorem cases_of {k : Str} (h : k ∈ ks) : k = dash ∨ ∃ o c, k = two o c ∧ two o c ∈ ks := by
  have h' := K.perm.mem_iff.mp h
  simp only [List.mem_cons, List.not_mem_nil, or_false] at h'
  rcases h' with rfl | rfl | rfl | rfl
  · exact .inr ⟨_, _, rfl, h⟩
  · exact .inr ⟨_, _, rfl, h⟩
  · exact .inr ⟨_, _, rfl, h⟩
  · exact .inl rfl
theorem kidx_bound {k : Str} (h : k ∈ ks) : 0 ≤ kidx ks k ∧ kidx ks k < 4 := by
  unfold kidx
  have := List.idxOf_lt_length_of_mem h
  rw [K.len] at this
  omega
omit K in
theorem kidx_inj {k k' : Str} (h : k ∈ ks) (h' : k' ∈ ks) (e : kidx ks k = kidx ks k') : k = k' := by
  unfold kidx at e
  have e' : ks.idxOf k = ks.idxOf k' := by omega
  have h1 := List.getElem_idxOf (x := k) (xs := ks) (List.idxOf_lt_length_of_mem h)
  have h2 := List.getElem_idxOf (x := k') (xs := ks) (List.idxOf_lt_length_of_mem h')
  rw [← h1, ← h2]
  congr 1
end Keys
theorem nxt_gt (t e : Int) : t < nxt t e := by unfold nxt; omega
theorem nxt_mod (t : Int) {e : Int} (h0 : 0 ≤ e) (h4 : e < 4) : nxt t e % 4 = e := by unfold nxt; omega
theorem nxt_min {t u e : Int} (h1 : t < u) (h2 : u < nxt t e) (h0 : 0 ≤ e) (h4 : e < 4) : u % 4 ≠ e := by unfold nxt at h2; omega

section
variable (ks : List Str)
def T1 (l' : Int) (o c : Nat) : Int := nxt l' (kidx ks (two o c))
def T2 (l' : Int) (o c : Nat) : Int := if c = 62 then nxt (T1 ks l' o c) (kidx ks dash) else T1 ks l' o c
/-- what goes, whole -/
inductive Gone : List Ann → Int → Prop
  | nil : Gone [] (-1)
  | dash {s l} : Gone s l → Gone (s ++ [(45, kidx ks dash, kidx ks dash)]) (max l (kidx ks dash))
  | pair {s l g l' o c} : Gone s l → Gone g l' → two o c ∈ ks → Gone (s ++ ((o, T1 ks l' o c, T2 ks l' o c) :: g ++ [(c, T1 ks l' o c, T1 ks l' o c)])) (max l (T2 ks l' o c))
end
variable {ks : List Str}
theorem T2_ge (l' : Int) (o c : Nat) : T1 ks l' o c ≤ T2 ks l' o c := by
  unfold T2
  split
  · exact Int.le_of_lt (nxt_gt _ _)
  · exact Int.le_refl _
theorem vis1_one {t : Int} {c : Nat} {x : Int} : vis1 t c x x = if t ≤ x then [c] else [] := by
  unfold vis1
  split
  · rfl
  · rfl

theorem Gone.time (K : Keys ks) : ∀ {s l}, Gone ks s l → -1 ≤ l ∧ ∀ t, 0 ≤ t → (vis t s = [] ↔ l < t) := by
  intro s l h
  induction h with
  | nil => exact ⟨Int.le_refl _, fun t ht => by simp [vis_nil]; omega⟩
  | @dash s l h ih =>
    refine ⟨by omega, fun t ht => ?_⟩
    rw [vis_append, List.append_eq_nil_iff, ih.2 t ht, vis_cons, vis_nil, List.append_nil, vis1_one]
    dsimp only
    split <;> simp <;> omega
  | @pair s l g l' o c h hg hk ih ihg =>
    have h12 := T2_ge (ks := ks) l' o c
    have h1 : l' < T1 ks l' o c := nxt_gt _ _
    refine ⟨by omega, fun t ht => ?_⟩
    rw [vis_append, List.append_eq_nil_iff, ih.2 t ht, vis_append, vis_cons, vis_cons, vis_nil, List.append_nil, vis1_one]
    simp only [List.append_eq_nil_iff, ihg.2 t ht]
    unfold vis1
    by_cases a1 : t ≤ T1 ks l' o c
    · simp [a1]; omega
    · by_cases a2 : t ≤ T2 ks l' o c
      · simp [a1, a2]; omega
      · simp [a1, a2]; omega

def OkH (l : List Nat) : Prop := ∀ c, l.head? = some c → isClose c = false
def OkL (l : List Nat) : Prop := ∀ c, l.getLast? = some c → isOpen c = false
theorem OkH.append {a b : List Nat} (ha : OkH a) (hb : OkH b) : OkH (a ++ b) := by
  cases a with
  | nil => exact hb
  | cons x r => intro c h; exact ha c (by simpa using h)
theorem OkL.append {a b : List Nat} (ha : OkL a) (hb : OkL b) : OkL (a ++ b) := by
  intro c h
  rw [List.getLast?_append] at h
  cases hb' : b.getLast? with
  | none => rw [hb'] at h; exact ha c (by simpa using h)
  | some d => rw [hb'] at h; exact hb c (by rw [hb']; simpa using h)
theorem OkH.nil : OkH [] := fun c h => by simp at h
theorem OkL.nil : OkL [] := fun c h => by simp at h
theorem OkH.cons {a : Nat} {r : List Nat} (h : isClose a = false) : OkH (a :: r) := fun c e => by simp at e; rw [← e]; exact h
theorem OkL.snoc {a : Nat} {r : List Nat} (h : isOpen a = false) : OkL (r ++ [a]) := fun c e => by simp at e; rw [← e]; exact h
theorem close_not_open {c : Nat} (h : isClose c = true) : isOpen c = false := by
  simp only [isClose, isOpen, Bool.or_eq_true, beq_iff_eq] at h ⊢
  rcases h with (rfl | rfl) | rfl <;> rfl
theorem open_not_close {c : Nat} (h : isOpen c = true) : isClose c = false := by
  simp only [isClose, isOpen, Bool.or_eq_true, beq_iff_eq] at h ⊢
  rcases h with (rfl | rfl) | rfl <;> rfl

/-- what a pair shows -/
theorem vis_pair (K : Keys ks) {g : List Ann} {l' : Int} {o c : Nat} (hg : Gone ks g l') (t : Int) (ht : 0 ≤ t) :
    vis t ((o, T1 ks l' o c, T2 ks l' o c) :: g ++ [(c, T1 ks l' o c, T1 ks l' o c)]) = if t ≤ T1 ks l' o c then o :: (vis t g ++ [c]) else if t ≤ T2 ks l' o c then [45] else [] := by
  have h1 : l' < T1 ks l' o c := nxt_gt _ _
  rw [vis_append, vis_cons, vis_cons, vis_nil, List.append_nil, vis1_one]
  unfold vis1
  dsimp only
  by_cases a1 : t ≤ T1 ks l' o c
  · simp [a1]
  · have e : vis t g = [] := ((hg.time K).2 t ht).mpr (by omega)
    simp [a1, e]

theorem Gone.ends (K : Keys ks) {t : Int} (ht : 0 ≤ t) : ∀ {s l}, Gone ks s l → OkH (vis t s) ∧ OkL (vis t s) := by
  intro s l h
  induction h with
  | nil => exact ⟨.nil, .nil⟩
  | @dash s l h ih =>
    rw [vis_append, vis_cons, vis_nil, List.append_nil, vis1_one]
    split
    · exact ⟨ih.1.append (.cons rfl), ih.2.append (.snoc (r := []) rfl)⟩
    · exact ⟨ih.1.append .nil, ih.2.append .nil⟩
  | @pair s l g l' o c h hg hk ih ihg =>
    obtain ⟨ho, hc⟩ := K.open_of hk
    rw [vis_append, vis_pair K hg t ht]
    split
    · refine ⟨ih.1.append (.cons (open_not_close ho)), ih.2.append ?_⟩
      rw [← List.cons_append]
      exact .snoc (close_not_open hc)
    · split
      · exact ⟨ih.1.append (.cons rfl), ih.2.append (.snoc (r := []) rfl)⟩
      · exact ⟨ih.1.append .nil, ih.2.append .nil⟩
end Mine

open PySem PySem.W PySem.Calls PyProof.Rows PyProof.V PySem.Spec
set_option Elab.async false
set_option maxRecDepth 100000
set_option maxHeartbeats 8000000
set_option linter.unusedVariables false
namespace Mine
local macro_rules | `(tactic| walk_at "lit") => `(tactic| dsimp only [lawDef, fnBody, fnScope, PySem.Challenge.pw_kn0103_01, List.getD, List.getElem?_cons_succ, List.getElem?_cons_zero, Option.getD, List.drop])
local macro_rules | `(tactic| walk_at "ks1") => `(tactic| (first | (k_unfold; (try dsimp only)) | (k_end; wrow_close) | walk1 | (dsimp only; walk1) | (leave1; walk_say "STEP leave1"; try dsimp only) | fail "no step"))
local macro_rules | `(tactic| walk_at "ks") => `(tactic| repeat' ((fail_if_success (with_reducible show wpAny _ _ (exec (Stmt.For _ _ _ _ _) _) _ _ _)); (fail_if_success (with_reducible show wpAny _ _ (pyIter _) (fun it s₂ => OwnAt _ _ _ _ _ _ _ _ it s₂) _ _)); (fail_if_success (with_reducible show wpAny _ _ (eval (PySem.Expr.Dict [] [] _) _) _ _ _)); (fail_if_success (with_reducible show TurnPost _ _ _ _ _ _ _ _ _)); walk_at "ks1"))
local macro_rules | `(tactic| walk_at "kst") => `(tactic| repeat' ((fail_if_success (with_reducible show TB _ _ → _)); walk_at "ks1"))
local macro_rules | `(tactic| walk_at "execs cons") => `(tactic| (k_here; (rename TB _ _ => hTBo); refine execs_tb (TB.mono hTBo (Nat.le_refl _) (by (try dsimp only); omega)) ?_; clear hTBo; intro tk hTB; (try dsimp only)))
theorem fill8 : PySem.Challenge.rw_kn0103_01 = PySem.Challenge.rw_kn0103_01 ∧ hd1.heap_39 = hd1.heap_39 := by
  w_top off
  k_fill
  exact ⟨rfl, rfl⟩

def turnS (X k : Str) : Str := Txt.replace X k (valOf k)
def callS (ks : List Str) (X : Str) : Str := ks.foldl turnS X
def callsS (ks : List Str) (X : Str) : Nat → Str
  | 0 => X
  | i + 1 => callS ks (callsS ks X i)
def visN (T : List Nat) (ch go : List Int) (t : Int) (i : Nat) : List Nat := (List.range i).flatMap fun p => vis1 t (T.getD p 0) (ch.getD p 0) (go.getD p 0)
def isKey (k : Str) : Prop := 1 ≤ k.length ∧ (valOf k).length ≤ k.length ∧ (k == valOf k) = false
theorem pool_key {a : Tok} {k : Str} {t : Tok} (h : (k, t) ∈ pool0 a) : isKey k := by
  simp only [pool0, List.mem_cons, Prod.mk.injEq, List.not_mem_nil, or_false] at h
  rcases h with ⟨rfl, -⟩ | ⟨rfl, -⟩ | ⟨rfl, -⟩ | ⟨rfl, -⟩ <;> (unfold isKey; decide +kernel)
theorem pool_tok {a : Tok} {k : Str} {t : Tok} (ha : 0 < a) (h : (k, t) ∈ pool0 a) : 0 < t ∧ t < a + 4 := by
  simp only [pool0, List.mem_cons, Prod.mk.injEq, List.not_mem_nil, or_false] at h
  rcases h with ⟨-, h⟩ | ⟨-, h⟩ | ⟨-, h⟩ | ⟨-, h⟩ <;> (rw [h]; constructor <;> first | exact ha | (show (_ : Nat) < _; have := ltN ha; omega))
theorem val_len (k : Str) : (valOf k).length ≤ 14 := by
  unfold valOf
  split <;> decide +kernel
theorem ne_zero {t : Tok} (h : 0 < t) : t ≠ 0 := fun e => by subst e; exact absurd h (Nat.lt_irrefl 0)
theorem tok_lt {a : Nat} {t : Tok} (ha : 0 < a) (h : a + 4 ≤ t) : 0 < t := Nat.lt_of_lt_of_le (Nat.lt_of_lt_of_le ha (Nat.le_add_right _ _)) h
theorem tok_ne {a : Nat} {t u : Tok} (h1 : t < a + 4) (h2 : a + 4 ≤ u) : t ≠ u := fun e => by subst e; exact absurd (Nat.lt_of_lt_of_le h1 h2) (Nat.lt_irrefl _)
theorem turnS_len {X k : Str} (h : isKey k) : (turnS X k).length ≤ X.length := replace_len h.1 h.2.1
theorem callS_len {X : Str} : ∀ {ks : List Str}, (∀ k ∈ ks, isKey k) → (callS ks X).length ≤ X.length := by
  intro ks h
  induction ks generalizing X with
  | nil => exact Nat.le_refl _
  | cons k r ih => exact Nat.le_trans (ih fun q hq => h q (.tail _ hq)) (turnS_len (h k (.head _)))
theorem callsS_len {X : Str} {ks : List Str} (h : ∀ k ∈ ks, isKey k) : ∀ i, (callsS ks X i).length ≤ X.length
  | 0 => Nat.le_refl _
  | i + 1 => Nat.le_trans (callS_len h) (callsS_len h i)

def sgn (c : Nat) : Str := ⟨#[c]⟩
theorem visN_succ (T : List Nat) (ch go : List Int) (t : Int) (i : Nat) : visN T ch go t (i + 1) = visN T ch go t i ++ vis1 t (T.getD i 0) (ch.getD i 0) (go.getD i 0) := by
  unfold visN
  rw [List.range_succ, List.flatMap_append]
  simp
theorem vis1_len (t : Int) (c : Nat) (x y : Int) : (vis1 t c x y).length ≤ 1 := by
  unfold vis1
  split
  · exact Nat.le_refl _
  · split <;> simp
theorem visN_len (T : List Nat) (ch go : List Int) (t : Int) : ∀ i, (visN T ch go t i).length ≤ i
  | 0 => Nat.le_refl _
  | i + 1 => by
    rw [visN_succ, List.length_append]
    have := visN_len T ch go t i
    have := vis1_len t (T.getD i 0) (ch.getD i 0) (go.getD i 0)
    omega
theorem due_snoc {dl : List (Str × Tok)} {x : Str} {t : Tok} : strValues (dl ++ [(x, t)]) = strValues dl ++ [Value.str x t] := by
  rw [sv_append]; rfl
def callsLoop : List Stmt := forBody ((fnBody lawDef).getD 7 (.Pass default))
def dueLoop : List Stmt := forBody (callsLoop.getD 2 (.Pass default))
def Jdue (T : Str) (tt : Tok) (X : Str) (tX : Tok) (ch go : List Int) (call : Int) (tp : Tok) (D ca ga da : Addr) (rest : Led) (i : Nat) (m : Loc) (nx : Led) : Prop :=
  ∃ dl n, dl.map (·.1) = (visN T.cps.toList ch go (4 * call) i).map sgn ∧
    Has m [(Str.ofString "due", .ref D), (Str.ofString "told", .str X tX), (Str.ofString "call", .int call tp), (Str.ofString "text", .str T tt), (Str.ofString "table", .ref da), (Str.ofString "changed", .ref ca), (Str.ofString "gone", .ref ga)] ∧
    nx = (D, PySem.W.listOf (strValues dl).toArray n) :: rest
local macro_rules | `(tactic| walk_at "lit2") => `(tactic| dsimp only [dueLoop, callsLoop, forBody, lawDef, fnBody, fnScope, PySem.Challenge.pw_kn0103_01, List.getD, List.getElem?_cons_succ, List.getElem?_cons_zero, Option.getD, List.drop])
theorem due_t {w : World} {h₀ : Heap} {mg mb : Str → Option Value} {mean : ExcName → Option Value}
   (KX : (hd1.heap_39 w.params).In h₀) (T0 : Top hd1.view_39 (looseW hd1.view_39 []) mean mg mb h₀) (K0 : Below callerA h₀ [] h₀)
   {L fa : Addr} {cd : Value} {s s₀ : Shared} {P : Flow → Shared → Prop} {a : Nat} (hTB : TB (a + 4) s.toks) (hs0 : ∃ h tk, s = { s₀ with heap := h, toks := tk }) {u : Loc} {D ca ga da I : Addr} {n n1 n2 : Nat} {dl : List (Str × Tok)} {T X : Str} {tt tX tp t : Tok} {call : Int}
   {cv gv : List Value} {ch go : List Int} (hcv : IntsAre cv ch) (hgv : IntsAre gv go) (h1 : ch.length = T.length) (h2 : go.length = T.length) (hlen : T.length ≤ 77) {i : Nat} {oI : Obj} (hi : i < T.length)
   {rest : Led} (hca : (ca, PySem.W.listOf cv.toArray n1) ∈ rest) (hga : (ga, PySem.W.listOf gv.toArray n2) ∈ rest)
   (hdl : dl.map (·.1) = (visN T.cps.toList ch go (4 * call) i).map sgn)
   (F : Fr h₀ L s.heap (fun y => if y = Str.ofString "place" then some (.int (0 + (i : Int)) t) else Set [(Str.ofString "due", .ref D), (Str.ofString "told", .str X tX), (Str.ofString "call", .int call tp), (Str.ofString "text", .str T tt), (Str.ofString "table", .ref da), (Str.ofString "changed", .ref ca), (Str.ofString "gone", .ref ga)] u y))
   (N : News h₀ L s.heap ((I, oI) :: (D, PySem.W.listOf (strValues dl).toArray n) :: rest)) (hnd : (((I, oI) :: (D, PySem.W.listOf (strValues dl).toArray n) :: rest).map (·.1)).Nodup) :
   wpAny (model P01 w) (callerA.deeper (lawEnv L fa cd)) (execs dueLoop (lawEnv L fa cd)) (TurnPost h₀ L I oI (Jdue T tt X tX ch go call tp D ca ga da rest (i + 1)) s₀ P) (fun _ _ => False) s := by
  obtain ⟨hx, tkx, rfl⟩ := hs0
  obtain ⟨heap, gens, drawn, toks, os⟩ := s₀
  dsimp only at hTB F N ⊢
  obtain ⟨t1, e1⟩ := ints_at hcv (i := i) (by omega)
  obtain ⟨t2, e2⟩ := ints_at hgv (i := i) (by omega)
  rw [Int.zero_add] at F
  have hdn : dl.length ≤ i := by
    have e := congrArg List.length hdl
    rw [List.length_map, List.length_map] at e
    have := visN_len T.cps.toList ch go (4 * call) i
    omega
  unfold lawEnv
  walk_at "lit2"
  walk_at "ks"
  refine r_item i (News.get N (.tail _ (.tail _ hca))) e1 (by rw [ints_len hcv]; omega) ?_
  walk_at "ks"
  · (rename 4 * call ≤ _ => hc)
    refine r_append (vs := strValues dl) F N (upd_mid [_] hnd) (by rw [sv_length]; omega) ?_
    intro h3 F3 N3
    walk_at "ks"
    rw [← due_snoc (x := Txt.item T i)] at N3
    refine TurnPost.next _ F3 N3 (fun q hq => .tail _ hq) (.head _) (nd_off hnd) ⟨_, _, ?_, ⟨rfl, rfl, rfl, rfl, rfl, rfl, rfl, trivial⟩, rfl⟩
    rw [item_c hi, List.map_append, hdl, visN_succ, List.map_append]
    have e5 : vis1 (4 * call) (T.cps.toList.getD i 0) (ch.getD i 0) (go.getD i 0) = [T.cps.toList.getD i 0] := by
      unfold vis1
      rw [if_pos (by rw [← List.getElem_eq_getD (h := by omega)]; exact hc)]
    rw [e5]; rfl
  · (rename ¬ 4 * call ≤ _ => hc)
    refine r_item i (News.get N (.tail _ (.tail _ hga))) e2 (by rw [ints_len hgv]; omega) ?_
    have hc' : ¬ 4 * call ≤ ch.getD i 0 := by rw [← List.getElem_eq_getD (h := by omega)]; exact hc
    walk_at "ks"
    · (rename 4 * call ≤ _ => hd)
      refine r_append (vs := strValues dl) F N (upd_mid [_] hnd) (by rw [sv_length]; omega) ?_
      intro h3 F3 N3
      walk_at "ks"
      rw [← due_snoc (x := Str.ofString "-")] at N3
      refine TurnPost.next _ F3 N3 (fun q hq => .tail _ hq) (.head _) (nd_off hnd) ⟨_, _, ?_, ⟨rfl, rfl, rfl, rfl, rfl, rfl, rfl, trivial⟩, rfl⟩
      rw [List.map_append, hdl, visN_succ, List.map_append]
      have e5 : vis1 (4 * call) (T.cps.toList.getD i 0) (ch.getD i 0) (go.getD i 0) = [45] := by
        unfold vis1
        rw [if_neg hc', if_pos (by rw [← List.getElem_eq_getD (h := by omega)]; exact hd)]
      rw [e5, one_dash]; rfl
    · (rename ¬ 4 * call ≤ go[i] => hd)
      refine TurnPost.next _ F N (fun q hq => .tail _ hq) (.head _) (nd_off hnd) ⟨dl, n, ?_, ⟨rfl, rfl, rfl, rfl, rfl, rfl, rfl, trivial⟩, rfl⟩
      rw [hdl, visN_succ, List.map_append]
      have e5 : vis1 (4 * call) (T.cps.toList.getD i 0) (ch.getD i 0) (go.getD i 0) = [] := by
        unfold vis1
        rw [if_neg hc', if_neg (by rw [← List.getElem_eq_getD (h := by omega)]; exact hd)]
      rw [e5, List.map_nil, List.append_nil]
end Mine

open PySem PySem.W PySem.Calls PyProof.Rows PyProof.V PySem.Spec
set_option Elab.async false
set_option maxRecDepth 100000
set_option maxHeartbeats 8000000
set_option linter.unusedVariables false
namespace Mine
local macro_rules | `(tactic| walk_at "lit") => `(tactic| dsimp only [lawDef, fnBody, fnScope, PySem.Challenge.pw_kn0103_01, List.getD, List.getElem?_cons_succ, List.getElem?_cons_zero, Option.getD, List.drop])
local macro_rules | `(tactic| walk_at "ks1") => `(tactic| (first | (k_unfold; (try dsimp only)) | (k_end; wrow_close) | walk1 | (dsimp only; walk1) | (leave1; walk_say "STEP leave1"; try dsimp only) | fail "no step"))
local macro_rules | `(tactic| walk_at "ks") => `(tactic| repeat' ((fail_if_success (with_reducible show wpAny _ _ (exec (Stmt.For _ _ _ _ _) _) _ _ _)); (fail_if_success (with_reducible show wpAny _ _ (pyIter _) (fun it s₂ => OwnAt _ _ _ _ _ _ _ _ it s₂) _ _)); (fail_if_success (with_reducible show wpAny _ _ (eval (PySem.Expr.Dict [] [] _) _) _ _ _)); (fail_if_success (with_reducible show TurnPost _ _ _ _ _ _ _ _ _)); walk_at "ks1"))
local macro_rules | `(tactic| walk_at "kst") => `(tactic| repeat' ((fail_if_success (with_reducible show TB _ _ → _)); walk_at "ks1"))
local macro_rules | `(tactic| walk_at "execs cons") => `(tactic| (k_here; (rename TB _ _ => hTBo); refine execs_tb (TB.mono hTBo (Nat.le_refl _) (by (try dsimp only); omega)) ?_; clear hTBo; intro tk hTB; (try dsimp only)))
theorem fill7 : PySem.Challenge.rw_kn0103_01 = PySem.Challenge.rw_kn0103_01 ∧ hd1.heap_39 = hd1.heap_39 := by
  w_top off
  k_fill
  exact ⟨rfl, rfl⟩

def Jcalls (w : World) (T : Str) (tt : Tok) (es : List Ent) (kl : List Str) (cv gv : List Value) (ca ga da : Addr) (n1 n2 nd : Nat) (i : Nat) (m : Loc) (nx : Led) : Prop :=
  ∃ tX, Has m [(Str.ofString "told", .str (callsS kl T i) tX), (Str.ofString "text", .str T tt), (Str.ofString "table", .ref da), (Str.ofString "changed", .ref ca), (Str.ofString "gone", .ref ga)] ∧
    nx = [(ca, PySem.W.listOf cv.toArray n1), (ga, PySem.W.listOf gv.toArray n2), (da, sdict w es nd)]

theorem own_due {prog : Program} {w : World} {A : Around} {E : Value → Shared → Prop} {s : Shared} {env : Env} {g : Heap} {body : List Stmt} {Q : Flow → Shared → Prop}
    {x : Str} {px : Pos} {r : Addr} {t u v tt : Tok} {m : Loc} {D ca ga da : Addr} {T X : Str} {tX tp : Tok} {call : Int} {rest : Led} (ch go : List Int)
    (hh : A.handled = none) (hr : IsRange s.heap r 0 (T.length : Int) 1 t u v) (hlen : T.length ≤ 77) (F : Fr g env.locals s.heap m)
    (N : News g env.locals s.heap ((D, PySem.W.listOf #[] 0) :: rest))
    (hx : env.kindOf x = some .local) (hp : (env.scope.kind == .class || (env.scope.kind == .module && env.locals != env.globals)) = false)
    (hm : Has m [(Str.ofString "due", .ref D), (Str.ofString "told", .str X tX), (Str.ofString "call", .int call tp), (Str.ofString "text", .str T tt), (Str.ofString "table", .ref da), (Str.ofString "changed", .ref ca), (Str.ofString "gone", .ref ga)])
    (turn : ∀ i t m₁ nx h₁ tk₁ I oI, i < T.length → s.toks ≤ tk₁ → Jdue T tt X tX ch go call tp D ca ga da rest i m₁ nx → (∀ p ∈ nx, p.1 ≠ I) → Fr g env.locals h₁ (fun y => if y = x then some (.int (0 + (i : Int)) t) else m₁ y) → News g env.locals h₁ ((I, oI) :: nx) →
      wpAny (model prog w) A (execs body env) (TurnPost g env.locals I oI (Jdue T tt X tX ch go call tp D ca ga da rest (i + 1)) s Q) E { s with heap := h₁, toks := tk₁ })
    (done : ∀ h' tk m' nx, s.toks ≤ tk → Fr g env.locals h' m' → News g env.locals h' nx → Jdue T tt X tX ch go call tp D ca ga da rest T.length m' nx → Q .next { s with heap := h', toks := tk })
    (hE : PassesOwn (model prog w) A env E) :
    wpAny (model prog w) A (pyIter (.ref r)) (fun it s₂ => OwnAt prog w A env (.Name x px) body Q E it s₂) E s :=
  own_range hh hr (small_one (by omega) (by omega) (by omega) (by omega)) F N hx hp
    (fun i => Jdue T tt X tX ch go call tp D ca ga da rest i) ⟨[], 0, rfl, hm, rfl⟩ (fun i t m₁ nx h₁ tk₁ I oI hi => turn i t m₁ nx h₁ tk₁ I oI (by omega)) done hE

local macro_rules | `(tactic| walk_at "lit2") => `(tactic| dsimp only [callsLoop, forBody, lawDef, fnBody, fnScope, PySem.Challenge.pw_kn0103_01, List.getD, List.getElem?_cons_succ, List.getElem?_cons_zero, Option.getD, List.drop])
theorem sgn_sum : ∀ l : List Nat, ((l.map sgn).map (·.length)).sum = l.length
  | [] => rfl
  | c :: r => by
    rw [List.map_cons, List.map_cons, List.sum_cons, sgn_sum r, List.length_cons]
    show 1 + r.length = _
    omega
theorem due_join {dl : List (Str × Tok)} {l : List Nat} {X : Str} (h : dl.map (·.1) = l.map sgn) (hX : X.cps.toList = l) : Txt.join (Str.ofString "") (dl.map (·.1)) = X := by
  have e0 : Str.ofString "" = ⟨#[]⟩ := by decide +kernel
  rw [h, e0]
  show Builtin.Str.glued ⟨#[]⟩ (l.map fun k => (⟨#[k]⟩ : Str)) = X
  rw [StrLaws.glued_eq_join, join_ones, ← hX]
theorem nd_due {I D ca ga da : Addr} {o1 o2 o3 o4 o5 : Obj} (h : I < D ∧ ca < D ∧ ga < D ∧ da < D) (n12 : ca ≠ ga) (n13 : ca ≠ da) (n23 : ga ≠ da) (hoff : ∀ p ∈ ([(ca, o1), (ga, o2), (da, o3)] : Led), p.1 ≠ I) :
    (([(D, o4), (I, o5), (ca, o1), (ga, o2), (da, o3)] : Led).map (·.1)).Nodup := by
  obtain ⟨a1, a2, a3, a4⟩ := h
  simp only [List.forall_mem_cons] at hoff
  obtain ⟨b1, b2, b3, -⟩ := hoff
  replace a1 := ltN a1; replace a2 := ltN a2; replace a3 := ltN a3; replace a4 := ltN a4
  replace b1 := neN b1; replace b2 := neN b2; replace b3 := neN b3
  replace n12 := neN n12; replace n13 := neN n13; replace n23 := neN n23
  simp only [List.map_cons, List.map_nil, List.nodup_cons, List.mem_cons, List.not_mem_nil, or_false, not_or, List.nodup_nil, and_true, not_false_eq_true]
  refine ⟨⟨?_, ?_, ?_, ?_⟩, ⟨?_, ?_, ?_⟩, ⟨?_, ?_⟩, ?_⟩ <;> (refine neN ?_; omega)
theorem call_t {w : World} {h₀ : Heap} {mg mb : Str → Option Value} {mean : ExcName → Option Value}
   (KX : (hd1.heap_39 w.params).In h₀) (T0 : Top hd1.view_39 (looseW hd1.view_39 []) mean mg mb h₀) (K0 : Below callerA h₀ [] h₀)
   {L fa : Addr} {cd : Value} {s s₀ : Shared} {P : Flow → Shared → Prop} {a : Nat} (ha : 0 < a) (hTB : TB (a + 4) s.toks) (hs0 : ∃ h tk, s = { s₀ with heap := h, toks := tk }) {u : Loc} {ca ga da : Addr} {n1 n2 nd : Nat} {ks : List (Str × Tok)} {es : List Ent} {T : Str} {tt tX tp : Tok}
   {cv gv : List Value} {ch go : List Int} (hcv : IntsAre cv ch) (hgv : IntsAre gv go) (h1 : ch.length = T.length) (h2 : go.length = T.length) (n12 : ca ≠ ga) (n13 : ca ≠ da) (n23 : ga ≠ da)
   (hks : ks.Perm (pool0 a)) (hes : Tab (a + 4) es ks) (lo : (da == sysModules) = false) (hlen : T.length ≤ 77) {i0 : Nat} {I : Addr} {oI : Obj} (hi : i0 < 5)
   (plain : (callsS (ks.map (·.1)) T (i0 + 1)).cps.toList = visN T.cps.toList ch go (4 * (1 + (i0 : Int))) T.length)
   (F0 : Fr h₀ L s.heap (fun y => if y = Str.ofString "call" then some (.int (1 + (i0 : Int)) tp) else Set [(Str.ofString "told", .str (callsS (ks.map (·.1)) T i0) tX), (Str.ofString "text", .str T tt), (Str.ofString "table", .ref da), (Str.ofString "changed", .ref ca), (Str.ofString "gone", .ref ga)] u y))
   (N : News h₀ L s.heap ((I, oI) :: [(ca, PySem.W.listOf cv.toArray n1), (ga, PySem.W.listOf gv.toArray n2), (da, sdict w es nd)]))
   (hoff : ∀ p ∈ ([(ca, PySem.W.listOf cv.toArray n1), (ga, PySem.W.listOf gv.toArray n2), (da, sdict w es nd)] : Led), p.1 ≠ I) :
   wpAny (model P01 w) (callerA.deeper (lawEnv L fa cd)) (execs callsLoop (lawEnv L fa cd)) (TurnPost h₀ L I oI (Jcalls w T tt es (ks.map (·.1)) cv gv ca ga da n1 n2 nd (i0 + 1)) s₀ P) (fun _ _ => False) s := by
  obtain ⟨hx, tkx, rfl⟩ := hs0
  obtain ⟨heap, gens, drawn, toks, os⟩ := s₀
  dsimp only at hTB F0 N ⊢
  unfold lawEnv
  walk_at "lit2"
  walk_at "ks"
  k_fold
  refine For_own ?_
  walk_at "ks"
  have hkl : es.map (·.1) = ks.map (·.1) := by rw [← hes.1, List.map_map]; rfl
  have hkall : ∀ k ∈ ks.map (·.1), isKey k := by
    intro k hk
    obtain ⟨q, hq, rfl⟩ := List.mem_map.mp hk
    exact pool_key (a := a) (t := q.2) (hks.mem_iff.mp hq)
  have hen : (es.map (·.1)).Nodup := by
    have e : ((pool0 a).map (·.1)).Nodup := by
      show ([Str.ofString "()", Str.ofString "[]", Str.ofString "<>", Str.ofString "-"] : List Str).Nodup
      decide +kernel
    rw [hkl]
    exact (hks.map _).nodup_iff.mpr e
  (rename News _ _ _ _ => N1)
  refine kdl_method F.slot_dict_items F.type_dict_items N1 (d := da) (by k_mem) (sdict_is (prog := P01) (n := nd) hen) ?_
  walk_at "ks"
  dsimp only
  (rename Fr _ _ _ _ => F1)
  refine kdx_view F1 N1 (by k_mem) (sdict_is (prog := P01) (n := nd) hen) lo ?_
  intro vw h3 F3 N3 lt3
  have hvw : h3.IsItemsView vw da := ⟨_, (N3 _ (.head _)).1, rfl, rfl⟩
  have N4 := news_tail N3
  walk_at "ks"
  refine own_items (es := es) (ep := nd) rfl F3 N4 hvw hen
    (fun i m nx => ∃ tX, Has m [(Str.ofString "s", .str (callS ((es.take i).map (·.1)) (callsS (ks.map (·.1)) T i0)) tX), (Str.ofString "d", .ref da)] ∧ nx = [(I, oI), (ca, PySem.W.listOf cv.toArray n1), (ga, PySem.W.listOf gv.toArray n2), (da, sdict w es nd)]) ?_ ?_ ?_ ?_ ?_
  · rintro i m nx ⟨tX, hm1, rfl⟩
    k_mem
  · exact ⟨_, ⟨rfl, rfl, trivial⟩, rfl⟩
  · rintro i t p m₁ nx h₁ tk₁ I' oI' hp hT htk ⟨tX, hm1, rfl⟩ hoff' F₁ N₁
    obtain ⟨k, tk1, v⟩ := p
    have hmem : (k, tk1, v) ∈ es := List.mem_of_getElem? hp
    obtain ⟨tv, hv, htv⟩ := hes.2 _ hmem
    have hv' : v = .str (valOf k) tv := hv
    have hin : (k, tk1) ∈ pool0 a := hks.mem_iff.mp (by rw [← hes.1]; exact List.mem_map.mpr ⟨_, hmem, rfl⟩)
    have htk1 : 0 < tk1 ∧ tk1 < a + 4 := pool_tok ha hin
    have hkey : isKey k := pool_key hin
    subst hv'
    rw [hm1.eq] at F₁
    refine unpackN_ F₁ N₁ ⟨_, hT, rfl, _, rfl⟩ rfl rfl rfl ?_
    intro h5 F5 N5
    walk_at "ks"
    refine SC.replaceW (ne_zero htk1.1) (ne_zero (tok_lt ha htv)) (tok_ne htk1.2 htv) hkey.2.2 (x := callS _ _) ?_ (val_len k) ?_
    · have h6 := callsS_len (X := T) hkall i0
      have h7 := callS_len (X := callsS (ks.map (·.1)) T i0) (ks := (es.take i).map (·.1)) (fun q hq => hkall q (by rw [← hkl]; exact List.map_subset _ (List.take_subset _ _) hq))
      omega
    intro t6 k6
    walk_at "ks"
    (rename Fr _ _ _ _ => F6)
    (rename News _ _ _ _ => N6)
    refine TurnPost.next _ F6 N6 (fun q hq => .tail _ hq) (.head _) hoff' ⟨t6, ⟨?_, rfl, trivial⟩, rfl⟩
    rw [List.take_add_one, hp]
    show some (Value.str (turnS (callS ((es.take i).map (·.1)) (callsS (ks.map (·.1)) T i0)) k) _) = _
    rw [List.map_append]
    unfold callS
    rw [List.foldl_append]
    rfl
  · rintro h' tk' m' nx htk F' N' ⟨tX, hm1, rfl⟩
    k_unfold
    dsimp only
    rw [List.take_length, hkl] at hm1
    have hm2 : Has m' [(Str.ofString "s", .str (callsS (ks.map (·.1)) T (i0 + 1)) tX), (Str.ofString "d", .ref da)] := hm1
    rw [hm2.eq] at F'
    clear hm1
    walk_at "ks"
    k_fold
    refine For_own ?_
    (with_reducible rename TB (a + 4) _ => hTB0)
    refine with_tb (TB.mono hTB0 (Nat.le_refl _) (by (try dsimp only); omega)) ?_
    walk_at "kst"
    intro hTB1
    walk_at "ks"
    (rename (IsRange _ _ _ _ _ _ _ _) => hR)
    (rename Fr _ _ _ _ => F7)
    (rename News _ _ _ _ => N7)
    (rename _ < _ ∧ _ < _ ∧ _ < _ ∧ _ < _ => lt7)
    refine own_due ch go rfl hR hlen F7 N7 rfl rfl ⟨rfl, rfl, rfl, rfl, rfl, rfl, rfl, trivial⟩ ?_ ?_ ?_
    · rintro i t m₁ nx h₁ tk₁ I' oI' hi htk ⟨dl, n, hdl, hm1, rfl⟩ hoff' F₁ N₁
      rw [hm1.eq] at F₁
      refine wpAny_mono (due_t KX T0 K0 (TB.mono hTB1 (Nat.le_refl _) ?_) ?_ hcv hgv h1 h2 hlen hi (by k_mem) (by k_mem) hdl F₁ N₁ ?_) (fun _ _ h => h) (fun _ _ h => h.elim)
      · dsimp only at htk ⊢; omega
      · exact ⟨_, _, rfl⟩
      · exact nd_cons (nd_due lt7 n12 n13 n23 hoff) hoff'
    · rintro h' tk' m' nx htk F' N' ⟨dl, n, hdl, hm1, rfl⟩
      rw [hm1.eq] at F'
      k_unfold
      dsimp only
      intro hTB3
      walk_at "kst"
      have ej : Txt.join (Str.ofString "") (dl.map (·.1)) = callsS (ks.map (·.1)) T (i0 + 1) := due_join hdl plain
      have hvl := visN_len T.cps.toList ch go (4 * (1 + (i0 : Int))) T.length
      have hdl2 : dl.length ≤ T.length := by
        have e := congrArg List.length hdl
        rw [List.length_map, List.length_map] at e
        omega
      refine join_list (isL (News.get N' (.head _))) (by simpa using strs_are dl) ?_ ?_
      · rw [hdl, sgn_sum, List.length_map]
        have e0 : (Str.ofString "").length = 0 := by decide +kernel
        rw [e0]; omega
      intro t8 k8
      rw [ej]
      walk_at "ks"
      · (rename ((_ != _) = true) => hne)
        simp at hne
      · refine TurnPost.next _ F' N' (fun q hq => .tail _ (.tail _ hq)) (.tail _ (.head _)) hoff ⟨tX, ⟨rfl, rfl, rfl, rfl, rfl, trivial⟩, rfl⟩
    · passes_own
  · passes_own

theorem law_d {w : World} {h₀ : Heap} {mg mb : Str → Option Value} {mean : ExcName → Option Value} {l : Addr} {vs : List Value} {ns : List Int} (G : Given w h₀ mg mb mean l vs ns)
   {L fa : Addr} {cd : Value} {s : Shared} {Q : Flow → Shared → Prop} {a : Nat} (ha : 0 < a) (hs : TB (a + 4) s.toks) {m : Loc} {ca ga da : Addr} {n1 n2 nd : Nat} {ks : List (Str × Tok)} {es : List Ent} {T : Str} {tt : Tok}
   {cv gv : List Value} {ch go : List Int} (hcv : IntsAre cv ch) (hgv : IntsAre gv go) (h1 : ch.length = T.length) (h2 : go.length = T.length)
   (F : Fr h₀ L s.heap m) (hm : Has m [(Str.ofString "text", .str T tt), (Str.ofString "table", .ref da), (Str.ofString "changed", .ref ca), (Str.ofString "gone", .ref ga)])
   (N : News h₀ L s.heap [(ca, PySem.W.listOf cv.toArray n1), (ga, PySem.W.listOf gv.toArray n2), (da, sdict w es nd)]) (n12 : ca ≠ ga) (n13 : ca ≠ da) (n23 : ga ≠ da)
   (hks : ks.Perm (pool0 a)) (hes : Tab (a + 4) es ks) (lo : (da == sysModules) = false) (hlen : T.length ≤ 77)
   (plain : ∀ i, i < 5 → (callsS (ks.map (·.1)) T (i + 1)).cps.toList = visN T.cps.toList ch go (4 * (1 + (i : Int))) T.length)
   (done : ∀ h' tk m', Fr h₀ L h' m' → Q (.ret (.bool true)) { s with heap := h', toks := tk }) :
   wpAny (model P01 w) (callerA.deeper (lawEnv L fa cd)) (execs ((fnBody lawDef).drop 6) (lawEnv L fa cd)) Q (fun _ _ => False) s := by
  obtain ⟨heap, gens, drawn, toks, os⟩ := s
  dsimp only at hs F N done ⊢
  obtain ⟨KX, T0, K0, hL, hI, lay, len⟩ := G
  rw [hm.eq] at F
  unfold lawEnv
  walk_at "lit"
  walk_at "ks"
  k_fold
  refine For_own ?_
  (with_reducible rename TB (a + 4) _ => hTB0)
  refine with_tb (TB.mono hTB0 (Nat.le_refl _) (by (try dsimp only); omega)) ?_
  walk_at "kst"
  intro hTB1
  walk_at "ks"
  (rename (IsRange _ _ _ _ _ _ _ _) => hR)
  (rename Fr _ _ _ _ => F1)
  (rename News _ _ _ _ => N1)
  refine own_range rfl hR (small_one (by omega) (by omega) (by omega) (by omega)) F1 N1 rfl rfl
    (Jcalls w T tt es (ks.map (·.1)) cv gv ca ga da n1 n2 nd) ?_ ?_ ?_ PassesOwn.never
  · exact ⟨_, ⟨rfl, rfl, rfl, rfl, rfl, trivial⟩, rfl⟩
  · rintro i t m₁ nx h₁ tk₁ I oI hi htk ⟨tX, hm1, rfl⟩ hoff F₁ N₁
    rw [hm1.eq] at F₁
    refine call_t KX T0 K0 ha (TB.mono hTB1 (Nat.le_refl _) ?_) ?_ hcv hgv h1 h2 n12 n13 n23 hks hes lo hlen hi (plain i hi) F₁ N₁ hoff
    · dsimp only at htk ⊢; omega
    · exact ⟨_, _, rfl⟩
  · rintro h' tk' m' nx htk F' N' ⟨tX, hm1, rfl⟩
    k_unfold
    dsimp only
    intro hTB2
    rw [hm1.eq] at F'
    walk_at "kst"
    exact done _ _ _ F'
end Mine

open PySem PySem.W PySem.Calls PyProof.Rows PyProof.V PySem.Spec
set_option Elab.async false
set_option linter.unusedVariables false
namespace Mine
variable {ks : List Str}
def valC (k : Str) : List Nat := if k = two 60 62 then [45] else []
def turnL (k : Str) (l : List Nat) : List Nat := rep k.cps.toList (valC k) 0 l
theorem turnL_dash (l : List Nat) : turnL dash l = l.filter (· != 45) := by
  unfold turnL
  have e : valC dash = [] := by decide +kernel
  rw [e]
  show rep [45] [] 0 l = _
  induction l with
  | nil => rfl
  | cons c r ih =>
    by_cases h : c = 45
    · subst h
      rw [rep_hit (by simp) (by simp)]
      simpa using ih
    · rw [rep_miss (by simpa using h), ih, List.filter_cons_of_pos (by simpa using h)]
theorem turnL_two (o c : Nat) (l : List Nat) : turnL (two o c) l = rep [o, c] (valC (two o c)) 0 l := rfl
theorem turnL_nil (k : Str) : turnL k [] = [] := rep_nil 0

theorem two_ne {o c : Nat} : two o c ≠ dash := by intro h; injection h with h; simp at h
theorem two_inj {o c o' c' : Nat} (h : two o c = two o' c') : o = o' ∧ c = c' := by
  injection h with h; simpa using h
theorem turn_append {k : Str} (K : Keys ks) (hk : k ∈ ks) {A B : List Nat} (h : ∀ o c, k = two o c → ¬ (A.getLast? = some o ∧ B.head? = some c)) : turnL k (A ++ B) = turnL k A ++ turnL k B := by
  rcases K.cases_of hk with rfl | ⟨o, c, rfl, _⟩
  · rw [turnL_dash, turnL_dash, turnL_dash, List.filter_append]
  · rw [turnL_two, turnL_two, turnL_two, rep2_append _ _ _ (Nat.le_refl _) (h o c rfl)]
theorem turn_okH {k : Str} (K : Keys ks) (hk : k ∈ ks) {A B : List Nat} (h : OkH B) : turnL k (A ++ B) = turnL k A ++ turnL k B :=
  turn_append K hk fun o c e ⟨_, h2⟩ => by
    have := h c h2
    rw [(K.open_of (e ▸ hk)).2] at this
    cases this
theorem turn_okL {k : Str} (K : Keys ks) (hk : k ∈ ks) {A B : List Nat} (h : OkL A) : turnL k (A ++ B) = turnL k A ++ turnL k B :=
  turn_append K hk fun o c e ⟨h1, _⟩ => by
    have := h o h1
    rw [(K.open_of (e ▸ hk)).1] at this
    cases this
theorem turn_one {k : Str} (K : Keys ks) (hk : k ∈ ks) {q : Nat} (h : q ≠ 45) : turnL k [q] = [q] := by
  rcases K.cases_of hk with rfl | ⟨o, c, rfl, _⟩
  · rw [turnL_dash]; simp [h]
  · rw [turnL_two, rep2_miss (by simp), rep_nil]
theorem turn_dash {k : Str} (K : Keys ks) (hk : k ∈ ks) : turnL k [45] = if k = dash then [] else [45] := by
  rcases K.cases_of hk with rfl | ⟨o, c, rfl, _⟩
  · rw [turnL_dash]; rfl
  · rw [turnL_two, rep2_miss (by simp), rep_nil, if_neg two_ne]
theorem close_ne {c : Nat} (h : isClose c = true) : c ≠ 45 := by rintro rfl; cases h
theorem open_ne {c : Nat} (h : isOpen c = true) : c ≠ 45 := by rintro rfl; cases h
theorem vis1_ge {t : Int} {c : Nat} {x y : Int} (h : t ≤ x) : vis1 t c x y = [c] := by unfold vis1; rw [if_pos h]

/-- a turn at what goes -/
theorem gone_turn (K : Keys ks) {t : Int} (ht : 0 ≤ t) {k : Str} (hk : k ∈ ks) (hkt : kidx ks k = t % 4) : ∀ {s l}, Gone ks s l → turnL k (vis t s) = vis (t + 1) s := by
  have hne : ∀ {k'}, k' ∈ ks → (t % 4 = kidx ks k' → k = k') := fun h e => Keys.kidx_inj hk h (hkt.trans e)
  intro s l h
  induction h with
  | nil => exact turnL_nil k
  | @dash s l h ih =>
    have hb := K.kidx_bound K.dash_mem
    rw [vis_append, vis_append, vis_cons, vis_cons, vis_nil, vis_nil, List.append_nil, List.append_nil, vis1_one, vis1_one, turn_okL K hk (h.ends K ht).2, ih]
    congr 1
    dsimp only
    by_cases a1 : t ≤ kidx ks dash
    · rw [if_pos a1, turn_dash K hk]
      by_cases a2 : k = dash
      · subst a2
        rw [if_pos rfl, if_neg (by omega)]
      · rw [if_neg a2, if_pos]
        have : t ≠ kidx ks dash := fun e => a2 (hne K.dash_mem (by omega))
        omega
    · rw [if_neg a1, if_neg (by omega), turnL_nil]
  | @pair s l g l' o c h hg hk2 ih ihg =>
    obtain ⟨ho, hc⟩ := K.open_of hk2
    have hb := K.kidx_bound hk2
    have hbd := K.kidx_bound K.dash_mem
    have h1 : l' < T1 ks l' o c := nxt_gt _ _
    have h12 := T2_ge (ks := ks) l' o c
    have hm1 : T1 ks l' o c % 4 = kidx ks (two o c) := nxt_mod _ hb.1 hb.2
    rw [vis_append t s, vis_append (t + 1) s, vis_pair K hg t ht, vis_pair K hg (t + 1) (by omega), turn_okL K hk (h.ends K ht).2, ih]
    congr 1
    by_cases a1 : t ≤ T1 ks l' o c
    · rw [if_pos a1]
      by_cases a2 : t = T1 ks l' o c
      · have ek : k = two o c := hne hk2 (by rw [a2]; exact hm1)
        have ev : vis t g = [] := ((hg.time K).2 t ht).mpr (by omega)
        rw [if_neg (by omega), ev, ek, turnL_two]
        show rep [o, c] _ 0 (o :: c :: []) = _
        rw [rep2_hit, rep_nil, List.append_nil]
        unfold valC
        by_cases a3 : c = 62
        · have eo : o = 60 := by
            rcases K.mem_two.mp hk2 with ⟨_, e⟩ | ⟨_, e⟩ | ⟨e, _⟩
            · omega
            · omega
            · exact e
          subst a3
          subst eo
          rw [if_pos rfl, if_pos]
          unfold T2 at h12 ⊢
          rw [if_pos rfl]
          have := nxt_gt (T1 ks l' 60 62) (kidx ks dash)
          omega
        · rw [if_neg (fun e => a3 (two_inj e).2), if_neg]
          unfold T2
          rw [if_neg a3]
          omega
      · rw [if_pos (by omega)]
        have inner : turnL k (o :: (vis t g ++ [c])) = o :: (turnL k (vis t g) ++ [c]) := by
          have hsplit : turnL k ([o] ++ (vis t g ++ [c])) = turnL k [o] ++ turnL k (vis t g ++ [c]) := by
            refine turn_append K hk fun o' c' e ⟨e1, e2⟩ => ?_
            simp at e1
            subst e1
            cases hv : vis t g with
            | nil =>
              rw [hv] at e2
              simp at e2
              subst e2
              have hl : l' < t := ((hg.time K).2 t ht).mp hv
              have hlt : t < nxt l' (kidx ks (two o c)) := by have : t < T1 ks l' o c := by omega
                                                              exact this
              have := nxt_min hl hlt hb.1 hb.2
              rw [← hkt, e] at this
              exact this rfl
            | cons x r =>
              rw [hv] at e2
              simp at e2
              have := (hg.ends K ht).1 x (by rw [hv]; rfl)
              rw [e2, (K.open_of (e ▸ hk)).2] at this
              cases this
          rw [turn_okL K hk (hg.ends K ht).2, turn_one K hk (open_ne ho), turn_one K hk (close_ne hc)] at hsplit
          exact hsplit
        rw [inner, ihg]
    · rw [if_neg a1, if_neg (show ¬ t + 1 ≤ T1 ks l' o c by omega)]
      by_cases a2 : t ≤ T2 ks l' o c
      · rw [if_pos a2, turn_dash K hk]
        have a3 : c = 62 := by
          by_cases a3 : c = 62
          · exact a3
          · unfold T2 at a2; rw [if_neg a3] at a2; omega
        have e2 : T2 ks l' o c = nxt (T1 ks l' o c) (kidx ks dash) := by unfold T2; rw [if_pos a3]
        by_cases a4 : k = dash
        · subst a4
          rw [if_pos rfl, if_neg]
          intro a5
          have := nxt_min (t := T1 ks l' o c) (u := t) (e := kidx ks dash) (by omega) (by omega) hbd.1 hbd.2
          omega
        · rw [if_neg a4, if_pos]
          have : t ≠ T2 ks l' o c := fun e => a4 (hne K.dash_mem (by rw [e, e2]; exact nxt_mod _ hbd.1 hbd.2))
          omega
      · rw [if_neg a2, if_neg (by omega), turnL_nil]

/-- what stays, each with what goes ahead of it -/
inductive Ch (ks : List Str) : List Ann → Nat → Prop
  | nil : Ch ks [] 0
  | snoc {s p g l q} : Ch ks s p → Gone ks g l → two p q ∉ ks → q ≠ 45 → Ch ks (s ++ (g ++ [(q, 1000, 1000)])) q

theorem Ch.last {t : Int} (h5 : t ≤ 1000) : ∀ {s p}, Ch ks s p → vis t s = [] ∨ (vis t s).getLast? = some p := by
  intro s p h
  cases h with
  | nil => exact .inl rfl
  | snoc h hg hp hq =>
    refine .inr ?_
    rw [vis_append, vis_append, vis_cons, vis_nil, List.append_nil, vis1_ge h5]
    simp
theorem Ch.turn (K : Keys ks) {t : Int} (ht : 0 ≤ t) (h5 : t < 1000) {k : Str} (hk : k ∈ ks) (hkt : kidx ks k = t % 4) : ∀ {s p}, Ch ks s p → turnL k (vis t s) = vis (t + 1) s := by
  intro s p h
  induction h with
  | nil => exact turnL_nil k
  | @snoc s p g l q h hg hp hq ih =>
    have e1 : ∀ t' : Int, t' ≤ 1000 → vis t' (s ++ (g ++ [(q, 1000, 1000)])) = vis t' s ++ (vis t' g ++ [q]) := by
      intro t' h'
      rw [vis_append, vis_append, vis_cons, vis_nil, List.append_nil, vis1_ge h']
    rw [e1 t (by omega), e1 (t + 1) (by omega)]
    have hsplit : turnL k (vis t s ++ (vis t g ++ [q])) = turnL k (vis t s) ++ turnL k (vis t g ++ [q]) := by
      refine turn_append K hk fun o' c' e ⟨e1, e2⟩ => ?_
      cases hv : vis t g with
      | nil =>
        rw [hv] at e2
        simp at e2
        rcases h.last (t := t) (by omega) with h0 | h0
        · rw [h0] at e1; simp at e1
        · rw [h0] at e1
          simp at e1
          rw [e1, e2, ← e] at hp
          exact hp hk
      | cons x r =>
        rw [hv] at e2
        simp at e2
        have := (hg.ends K ht).1 x (by rw [hv]; rfl)
        rw [e2, (K.open_of (e ▸ hk)).2] at this
        cases this
    rw [hsplit, turn_okL K hk (hg.ends K ht).2, turn_one K hk hq, ih, gone_turn K ht hk hkt hg]
theorem all_turn (K : Keys ks) {t : Int} (ht : 0 ≤ t) (h5 : t < 1000) {k : Str} (hk : k ∈ ks) (hkt : kidx ks k = t % 4) {s g p l} (h : Ch ks s p) (hg : Gone ks g l) : turnL k (vis t (s ++ g)) = vis (t + 1) (s ++ g) := by
  rw [vis_append, vis_append, turn_okH K hk (hg.ends K ht).1, h.turn K ht h5 hk hkt, gone_turn K ht hk hkt hg]
end Mine

open PySem PySem.W PySem.Calls PyProof.Rows PyProof.V PySem.Spec
set_option Elab.async false
set_option linter.unusedVariables false
namespace Mine
variable {ks : List Str}
/-- the text so far, by the stack -/
inductive St (ks : List Str) : List Ann → List (Nat × Int) → Prop
  | base {s p g l} : Ch ks s p → isOpen p = false → Gone ks g l → St ks (s ++ g) []
  | push {s st o g q} : St ks s st → isOpen o = true → Gone ks g q → St ks (s ++ (o, 1000, 1000) :: g) ((s.length, q) :: st)
theorem St.cut (K : Keys ks) : ∀ {s st}, St ks s st → ∃ s' p g l, Ch ks s' p ∧ Gone ks g l ∧ s = s' ++ g ∧ (st = [] → isOpen p = false) ∧ ∀ pos q r, st = (pos, q) :: r → (s.map (·.1)).getD pos 0 = p := by
  intro s st h
  induction h with
  | @base s p g l h1 h2 h3 => exact ⟨s, p, g, l, h1, h3, rfl, fun _ => h2, fun _ _ _ e => by cases e⟩
  | @push s st o g q h1 h2 h3 ih =>
    obtain ⟨s', p, g', l, c1, c2, rfl, -, -⟩ := ih
    refine ⟨s' ++ (g' ++ [(o, 1000, 1000)]), o, g, q, .snoc c1 c2 (fun hk => ?_) (open_ne h2), h3, by simp, (fun e => by cases e), ?_⟩
    · have := close_not_open (K.open_of hk).2
      rw [h2] at this; cases this
    · intro pos q' r e
      cases e
      simp [List.getD]
theorem St.ext {e : List Ann} {m : Int} (he : ∀ g l, Gone ks g l → Gone ks (g ++ e) (max l m)) : ∀ {s st}, St ks s st → St ks (s ++ e) (bump m st) := by
  intro s st h
  cases h with
  | base h1 h2 h3 =>
    rw [List.append_assoc]
    exact .base h1 h2 (he _ _ h3)
  | push h1 h2 h3 =>
    rw [List.append_assoc, List.cons_append]
    exact .push h1 h2 (he _ _ h3)

structure Inv (ks : List Str) (T : List Nat) (i : Nat) (σ : Sg) (s : List Ann) : Prop where
  st : St ks s σ.st
  len : s.length = i
  txt : s.map (·.1) = T.take i
  ch : σ.ch = s.map (·.2.1) ++ List.replicate (T.length - i) 1000
  go : σ.go = s.map (·.2.2) ++ List.replicate (T.length - i) 1000

theorem set_app {a : List Int} {n : Nat} {x v : Int} {r : List Int} (h : a.length = n) : (a ++ x :: r).set n v = a ++ v :: r := by
  subst h
  rw [List.set_append_right _ _ (Nat.le_refl _)]
  simp
theorem set_mid {a b : List Int} {n : Nat} {x v : Int} {r : List Int} (h : a.length = n) : (a ++ x :: b ++ r).set n v = a ++ v :: b ++ r := by
  rw [List.append_assoc, List.cons_append, set_app h]; simp
theorem rep_out {n i : Nat} (h : i < n) : List.replicate (n - i) (1000 : Int) = 1000 :: List.replicate (n - (i + 1)) 1000 := by
  rw [show n - i = (n - (i + 1)) + 1 by omega]; rfl

theorem Inv.step (K : Keys ks) {T : List Nat} {i : Nat} {σ : Sg} {s : List Ann} (h : Inv ks T i σ s) (hi : i < T.length) : ∃ s', Inv ks T (i + 1) (step T ks i σ) s' := by
  obtain ⟨st, len, txt, ch, go⟩ := h
  have hget : ∀ j, j < i → T.getD j 0 = (s.map (·.1)).getD j 0 := by
    intro j hj
    rw [txt]
    simp [List.getD, List.getElem?_take, hj]
  have htake : T.take (i + 1) = T.take i ++ [T.getD i 0] := by
    rw [List.take_succ_eq_append_getElem hi]
    simp [List.getD, hi]
  rw [rep_out hi] at ch go
  have stuck : isOpen (T.getD i 0) = false → T.getD i 0 ≠ 45 → (∀ p q r, σ.st = (p, q) :: r → two (T.getD p 0) (T.getD i 0) ∉ ks) → ∃ s', Inv ks T (i + 1) { σ with st := [] } s' := by
    intro ho hd hs
    obtain ⟨s', p, g, l, c1, c2, rfl, c3, c4⟩ := st.cut K
    refine ⟨(s' ++ (g ++ [(T.getD i 0, 1000, 1000)])) ++ [], ?_, ?_, ?_, ?_, ?_⟩
    · refine .base (.snoc c1 c2 ?_ hd) ho .nil
      cases hst : σ.st with
      | nil =>
        intro hk
        have := (K.open_of hk).1
        rw [c3 hst] at this; cases this
      | cons x r =>
        obtain ⟨pos, q⟩ := x
        have h1 := hs pos q r hst
        have h2 := c4 pos q r hst
        have hpos : pos < i := by
          rw [hst] at st
          generalize hss : s' ++ g = ss at st len
          cases st with
          | push h1 h2 h3 => rw [← len]; simp
        rw [hget pos hpos, h2] at h1
        exact h1
    · simp at len ⊢; omega
    · rw [htake, ← txt]; simp
    · show σ.ch = _
      rw [ch]; simp
    · show σ.go = _
      rw [go]; simp
  by_cases ho : isOpen (T.getD i 0) = true
  · rw [step_open ho]
    refine ⟨s ++ [(T.getD i 0, 1000, 1000)], ?_, ?_, ?_, ?_, ?_⟩
    · have := St.push st ho .nil
      rw [len] at this
      exact this
    · simp [len]
    · rw [htake, ← txt]; simp
    · show σ.ch = _
      rw [ch]; simp
    · show σ.go = _
      rw [go]; simp
  have ho' : isOpen (T.getD i 0) = false := by simpa using ho
  by_cases hd : T.getD i 0 = 45
  · rw [step_dash hd]
    refine ⟨s ++ [(45, kidx ks dash, kidx ks dash)], ?_, ?_, ?_, ?_, ?_⟩
    · exact St.ext (fun g l hg => .dash hg) st
    · simp [len]
    · rw [htake, ← txt, hd]; simp
    · show σ.ch.set i _ = _
      rw [ch, set_app (by simp [len])]; simp
    · show σ.go.set i _ = _
      rw [go, set_app (by simp [len])]; simp
  cases hst : σ.st with
  | nil =>
    rw [step_stuck ho' hd (by rw [hst]; intro p q r e; cases e)]
    exact stuck ho' hd (by rw [hst]; intro p q r e; cases e)
  | cons x r =>
    obtain ⟨p, q⟩ := x
    by_cases hk : two (T.getD p 0) (T.getD i 0) ∈ ks
    · rw [step_pair ho' hd hst hk]
      rw [hst] at st
      cases st with
      | @push s0 st0 o g q0 h1 h2 h3 =>
        have hp : s0.length < i := by rw [← len]; simp
        have hgo : T.getD s0.length 0 = o := by rw [hget _ hp]; simp [List.getD]
        rw [hgo] at hk ⊢
        generalize hc : T.getD i 0 = c at *
        have e1 : nxt q (kidx ks (two o c)) = T1 ks q o c := rfl
        have e2 : (if c = 62 then nxt (T1 ks q o c) (kidx ks dash) else T1 ks q o c) = T2 ks q o c := rfl
        rw [e1, e2]
        refine ⟨s0 ++ ((o, T1 ks q o c, T2 ks q o c) :: g ++ [(c, T1 ks q o c, T1 ks q o c)]), ?_, ?_, ?_, ?_, ?_⟩
        · exact St.ext (fun g' l hg => .pair hg h3 hk) h1
        · rw [← len]; simp; omega
        · rw [htake, ← txt]; simp
        · show (σ.ch.set s0.length _).set i _ = _
          rw [ch]
          simp only [List.map_append, List.map_cons, List.append_assoc, List.cons_append]
          rw [set_app (by simp), ← List.cons_append, ← List.append_assoc, set_app (by simp [← len] <;> omega)]
          simp
        · show (σ.go.set i _).set s0.length _ = _
          rw [go, set_app (by simp [← len])]
          simp only [List.map_append, List.map_cons, List.append_assoc, List.cons_append]
          rw [set_app (by simp)]
          simp
    · rw [step_stuck ho' hd (by rw [hst]; intro p' q' r' e; cases e; exact hk)]
      exact stuck ho' hd (by rw [hst]; intro p' q' r' e; cases e; exact hk)
theorem inv_all (K : Keys ks) (T : List Nat) : ∀ i, i ≤ T.length → ∃ s, Inv ks T i (steps T ks i) s
  | 0, _ => ⟨[], .base (s := []) (g := []) .nil rfl .nil, rfl, by simp, by simp [steps], by simp [steps]⟩
  | i + 1, h => by
    obtain ⟨s, hs⟩ := inv_all K T i (by omega)
    exact hs.step K (by omega)
end Mine

open PySem PySem.W PySem.Calls PyProof.Rows PyProof.V PySem.Spec
set_option Elab.async false
set_option linter.unusedVariables false
namespace Mine
theorem two_br : Str.ofString "()" = two 40 41 ∧ Str.ofString "[]" = two 91 93 ∧ Str.ofString "<>" = two 60 62 ∧ Str.ofString "-" = dash := by
  refine ⟨?_, ?_, ?_, ?_⟩ <;> decide +kernel
theorem pool_keys {a : Tok} {l : List (Str × Tok)} (h : l.Perm (pool0 a)) : Keys (l.map (·.1)) := by
  obtain ⟨e1, e2, e3, e4⟩ := two_br
  refine ⟨?_⟩
  rw [← e1, ← e2, ← e3, ← e4]
  exact h.map _
theorem val_c (k : Str) : (valOf k).cps.toList = valC k := by
  unfold valOf valC
  rw [two_br.2.2.1]
  by_cases h : k = two 60 62
  · rw [if_pos (by simpa using h), if_pos h, two_br.2.2.2]; rfl
  · rw [if_neg (by simpa using h), if_neg h]; decide +kernel
theorem turnS_l {kl : List Str} (K : Keys kl) {k : Str} (hk : k ∈ kl) (X : Str) : (turnS X k).cps.toList = turnL k X.cps.toList := by
  unfold turnS turnL
  rw [replace_rep _ ?_, val_c]
  rcases K.cases_of hk with rfl | ⟨o, c, rfl, _⟩
  · decide
  · exact Nat.le_succ _
theorem visN_vis {t : Int} {T : List Nat} {ch go : List Int} {s : List Ann} (h1 : T = s.map (·.1)) (h2 : ch = s.map (·.2.1)) (h3 : go = s.map (·.2.2)) : ∀ i, i ≤ s.length → visN T ch go t i = vis t (s.take i)
  | 0, _ => by simp [visN, vis]
  | i + 1, h => by
    have hi : i < s.length := by omega
    rw [visN_succ, visN_vis h1 h2 h3 i (by omega), List.take_succ_eq_append_getElem hi, vis_append, vis_cons, vis_nil, List.append_nil, h1, h2, h3]
    congr 1
    simp [List.getD, hi]
theorem plain1 {kl : List Str} (K : Keys kl) (T : Str) (i : Nat) (hi : i < 5) :
    (callsS kl T (i + 1)).cps.toList = visN T.cps.toList (steps T.cps.toList kl T.length).ch (steps T.cps.toList kl T.length).go (4 * (1 + (i : Int))) T.length := by
  have eT : T.cps.toList.length = T.length := by simp [Str.length]
  obtain ⟨s, st, len, txt, ch, go⟩ := inv_all K T.cps.toList T.length (by omega)
  rw [eT, Nat.sub_self] at ch go
  simp only [List.replicate_zero, List.append_nil] at ch go
  rw [← eT, List.take_length] at txt
  rw [visN_vis txt.symm ch go T.length (by omega), ← len, List.take_length]
  rw [len] at *
  obtain ⟨s', p, g, l, c1, c2, rfl, -, -⟩ := st.cut K
  generalize hs : s' ++ g = s at *
  have hk := K.len
  have hnd := K.nodup
  have v0 : vis 0 s = T.cps.toList := by
    have key : ∀ (u : List Ann), (∀ x ∈ u, 0 ≤ x.2.1) → vis 0 u = u.map (·.1) := by
      intro u hu
      induction u with
      | nil => rfl
      | cons x r ih =>
        rw [vis_cons, ih fun y hy => hu y (.tail _ hy), vis1_ge (hu x (.head _))]; rfl
    rw [key s ?_, txt]
    have hGone : ∀ {g l}, Gone kl g l → ∀ x ∈ g, (0 : Int) ≤ x.2.1 := by
      intro g l h
      induction h with
      | nil => intro x hx; cases hx
      | @dash s l h ih =>
        intro x hx
        rcases List.mem_append.mp hx with hx | hx
        · exact ih x hx
        · rw [List.mem_singleton.mp hx]; exact (K.kidx_bound K.dash_mem).1
      | @pair s l g l' o c h hg hk ih ihg =>
        have h1 : l' < T1 kl l' o c := nxt_gt _ _
        have h2 := (hg.time K).1
        intro x hx
        rcases List.mem_append.mp hx with hx | hx
        · exact ih x hx
        · rcases List.mem_append.mp hx with hx | hx
          · rcases List.mem_cons.mp hx with rfl | hx
            · show (0 : Int) ≤ T1 kl l' o c; omega
            · exact ihg x hx
          · rw [List.mem_singleton.mp hx]; show (0 : Int) ≤ T1 kl l' o c; omega
    have hCh : ∀ {s p}, Ch kl s p → ∀ x ∈ s, (0 : Int) ≤ x.2.1 := by
      intro s p h
      induction h with
      | nil => intro x hx; cases hx
      | snoc h hg hp hq ih =>
        intro x hx
        rcases List.mem_append.mp hx with hx | hx
        · exact ih x hx
        · rcases List.mem_append.mp hx with hx | hx
          · exact hGone hg x hx
          · rw [List.mem_singleton.mp hx]; show (0 : Int) ≤ 1000; omega
    intro x hx
    rw [← hs] at hx
    rcases List.mem_append.mp hx with hx | hx
    · exact hCh c1 x hx
    · exact hGone c2 x hx
  have one : ∀ (j : Nat), j < 5 → ∀ X : Str, X.cps.toList = vis (4 * (j : Int)) s → (callS kl X).cps.toList = vis (4 * ((j : Int) + 1)) s := by
    intro j hj X hX
    match kl, hk, K, hnd, c1, c2 with
    | [k0, k1, k2, k3], _, K, hnd, c1, c2 =>
      simp only [List.nodup_cons, List.mem_cons, List.not_mem_nil, or_false, not_or, List.nodup_nil, and_true, not_false_eq_true] at hnd
      obtain ⟨⟨n01, n02, n03⟩, ⟨n12, n13⟩, n23⟩ := hnd
      have i0 : kidx [k0, k1, k2, k3] k0 = 0 := by simp [kidx]
      have b : ∀ {x y : Str}, ¬ x = y → (x == y) = false := fun h => beq_eq_false_iff_ne.mpr h
      have i1 : kidx [k0, k1, k2, k3] k1 = 1 := by simp [kidx, List.idxOf_cons, b n01]
      have i2 : kidx [k0, k1, k2, k3] k2 = 2 := by simp [kidx, List.idxOf_cons, b n02, b n12]
      have i3 : kidx [k0, k1, k2, k3] k3 = 3 := by simp [kidx, List.idxOf_cons, b n03, b n13, b n23]
      show (turnS (turnS (turnS (turnS X k0) k1) k2) k3).cps.toList = _
      have m0 : k0 ∈ [k0, k1, k2, k3] := by simp
      have m1 : k1 ∈ [k0, k1, k2, k3] := by simp
      have m2 : k2 ∈ [k0, k1, k2, k3] := by simp
      have m3 : k3 ∈ [k0, k1, k2, k3] := by simp
      rw [turnS_l K m3, turnS_l K m2, turnS_l K m1, turnS_l K m0, hX, ← hs,
        all_turn K (by omega) (by omega) m0 (by rw [i0]; omega) c1 c2,
        all_turn K (by omega) (by omega) m1 (by rw [i1]; omega) c1 c2,
        all_turn K (by omega) (by omega) m2 (by rw [i2]; omega) c1 c2,
        all_turn K (by omega) (by omega) m3 (by rw [i3]; omega) c1 c2]
      congr 1
  have all : ∀ j, j ≤ 5 → (callsS kl T j).cps.toList = vis (4 * (j : Int)) s := by
    intro j
    induction j with
    | zero => intro _; exact v0.symm
    | succ j ih =>
      intro hj
      have := one j (by omega) _ (ih (by omega))
      rw [show callsS kl T (j + 1) = callS kl (callsS kl T j) from rfl, this]
      congr 1
  rw [all (i + 1) (by omega)]
  congr 1
  omega
end Mine

open PySem PySem.W PySem.Calls PyProof.Rows PyProof.V PySem.Spec
set_option Elab.async false
set_option maxRecDepth 100000
set_option maxHeartbeats 8000000
set_option linter.unusedVariables false
namespace Mine
theorem law_all {w : World} {h₀ : Heap} {mg mb : Str → Option Value} {mean : ExcName → Option Value} {l : Addr} {vs : List Value} {ns : List Int} (G : Given w h₀ mg mb mean l vs ns)
   {L fa : Addr} {cd : Value} {s : Shared} {Q : Flow → Shared → Prop} (ha : 0 < s.toks)
   (F : Fr h₀ L s.heap (fun x => [(Str.ofString "script", Value.ref l)].reverse.lookup x)) (N : News h₀ L s.heap [])
   (done : ∀ h' tk m', Fr h₀ L h' m' → Q (.ret (.bool true)) { s with heap := h', toks := tk }) :
   wpAny (model P01 w) (callerA.deeper (lawEnv L fa cd)) (execs (fnBody lawDef) (lawEnv L fa cd)) Q (fun _ _ => False) s := by
  refine law_a G ha rfl F N ?_
  intro h tk ka nk ks m F1 N1 hm1 hks hT1
  have hperm : ks.Perm (pool0 s.toks) := by rw [hks]; exact picks_perm 4 _ _ rfl
  refine law_b G ha hT1 F1 N1 hm1 hperm ?_
  intro h tk T tt es nd da m' F2 N2 hes lo hlt hlen hm2 hT2
  refine law_c G ha hT2 F2 N2 hm2 hperm hlt hlen ?_
  intro h tk m' ca ga n1 n2 cv gv hcv hgv F3 hm3 N3 n12 n13 n23 hT3
  have ok := steps_ok T.cps.toList (ks.map (·.1)) T.length
  have eT : T.cps.toList.length = T.length := by simp [Str.length]
  exact law_d G ha hT3 hcv hgv (ok.1.trans eT) (ok.2.1.trans eT) F3 hm3 N3 n12 n13 n23 hperm hes lo hlen (fun i hi => plain1 (pool_keys hperm) T i hi) done
end Mine
theorem PySem.Challenge.cw_kn0103_01_holds : PySem.Challenge.rw_kn0103_01.Holds := by
  exact Mine.hd1 (by
  k_go0
  (rename ((Mine.hd1.heap_39 _).In _) => KX)
  (rename Top _ _ _ _ _ _ => T)
  (rename Below _ _ _ _ => K0)
  (rename Heap.IsList _ _ _ => hL)
  (rename IntsAre _ _ => hI)
  (rename (PyData.layable0 _ = true) => lay)
  (rename (¬ (63 : Int) < _) => hlen)
  (rename Fr _ _ _ _ => F)
  (rename News _ _ _ _ => N)
  refine wpAny_noRaise ?_
  refine Mine.law_all ⟨KX, T, K0, hL, hI, lay, by omega⟩ (Nat.succ_pos _) F N ?_
  intro h' tk' m' F'
  first
  | (k_end; wrow_close)
  | (dsimp only; k_end; wrow_close)
  | (dsimp only; wrow_close))
