import PyProof.Rows.All
import Wide.All
import OpenK.AllK
import Wide.FinOn
import PySem.Challenge.RW_oy0041_01
open PySem PySem.W PyProof.Rows
set_option Elab.async false
set_option linter.unusedVariables false
set_option linter.unusedSimpArgs false
set_option maxRecDepth 100000 in
set_option maxHeartbeats 8000000 in
open_top hd for PySem.Challenge.rw_oy0041_01
set_option maxRecDepth 100000
namespace Mine

section
variable {prog : Program} {w : World} {A : Around} {E : Value → Shared → Prop} {R : Result → Shared → Prop} {s : Shared}

abbrev e2 (elt : PySem.Expr) (t1 i1 t2 i2 : PySem.Expr) (ifs2 : List PySem.Expr) (scope : Scope) (pos : Pos) : PySem.Expr :=
  .ListComp elt [⟨t1, i1, [], 0⟩, ⟨t2, i2, ifs2, 0⟩] scope pos

theorem turn_outer (elt t1 i1 t2 i2 : PySem.Expr) (ifs2 : List PySem.Expr) (scope : Scope) (pos : Pos) (it acc : Value) (env : Env) :
    compTurn (e2 elt t1 i1 t2 i2 ifs2 scope pos) 0 it acc env = (do
      standAt i1.pos
      match ← pyNext it with
      | none => pure (.done .next)
      | some v =>
        letOwnedTupleGo t1 it v
        assign t1 env v
        let x ← eval i2 env
        standAt i2.pos
        let x ← foldedSetIterable i2 env x
        let _ ← runOwn (.compStart (e2 elt t1 i1 t2 i2 ifs2 scope pos) 1 (← holding [x] (pyIter x)) acc env) env
        again (.compLoop (e2 elt t1 i1 t2 i2 ifs2 scope pos) 0 it acc env)) := by rfl

theorem turn_inner (elt t1 i1 t2 i2 : PySem.Expr) (ifs2 : List PySem.Expr) (scope : Scope) (pos : Pos) (it acc : Value) (env : Env) :
    compTurn (e2 elt t1 i1 t2 i2 ifs2 scope pos) 1 it acc env = (do
      standAt i2.pos
      match ← pyNext it with
      | none => pure (.done .next)
      | some v =>
        letOwnedTupleGo t2 it v
        assign t2 env v
        let mut ok := true
        for c in ifs2 do
          if ok then ok ← isTrue c env (eval c env)
        if ok then
          (do let _ ← call (.builtin "list.append") [acc, ← eval elt env])
        again (.compLoop (e2 elt t1 i1 t2 i2 ifs2 scope pos) 1 it acc env)) := by rfl

theorem loop_outer {elt t1 i1 t2 i2 : PySem.Expr} {ifs2 : List PySem.Expr} {scope : Scope} {pos : Pos} {it acc : Value} {env : Env} (I : Nat → Shared → Prop)
    (turn : ∀ n s, I n s → wpAny (model prog w) A (pyNext it) (fun r s₁ => match r with
      | none => R (.ok .next) s₁
      | some v => wpAny (model prog w) A (assign t1 env v) (fun _ s₂ => wpAny (model prog w) A (eval i2 env) (fun x s₃ => wpAny (model prog w) A (pyIter x) (fun it' s₄ =>
          codeAny (model prog w) A (.compStart (e2 elt t1 i1 t2 i2 ifs2 scope pos) 1 it' acc env) (fun r s' => match r with
            | .ok _ => ∃ m, m < n ∧ I m s'
            | .error _ => False) s₄)
          (fun _ _ => False) s₃) (fun _ _ => False) s₂) (fun _ _ => False) s₁) (fun _ _ => False) s)
    (n : Nat) (h : I n s) (hs : ∀ x, foldedSetIterable i2 env x = pure x) (ht : ∀ v, letOwnedTupleGo t1 it v = pure ()) :
    codeAny (model prog w) A (.compLoop (e2 elt t1 i1 t2 i2 ifs2 scope pos) 0 it acc env) R s := by
  refine codeAny_loop rfl I (fun n s hI => ?_) n h
  show wpAny _ A ((compTurn (e2 elt t1 i1 t2 i2 ifs2 scope pos) 0 it acc env).onRaise (fun x => do noteFrame x env; theTreesLotGoes x)) _ _ s
  refine wpAny_noted ?_
  rw [turn_outer]
  refine wpAny_bind (wpAny_standAt (wpAny_bind (wpAny_mono (turn n s hI) (fun r s₁ h₁ => ?_) fun _ _ f => f.elim)))
  cases r with
  | none => exact wpAny_pure h₁
  | some v =>
    refine wpAny_bind (wpAny_of_eq (ht v) ?_)
    refine wpAny_bind (wpAny_mono h₁ (fun _ s₂ h₂ => wpAny_bind (wpAny_mono h₂ (fun x s₃ h₃ => ?_) fun _ _ f => f.elim)) fun _ _ f => f.elim)
    refine wpAny_bind (wpAny_standAt (wpAny_bind (wpAny_of_eq (hs x) (wpAny_bind (wpAny_holding (wpAny_mono h₃ (fun it' s₄ h₄ => ?_) fun _ _ f => f.elim))))))
    refine wpAny_bind (wpAny_runOwn (codeAny_mono h₄ fun r s' hr => ?_))
    cases r with
    | ok f => exact wpAny_pure ⟨rfl, hr⟩
    | error e => exact hr.elim

theorem loop_inner {elt t1 i1 t2 i2 : PySem.Expr} {ifs2 : List PySem.Expr} {scope : Scope} {pos : Pos} {it acc : Value} {env : Env} (I : Nat → Shared → Prop)
    (turn : ∀ n s, I n s → wpAny (model prog w) A (pyNext it) (fun r s₁ => match r with
      | none => R (.ok .next) s₁
      | some v => wpAny (model prog w) A (assign t2 env v) (fun _ s₂ =>
          wpAny (model prog w) A (forIn ifs2 true fun c r => if r = true then do let ok ← isTrue c env (eval c env); pure (ForInStep.yield ok) else pure (ForInStep.yield r)) (fun ok s₃ =>
            if ok = true then wpAny (model prog w) A (eval elt env) (fun x s₄ =>
              wpAny (model prog w) A (call (.builtin "list.append") [acc, x]) (fun _ s₅ => ∃ m, m < n ∧ I m s₅) (fun _ _ => False) s₄) (fun _ _ => False) s₃
            else ∃ m, m < n ∧ I m s₃) (fun _ _ => False) s₂) (fun _ _ => False) s₁) (fun _ _ => False) s)
    (n : Nat) (h : I n s) (ht : ∀ v, letOwnedTupleGo t2 it v = pure ()) :
    codeAny (model prog w) A (.compLoop (e2 elt t1 i1 t2 i2 ifs2 scope pos) 1 it acc env) R s := by
  refine codeAny_loop rfl I (fun n s hI => ?_) n h
  show wpAny _ A ((compTurn (e2 elt t1 i1 t2 i2 ifs2 scope pos) 1 it acc env).onRaise (fun x => do noteFrame x env; theTreesLotGoes x)) _ _ s
  refine wpAny_noted ?_
  rw [turn_inner]
  refine wpAny_bind (wpAny_standAt (wpAny_bind (wpAny_mono (turn n s hI) (fun r s₁ h₁ => ?_) fun _ _ f => f.elim)))
  cases r with
  | none => exact wpAny_pure h₁
  | some v =>
    refine wpAny_bind (wpAny_of_eq (ht v) ?_)
    refine wpAny_bind (wpAny_mono h₁ (fun _ s₂ h₂ => wpAny_bind (wpAny_mono h₂ (fun ok s₃ h₃ => ?_) fun _ _ h' => h'.elim)) fun _ _ h' => h'.elim)
    cases ok with
    | false => exact wpAny_pure ⟨rfl, h₃⟩
    | true =>
      exact wpAny_bind (wpAny_bind (wpAny_mono h₃ (fun x s₄ h₄ => wpAny_bind (wpAny_mono h₄ (fun _ s₅ h₅ => wpAny_pure (wpAny_pure ⟨rfl, h₅⟩)) fun _ _ h' => h'.elim)) fun _ _ h' => h'.elim))

theorem start_inner {elt t1 i1 t2 i2 : PySem.Expr} {ifs2 : List PySem.Expr} {scope : Scope} {pos : Pos} {it acc : Value} {env : Env}
    (h0 : codeAny (model prog w) A (.compLoop (e2 elt t1 i1 t2 i2 ifs2 scope pos) 1 it acc env) R s)
    (h : wpAny (model prog w) A (pyIter it) (fun it' s' => codeAny (model prog w) A (.compLoop (e2 elt t1 i1 t2 i2 ifs2 scope pos) 1 it' acc env) R s') (fun _ _ => False) s) :
    codeAny (model prog w) A (.compStart (e2 elt t1 i1 t2 i2 ifs2 scope pos) 1 it acc env) R s := by
  refine codeAny_of_tree ?_
  show wpAny _ _ ((compStart (e2 elt t1 i1 t2 i2 ifs2 scope pos) 1 it acc env).onRaise (fun x => do noteFrame x env; standAt theWindowsPlace)) _ _ s
  refine wpAny_notedAt ?_
  unfold compStart
  show wpAny _ _ (ask >>= _) _ _ s
  refine wpAny_bind (wpAny_askSetting (wpAny_ite ?_))
  split
  · first
      | exact wpAny_bind (wpAny_pure (wpAny_pure (And.intro rfl h0)))
      | exact wpAny_pure (And.intro rfl h0)
  · first
      | exact wpAny_bind (wpAny_rule (wpAny_bind (wpAny_standAt (wpAny_bind (wpAny_mono h (fun it' s' h' => wpAny_pure (And.intro rfl h')) fun _ _ x => x.elim)))))
      | (refine wpAny_bind (wpAny_rule ?_); show wpAny _ _ (standAt i2.pos >>= _) _ _ s; exact wpAny_bind (wpAny_standAt (wpAny_bind (wpAny_mono h (fun it' s' h' => wpAny_pure (And.intro rfl h')) fun _ _ x => x.elim))))
end

end Mine

namespace Mine

theorem strs_push {ys : Array Value} {xs : List Str} {x : Str} {t : Tok} (h : StrsAre ys.toList xs) : StrsAre (ys.push (.str x t)).toList (xs ++ [x]) := by
  rw [Array.toList_push]
  exact StrsAre.append' h (.cons x t .nil)

theorem range_filterMap_succ {g : Nat → Option Str} (i : Nat) : (List.range (i + 1)).filterMap g = (List.range i).filterMap g ++ (g i).toList := by
  rw [List.range_succ, List.filterMap_append]
  cases h : g i <;> simp [List.filterMap, h]

theorem flat_len (g : Nat → Nat → Option Str) (k i : Nat) : ((List.range i).flatMap fun i => (List.range k).filterMap (g i)).length ≤ i * k := by
  induction i with
  | zero => simp
  | succ i ih =>
    rw [List.range_succ, List.flatMap_append, List.length_append]
    have := List.length_filterMap_le (g i) (List.range k)
    simp only [List.flatMap_cons, List.flatMap_nil, List.append_nil, List.length_range] at this ⊢
    rw [Nat.succ_mul]; omega

section
variable {prog : Program} {w : World} {A : Around} {R : Result → Shared → Prop} {s : Shared}

theorem inner_walk {elt t1 i1 i2 c : PySem.Expr} {x : Str} {px : Pos} {scope : Scope} {pos : Pos} {I D : Addr} {fp wr : List Addr} {n : Nat} {P : Nat → Value → Prop} {St : Nat → Heap → Prop}
    {cenv : Env} {m : Str → Option Value} {ys₀ : Array Value} {xs₀ : List Str} (W : Walks prog w A I fp wr n P St) (g : Nat → Option Str)
    (hx : cenv.kindOf x = some .local) (hp : (cenv.scope.kind == .class || (cenv.scope.kind == .module && cenv.locals != cenv.globals)) = false)
    (hDC : D ≠ cenv.locals) (hDf : D ∉ fp) (hCf : cenv.locals ∉ fp)
    (hst : St 0 s.heap) (hacc : s.heap.PlainList D ys₀) (hS : StrsAre ys₀.toList xs₀) (hn : s.heap.Ns cenv.locals m)
    (htest : ∀ i v s₂ m₂, i < n → P i v → s₂.heap.Ns cenv.locals m₂ → m₂ x = some v → (∀ z, z ≠ x → m₂ z = m z) → (∀ b o, b ≠ cenv.locals → b ∉ wr → b ≠ D → s.heap.get? b = some o → s₂.heap.get? b = some o) →
      wpAny (model prog w) A (isTrue c cenv (eval c cenv)) (fun ok s₃ => ok = (g i).isSome ∧ Keeps s₂ s₃) (fun _ _ => False) s₂)
    (helt : ∀ i v s₂ m₂ a, i < n → P i v → g i = some a → s₂.heap.Ns cenv.locals m₂ → m₂ x = some v → (∀ z, z ≠ x → m₂ z = m z) → (∀ b o, b ≠ cenv.locals → b ∉ wr → b ≠ D → s.heap.get? b = some o → s₂.heap.get? b = some o) →
      wpAny (model prog w) A (eval elt cenv) (fun y s₃ => (∃ t, y = .str a t) ∧ Keeps s₂ s₃) (fun _ _ => False) s₂)
    (hR : ∀ h' tk m' ys, h'.Ns cenv.locals m' → (∀ z, z ≠ x → m' z = m z) → h'.PlainList D ys → StrsAre ys.toList (xs₀ ++ (List.range n).filterMap g) →
      (∀ b o, b ≠ cenv.locals → b ∉ wr → b ≠ D → s.heap.get? b = some o → h'.get? b = some o) → R (.ok .next) { s with heap := h', toks := tk })
    (hsz : xs₀.length + n ≤ sizeLine) :
    codeAny (model prog w) A (.compLoop (e2 elt t1 i1 (.Name x px) i2 [c] scope pos) 1 (.ref I) (.ref D) cenv) R s := by
  refine loop_inner
    (fun k s' => ∃ h' tk m' ys i, s' = { s with heap := h', toks := tk } ∧ St i h' ∧ h'.PlainList D ys ∧ h'.Ns cenv.locals m' ∧ (∀ z, z ≠ x → m' z = m z) ∧
      StrsAre ys.toList (xs₀ ++ (List.range i).filterMap g) ∧ i ≤ n ∧ k = n + 1 - i ∧
      (∀ b o, b ≠ cenv.locals → b ∉ wr → b ≠ D → s.heap.get? b = some o → h'.get? b = some o)) ?_ (n + 1)
    ⟨s.heap, s.toks, m, ys₀, 0, rfl, hst, hacc, hn, fun _ _ => rfl, by simpa using hS, Nat.zero_le _, rfl, fun _ _ _ _ _ e => e⟩ (by intro _; rfl)
  rintro k s' ⟨H, tk, m', ys, i, rfl, hst', hacc', hn', hm', hF, hi, rfl, hk⟩
  have hCw : cenv.locals ∉ wr := fun h => hCf (W.sub _ h)
  have hDw : D ∉ wr := fun h => hDf (W.sub _ h)
  by_cases hlt : i < n
  · refine W.item i _ _ _ hlt hst' fun v h₁ tk₁ hPv hst₁ hk₁ => ?_
    refine wpAny_assign_Name (wpAny_storeName_local hx (hn'.at' fun o e => hk₁ _ o hCw e) (fun h₂ hn₂ hs₂ => ?_) hp)
    have up₂ : ∀ b o, b ≠ cenv.locals → b ∉ wr → H.get? b = some o → h₂.get? b = some o := fun b o hbC hbf e => hs₂.extBut b o hbC (hk₁ b o hbf e)
    have hst₂ : St (i + 1) h₂ := W.frame _ _ _ hst₁ fun b hb o e => hs₂.extBut b o (fun h => hCf (h ▸ hb)) e
    have hm₂ : ∀ z, z ≠ x → (fun y => if y = x then some v else m' y) z = m z := fun z hz => by simp only [if_neg hz]; exact hm' z hz
    refine wpAny_tests_one (wpAny_mono (htest i v _ _ hlt hPv hn₂ (by simp) hm₂ (fun b o hbC hbf hbD e => up₂ b o hbC hbf (hk b o hbC hbf hbD e))) (fun ok s₃ h₃ => ?_) fun _ _ e => e)
    obtain ⟨rfl, h₃, tk₃, rfl, hk₃⟩ := h₃
    have hst₃ : St (i + 1) h₃ := W.frame _ _ _ hst₂ fun b _ o e => hk₃ b o e
    have hacc₃ : h₃.PlainList D ys := hacc'.at fun o e => hk₃ _ o (up₂ D o hDC hDw e)
    have hn₃ := hn₂.keeps hk₃
    cases hg : g i with
    | none =>
      simp only [Option.isSome_none, Bool.false_eq_true, if_false]
      refine ⟨n + 1 - (i + 1), by omega, h₃, tk₃, _, ys, i + 1, rfl, hst₃, hacc₃, hn₃, hm₂, ?_, hlt, rfl, fun b o hbC hbf hbD e => hk₃ b o (up₂ b o hbC hbf (hk b o hbC hbf hbD e))⟩
      rw [range_filterMap_succ, hg]; simpa using hF
    | some a =>
      simp only [Option.isSome_some, if_true]
      refine wpAny_mono (helt i v _ _ a hlt hPv hg hn₃ (by simp) hm₂ (fun b o hbC hbf hbD e => hk₃ b o (up₂ b o hbC hbf (hk b o hbC hbf hbD e)))) (fun y s₄ h₄ => ?_) fun _ _ e => e
      obtain ⟨⟨t, rfl⟩, h₄, tk₄, rfl, hk₄⟩ := h₄
      have hys : ys.size ≤ sizeLine := by
        have e1 := hF.length
        rw [List.length_append] at e1
        have e2 : ((List.range i).filterMap g).length ≤ i := by
          have := List.length_filterMap_le g (List.range i); simpa using this
        have e4 : ys.toList.length = ys.size := by simp
        omega
      refine wpAny_list_append_plain (hsz := hys) (hacc₃.at fun o e => hk₄ _ o e) fun h₅ hl₅ hs₅ => ?_
      refine ⟨n + 1 - (i + 1), by omega, h₅, tk₄, _, ys.push (.str a t), i + 1, rfl, ?_, hl₅, (hn₃.keeps hk₄).sameBut hs₅ (Ne.symm hDC), hm₂, ?_, hlt, rfl,
        fun b o hbC hbf hbD e => hs₅.extBut b o hbD (hk₄ b o (hk₃ b o (up₂ b o hbC hbf (hk b o hbC hbf hbD e))))⟩
      · exact W.frame _ _ h₅ hst₃ fun b hb o e => hs₅.extBut b o (fun h => hDf (h ▸ hb)) (hk₄ b o e)
      · rw [range_filterMap_succ, hg, ← List.append_assoc]; exact strs_push hF
  · have hin : i = n := by omega
    subst hin
    refine W.done _ _ _ hst' fun h₁ tk₁ hk₁ => ?_
    exact hR h₁ tk₁ m' ys (hn'.at' fun o e => hk₁ _ o hCw e) hm' (hacc'.at fun o e => hk₁ _ o hDw e) hF fun b o hbC hbf hbD e => hk₁ b o hbf (hk b o hbC hbf hbD e)

/-- the outer loop over a list's items, the inner one over what `eval i2` gives -/
theorem outer_walk {elt i1 i2 c : PySem.Expr} {x1 x2 : Str} {p1 p2 : Pos} {scope : Scope} {pos : Pos} {I D : Addr} {fp wr : List Addr} {n k : Nat} {P : Nat → Value → Prop} {St : Nat → Heap → Prop}
    {cenv : Env} {m : Str → Option Value} (W : Walks prog w A I fp wr n P St) (g : Nat → Nat → Option Str) (Pi : Nat → Value → Prop)
    (hx1 : cenv.kindOf x1 = some .local) (hx2 : cenv.kindOf x2 = some .local) (h12 : x1 ≠ x2) (hp : (cenv.scope.kind == .class || (cenv.scope.kind == .module && cenv.locals != cenv.globals)) = false)
    (hDC : D ≠ cenv.locals) (hDf : D ∉ fp) (hCf : cenv.locals ∉ fp)
    (hst : St 0 s.heap) (hacc : s.heap.PlainList D #[]) (hn : s.heap.Ns cenv.locals m)
    (hs : ∀ x, foldedSetIterable i2 cenv x = pure x)
    (hiter : ∀ i v s₂ m₂, i < n → P i v → s₂.heap.Ns cenv.locals m₂ → m₂ x1 = some v → (∀ b o, b ≠ cenv.locals → b ∉ wr → b ≠ D → s.heap.get? b = some o → s₂.heap.get? b = some o) →
      wpAny (model prog w) A (eval i2 cenv) (fun x s₃ => wpAny (model prog w) A (pyIter x) (fun it s₄ => Keeps s₂ s₄ ∧ ∃ J St', it = .ref J ∧ s₂.heap.get? J = none ∧ (∃ o, s₄.heap.get? J = some o) ∧ Walks prog w A J [J] [J] k Pi St' ∧ St' 0 s₄.heap)
        (fun _ _ => False) s₃) (fun _ _ => False) s₂)
    (htest : ∀ i v j u s₂ m₂, i < n → P i v → j < k → Pi j u → s₂.heap.Ns cenv.locals m₂ → m₂ x1 = some v → m₂ x2 = some u → (∀ b o, b ≠ cenv.locals → b ∉ wr → b ≠ D → s.heap.get? b = some o → s₂.heap.get? b = some o) →
      wpAny (model prog w) A (isTrue c cenv (eval c cenv)) (fun ok s₃ => ok = (g i j).isSome ∧ Keeps s₂ s₃) (fun _ _ => False) s₂)
    (helt : ∀ i v j u s₂ m₂ a, i < n → P i v → j < k → Pi j u → g i j = some a → s₂.heap.Ns cenv.locals m₂ → m₂ x1 = some v → m₂ x2 = some u → (∀ b o, b ≠ cenv.locals → b ∉ wr → b ≠ D → s.heap.get? b = some o → s₂.heap.get? b = some o) →
      wpAny (model prog w) A (eval elt cenv) (fun y s₃ => (∃ t, y = .str a t) ∧ Keeps s₂ s₃) (fun _ _ => False) s₂)
    (hR : ∀ h' tk m' ys, h'.Ns cenv.locals m' → h'.PlainList D ys → StrsAre ys.toList ((List.range n).flatMap fun i => (List.range k).filterMap (g i)) →
      (∀ b o, b ≠ cenv.locals → b ∉ wr → b ≠ D → s.heap.get? b = some o → h'.get? b = some o) → R (.ok .next) { s with heap := h', toks := tk })
    (hsz : n * k ≤ sizeLine) :
    codeAny (model prog w) A (.compLoop (e2 elt (.Name x1 p1) i1 (.Name x2 p2) i2 [c] scope pos) 0 (.ref I) (.ref D) cenv) R s := by
  refine loop_outer
    (fun q s' => ∃ h' tk m' ys i, s' = { s with heap := h', toks := tk } ∧ St i h' ∧ h'.PlainList D ys ∧ h'.Ns cenv.locals m' ∧
      StrsAre ys.toList ((List.range i).flatMap fun i => (List.range k).filterMap (g i)) ∧ i ≤ n ∧ q = n + 1 - i ∧
      (∀ b o, b ≠ cenv.locals → b ∉ wr → b ≠ D → s.heap.get? b = some o → h'.get? b = some o)) ?_ (n + 1)
    ⟨s.heap, s.toks, m, #[], 0, rfl, hst, hacc, hn, by simpa using StrsAre.nil, Nat.zero_le _, rfl, fun _ _ _ _ _ e => e⟩ hs (by intro _; rfl)
  rintro q s' ⟨H, tk, m', ys, i, rfl, hst', hacc', hn', hF, hi, rfl, hk⟩
  have hCw : cenv.locals ∉ wr := fun h => hCf (W.sub _ h)
  have hDw : D ∉ wr := fun h => hDf (W.sub _ h)
  by_cases hlt : i < n
  · refine W.item i _ _ _ hlt hst' fun v h₁ tk₁ hPv hst₁ hk₁ => ?_
    refine wpAny_assign_Name (wpAny_storeName_local hx1 (hn'.at' fun o e => hk₁ _ o hCw e) (fun h₂ hn₂ hs₂ => ?_) hp)
    have up₂ : ∀ b o, b ≠ cenv.locals → b ∉ wr → H.get? b = some o → h₂.get? b = some o := fun b o hbC hbf e => hs₂.extBut b o hbC (hk₁ b o hbf e)
    have hst₂ : St (i + 1) h₂ := W.frame _ _ _ hst₁ fun b hb o e => hs₂.extBut b o (fun h => hCf (h ▸ hb)) e
    refine wpAny_mono (hiter i v _ _ hlt hPv hn₂ (by simp) (fun b o hbC hbf hbD e => up₂ b o hbC hbf (hk b o hbC hbf hbD e))) (fun x s₃ h₃ => wpAny_mono h₃ (fun it s₄ h₄ => ?_) fun _ _ e => e) fun _ _ e => e
    obtain ⟨⟨h₄, tk₄, rfl, hk₄⟩, J, St', rfl, hJ, ⟨oJ, hoJ⟩, WJ, hst0⟩ := h₄
    have hacc₂ : h₂.PlainList D ys := hacc'.at fun o e => up₂ D o hDC hDw e
    have hDJ : D ≠ J := by rintro rfl; obtain ⟨_, e⟩ := hacc₂; rw [hJ] at e; cases e
    have hCJ : cenv.locals ≠ J := by rintro e; obtain ⟨o, _, _, ho, _⟩ := hn₂; rw [e, hJ] at ho; cases ho
    have hst₄ : St (i + 1) h₄ := W.frame _ _ _ hst₂ fun b _ o e => hk₄ b o e
    have len : ((List.range i).flatMap fun i => (List.range k).filterMap (g i)).length ≤ i * k := flat_len g k i
    have hik : i * k + k ≤ n * k := by rw [← Nat.succ_mul]; exact Nat.mul_le_mul_right _ hlt
    have loop : codeAny (model prog w) A (.compLoop (e2 elt (.Name x1 p1) i1 (.Name x2 p2) i2 [c] scope pos) 1 (.ref J) (.ref D) cenv) (fun r s' => match r with
            | .ok _ => ∃ m, m < n + 1 - i ∧ ∃ h' tk m' ys i, s' = { s with heap := h', toks := tk } ∧ St i h' ∧ h'.PlainList D ys ∧ h'.Ns cenv.locals m' ∧
              StrsAre ys.toList ((List.range i).flatMap fun i => (List.range k).filterMap (g i)) ∧ i ≤ n ∧ m = n + 1 - i ∧
              (∀ b o, b ≠ cenv.locals → b ∉ wr → b ≠ D → s.heap.get? b = some o → h'.get? b = some o)
            | .error _ => False) { s with heap := h₄, toks := tk₄ } := by
      refine inner_walk WJ (g i) hx2 hp hDC (by simpa using hDJ) (by simpa using hCJ) hst0 (hacc₂.at fun o e => hk₄ _ o e) hF (hn₂.keeps hk₄) ?_ ?_ ?_ (by omega)
      · intro j u s₅ m₅ hj hu hn₅ hm₅ hz hk₅
        refine htest i v j u s₅ m₅ hlt hPv hj hu hn₅ ?_ hm₅ fun b o hbC hbf hbD e => ?_
        · rw [hz x1 h12]; simp
        · have e4 := hk₄ b o (up₂ b o hbC hbf (hk b o hbC hbf hbD e))
          refine hk₅ b o hbC ?_ hbD e4
          intro hb
          rw [List.mem_singleton.mp hb] at e
          have := up₂ J o (Ne.symm hCJ) (List.mem_singleton.mp hb ▸ hbf) (hk J o (Ne.symm hCJ) (List.mem_singleton.mp hb ▸ hbf) (Ne.symm hDJ) e)
          rw [hJ] at this; cases this
      · intro j u s₅ m₅ a hj hu hg hn₅ hm₅ hz hk₅
        refine helt i v j u s₅ m₅ a hlt hPv hj hu hg hn₅ ?_ hm₅ fun b o hbC hbf hbD e => ?_
        · rw [hz x1 h12]; simp
        · have e4 := hk₄ b o (up₂ b o hbC hbf (hk b o hbC hbf hbD e))
          refine hk₅ b o hbC ?_ hbD e4
          intro hb
          rw [List.mem_singleton.mp hb] at e
          have := up₂ J o (Ne.symm hCJ) (List.mem_singleton.mp hb ▸ hbf) (hk J o (Ne.symm hCJ) (List.mem_singleton.mp hb ▸ hbf) (Ne.symm hDJ) e)
          rw [hJ] at this; cases this
      · intro h' tk' m₅ ys₅ hn₅ _ hpl hS₅ hk₅
        have hJw : ∀ b o, h₂.get? b = some o → b ≠ J := fun b o e q => by rw [q, hJ] at e; cases e
        refine ⟨n + 1 - (i + 1), by omega, h', tk', m₅, ys₅, i + 1, rfl, ?_, hpl, hn₅, ?_, hlt, rfl, fun b o hbC hbf hbD e => ?_⟩
        · refine W.frame _ _ _ hst₂ fun b hb o e => ?_
          exact hk₅ b o (fun q => hCf (q ▸ hb)) (by simpa using hJw b o e) (fun q => hDf (q ▸ hb)) (hk₄ b o e)
        · rw [List.range_succ, List.flatMap_append]; simpa using hS₅
        · have e2 := up₂ b o hbC hbf (hk b o hbC hbf hbD e)
          exact hk₅ b o hbC (by simpa using hJw b o e2) hbD (hk₄ b o e2)
    exact start_inner loop (WJ.self 0 _ _ _ hst0 loop)
  · have hin : i = n := by omega
    subst hin
    refine W.done _ _ _ hst' fun h₁ tk₁ hk₁ => ?_
    exact hR h₁ tk₁ m' ys (hn'.at' fun o e => hk₁ _ o hCw e) (hacc'.at fun o e => hk₁ _ o hDw e) hF fun b o hbC hbf hbD e => hk₁ b o hbf (hk b o hbC hbf hbD e)
end
end Mine

namespace Mine

theorem neA {a b : Nat} (h : a < b ∨ b < a) : @Ne Addr a b := by
  rcases h with h | h
  · exact Nat.ne_of_lt h
  · exact Nat.ne_of_gt h

theorem ltS {h : Heap} {b : Addr} {o : Obj} (e : h.get? b = some o) : @LT.lt Nat _ b h.objs.size := Heap.lt_size e
theorem leA {h₀ h : Heap} {L : Addr} {m : Str → Option Value} (F : Fr h₀ L h m) : @LE.le Nat _ h₀.objs.size L := F.above

section
variable {prog : Program} {w : World} {A : Around} {E : Value → Shared → Prop} {s : Shared} {env : Env}

/-- y = [elt for x1 in i1 for x2 in i2 if c], i1 a list that stands, i2 something fresh, texts made -/
theorem due_rule {elt i1 i2 c : PySem.Expr} {y x1 x2 : Str} {py p1 p2 pos spos : Pos} {scope : Scope} {h₀ : Heap} {m : Str → Option Value} {news : List (Addr × Obj)} {lm : Addr} {items : Array Value} {k : Nat} {Q : Flow → Shared → Prop}
    (g : Nat → Nat → Option Str) (Pi : Nat → Value → Prop)
    (F : Fr h₀ env.locals s.heap m) (N : News h₀ env.locals s.heap news)
    (hsw : swapsWith (e2 elt (.Name x1 p1) i1 (.Name x2 p2) i2 [c] scope pos) (some (.Name y py)) spos.line env = pure true)
    (hfree : ∀ z ∈ scope.names, z.2 ≠ .free) (hcell : ∀ z ∈ scope.names, z.2 ≠ .cell) (hkind : scope.kind = .function)
    (hnames : ∀ z ∈ scope.names, z.2 = .local → scope.names.lookup z.1 = some .local) (hx1 : scope.names.lookup x1 = some .local) (hx2 : scope.names.lookup x2 = some .local) (h12 : x1 ≠ x2)
    (hy : env.kindOf y = some .local) (hp : (env.scope.kind == .class || (env.scope.kind == .module && env.locals != env.globals)) = false)
    (hh : A.handled = none) (hs : ∀ x, foldedSetIterable i1 env x = pure x) (hs2 : ∀ C x, foldedSetIterable i2 (compEnv scope C env) x = pure x)
    (heval : wpAny (model prog w) A (eval i1 env) (fun xv s₁ => xv = .ref lm ∧ s₁ = s) E s) (hl : s.heap.IsList lm items)
    (hiter : ∀ (C : Addr) (i : Nat) (v : Value) (s₂ : Shared) (m₂ : Str → Option Value), items[i]? = some v → s₂.heap.Ns C m₂ → m₂ x1 = some v → (∀ b o, s.heap.get? b = some o → s₂.heap.get? b = some o) →
      wpAny (model prog w) A (eval i2 (compEnv scope C env)) (fun x s₃ => wpAny (model prog w) A (pyIter x) (fun it s₄ => Keeps s₂ s₄ ∧ ∃ J St', it = .ref J ∧ s₂.heap.get? J = none ∧ (∃ o, s₄.heap.get? J = some o) ∧ Walks prog w A J [J] [J] k Pi St' ∧ St' 0 s₄.heap)
        (fun _ _ => False) s₃) (fun _ _ => False) s₂)
    (htest : ∀ (C : Addr) (i : Nat) (v : Value) (j : Nat) (u : Value) (s₂ : Shared) (m₂ : Str → Option Value), items[i]? = some v → j < k → Pi j u → s₂.heap.Ns C m₂ → m₂ x1 = some v → m₂ x2 = some u → (∀ b o, s.heap.get? b = some o → s₂.heap.get? b = some o) →
      wpAny (model prog w) A (isTrue c (compEnv scope C env) (eval c (compEnv scope C env))) (fun ok s₃ => ok = (g i j).isSome ∧ Keeps s₂ s₃) (fun _ _ => False) s₂)
    (helt : ∀ (C : Addr) (i : Nat) (v : Value) (j : Nat) (u : Value) (s₂ : Shared) (m₂ : Str → Option Value) (a : Str), items[i]? = some v → j < k → Pi j u → g i j = some a → s₂.heap.Ns C m₂ → m₂ x1 = some v → m₂ x2 = some u → (∀ b o, s.heap.get? b = some o → s₂.heap.get? b = some o) →
      wpAny (model prog w) A (eval elt (compEnv scope C env)) (fun y s₃ => (∃ t, y = .str a t) ∧ Keeps s₂ s₃) (fun _ _ => False) s₂)
    (done : ∀ D h' tk ys n, StrsAre ys.toList ((List.range items.size).flatMap fun i => (List.range k).filterMap (g i)) → Fr h₀ env.locals h' (fun z => if z = y then some (.ref D) else m z) →
      News h₀ env.locals h' ((D, W.listOf ys n) :: news) → (∀ p ∈ news, p.1 < D) → Q .next { s with heap := h', toks := tk })
    (hsz : items.size * k ≤ sizeLine) :
    wpAny (model prog w) A (exec (.Assign [.Name y py] (e2 elt (.Name x1 p1) i1 (.Name x2 p2) i2 [c] scope pos) spos) env) Q E s := by
  rw [exec_Assign_Name_used _ _ _ _ hsw]
  refine wpAny_bind (wpAny_standAt (wpAny_bind ?_))
  show wpAny _ A (do let _ ← comprehension (e2 elt (.Name x1 p1) i1 (.Name x2 p2) i2 [c] scope pos) scope env _ (newList []) false (eval i1 env) (some (assign (.Name y py) env))) _ _ s
  refine wpAny_bind (wpAny_mono (wpAny_comprehension_use (Q := fun _ s' => Q .next s') rfl hs hfree hkind hnames (wpAny_mono heval (fun xv s₁ h₁ => ?_) fun _ _ e => e))
    (fun _ s' hq => wpAny_pure (wpAny_pure hq)) fun _ _ e => e)
  obtain ⟨rfl, rfl⟩ := h₁
  refine wpAny_pyIter_list hl ?_
  have hllt : @LT.lt Nat _ lm s₁.heap.objs.size := by obtain ⟨_, e, _⟩ := hl; exact ltS e
  have hW := Walks.list (prog := prog) (w := w) hh s₁.heap.objs.size lm (Nat.ne_of_lt hllt) items
  refine wpAny_newObj_type (wpAny_newFunctionEnv hcell (by intro y hy; simp at hy) (fun h₁ hns₁ hsb₁ => ?_) hkind)
  dsimp only at hns₁ hsb₁ ⊢
  generalize hH1 : s₁.heap.push _ = H1 at hns₁ hsb₁ ⊢
  generalize hH2 : H1.push { cls := .type "list", dict := none, data := .seq ([] : List Value).toArray } = H2 at hns₁ hsb₁ ⊢
  have hz1 : H1.objs.size = s₁.heap.objs.size + 1 := by rw [← hH1, Heap.size_push]
  have hz2 : H2.objs.size = H1.objs.size + 1 := by rw [← hH2, Heap.size_push]
  have old : ∀ b o, H1.get? b = some o → h₁.get? b = some o := fun b o e => by
    have := ltS e
    exact hsb₁.extBut b o (neA (by omega)) (Heap.get?_push_of_some _ (hH2 ▸ Heap.get?_push_of_some _ e))
  have old0 : ∀ b o, s₁.heap.get? b = some o → h₁.get? b = some o := fun b o e => old b o (hH1 ▸ Heap.get?_push_of_some _ e)
  have hacc : h₁.PlainList H1.objs.size #[] := ⟨_, hsb₁.extBut _ _ (neA (by omega)) (Heap.get?_push_of_some _ (hH2 ▸ Heap.get?_push_size _ rfl))⟩
  have hst₁ : h₁.IsListIter s₁.heap.objs.size lm 0 ∧ h₁.IsList lm items := ⟨⟨_, old _ _ (hH1 ▸ Heap.get?_push_size _ rfl), rfl, rfl⟩, hl.at fun o e => old0 _ o e⟩
  have below : ∀ b o, s₁.heap.get? b = some o → b ≠ H2.objs.size ∧ b ≠ H1.objs.size ∧ b ≠ s₁.heap.objs.size := fun b o e => by
    have := ltS e; exact ⟨neA (by omega), neA (by omega), neA (by omega)⟩
  have loop : ∀ s₃ : Shared, s₃ = { s₁ with heap := h₁, toks := s₁.toks + ([] : List (Str × Value)).length } →
      codeAny (model prog w) A (.compLoop (e2 elt (.Name x1 p1) i1 (.Name x2 p2) i2 [c] scope pos) 0 (.ref s₁.heap.objs.size) (.ref H1.objs.size) (compEnv scope H2.objs.size env))
        (fun r s' => match r with
          | .ok _ => wpAny (model prog w) A (assign (.Name y py) env (.ref H1.objs.size)) (fun _ s'' => ∃ m, s''.heap.Ns H2.objs.size m ∧ ∀ h', Heap.SameBut H2.objs.size s''.heap h' → Q .next { s'' with heap := h' }) E s'
          | .error x => ∃ m, s'.heap.Ns H2.objs.size m ∧ ∀ h', Heap.SameBut H2.objs.size s'.heap h' → wpAny (model prog w) A (passOn "comprehension.variables-let-go" x (compEnv scope H2.objs.size env) : Sem Value) (fun _ s' => Q .next s') E { s' with heap := h' }) s₃ := by
    rintro s₃ rfl
    refine outer_walk (cenv := compEnv scope H2.objs.size env) hW g Pi hx1 hx2 h12 (by simp [compEnv, hkind]) (neA (by show H1.objs.size < H2.objs.size ∨ _; omega)) (by simp; exact ⟨neA (by omega), neA (by omega)⟩) (by show H2.objs.size ∉ _; simp; exact ⟨neA (by omega), neA (by omega)⟩) hst₁ hacc hns₁ (hs2 _) ?_ ?_ ?_ ?_ hsz
    · intro i v s₂ m₂ hi hv hn hm hk
      exact hiter _ i v s₂ m₂ hv hn hm fun b o e => hk b o (below b o e).1 (by simpa using (below b o e).2.2) (below b o e).2.1 (old0 b o e)
    · intro i v j u s₂ m₂ hi hv hj hu hn hm hm2 hk
      exact htest _ i v j u s₂ m₂ hv hj hu hn hm hm2 fun b o e => hk b o (below b o e).1 (by simpa using (below b o e).2.2) (below b o e).2.1 (old0 b o e)
    · intro i v j u s₂ m₂ a hi hv hj hu hg hn hm hm2 hk
      exact helt _ i v j u s₂ m₂ a hv hj hu hg hn hm hm2 fun b o e => hk b o (below b o e).1 (by simpa using (below b o e).2.2) (below b o e).2.1 (old0 b o e)
    · intro h' tk m' ys hn hpl hS hk
      have keep : ∀ b o, s₁.heap.get? b = some o → h'.get? b = some o := fun b o e => hk b o (below b o e).1 (by simpa using (below b o e).2.2) (below b o e).2.1 (old0 b o e)
      have hL := F.ns
      obtain ⟨oL, _, _, hoL, _⟩ := id hL
      have hLlt := ltS hoL
      refine wpAny_assign_Name (wpAny_storeName_local hy (hL.at' fun o e => keep _ o e) (fun h₂ hn₂ hs₂ => ?_) hp)
      refine ⟨m', hn.sameBut hs₂ (neA (a := H2.objs.size) (b := env.locals) (by omega)), fun h₃ hs₃ => ?_⟩
      obtain ⟨e, he⟩ := hpl
      have k3 : ∀ b o, b ≠ env.locals → s₁.heap.get? b = some o → h₃.get? b = some o := fun b o hb eb => hs₃.extBut b o (below b o eb).1 (hs₂.extBut b o hb (keep b o eb))
      refine done H1.objs.size h₃ _ ys e hS ⟨hn₂.sameBut hs₃ (neA (by omega)), fun b o eb => k3 b o (fun q => ?_) (F.keep b o eb), F.above⟩ ?_ ?_
      · have e1 := Heap.lt_size eb; have e2 := F.above; rw [q] at e1; exact Nat.lt_irrefl _ (Nat.lt_of_lt_of_le e1 e2)
      · intro p hp
        rcases List.mem_cons.mp hp with rfl | hp
        · refine ⟨hs₃.extBut _ _ (neA (by show H1.objs.size < H2.objs.size ∨ _; omega)) (hs₂.extBut _ _ (neA (a := H1.objs.size) (b := env.locals) (by omega)) he), neA (a := H1.objs.size) (b := env.locals) (by omega), ?_⟩
          cases q : h₀.get? H1.objs.size with
          | none => rfl
          | some o => have := ltS q; have := leA F; omega
        · exact ⟨k3 _ _ (N p hp).2.1 (N p hp).1, (N p hp).2⟩
      · intro p hp
        have := ltS (N p hp).1; exact (show @LT.lt Nat _ p.1 H1.objs.size by omega)
  exact codeAny_compStart_list (loop _ rfl) (hW.self 0 _ _ _ hst₁ (loop _ rfl))
end
end Mine

namespace Mine

def sg (j : Nat) : Str := ⟨#[if j % 3 = 0 then 114 else if j % 3 = 1 then 119 else 120]⟩
def bitOf (m : Int) (j : Nat) : Bool := (m.fdiv (2 ^ (8 - j))).fmod 2 == 1
def bitsOf (m : Int) : List Str := (List.range 9).filterMap fun j => if bitOf m j then some (sg j) else none
def gOf (a b : Int) (i j : Nat) : Option Str := if bitOf (if i = 0 then a else b) j then some (sg j) else none

theorem flat_bits (a b : Int) : ((List.range 2).flatMap fun i => (List.range 9).filterMap (gOf a b i)) = bitsOf a ++ bitsOf b := by
  have e : List.range 2 = [0, 1] := rfl
  rw [e]
  simp only [List.flatMap_cons, List.flatMap_nil, List.append_nil]
  rfl

theorem range_keeps_walks {prog : Program} {w : World} {A : Around} (hh : A.handled = none) {s : Shared} {n : Int} {t : Tok} (h0 : 0 ≤ n) (h1 : n < 2 ^ 62) {E : Value → Shared → Prop} :
    wpAny (model prog w) A (call (.type "range") [.int n t]) (fun x s₃ => wpAny (model prog w) A (pyIter x) (fun it s₄ => Keeps s s₄ ∧ ∃ J St', it = .ref J ∧ s.heap.get? J = none ∧ (∃ o, s₄.heap.get? J = some o) ∧
      Walks prog w A J [J] [J] n.toNat (fun j v => ∃ t, v = .int ((0 : Int) + j * 1) t) St' ∧ St' 0 s₄.heap) E s₃) E s := by
  refine call_range_1 ?_
  refine wpAny_pyIter_range (IsRange.new ..) (small_one (by decide) (by decide) (by omega) h1) ?_
  have hsz : (Builtin.Range.rangeSize 0 n 1) = ((n.toNat : Nat) : Int) - ((0 : Nat) : Int) := by rw [rangeSize_nat]; simp
  refine ⟨⟨_, _, rfl, fun b o e => Heap.get?_push_of_some _ (Heap.get?_push_of_some _ e)⟩, _, _, rfl, ?_, ⟨_, Heap.get?_push_size _ rfl⟩, Walks.range hh _ 0 1 n.toNat, ?_⟩
  · cases q : s.heap.get? _ with
    | none => rfl
    | some o => have := ltS q; simp only [Heap.size_push] at this; omega
  · show IsRangeIter _ _ _ _ _
    rw [← hsz]
    exact Heap.get?_push_size _ rfl

section
variable {prog : Program} {w : World} {A : Around} {E : Value → Shared → Prop} {s : Shared} {env : Env}

theorem due_test {C : Addr} {scope : Scope} {m₂ : Str → Option Value} {a : Int} {ta tj : Tok} {j : Nat} {p1 p2 p3 p4 p5 p6 p7 p8 p9 p10 p11 : Pos} {k1 k2 k3 k4 : Nat}
    (hn : s.heap.Ns C m₂) (hkind : scope.kind = .function) (hx1 : scope.names.lookup (Str.ofString "mode") = some .local) (hx2 : scope.names.lookup (Str.ofString "place") = some .local)
    (h1 : m₂ (Str.ofString "mode") = some (.int a ta)) (h2 : m₂ (Str.ofString "place") = some (.int ((0 : Int) + j * 1) tj)) (hj : j < 9) {c : PySem.Expr}
    (hc : c = .Compare (.BinOp (.BinOp (.Name (Str.ofString "mode") p1) .FloorDiv (.BinOp (.Constant (.int 2) k1 p2) .Pow (.BinOp (.Constant (.int 8) k2 p3) .Sub (.Name (Str.ofString "place") p4) p5) p6) p7) .Mod (.Constant (.int 2) k3 p8) p9) [.Eq] [.Constant (.int 1) k4 p10] p11) :
    wpAny (model prog w) A (isTrue c (compEnv scope C env) (eval c (compEnv scope C env))) (fun ok s₃ => ok = bitOf a j ∧ Keeps s s₃) E s := by
  subst hc
  have ej : (8 - ((0 : Int) + j * 1)).toNat = 8 - j := by omega
  have hpos : (2 : Int) ^ (8 - j) ≠ 0 := by
    have : (0 : Int) < 2 ^ (8 - j) := Int.pow_pos (by decide)
    omega
  refine wpAny_isTrue_Compare1 (wpAny_BinOp (wpAny_BinOp (wpAny_Name (wpAny_loadName_local hkind hx1 hn h1 ?_))))
  refine wpAny_BinOp (wpAny_Constant_int (wpAny_BinOp (wpAny_Constant_int (wpAny_Name (wpAny_loadName_local hkind hx2 hn h2 (PyProof.Rows.sub_int ?_))))))
  refine pow_int_small (by omega) (by omega) (by decide) ?_
  rw [ej]
  refine floordiv_int hpos ?_ (Or.inl (PyProof.noPylong_small ?_))
  · refine wpAny_Constant_int (mod_int' (by decide) ?_)
    refine wpAny_Constant_int (PyProof.Rows.eq_int (wpAny_truthy_bool ⟨rfl, _, _, rfl, fun _ _ e => e⟩))
  · have hb : (2 : Int) ^ (8 - j) ≤ 2 ^ 8 := by
      have : (2 : Nat) ^ (8 - j) ≤ 2 ^ 8 := Nat.pow_le_pow_right (by decide) (by omega)
      exact_mod_cast this
    have hp : (0 : Int) < 2 ^ (8 - j) := Int.pow_pos (by decide)
    omega

theorem rwx_item (j : Nat) : Txt.item (Str.ofString "rwx") (((0 : Int) + j * 1).fmod 3) = sg j := by
  have h : ((0 : Int) + j * 1).fmod 3 = ((j % 3 : Nat) : Int) := by
    rw [Int.fmod_eq_emod_of_nonneg _ (by decide)]; omega
  rw [h]
  have : j % 3 = 0 ∨ j % 3 = 1 ∨ j % 3 = 2 := by omega
  unfold sg
  rcases this with e | e | e <;> rw [e] <;> rfl

theorem due_elt {C : Addr} {scope : Scope} {m₂ : Str → Option Value} {tj : Tok} {j : Nat} {p1 p2 p3 p4 p5 : Pos} {k1 k2 : Nat}
    (hn : s.heap.Ns C m₂) (hkind : scope.kind = .function) (hx2 : scope.names.lookup (Str.ofString "place") = some .local)
    (h2 : m₂ (Str.ofString "place") = some (.int ((0 : Int) + j * 1) tj)) {elt : PySem.Expr}
    (he : elt = .Subscript (.Constant (.str (Str.ofString "rwx")) k1 p1) (.BinOp (.Name (Str.ofString "place") p2) .Mod (.Constant (.int 3) k2 p3) p4) p5) :
    wpAny (model prog w) A (eval elt (compEnv scope C env)) (fun y s₃ => (∃ t, y = .str (sg j) t) ∧ Keeps s s₃) E s := by
  subst he
  refine Subscript_ (Calls.Constant_str ?_)
  refine wpAny_BinOp (wpAny_Name (wpAny_loadName_local hkind hx2 hn h2 (wpAny_Constant_int (mod_int' (by decide) ?_))))
  have h : ((0 : Int) + j * 1).fmod 3 = ((j % 3 : Nat) : Int) := by
    rw [Int.fmod_eq_emod_of_nonneg _ (by decide)]; omega
  have hl : (Str.ofString "rwx").length = 3 := rfl
  refine item_str ?_ (by rw [hl, h]; omega) (by rw [hl, h]; omega) fun _ => ?_
  · rw [h]; unfold fitsSsize; simp; omega
  · rw [rwx_item]; exact ⟨⟨_, rfl⟩, _, _, rfl, fun _ _ e => e⟩
end
end Mine

namespace Mine

section
variable {prog : Program} {w : World} {A : Around} {E : Value → Shared → Prop} {s : Shared}

theorem nextOf_tuple_item {it t : Addr} {i : Nat} {items : Array Value} {x : Value} {Q : Value → Shared → Prop} (hit : s.heap.IsTupleIter it t i)
    (ht : s.heap.IsTuple t items) (hx : items[i]? = some x)
    (hQ : ∀ h', h'.IsTupleIter it t (i + 1) → Heap.SameBut it s.heap h' → Q x { s with heap := h' }) :
    wpAny (model prog w) A (Builtin.SmallTypes.nextOf (.ref it)) Q E s := by
  obtain ⟨o, ho, hc, hd⟩ := id hit
  obtain ⟨ol, hol, _, nl, hdl⟩ := ht
  unfold Builtin.SmallTypes.nextOf
  refine wpAny_bind (wpAny_callSpecial?_slot (name := Str.ofString "__next__") hit.typeIs F.slot_tuple_iterator_next
    (wpAny_call_entry F.slot_tuple_iterator_next hit.typeIs F.entry_tuple_iterator_next ?_ (F.args_tuple_iterator_next_1 _)))
  show wpAny _ _ (field (.ref it) 0 >>= _) _ _ s
  refine wpAny_bind (wpAny_field ho hd (x := .ref t) rfl ?_)
  show wpAny _ _ (if (Value.ref t == Value.none) = true then _ else _) _ _ s
  rw [if_neg (show ¬ ((Value.ref t == Value.none) = true) from Bool.false_ne_true)]
  show wpAny _ _ (field (.ref it) 1 >>= _) _ _ s
  refine wpAny_bind (wpAny_field ho hd (x := .int i 0) rfl ?_)
  show wpAny _ _ (seqItems? (.ref t) >>= _) _ _ s
  refine wpAny_bind (wpAny_seqItems hol hdl ?_)
  simp only [Int.toNat_natCast, hx]
  refine wpAny_bind (wpAny_setField ho hd (by simp) (wpAny_pure ⟨x, rfl, wpAny_pure (hQ _ ?_ (Heap.SameBut.update ..))⟩))
  exact ⟨_, Heap.get?_update_self _ ho (Obj.isFreed_of_fields (Obj.data_mapFields hd _)), (Obj.cls_mapFields ..).trans hc, by
    rw [Obj.data_mapFields hd]; simp [rawInt]⟩

theorem nextOf_tuple_end {it t : Addr} {i : Nat} {items : Array Value} {Q : Value → Shared → Prop} (hh : A.handled = none)
    (hit : s.heap.IsTupleIter it t i) (ht : s.heap.IsTuple t items) (hx : items[i]? = none)
    (hE : ∀ h' e, Heap.ExtBut it s.heap h' → (∃ o, h'.get? e = some o ∧ o.cls = .type "StopIteration") → E (.ref e) { s with heap := h' }) :
    wpAny (model prog w) A (Builtin.SmallTypes.nextOf (.ref it)) Q E s := by
  obtain ⟨o, ho, hc, hd⟩ := id hit
  obtain ⟨ol, hol, _, nl, hdl⟩ := ht
  unfold Builtin.SmallTypes.nextOf
  refine wpAny_bind (wpAny_callSpecial?_slot (name := Str.ofString "__next__") hit.typeIs F.slot_tuple_iterator_next
    (wpAny_call_entry F.slot_tuple_iterator_next hit.typeIs F.entry_tuple_iterator_next ?_ (F.args_tuple_iterator_next_1 _)))
  show wpAny _ _ (field (.ref it) 0 >>= _) _ _ s
  refine wpAny_bind (wpAny_field ho hd (x := .ref t) rfl ?_)
  show wpAny _ _ (if (Value.ref t == Value.none) = true then _ else _) _ _ s
  rw [if_neg (show ¬ ((Value.ref t == Value.none) = true) from Bool.false_ne_true)]
  show wpAny _ _ (field (.ref it) 1 >>= _) _ _ s
  refine wpAny_bind (wpAny_field ho hd (x := .int i 0) rfl ?_)
  show wpAny _ _ (seqItems? (.ref t) >>= _) _ _ s
  refine wpAny_bind (wpAny_seqItems hol hdl ?_)
  simp only [Int.toNat_natCast, hx]
  refine wpAny_bind (wpAny_rule (wpAny_bind (wpAny_setField ho hd (by simp) ?_)))
  show wpAny _ _ (newExc (.type "StopIteration") [] >>= _) _ _ _
  refine wpAny_bind ?_
  simp only [newExc, newTuple]
  refine wpAny_bind (wpAny_newObj_type ?_ (by size_fits))
  refine wpAny_bind (m := firstArgMember _ _) (wpAny_of_eq (a := Value.none) (by first | rfl | (simp only [firstArgMember]; rfl)) ?_)
  refine wpAny_newObj_type ?_ (by size_fits)
  simp only [raiseNew]
  refine wpAny_bind (wpAny_handled ?_)
  first | rw [show A.in1.handled = none from hh] | rw [hh]
  refine wpAny_bind (wpAny_pure (wpAny_throw ?_))
  exact hE _ _ (((Heap.SameBut.update ..).extBut.push _).push _) ⟨_, Heap.get?_push_size _ rfl, rfl⟩
end

theorem draws_tuple {prog : Program} {w : World} {A : Around} (hh : A.handled = none) (it l : Addr) (hne : l ≠ it) (items : Array Value) :
    Draws prog w A it [it, l] items.size (fun i v => items[i]? = some v) (fun i h => h.IsTupleIter it l i ∧ h.IsTuple l items) where
  live := fun _ _ st => let ⟨o, ho, _⟩ := st.1; ⟨o, ho⟩
  frame := fun _ _ _ st hk => ⟨st.1.at fun o e => hk it (by simp) o e, st.2.at fun o e => hk l (by simp) o e⟩
  item := fun i s Q E hi st hQ => by
    refine nextOf_tuple_item st.1 st.2 (x := items[i]) (by simp [hi]) fun h' hit' hs' => ?_
    exact hQ _ h' s.toks (by simp [hi]) ⟨hit', st.2.extBut hs'.extBut hne⟩ hs'
  done := fun s Q E st hE => nextOf_tuple_end hh st.1 st.2 (by simp) hE

open AutoSeq1 (wpAny_loadPart')

theorem enumerate_newT (l : Addr) (items : Array Value) (n : Nat) (dct : Option Addr) (sl : Array (Option Value)) :
    Meets (Builtin.«enumerate.__new__» ⟨[.type "enumerate", .ref l], []⟩) (fun _ R s => s.heap.get? l = some { cls := .type "tuple", dict := dct, data := .seq items n, slots := sl } ∧
      R (.ok (.ret (.ref (s.heap.push { cls := .type "tuple_iterator", data := .fields #[.ref l, .int 0 0] }).objs.size)))
        { s with heap := (s.heap.push { cls := .type "tuple_iterator", data := .fields #[.ref l, .int 0 0] }).push { cls := .type "enumerate", data := .fields #[.none, .bool false, .ref s.heap.objs.size, rawInt 0, .none, .none] } }) :=
  .of_wp fun prog w A R s h => by
    obtain ⟨hp, g, d, tk, os⟩ := s; obtain ⟨hl, h⟩ := h
    have hsub := sub_enumerate
    have hL : Heap.IsTuple (Shared.heap ⟨hp, g, d, tk, os⟩) l items := ⟨_, hl, rfl, n, rfl⟩
    wp_walk using wpAny_loadPart' hl
    refine wpAny_stack_any fun st => wpAny_pure ?_
    split
    · rename_i c _ _ _ _ _
      cases (c == Value.type "enumerate")
      · wp_walk using wpAny_loadPart' hl, wpAny_pyIter_tuple hL
        exact ⟨_, rfl, h⟩
      · wp_walk using wpAny_loadPart' hl, wpAny_pyIter_tuple hL
        exact ⟨_, rfl, h⟩
    · wp_walk using wpAny_loadPart' hl, wpAny_pyIter_tuple hL
      exact ⟨_, rfl, h⟩

theorem call_enumerate_tuple {prog : Program} {w : World} {A : Around} {E : Value → Shared → Prop} {s : Shared} {l : Addr} {items : Array Value} {Q : Value → Shared → Prop} (hL : s.heap.IsTuple l items)
    (h : ∀ h', IsEnum h' (s.heap.objs.size + 1) s.heap.objs.size 0 .none → h'.IsTupleIter s.heap.objs.size l 0 → h'.objs.size = s.heap.objs.size + 2 →
      (∀ b o, s.heap.get? b = some o → h'.get? b = some o) → Q (.ref (s.heap.objs.size + 1)) { s with heap := h' }) :
    wpAny (model prog w) A (call (.type "enumerate") [.ref l]) Q E s := by
  obtain ⟨⟨c, dct, dt, sl⟩, hl, hc, n, hd⟩ := hL
  replace hc : c = .type "tuple" := hc
  replace hd : dt = .seq items n := hd
  subst hc hd
  refine callType_new F.called_enumerate (by decide) (F.typeCall_enumerate_1 _) (F.newCall_enumerate_1 _) (fun obj => F.args_object_init_2 obj _) F.entry_enumerate_new
    (enumerate_newT l items n dct sl) ⟨hl, ?_⟩
  have hz : (s.heap.push { cls := .type "tuple_iterator", data := .fields #[.ref l, .int 0 0] }).objs.size = s.heap.objs.size + 1 := Heap.size_push ..
  show _ ∧ _
  rw [hz]
  have he : IsEnum ((s.heap.push { cls := .type "tuple_iterator", data := .fields #[.ref l, .int 0 0] }).push
      { cls := .type "enumerate", data := .fields #[.none, .bool false, .ref s.heap.objs.size, rawInt 0, .none, .none] }) (s.heap.objs.size + 1) s.heap.objs.size 0 .none := by
    have := Heap.get?_push_size (s.heap.push { cls := .type "tuple_iterator", data := .fields #[.ref l, .int 0 0] })
      (o := { cls := .type "enumerate", data := .fields #[.none, .bool false, .ref s.heap.objs.size, rawInt 0, .none, .none] }) rfl
    rw [hz] at this; exact this
  refine ⟨⟨_, he, rfl⟩, h _ he ⟨_, Heap.get?_push_of_some _ (Heap.get?_push_size _ rfl), rfl, rfl⟩ (by rw [Heap.size_push, hz]) fun b o x => Heap.get?_push_of_some _ (Heap.get?_push_of_some _ x)⟩
end Mine

namespace Mine

noncomputable abbrev PR := PySem.Challenge.rw_oy0041_01.row.prog
noncomputable abbrev KF (w : World) : Frag := hd.heap_39 w.params

/-- what the call may lean on at a heap -/
structure Gl (w : World) (mg mb : Str → Option Value) (h : Heap) : Prop where
  g : h.Ns mainGlobals mg
  b : h.Ns builtinsNs mb
  bi : ∀ x : Str, x ≠ "__name__" → mb x = bootBuiltins x
  lim : h.NoLimit
  inK : (KF w).In h

theorem Gl.keeps {w : World} {mg mb : Str → Option Value} {h h' : Heap} (G : Gl w mg mb h) (hk : ∀ b o, h.get? b = some o → h'.get? b = some o) : Gl w mg mb h' :=
  ⟨G.g.keeps hk, G.b.keeps hk, G.bi, G.lim.keeps hk, G.inK.keeps hk⟩

section
variable {prog : Program} {w : World} {A : Around} {E : Value → Shared → Prop} {s : Shared} {env : Env} {mg mb : Str → Option Value}

theorem gname {x : Str} {pos : Pos} {v : Value} {Q : Value → Shared → Prop} (G : Gl w mg mb s.heap) (e : nsIn (KF w) mainGlobals x = some (some v)) (h : Q v s)
    (hg : env.globals = mainGlobals := by rfl) (hk : env.scope.kind = .function := by rfl) (hx : env.kindOf x = some .globalImplicit := by rfl) (hd : (x == ("__debug__" : Str)) = false := by decide) :
    wpAny (model prog w) A (eval (.Name x pos) env) Q E s :=
  Calls.Name_function_global hk hx (Calls.loadGlobal_global (env := env) (by rw [hg]; exact G.g) (mg_of G.inK G.g e) h) hd

theorem bname {x : Str} {pos : Pos} {v : Value} {Q : Value → Shared → Prop} (G : Gl w mg mb s.heap) (e : nsIn (KF w) mainGlobals x = some none) (hv : bootBuiltins x = some v) (h : Q v s)
    (hn : x ≠ "__name__" := by decide) (hg : env.globals = mainGlobals := by rfl) (hb : env.builtins = builtinsNs := by rfl) (hk : env.scope.kind = .function := by rfl) (hx : env.kindOf x = some .globalImplicit := by rfl) (hd : (x == ("__debug__" : Str)) = false := by decide) :
    wpAny (model prog w) A (eval (.Name x pos) env) Q E s :=
  Calls.Name_function_global hk hx (Calls.loadGlobal_builtin (env := env) (by rw [hg]; exact G.g) (mg_none_of G.inK G.g e) (by rw [hb]; exact G.b) ((G.bi x hn).trans hv) h) hd

theorem lname {x : Str} {pos : Pos} {v : Value} {m : Str → Option Value} {Q : Value → Shared → Prop} (hn : s.heap.Ns env.locals m) (hv : m x = some v) (h : Q v s)
    (hk : env.scope.kind = .function := by rfl) (hx : env.kindOf x = some .local := by rfl) (hd : (x == ("__debug__" : Str)) = false := by decide) :
    wpAny (model prog w) A (eval (.Name x pos) env) Q E s := wpAny_Name (wpAny_loadName_local hk hx hn hv h) hd
end

theorem ifmt_ok {w : World} {A : Around} {E : Value → Shared → Prop} {s : Shared} {mg mb : Str → Option Value} {x : Int} {t : Tok} {Q : Value → Shared → Prop} (G : Gl w mg mb s.heap) (hroom : A.depth < recursionLimit)
    (h : ∀ h' tk u, (∀ b o, s.heap.get? b = some o → h'.get? b = some o) → Q (.int (Builtin.bitAnd x 61440) u) { s with heap := h', toks := tk }) :
    wpAny (model PR w) A (call (.ref 28) [.int x t]) Q E s := by
  refine wpAny_call (codeAny_call_def hroom (G.inK _ _ (by rfl)) rfl G.lim (codeRec_of G.inK (by kernel_rfl)) rfl (BindsTo.of_eq rfl) (by decide) (locs rfl) ?_)
  intro h₀ hn hk
  refine wpAny_execs_cons (wpAny_Return_some (wpAny_BinOp (lname hn rfl (wpAny_Constant_int (and_int ?_)))))
  exact h _ _ _ hk
end Mine

namespace Mine

/-- all is kept but at two places -/
def KB (L P : Addr) (h h' : Heap) : Prop := ∀ b o, b ≠ L → b ≠ P → h.get? b = some o → h'.get? b = some o
theorem KB.refl {L P : Addr} {h : Heap} : KB L P h h := fun _ _ _ _ e => e
theorem KB.trans {L P : Addr} {h h' h'' : Heap} (a : KB L P h h') (b : KB L P h' h'') : KB L P h h'' := fun x o hL hP e => b x o hL hP (a x o hL hP e)
theorem KB.of {L P : Addr} {h h' : Heap} (a : ∀ b o, h.get? b = some o → h'.get? b = some o) : KB L P h h' := fun x o _ _ e => a x o e
theorem KB.sameL {L P : Addr} {h h' : Heap} (a : Heap.SameBut L h h') : KB L P h h' := fun x o hL _ e => a.extBut x o hL e
theorem KB.sameP {L P : Addr} {h h' : Heap} (a : Heap.SameBut P h h') : KB L P h h' := fun x o _ hP e => a.extBut x o hP e

section
variable {prog : Program} {w : World} {A : Around} {E : Value → Shared → Prop} {s : Shared} {env : Env}

/-- two names bound from a pair -/
theorem assign_pair {x1 x2 : Str} {p1 p2 pt : Pos} {k : Nat} {a : Addr} {v1 v2 : Value} {m : Str → Option Value} {Q : Unit → Shared → Prop} (hh : A.handled = none)
    (ha : s.heap.IsTuple a #[v1, v2]) (hn : s.heap.Ns env.locals m) (hx1 : env.kindOf x1 = some .local) (hx2 : env.kindOf x2 = some .local)
    (hp : (env.scope.kind == .class || (env.scope.kind == .module && env.locals != env.globals)) = false)
    (h : ∀ h' tk, h'.Ns env.locals (fun y => if y = x2 then some v2 else if y = x1 then some v1 else m y) → (∀ b o, b ≠ env.locals → s.heap.get? b = some o → h'.get? b = some o) → Q () { s with heap := h', toks := tk }) :
    wpAny (model prog w) A (assign (.Tuple [.Name x1 p1, .Name x2 p2] k pt) env (.ref a)) Q E s := by
  refine wpAny_assign_Tuple hh ha rfl rfl fun h₃ hx₃ => ?_
  replace hx₃ : Heap.ExtBut s.heap.objs.size s.heap h₃ := hx₃
  have old₃ : ∀ b o, s.heap.get? b = some o → h₃.get? b = some o := fun b o e => hx₃ b o (Nat.ne_of_lt (Heap.lt_size e)) e
  show wpAny _ A (do holding [v2] (assign (.Name x1 p1) env v1); do holding [] (assign (.Name x2 p2) env v2); pure ()) _ _ _
  refine wpAny_bind (wpAny_holding (wpAny_assign_Name (wpAny_storeName_local hx1 (hn.keeps old₃) (fun h₄ hn₄ hs₄ => ?_) hp)))
  replace hs₄ : Heap.SameBut env.locals h₃ h₄ := hs₄
  refine wpAny_bind (wpAny_holding (wpAny_assign_Name (wpAny_storeName_local hx2 hn₄ (fun h₅ hn₅ hs₅ => wpAny_pure ?_) hp)))
  replace hs₅ : Heap.SameBut env.locals h₄ h₅ := hs₅
  exact h h₅ _ hn₅ fun b o hb e => hs₅.extBut b o hb (hs₄.extBut b o hb (old₃ b o e))

theorem go_tupleiter {elts : List PySem.Expr} {k : Nat} {pos : Pos} {I l T : Addr} {i : Nat} {Q : Unit → Shared → Prop} (hit : s.heap.IsTupleIter I l i) (hQ : Q () s) :
    wpAny (model prog w) A (letOwnedTupleGo (.Tuple elts k pos) (.ref I) (.ref T)) Q E s := by
  obtain ⟨o, ho, hc, hd⟩ := hit
  unfold letOwnedTupleGo
  refine wpAny_bind (wpAny_load ho ?_)
  rw [hc, hd]
  exact wpAny_ite (by rw [if_neg (by simp)]; exact wpAny_pure hQ)

/-- for x1, x2 in a tuple of pairs: a turn goes on or breaks by a test of the pair's first -/
theorem for_pairs {x1 x2 : Str} {p1 p2 pt pos : Pos} {k : Nat} {iter : PySem.Expr} {body orelse : List Stmt} {T : Addr} {vs : List Value} {ps : List (Int × Str)} {m : Str → Option Value} {Q : Flow → Shared → Prop} (c : Int → Bool)
    (hh : A.handled = none) (hx1 : env.kindOf x1 = some .local) (hx2 : env.kindOf x2 = some .local)
    (hp : (env.scope.kind == .class || (env.scope.kind == .module && env.locals != env.globals)) = false)
    (heval : wpAny (model prog w) A (eval iter env) (fun v s₁ => v = .ref T ∧ s₁ = s) E s) (hs : ∀ x, foldedSetIterable iter env x = pure x)
    (hT : s.heap.IsTuple T vs.toArray) (hTL : T ≠ env.locals) (hlen : vs.length = ps.length)
    (hps : ∀ (i : Nat) (p : Int × Str), ps[i]? = some p → ∃ a t u, vs[i]? = some (.ref a) ∧ a ≠ env.locals ∧ s.heap.IsTuple a #[.int p.1 t, .str p.2 u])
    (hn : s.heap.Ns env.locals m)
    (turn : ∀ (i : Nat) (p : Int × Str) (t u : Tok) (h : Heap) (tk : Nat) (m₁ : Str → Option Value), ps[i]? = some p → (∀ q ∈ ps.take i, c q.1 = false) → (∀ z, z ≠ x1 → z ≠ x2 → m₁ z = m z) →
      h.Ns env.locals (fun y => if y = x2 then some (.str p.2 u) else if y = x1 then some (.int p.1 t) else m₁ y) → (∀ b o, b ≠ env.locals → s.heap.get? b = some o → h.get? b = some o) →
      wpAny (model prog w) A (execs body env) (fun f s₂ => (c p.1 = false ∧ f = .next ∧ ∃ h' tk' m', s₂ = { s with heap := h', toks := tk' } ∧ h'.Ns env.locals m' ∧ (∀ z, z ≠ x1 → z ≠ x2 → m' z = m z) ∧ (∀ b o, b ≠ env.locals → h.get? b = some o → h'.get? b = some o)) ∨
        (c p.1 = true ∧ f = .brk ∧ Q .next s₂)) (fun _ _ => False) { s with heap := h, toks := tk })
    (els : ∀ (h : Heap) (tk : Nat) (m₁ : Str → Option Value), (∀ q ∈ ps, c q.1 = false) → (∀ z, z ≠ x1 → z ≠ x2 → m₁ z = m z) → h.Ns env.locals m₁ → (∀ b o, b ≠ env.locals → s.heap.get? b = some o → h.get? b = some o) →
      wpAny (model prog w) A (execs orelse env) Q (fun _ _ => False) { s with heap := h, toks := tk }) :
    wpAny (model prog w) A (exec (.For (.Tuple [.Name x1 p1, .Name x2 p2] k pt) iter body orelse pos) env) Q E s := by
  refine wpAny_For (wpAny_mono heval (fun v s₁ h₁ => ?_) fun _ _ e => e) hs
  obtain ⟨rfl, rfl⟩ := h₁
  have hTlt : @LT.lt Nat _ T s₁.heap.objs.size := by obtain ⟨_, e, _⟩ := hT; exact ltS e
  have hLlt : @LT.lt Nat _ env.locals s₁.heap.objs.size := by obtain ⟨_, _, _, e, _⟩ := hn; exact ltS e
  refine wpAny_pyIter_tuple hT ?_
  generalize hI : s₁.heap.objs.size = I at *
  have hTI : T ≠ I := neA (.inl hTlt)
  have hLI : env.locals ≠ I := neA (.inl hLlt)
  have nI : ∀ b o, s₁.heap.get? b = some o → b ≠ I := fun b o e => neA (.inl (hI ▸ ltS e))
  refine codeAny_forLoop_any
    (fun q s' => ∃ h' tk m' i, s' = { s₁ with heap := h', toks := tk } ∧ h'.IsTupleIter I T i ∧ h'.Ns env.locals m' ∧ (∀ z, z ≠ x1 → z ≠ x2 → m' z = m z) ∧ (∀ q ∈ ps.take i, c q.1 = false) ∧ i ≤ ps.length ∧ q = ps.length + 1 - i ∧
      (∀ b o, b ≠ env.locals → s₁.heap.get? b = some o → h'.get? b = some o)) ?_ (ps.length + 1)
    ⟨_, s₁.toks, m, 0, rfl, ⟨_, by rw [← hI]; exact Heap.get?_push_size _ rfl, rfl, rfl⟩, hn.keeps fun b o e => Heap.get?_push_of_some _ e, fun _ _ _ => rfl, by simp, Nat.zero_le _, rfl, fun b o _ e => Heap.get?_push_of_some _ e⟩
  rintro q s' ⟨H, tk, m', i, rfl, hit, hn', hm', hno, hi, rfl, hk⟩
  have hT' : H.IsTuple T vs.toArray := hT.at fun o e => hk T o hTL e
  by_cases hlt : i < ps.length
  · obtain ⟨p, hpi⟩ : ∃ p, ps[i]? = some p := ⟨ps[i], by simp [hlt]⟩
    obtain ⟨a, t, u, hv, haL, hta⟩ := hps i p hpi
    refine wpAny_pyNext_tuple_item hit hT' (x := .ref a) (by simpa using hv) fun h₁ hit₁ hs₁ => ?_
    refine go_tupleiter hit₁ ?_
    replace hs₁ : Heap.SameBut I H h₁ := hs₁
    have k1 : ∀ b o, b ≠ env.locals → s₁.heap.get? b = some o → h₁.get? b = some o := fun b o hb e => hs₁.extBut b o (nI b o e) (hk b o hb e)
    refine assign_pair hh (hta.at fun o e => k1 a o haL e) (hn'.sameBut hs₁ hLI) hx1 hx2 hp fun h₂ tk₂ hn₂ hk₂ => ?_
    refine wpAny_mono (turn i p t u h₂ tk₂ m' hpi hno hm' hn₂ fun b o hb e => hk₂ b o hb (k1 b o hb e)) (fun f s₂ hs₂ => ?_) fun _ _ x => x.elim
    rcases hs₂ with ⟨hc, rfl, h', tk', m₃, rfl, hn₃, hm₃, hk₃⟩ | ⟨_, rfl, hQ⟩
    · refine ⟨ps.length + 1 - (i + 1), by omega, h', tk', m₃, i + 1, rfl, ?_, hn₃, hm₃, ?_, hlt, rfl, fun b o hb e => hk₃ b o hb (hk₂ b o hb (k1 b o hb e))⟩
      · exact hit₁.at fun o e => hk₃ I o (Ne.symm hLI) (hk₂ I o (Ne.symm hLI) e)
      · intro q hq
        rw [List.take_add_one, hpi] at hq
        rcases List.mem_append.mp hq with hq | hq
        · exact hno q hq
        · simp at hq; subst hq; exact hc
    · exact hQ
  · have hin : i = ps.length := by omega
    subst hin
    refine wpAny_pyNext_tuple_end hh hit hT' (by simp [hlen]) fun h₁ he₁ => ?_
    replace he₁ : Heap.ExtBut I H h₁ := he₁
    refine wpAny_mono (els h₁ tk m' (by simpa using hno) hm' (hn'.at' fun o e => he₁ _ o hLI e) fun b o hb e => he₁ b o (nI b o e) (hk b o hb e)) (fun f s₂ hf => ?_) fun _ _ x => x.elim
    exact hf

/-- for x1, x2 in enumerate(a tuple): the turns fill one list -/
theorem for_enum {x1 x2 : Str} {p1 p2 pt pos : Pos} {k : Nat} {iter : PySem.Expr} {body : List Stmt} {T P : Addr} {vs : List Value} {cs : List Str} {m : Str → Option Value} {names : List Str} {Q : Flow → Shared → Prop}
    (hh : A.handled = none) (hx1 : env.kindOf x1 = some .local) (hx2 : env.kindOf x2 = some .local)
    (hp : (env.scope.kind == .class || (env.scope.kind == .module && env.locals != env.globals)) = false)
    (heval : wpAny (model prog w) A (eval iter env) (fun v s₁ => ∃ h' tk, IsEnum h' (s.heap.objs.size + 1) s.heap.objs.size 0 .none ∧ h'.IsTupleIter s.heap.objs.size T 0 ∧ (∀ b o, s.heap.get? b = some o → h'.get? b = some o) ∧ v = .ref (s.heap.objs.size + 1) ∧ s₁ = { s with heap := h', toks := tk }) E s)
    (hs : ∀ x, foldedSetIterable iter env x = pure x)
    (hT : s.heap.IsTuple T vs.toArray) (hTL : T ≠ env.locals) (hTP : T ≠ P) (hPL : P ≠ env.locals) (hlen : vs.length = cs.length)
    (hn : s.heap.Ns env.locals m) {ys₀ : Array Value} (hP : s.heap.PlainList P ys₀) (hys : ys₀ = #[])
    (turn : ∀ (i : Nat) (v : Value) (t : Tok) (h : Heap) (tk : Nat) (m₁ : Str → Option Value) (ys : Array Value), vs[i]? = some v → (∀ z ∈ names, m₁ z = m z) →
      h.Ns env.locals (fun y => if y = x2 then some v else if y = x1 then some (.int i t) else m₁ y) → h.PlainList P ys → StrsAre ys.toList (cs.take i) → KB env.locals P s.heap h →
      wpAny (model prog w) A (execs body env) (fun f s₂ => f = .next ∧ ∃ h' tk' m' ys', s₂ = { s with heap := h', toks := tk' } ∧ h'.Ns env.locals m' ∧ (∀ z ∈ names, m' z = m z) ∧ h'.PlainList P ys' ∧ StrsAre ys'.toList (cs.take (i + 1)) ∧ KB env.locals P h h') (fun _ _ => False) { s with heap := h, toks := tk })
    (done : ∀ (h : Heap) (tk : Nat) (m₁ : Str → Option Value) (ys : Array Value), (∀ z ∈ names, m₁ z = m z) → h.Ns env.locals m₁ → h.PlainList P ys → StrsAre ys.toList cs → KB env.locals P s.heap h → Q .next { s with heap := h, toks := tk }) :
    wpAny (model prog w) A (exec (.For (.Tuple [.Name x1 p1, .Name x2 p2] k pt) iter body [] pos) env) Q E s := by
  subst hys
  refine wpAny_For (wpAny_mono heval (fun v s₁ h₁ => ?_) fun _ _ e => e) hs
  obtain ⟨h0, tk0, he0, hi0, hk0, rfl, rfl⟩ := h₁
  have hTlt : @LT.lt Nat _ T s.heap.objs.size := by obtain ⟨_, e, _⟩ := hT; exact ltS e
  have hLlt : @LT.lt Nat _ env.locals s.heap.objs.size := by obtain ⟨_, _, _, e, _⟩ := hn; exact ltS e
  have hPlt : @LT.lt Nat _ P s.heap.objs.size := by obtain ⟨_, e⟩ := hP; exact ltS e
  generalize hI : s.heap.objs.size = I at *
  have W := WalksT.enumerateD (A := A) (draws_tuple (prog := prog) (w := w) (A := A.in1) hh I T (neA (.inl hTlt)) vs.toArray) (I + 1) (neA (.inr (Nat.lt_succ_self _)))
    (by
      intro hm
      rcases List.mem_cons.mp hm with e | hm
      · exact absurd e (neA (.inr (Nat.lt_succ_self _)))
      · exact absurd (List.mem_singleton.mp hm) (neA (.inr (Nat.lt_succ_of_lt hTlt)))) (by simp)
  have fpL : env.locals ∉ [I + 1, I, T] := by
    intro hm
    rcases List.mem_cons.mp hm with e | hm
    · exact absurd e (neA (.inl (Nat.lt_succ_of_lt hLlt)))
    · rcases List.mem_cons.mp hm with e | hm
      · exact absurd e (neA (.inl hLlt))
      · exact absurd (List.mem_singleton.mp hm) (Ne.symm hTL)
  have fpP : P ∉ [I + 1, I, T] := by
    intro hm
    rcases List.mem_cons.mp hm with e | hm
    · exact absurd e (neA (.inl (Nat.lt_succ_of_lt hPlt)))
    · rcases List.mem_cons.mp hm with e | hm
      · exact absurd e (neA (.inl hPlt))
      · exact absurd (List.mem_singleton.mp hm) (Ne.symm hTP)
  have nw : ∀ b o, s.heap.get? b = some o → b ∉ [I + 1, I] := fun b o e hm => by
    have := ltS e
    rcases List.mem_cons.mp hm with e | hm
    · exact absurd e (neA (.inl (by omega)))
    · exact absurd (List.mem_singleton.mp hm) (neA (.inl (by omega)))
  refine wpAny_pyIter_enum he0 ?_
  refine codeAny_forLoop_any
    (fun q s' => ∃ h' tk m' ys i, s' = { s with heap := h', toks := tk } ∧ ((∃ old, IsEnum h' (I + 1) I (i : Nat) old) ∧ h'.IsTupleIter I T i ∧ h'.IsTuple T vs.toArray) ∧ h'.Ns env.locals m' ∧ (∀ z ∈ names, m' z = m z) ∧ h'.PlainList P ys ∧ StrsAre ys.toList (cs.take i) ∧ i ≤ cs.length ∧ q = cs.length + 1 - i ∧
      KB env.locals P s.heap h') ?_ (cs.length + 1)
    ⟨h0, tk0, m, #[], 0, rfl, ⟨⟨_, he0⟩, hi0, hT.at fun o e => hk0 T o e⟩, hn.keeps hk0, fun _ _ => rfl, hP.at fun o e => hk0 _ o e, by simpa using StrsAre.nil, Nat.zero_le _, rfl, .of hk0⟩
  rintro q s' ⟨H, tk, m', ys, i, rfl, hst, hn', hm', hP', hS, hi, rfl, hk⟩
  have hz : vs.toArray.size = cs.length := by simp [hlen]
  by_cases hlt : i < cs.length
  · refine W.item i _ _ _ (by rw [hz]; exact hlt) hst fun T' vals h₁ tk₁ hPt _ hT' hmid hk₁ => ?_
    obtain ⟨t, v, hv, rfl⟩ := hPt
    replace hv : vs[i]? = some v := by simpa using hv
    have k1 : ∀ b o, b ∉ [I + 1, I] → H.get? b = some o → h₁.get? b = some o := hk₁
    have hTw : T' ∉ [I + 1, I] := W.apart _ _ _ hmid
    refine W.go _ _ _ i T' _ _ _ hmid fun h₂ hst₂ hk₂ => ?_
    replace hk₂ : ∀ b o, b ∉ [I + 1, I] → h₁.get? b = some o → h₂.get? b = some o := hk₂
    have hL2 : env.locals ∉ [I + 1, I] := fun hm => fpL (by simp at hm ⊢; rcases hm with h | h <;> simp [h])
    have hP2 : P ∉ [I + 1, I] := fun hm => fpP (by simp at hm ⊢; rcases hm with h | h <;> simp [h])
    have hn₂ : h₂.Ns env.locals m' := hn'.at' fun o e => hk₂ _ o hL2 (k1 _ o hL2 e)
    refine assign_pair hh (hT'.at fun o e => hk₂ T' o hTw e) hn₂ hx1 hx2 hp fun h₃ tk₃ hn₃ hk₃ => ?_
    have hP₃ : h₃.PlainList P ys := hP'.at fun o e => hk₃ _ o hPL (hk₂ _ o hP2 (k1 _ o hP2 e))
    refine wpAny_mono (turn i v t h₃ tk₃ m' ys hv hm' hn₃ hP₃ hS fun b o hb hbP e => ?_) (fun f s₂ hs₂ => ?_) fun _ _ x => x.elim
    · exact hk₃ b o hb (hk₂ b o (nw b o e) (k1 b o (nw b o e) (hk b o hb hbP e)))
    obtain ⟨rfl, h', tk', m₄, ys', rfl, hn₄, hm₄, hP₄, hS₄, hk₄⟩ := hs₂
    refine ⟨cs.length + 1 - (i + 1), by omega, h', tk', m₄, ys', i + 1, rfl, ?_, hn₄, hm₄, hP₄, hS₄, hlt, rfl, fun b o hb hbP e => ?_⟩
    · refine W.frame _ _ _ hst₂ fun b hb o e => ?_
      exact hk₄ b o (fun q => fpL (q ▸ hb)) (fun q => fpP (q ▸ hb)) (hk₃ b o (fun q => fpL (q ▸ hb)) e)
    · exact hk₄ b o hb hbP (hk₃ b o hb (hk₂ b o (nw b o e) (k1 b o (nw b o e) (hk b o hb hbP e))))
  · have hin : i = cs.length := by omega
    subst hin
    refine W.done _ _ _ (by rw [hz]; exact hst) fun h₁ tk₁ hk₁ => ?_
    replace hk₁ : ∀ b o, b ∉ [I + 1, I] → H.get? b = some o → h₁.get? b = some o := hk₁
    have hL2 : env.locals ∉ [I + 1, I] := fun hm => fpL (by simp at hm ⊢; rcases hm with h | h <;> simp [h])
    have hP2 : P ∉ [I + 1, I] := fun hm => fpP (by simp at hm ⊢; rcases hm with h | h <;> simp [h])
    refine wpAny_execs_nil (done h₁ tk₁ m' ys hm' (hn'.at' fun o e => hk₁ _ o hL2 e) (hP'.at fun o e => hk₁ _ o hP2 e) (by simpa using hS) fun b o hb hbP e => hk₁ b o (nw b o e) (hk b o hb hbP e))
end
end Mine

namespace Mine

section
variable {prog : Program} {w : World} {A : Around} {E : Value → Shared → Prop} {s : Shared} {env : Env}

theorem noDict_plain {h : Heap} {P : Addr} {ys : Array Value} (hP : h.PlainList P ys) : ∀ a, Value.ref P = .ref a → ∃ ob, h.get? a = some ob ∧ ob.dict = none := fun a e => by
  cases e
  obtain ⟨n, ho⟩ := hP
  exact ⟨_, ho, rfl⟩

/-- xl.append(e), e a text -/
theorem append_stmt {xl : Str} {e : PySem.Expr} {p ap pos spos : Pos} {m : Str → Option Value} {P : Addr} {ys : Array Value} {x : Str} {Q : Flow → Shared → Prop}
    (hn : s.heap.Ns env.locals m) (hv : m xl = some (.ref P)) (hP : s.heap.PlainList P ys) (hsz : ys.size ≤ sizeLine)
    (he : wpAny (model prog w) A (eval e env) (fun v s₁ => ∃ t tk, v = .str x t ∧ s₁ = { s with toks := tk }) E s)
    (h : ∀ h' t tk, h'.PlainList P (ys.push (.str x t)) → Heap.SameBut P s.heap h' → Q .next { s with heap := h', toks := tk })
    (hk : env.scope.kind = .function := by rfl) (hx : env.kindOf xl = some .local := by rfl) (hd : (xl == ("__debug__" : Str)) = false := by decide)
    (hstar : starEach [e] env = [(false, eval e env)] := by rfl) (hline : (ap.endLine == pos.line) = true := by rfl) (hi : interactive env = false := by rfl) :
    wpAny (model prog w) A (exec (.Expr (.Call (.Attribute (.Name xl p) (Str.ofString "append") ap) [e] [] pos) spos) env) Q E s := by
  refine wpAny_Expr ?_ hi rfl
  refine Call_method1 rfl hstar hline (wpAny_Name (wpAny_loadName_local hk hx hn hv ?_) hd)
  refine ⟨"list", "list.append", F.plainAttrs_list, F.slot_list_append, F.type_list_append, hP.isList.typeIs, noDict_plain hP, ?_⟩
  refine Calls.callWith_builtin rfl (Calls.evalArgs_plain (Calls.spliced_cons (wpAny_mono he (fun v s₁ h₁ => Calls.spliced_nil ?_) fun _ _ e => e)))
  obtain ⟨t, tk, rfl, rfl⟩ := h₁
  exact wpAny_list_append_plain (hsz := hsz) hP fun h' hp' hs' => h h' t tk hp' hs'
end

section
variable {M : Model} {A : Around} {E : Value → Shared → Prop} {s : Shared} {Q : Value → Shared → Prop} {pos : Pos} {a : Addr} {o : Obj} {fd : FuncData}
theorem callWith_fn1 {t : Sem Value} (h : wpAny M A t (fun v s₁ => (s₁.heap.get? a = some o ∧ o.data = .func fd) ∧ wpAny M A (call (.ref a) [v]) Q E s₁) E s) :
    wpAny M A (callWith pos (.ref a) [] [(false, t)] []) Q E s :=
  Calls.callWith_function (Calls.evalArgs_plain (Calls.spliced_cons (wpAny_mono h (fun _ _ h₁ => Calls.spliced_nil h₁) fun _ _ e => e)))
theorem callWith_fn2 {t u : Sem Value} (h : wpAny M A t (fun v s₁ => wpAny M A u (fun v' s₂ => (s₂.heap.get? a = some o ∧ o.data = .func fd) ∧ wpAny M A (call (.ref a) [v, v']) Q E s₂) E s₁) E s) :
    wpAny M A (callWith pos (.ref a) [] [(false, t), (false, u)] []) Q E s :=
  Calls.callWith_function (Calls.evalArgs_plain (Calls.spliced_cons (wpAny_mono h (fun _ _ h₁ => Calls.spliced_cons (wpAny_mono h₁ (fun _ _ h₂ => Calls.spliced_nil h₂) fun _ _ e => e)) fun _ _ e => e)))
theorem callWith_fn3 {t u r : Sem Value} (h : wpAny M A t (fun v s₁ => wpAny M A u (fun v' s₂ => wpAny M A r (fun v'' s₃ => (s₃.heap.get? a = some o ∧ o.data = .func fd) ∧ wpAny M A (call (.ref a) [v, v', v'']) Q E s₃) E s₂) E s₁) E s) :
    wpAny M A (callWith pos (.ref a) [] [(false, t), (false, u), (false, r)] []) Q E s :=
  Calls.callWith_function (Calls.evalArgs_plain (Calls.spliced_cons (wpAny_mono h (fun _ _ h₁ => Calls.spliced_cons (wpAny_mono h₁ (fun _ _ h₂ => Calls.spliced_cons (wpAny_mono h₂ (fun _ _ h₃ => Calls.spliced_nil h₃) fun _ _ e => e)) fun _ _ e => e)) fun _ _ e => e)))
end

def S1 (n : Nat) : Str := ⟨#[n]⟩
def tabs : List (List (Int × Str)) :=
  [[(40960, S1 108), (49152, S1 115), (32768, S1 45), (24576, S1 98), (16384, S1 100), (8192, S1 99), (4096, S1 112)],
   [(256, S1 114)], [(128, S1 119)], [(2112, S1 115), (2048, S1 83), (64, S1 120)],
   [(32, S1 114)], [(16, S1 119)], [(1032, S1 115), (1024, S1 83), (8, S1 120)],
   [(4, S1 114)], [(2, S1 119)], [(513, S1 116), (512, S1 84), (1, S1 120)]]
def condF (j : Nat) (M b : Int) : Bool := if j = 0 then Builtin.bitAnd M 61440 == b else Builtin.bitAnd M b == b
def pickF (j : Nat) (M : Int) (ps : List (Int × Str)) : Str := ((ps.find? fun p => condF j M p.1).map (·.2)).getD (if j = 0 then S1 63 else S1 45)
def modeChars (M : Int) : List Str := tabs.zipIdx.map fun p => pickF p.2 M p.1

def tabRefs : List Value := [.ref 36, .ref 38, .ref 40, .ref 44, .ref 46, .ref 48, .ref 52, .ref 54, .ref 56, .ref 60]

theorem k_tuple {w : World} {h : Heap} (X : (KF w).In h) {a : Addr} {items : Array Value} (e : (KF w).lookup a = some { cls := .type "tuple", data := .seq items 0 }) : h.IsTuple a items := ⟨_, X _ _ e, rfl, _, rfl⟩

def PairsAt (h : Heap) (ws : List Value) (ps : List (Int × Str)) : Prop :=
  ws.length = ps.length ∧ ∀ (j : Nat) (p : Int × Str), ps[j]? = some p → ∃ a t u, ws[j]? = some (.ref a) ∧ h.IsTuple a #[.int p.1 t, .str p.2 u]

theorem PairsAt.nil {h : Heap} : PairsAt h [] [] := ⟨rfl, fun j p e => by simp at e⟩
theorem PairsAt.cons {h : Heap} {a : Addr} {p : Int × Str} {t u : Tok} {ws : List Value} {ps : List (Int × Str)} (ha : h.IsTuple a #[.int p.1 t, .str p.2 u]) (r : PairsAt h ws ps) : PairsAt h (.ref a :: ws) (p :: ps) := by
  refine ⟨by simp [r.1], fun j q e => ?_⟩
  cases j with
  | zero => simp at e; subst e; exact ⟨a, t, u, rfl, ha⟩
  | succ j => simpa using r.2 j q (by simpa using e)

theorem tab_top {w : World} {h : Heap} (X : (KF w).In h) : h.IsTuple 61 tabRefs.toArray := k_tuple X (by rfl)

theorem tab_at {w : World} {h : Heap} (X : (KF w).In h) (i : Nat) (v : Value) (hv : tabRefs[i]? = some v) : ∃ T ws ps, v = .ref T ∧ tabs[i]? = some ps ∧ h.IsTuple T ws.toArray ∧ PairsAt h ws ps := by
  rcases i with _ | _ | _ | _ | _ | _ | _ | _ | _ | _ | i
  · cases hv
    exact ⟨36, _, _, rfl, rfl, k_tuple X (by rfl), .cons (k_tuple X (a := 29) (by rfl)) (.cons (k_tuple X (a := 30) (by rfl)) (.cons (k_tuple X (a := 31) (by rfl)) (.cons (k_tuple X (a := 32) (by rfl)) (.cons (k_tuple X (a := 33) (by rfl)) (.cons (k_tuple X (a := 34) (by rfl)) (.cons (k_tuple X (a := 35) (by rfl)) .nil))))))⟩
  · cases hv; exact ⟨38, _, _, rfl, rfl, k_tuple X (by rfl), .cons (k_tuple X (a := 37) (by rfl)) .nil⟩
  · cases hv; exact ⟨40, _, _, rfl, rfl, k_tuple X (by rfl), .cons (k_tuple X (a := 39) (by rfl)) .nil⟩
  · cases hv; exact ⟨44, _, _, rfl, rfl, k_tuple X (by rfl), .cons (k_tuple X (a := 41) (by rfl)) (.cons (k_tuple X (a := 42) (by rfl)) (.cons (k_tuple X (a := 43) (by rfl)) .nil))⟩
  · cases hv; exact ⟨46, _, _, rfl, rfl, k_tuple X (by rfl), .cons (k_tuple X (a := 45) (by rfl)) .nil⟩
  · cases hv; exact ⟨48, _, _, rfl, rfl, k_tuple X (by rfl), .cons (k_tuple X (a := 47) (by rfl)) .nil⟩
  · cases hv; exact ⟨52, _, _, rfl, rfl, k_tuple X (by rfl), .cons (k_tuple X (a := 49) (by rfl)) (.cons (k_tuple X (a := 50) (by rfl)) (.cons (k_tuple X (a := 51) (by rfl)) .nil))⟩
  · cases hv; exact ⟨54, _, _, rfl, rfl, k_tuple X (by rfl), .cons (k_tuple X (a := 53) (by rfl)) .nil⟩
  · cases hv; exact ⟨56, _, _, rfl, rfl, k_tuple X (by rfl), .cons (k_tuple X (a := 55) (by rfl)) .nil⟩
  · cases hv; exact ⟨60, _, _, rfl, rfl, k_tuple X (by rfl), .cons (k_tuple X (a := 57) (by rfl)) (.cons (k_tuple X (a := 58) (by rfl)) (.cons (k_tuple X (a := 59) (by rfl)) .nil))⟩
  · simp [tabRefs] at hv

theorem find_at {c : Int → Bool} {ps : List (Int × Str)} {i : Nat} {p : Int × Str} (hp : ps[i]? = some p) (hno : ∀ q ∈ ps.take i, c q.1 = false) (hc : c p.1 = true) : ps.find? (fun q => c q.1) = some p := by
  induction ps generalizing i with
  | nil => simp at hp
  | cons q r ih =>
    cases i with
    | zero => simp at hp; subst hp; simp [hc]
    | succ i =>
      have hq : c q.1 = false := hno q (by simp)
      simp only [List.find?_cons, hq]
      exact ih (by simpa using hp) fun q' hq' => hno q' (by simp [hq'])
theorem find_none {c : Int → Bool} {ps : List (Int × Str)} (hno : ∀ q ∈ ps, c q.1 = false) : ps.find? (fun q => c q.1) = none := by
  rw [List.find?_eq_none]; intro q hq; simp [hno q hq]

theorem chars_at {M : Int} {i : Nat} {ps : List (Int × Str)} (h : tabs[i]? = some ps) : (modeChars M)[i]? = some (pickF i M ps) := by
  unfold modeChars
  rw [List.getElem?_map, List.getElem?_zipIdx, h]; simp
theorem chars_len (M : Int) : (modeChars M).length = 10 := rfl

theorem strs_snoc {ys : Array Value} {cs : List Str} {i : Nat} {c : Str} {t : Tok} (h : StrsAre ys.toList (cs.take i)) (hc : cs[i]? = some c) : StrsAre (ys.push (.str c t)).toList (cs.take (i + 1)) := by
  rw [List.take_add_one, hc]; exact strs_push h

theorem strs_values : ∀ {vs : List Value} {xs : List Str}, StrsAre vs xs → ∃ l : List (Str × Tok), vs = strValues l ∧ l.map (·.1) = xs
  | _, _, .nil => ⟨[], rfl, rfl⟩
  | _, _, .cons y t r => by
    obtain ⟨l, rfl, rfl⟩ := strs_values r
    exact ⟨(y, t) :: l, rfl, rfl⟩

theorem chars_one (M : Int) : ∀ y ∈ modeChars M, y.length ≤ 1 := by
  have ht : ∀ ps ∈ tabs, ∀ p ∈ ps, p.2.length = 1 := by decide
  intro y hy
  obtain ⟨⟨ps, j⟩, hp, rfl⟩ := List.mem_map.mp hy
  have hps : ps ∈ tabs := (List.mem_zipIdx hp).2.2 ▸ List.getElem_mem _
  show (pickF j M ps).length ≤ 1
  unfold pickF
  cases hf : ps.find? fun p => condF j M p.1 with
  | some p => exact Nat.le_of_eq (ht ps hps p (List.mem_of_find?_eq_some hf))
  | none => show (if j = 0 then S1 63 else S1 45).length ≤ 1; split <;> decide

set_option maxHeartbeats 2000000 in
theorem filemode_ok {w : World} {A : Around} {E : Value → Shared → Prop} {s : Shared} {mg mb : Str → Option Value} {M : Int} {t : Tok} {Q : Value → Shared → Prop} (G : Gl w mg mb s.heap) (hh : A.handled = none) (hroom : A.depth + 1 < recursionLimit)
    (h : ∀ h' tk u, (∀ b o, s.heap.get? b = some o → h'.get? b = some o) → Q (.str (Txt.join (Str.ofString "") (modeChars M)) u) { s with heap := h', toks := tk }) :
    wpAny (model PR w) A (call (.ref 68) [.int M t]) Q E s := by
  refine wpAny_call (codeAny_call_def (by omega) (G.inK _ _ (by rfl)) rfl G.lim (codeRec_of G.inK (by kernel_rfl)) rfl (BindsTo.of_eq rfl) (by decide) (locs rfl) ?_)
  intro h₀ hn hk
  have hL : ∀ b o, s.heap.get? b = some o → b ≠ s.heap.objs.size := fun b o e => Nat.ne_of_lt (Heap.lt_size e)
  -- perm = []
  refine wpAny_execs_cons (wpAny_Assign_Name (List_ (Calls.spliced_nil (wpAny_newList ?_ (by decide)))))
  have hP0 := Heap.get?_push_size h₀ (o := { cls := .type "list", data := .seq ([] : List Value).toArray }) rfl
  have hk1 : ∀ b o, h₀.get? b = some o → (h₀.push { cls := .type "list", data := .seq ([] : List Value).toArray }).get? b = some o := fun b o e => Heap.get?_push_of_some _ e
  have hLlt : @LT.lt Nat _ s.heap.objs.size h₀.objs.size := by obtain ⟨_, _, _, e, _⟩ := hn; exact ltS e
  generalize hP : h₀.objs.size = P at *
  have hPL : P ≠ s.heap.objs.size := neA (.inr hLlt)
  have hPn : ∀ b o, s.heap.get? b = some o → b ≠ P := fun b o e => neA (.inl (Nat.lt_trans (ltS e) hLlt))
  generalize h₀.push { cls := .type "list", data := .seq ([] : List Value).toArray } = h₁ at *
  refine wpAny_storeName_local (by rfl) (hn.keeps hk1) (fun h₂ hn₂ hs₂ => ?_) (by rfl)
  replace hs₂ : Heap.SameBut s.heap.objs.size h₁ h₂ := hs₂
  have k2 : ∀ b o, s.heap.get? b = some o → h₂.get? b = some o := fun b o e => hs₂.extBut b o (hL b o e) (hk1 b o (hk b o e))
  have hP2 : h₂.PlainList P #[] := ⟨_, hs₂.extBut P _ hPL hP0⟩
  have G2 : Gl w mg mb h₂ := G.keeps k2
  obtain ⟨m2, hn2, mp2, mm2⟩ : ∃ m2 : Str → Option Value, h₂.Ns s.heap.objs.size m2 ∧ m2 (Str.ofString "perm") = some (.ref P) ∧ m2 (Str.ofString "mode") = some (.int M t) := ⟨_, hn₂, rfl, rfl⟩
  clear hn₂
  -- the loop
  refine wpAny_execs_cons ?_
  refine for_enum (T := 61) (P := P) (vs := tabRefs) (cs := modeChars M) (names := [Str.ofString "perm", Str.ofString "mode"]) hh (by rfl) (by rfl) (by rfl) ?_ (by intro _; rfl) (tab_top G2.inK) ?_ ?_ hPL (by rfl) hn2 hP2 rfl ?_ ?_
  · refine Call_name1 rfl (bname G2 (by kernel_rfl) boot_enumerate (callWith_type1 (gname (v := .ref 61) G2 (by kernel_rfl) ?_)))
    exact call_enumerate_tuple (tab_top G2.inK) fun h' he hi _ hk' => ⟨h', _, he, hi, hk', rfl, rfl⟩
  · obtain ⟨_, e, _⟩ := tab_top G.inK; exact hL _ _ e
  · obtain ⟨_, e, _⟩ := tab_top G.inK; exact hPn _ _ e
  · intro i v ti h₃ tk₃ m₁ ys hv hm hn₃ hP₃ hS hkb
    obtain ⟨T, ws, ps, rfl, hps, hT, hpa⟩ := tab_at G.inK i v hv
    have hlt : i < 10 := by
      have := (List.getElem?_eq_some_iff.mp hv).1
      exact this
    have hc := chars_at (M := M) hps
    have kb : ∀ b o, s.heap.get? b = some o → h₃.get? b = some o := fun b o e => hkb b o (hL b o e) (hPn b o e) (k2 b o e)
    have G3 : Gl w mg mb h₃ := G.keeps kb
    have mperm : m₁ (Str.ofString "perm") = some (.ref P) := (hm _ (by simp)).trans mp2
    have mmode : m₁ (Str.ofString "mode") = some (.int M t) := (hm _ (by simp)).trans mm2
    have hsz : ys.size ≤ sizeLine := by
      have := hS.length; rw [List.length_take, chars_len] at this
      have e4 : ys.toList.length = ys.size := by simp
      have : sizeLine = 2 ^ 24 := sizeLine_eq
      omega
    refine wpAny_execs_cons ?_
    have fin : ∀ (h' : Heap) (m' : Str → Option Value) (tk' : Nat) (u : Tok), h'.Ns s.heap.objs.size m' → (∀ z, z ≠ Str.ofString "bit" → z ≠ Str.ofString "char" → m' z = (fun y => if y = Str.ofString "table" then some (Value.ref T) else if y = Str.ofString "index" then some (Value.int i ti) else m₁ y) z) → h'.PlainList P (ys.push (.str (pickF i M ps) u)) →
        KB s.heap.objs.size P h₃ h' → (Flow.next = .next ∧ ∃ h'' tk'' m'' ys', ({ s with heap := h', toks := tk' } : Shared) = { s with heap := h'', toks := tk'' } ∧ h''.Ns s.heap.objs.size m'' ∧ (∀ z ∈ [Str.ofString "perm", Str.ofString "mode"], m'' z = m2 z) ∧ h''.PlainList P ys' ∧ StrsAre ys'.toList ((modeChars M).take (i + 1)) ∧ KB s.heap.objs.size P h₃ h'') := by
      intro h' m' tk' u hn' hm' hp' hk'
      refine ⟨rfl, h', tk', m', _, rfl, hn', ?_, hp', strs_snoc hS hc, hk'⟩
      intro z hz
      rw [← hm z hz, hm' z]
      · simp at hz; rcases hz with rfl | rfl <;> rfl
      · simp at hz; rcases hz with rfl | rfl <;> decide
      · simp at hz; rcases hz with rfl | rfl <;> decide
    refine for_pairs (T := T) (vs := ws) (ps := ps) (condF i M) hh (by rfl) (by rfl) (by rfl) (lname hn₃ rfl ⟨rfl, rfl⟩) (by intro _; rfl) (hT.at fun o e => kb T o e) ?_ hpa.1 ?_ hn₃ ?_ ?_
    · obtain ⟨_, e, _⟩ := hT; exact hL _ _ e
    · intro j p hj
      obtain ⟨a, t, u, h1, h2⟩ := hpa.2 j p hj
      exact ⟨a, t, u, h1, by obtain ⟨_, e, _⟩ := h2; exact hL _ _ e, h2.at fun o e => kb a o e⟩
    · intro j p tj uj h₄ tk₄ m₄ hpj hno hm₄ hn₄ hk₄
      have hP₄ : h₄.PlainList P ys := hP₃.at fun o e => hk₄ P o hPL e
      have G4 : Gl w mg mb h₄ := G.keeps fun b o e => hk₄ b o (hL b o e) (kb b o e)
      have n1 : m₄ (Str.ofString "index") = some (.int i ti) := (hm₄ _ (by decide) (by decide)).trans rfl
      have n2 : m₄ (Str.ofString "perm") = some (.ref P) := ((hm₄ _ (by decide) (by decide)).trans rfl).trans mperm
      have n3 : m₄ (Str.ofString "mode") = some (.int M t) := ((hm₄ _ (by decide) (by decide)).trans rfl).trans mmode
      have goon : ∀ (h' : Heap) (tk' : Nat), (∀ b o, h₄.get? b = some o → h'.get? b = some o) → condF i M p.1 = false →
          ((condF i M p.1 = false ∧ Flow.next = .next ∧ ∃ h'' tk'' m', ({ s with heap := h', toks := tk' } : Shared) = { s with heap := h'', toks := tk'' } ∧ h''.Ns s.heap.objs.size m' ∧ (∀ z, z ≠ Str.ofString "bit" → z ≠ Str.ofString "char" → m' z = (fun y => if y = Str.ofString "table" then some (Value.ref T) else if y = Str.ofString "index" then some (Value.int i ti) else m₁ y) z) ∧ (∀ b o, b ≠ s.heap.objs.size → h₄.get? b = some o → h''.get? b = some o))) := by
        intro h' tk' hk' hc'
        refine ⟨hc', rfl, h', tk', _, rfl, hn₄.keeps hk', ?_, fun b o _ e => hk' b o e⟩
        intro z hz1 hz2
        simp only [if_neg hz1, if_neg hz2]; exact hm₄ z hz1 hz2
      have brk : ∀ (h' : Heap) (u : Tok) (tk' : Nat), h'.PlainList P (ys.push (.str p.2 u)) → (∀ b o, b ≠ P → h₄.get? b = some o → h'.get? b = some o) → condF i M p.1 = true →
          (Flow.next = .next ∧ ∃ h'' tk'' m'' ys', ({ s with heap := h', toks := tk' } : Shared) = { s with heap := h'', toks := tk'' } ∧ h''.Ns s.heap.objs.size m'' ∧ (∀ z ∈ [Str.ofString "perm", Str.ofString "mode"], m'' z = m2 z) ∧ h''.PlainList P ys' ∧ StrsAre ys'.toList ((modeChars M).take (i + 1)) ∧ KB s.heap.objs.size P h₃ h'') := by
        intro h' u tk' hp' hs' hc'
        have e : pickF i M ps = p.2 := by unfold pickF; rw [find_at hpj hno hc']; rfl
        refine fin h' _ tk' u (hn₄.at' fun o e => hs' _ o (Ne.symm hPL) e) ?_ (e ▸ hp') (KB.trans (fun b o hb _ e => hk₄ b o hb e) (fun b o _ hb e => hs' b o hb e))
        intro z hz1 hz2
        simp only [if_neg hz1, if_neg hz2]; exact hm₄ z hz1 hz2
      refine wpAny_execs_cons (wpAny_If (wpAny_isTrue_Compare1 (lname hn₄ n1 (wpAny_Constant_int (PyProof.Rows.eq_int (wpAny_truthy_bool ?_))))))
      by_cases hi0 : i = 0
      · subst hi0
        rw [if_pos (by rfl)]
        refine wpAny_execs_cons (wpAny_If (wpAny_isTrue_Compare1 (Call_name1 rfl (gname (v := .ref 28) G4 (by kernel_rfl) (callWith_fn1 (lname hn₄ n3 ⟨⟨G4.inK _ _ (by rfl), rfl⟩, ifmt_ok G4 hroom fun h₅ tk₅ u₅ hk₅ => ?_⟩))))))
        replace hk₅ : ∀ b o, h₄.get? b = some o → h₅.get? b = some o := hk₅
        have hn₅ := hn₄.keeps hk₅
        have hP₅ : h₅.PlainList P ys := hP₄.at fun o e => hk₅ P o e
        refine lname hn₅ rfl (PyProof.Rows.eq_int (wpAny_truthy_bool ?_))
        have ec : condF 0 M p.1 = (Builtin.bitAnd M 61440 == p.1) := rfl
        cases hcc : (Builtin.bitAnd M 61440 == p.1) with
        | true =>
          rw [if_pos rfl]
          refine wpAny_execs_cons (append_stmt hn₅ n2 hP₅ hsz (lname hn₅ rfl ⟨_, _, rfl, rfl⟩) fun h' u tk' hp' hs' => ?_)
          refine wpAny_execs_cons (wpAny_Break ?_)
          exact .inr ⟨ec.trans hcc, rfl, wpAny_execs_nil (brk h' u tk' hp' (fun b o hb e => hs'.extBut b o hb (hk₅ b o e)) (ec.trans hcc))⟩
        | false =>
          rw [if_neg (by simp)]
          exact wpAny_execs_nil (wpAny_execs_nil (wpAny_execs_nil (.inl (goon _ _ hk₅ (ec.trans hcc)))))
      · rw [if_neg (by simpa using hi0)]
        refine wpAny_execs_cons (wpAny_If (wpAny_isTrue_Compare1 (wpAny_BinOp (lname hn₄ n3 (lname hn₄ rfl (and_int ?_))))))
        refine lname hn₄ rfl (PyProof.Rows.eq_int (wpAny_truthy_bool ?_))
        have ec : condF i M p.1 = (Builtin.bitAnd M p.1 == p.1) := by unfold condF; rw [if_neg hi0]
        cases hcc : (Builtin.bitAnd M p.1 == p.1) with
        | true =>
          rw [if_pos rfl]
          refine wpAny_execs_cons (append_stmt hn₄ n2 hP₄ hsz (lname hn₄ rfl ⟨_, _, rfl, rfl⟩) fun h' u tk' hp' hs' => ?_)
          refine wpAny_execs_cons (wpAny_Break ?_)
          exact .inr ⟨ec.trans hcc, rfl, wpAny_execs_nil (brk h' u tk' hp' (fun b o hb e => hs'.extBut b o hb e) (ec.trans hcc))⟩
        | false =>
          rw [if_neg (by simp)]
          exact wpAny_execs_nil (wpAny_execs_nil (wpAny_execs_nil (.inl (goon _ _ (fun _ _ e => e) (ec.trans hcc)))))
    · intro h₄ tk₄ m₄ hno hm₄ hn₄ hk₄
      have hP₄ : h₄.PlainList P ys := hP₃.at fun o e => hk₄ P o hPL e
      have n1 : m₄ (Str.ofString "index") = some (.int i ti) := (hm₄ _ (by decide) (by decide)).trans rfl
      have n2 : m₄ (Str.ofString "perm") = some (.ref P) := ((hm₄ _ (by decide) (by decide)).trans rfl).trans mperm
      have ep : pickF i M ps = (if i = 0 then S1 63 else S1 45) := by unfold pickF; rw [find_none hno]; rfl
      have fin2 : ∀ (h' : Heap) (u : Tok) (tk' : Nat), h'.PlainList P (ys.push (.str (if i = 0 then S1 63 else S1 45) u)) → Heap.SameBut P h₄ h' →
          (Flow.next = .next ∧ ∃ h'' tk'' m'' ys', ({ s with heap := h', toks := tk' } : Shared) = { s with heap := h'', toks := tk'' } ∧ h''.Ns s.heap.objs.size m'' ∧ (∀ z ∈ [Str.ofString "perm", Str.ofString "mode"], m'' z = m2 z) ∧ h''.PlainList P ys' ∧ StrsAre ys'.toList ((modeChars M).take (i + 1)) ∧ KB s.heap.objs.size P h₃ h'') := by
        intro h' u tk' hp' hs'
        exact fin h' _ tk' u (hn₄.sameBut hs' (Ne.symm hPL)) hm₄ (ep ▸ hp') (KB.trans (fun b o hb _ e => hk₄ b o hb e) (.sameP hs'))
      refine wpAny_execs_cons (wpAny_If (wpAny_isTrue_Compare1 (lname hn₄ n1 (wpAny_Constant_int (PyProof.Rows.eq_int (wpAny_truthy_bool ?_))))))
      by_cases hi0 : i = 0
      · rw [if_pos (by simp [hi0])]
        refine wpAny_execs_cons (append_stmt (x := S1 63) hn₄ n2 hP₄ hsz (Calls.Constant_str ⟨_, _, rfl, rfl⟩) fun h' u tk' hp' hs' => ?_)
        exact wpAny_execs_nil (wpAny_execs_nil (wpAny_execs_nil (fin2 h' u tk' (by rw [if_pos hi0]; exact hp') hs')))
      · rw [if_neg (by simpa using hi0)]
        refine wpAny_execs_cons (append_stmt (x := S1 45) hn₄ n2 hP₄ hsz (Calls.Constant_str ⟨_, _, rfl, rfl⟩) fun h' u tk' hp' hs' => ?_)
        exact wpAny_execs_nil (wpAny_execs_nil (wpAny_execs_nil (fin2 h' u tk' (by rw [if_neg hi0]; exact hp') hs')))
  · intro h₃ tk₃ m₁ ys hm hn₃ hP₃ hS hkb
    have mperm : m₁ (Str.ofString "perm") = some (.ref P) := (hm _ (by simp)).trans mp2
    obtain ⟨l, el, et⟩ := strs_values hS
    refine wpAny_execs_cons (wpAny_Return_some (Call_method1 rfl rfl rfl (Calls.Constant_str ?_)))
    refine ⟨"str", "str.join", F.plainAttrs_str, F.slot_str_join, F.type_str_join, typeIs_str _ _ _, (fun _ e => nomatch e), ?_⟩
    refine Calls.callWith_builtin rfl (Calls.evalArgs_plain (Calls.spliced_cons (lname hn₃ mperm (Calls.spliced_nil ?_))))
    have hl : h₃.IsList P (strValues l).toArray := by rw [← el]; exact hP₃.isList
    refine SC.join (texts := modeChars M) hl et ?_ fun t' k => h h₃ k t' fun b o e => hkb b o (hL b o e) (hPn b o e) (k2 b o e)
    have := StrLaws.joinFits (sep := Str.ofString "") (chars_one M) (by rw [chars_len]; decide)
    unfold JoinOk; rw [this]; rfl
end Mine

namespace Mine

def FLs (l : List Env) : List Addr := l.filterMap (·.frame)
def FramesOk (h : Heap) (l : List Env) : Prop := ∀ env ∈ l, env.scope.kind ≠ .module ∧ ∃ L o, env.frame = some L ∧ h.get? L = some o ∧ ∀ vs, o.data ≠ .fields vs
/-- all is kept, the frames' own objects up to their slots -/
structure KU (FL : List Addr) (h h' : Heap) : Prop where
  keep : ∀ b o, b ∉ FL → h.get? b = some o → h'.get? b = some o
  slots : h.UpToSlots h'

theorem KU.refl {FL : List Addr} {h : Heap} : KU FL h h := ⟨fun _ _ _ e => e, .refl _⟩
theorem KU.of {FL : List Addr} {h h' : Heap} (k : ∀ b o, h.get? b = some o → h'.get? b = some o) : KU FL h h' := ⟨fun b o _ e => k b o e, .of_keeps k⟩
theorem KU.trans {FL : List Addr} {h h' h'' : Heap} (a : KU FL h h') (b : KU FL h' h'') : KU FL h h'' := ⟨fun x o hx e => b.keep x o hx (a.keep x o hx e), a.slots.trans b.slots⟩
theorem KU.ns {FL : List Addr} {h h' : Heap} {L : Addr} {m : Str → Option Value} (a : KU FL h h') (hn : h.Ns L m) : h'.Ns L m := a.slots.ns hn
theorem KU.frames {FL : List Addr} {h h' : Heap} {l : List Env} (a : KU FL h h') (hf : FramesOk h l) : FramesOk h' l := fun env he => by
  obtain ⟨hk, L, o, h1, h2, h3⟩ := hf env he
  obtain ⟨sl, e⟩ := a.slots L o h2 h3
  exact ⟨hk, L, _, h1, e, h3⟩
theorem FramesOk.keeps {h h' : Heap} {l : List Env} (hf : FramesOk h l) (k : ∀ b o, h.get? b = some o → h'.get? b = some o) : FramesOk h' l := KU.frames (FL := []) (.of k) hf
theorem FramesOk.fun {h base : Heap} {l : List Env} (hf : FramesOk h l) (hb : ∀ L ∈ FLs l, base.get? L = none) : h.FunFrames base l := by
  induction l with
  | nil => trivial
  | cons env r ih =>
    obtain ⟨hk, L, o, h1, h2, h3⟩ := hf env (.head _)
    refine ⟨hk, ⟨L, o, h1, hb L (by simp [FLs, h1]), h2, h3⟩, ih (fun e he => hf e (.tail _ he)) fun L' hL' => hb L' ?_⟩
    simp only [FLs, List.filterMap_cons, h1] at hL' ⊢
    exact .tail _ hL'
theorem FramesOk.cons {h : Heap} {l : List Env} {env : Env} {L : Addr} {m : Str → Option Value} (hf : FramesOk h l) (hk : env.scope.kind ≠ .module) (h1 : env.frame = some L) (hn : h.Ns L m) : FramesOk h (env :: l) := fun e he => by
  rcases List.mem_cons.mp he with rfl | he
  · obtain ⟨o, es, ep, ho, hd, _⟩ := hn
    exact ⟨hk, L, o, h1, ho, fun vs q => by rw [hd] at q; cases q⟩
  · exact hf e he

section
variable {M : Model} {A : Around} {E : Value → Shared → Prop} {s : Shared} {env : Env} {outer : List Env} {L e : Addr} {h : Heap} {X : String}

/-- the first look at a new exception -/
theorem note_new {Q : Unit → Shared → Prop} (hfr : A.frames = some (env :: outer)) (hf : env.frame = some L) (hF : FramesOk h (env :: outer)) (hx : Heap.NewExc h s.heap e X)
    (k : ∀ h' a0, Heap.HeldW (hideAll h (FLs (env :: outer))) (env :: outer) e (.type X) a0 L h' → s.heap.UpToSlots h' → Q () { s with heap := h' }) :
    wpAny M A (noteFrame (.ref e) env) Q E s := by
  obtain ⟨oe, t, he, hc, hd⟩ := hx.there
  unfold noteFrame
  simp only [hf]
  refine wpAny_bind (wpAny_field he hd (x := .none) rfl ?_)
  rw [if_neg (by decide)]
  have hen : (hideAll h (FLs (env :: outer))).get? e = none := by
    cases q : (hideAll h (FLs (env :: outer))).get? e with
    | none => rfl
    | some o => have := of_hideAll _ q; rw [hx.new] at this; cases this
  have hkb : (hideAll h (FLs (env :: outer))).StaysIn s.heap := fun b o q => hx.keeps b o (of_hideAll _ q)
  refine wpAny_entryW hfr ((hF.keeps hx.keeps).fun fun L' hL' => hideAll_none _ hL') hf he hkb hen hd (by simp) (a0 := t) rfl fun h' ⟨k1, k2, k3, k4⟩ => ?_
  exact k h' t ⟨k1, hen, k2, hc ▸ k3⟩ k4

theorem came_back {base : Heap} {l : List Env} {a0 cls : Value} (hf : env.frame = some L) (hH : Heap.HeldW base l e cls a0 L s.heap)
    (k : ∀ h', Heap.HeldW base l e cls a0 L h' → s.heap.UpToSlots h' → E (.ref e) { s with heap := h' }) : cameBackBy M A env E (.ref e) s := by
  obtain ⟨f1, f2, f3, oe, vs, T, oT, ts, he, hcls, hd, h1, hnT, hTe, hT, hdT, h3⟩ := hH
  have hsz3 : 3 < ts.size := (Array.getElem?_eq_some_iff.mp h3).1
  unfold cameBackBy
  refine wpAny_bind (wpAny_field he hd h1 ?_)
  rw [if_neg (by simp)]
  unfold setFlight
  refine wpAny_bind (wpAny_field he hd h1 ?_)
  rw [if_pos (show (Value.ref T != Value.none) = true from by simp)]
  have other : ∀ (f : Obj → Obj) b, b ≠ T → (s.heap.update T f).get? b = s.heap.get? b := fun f b hb => Heap.get?_update_other _ _ (Ne.symm hb)
  have noRecord : ∀ b o, s.heap.get? b = some o → (∀ vs, o.data ≠ .fields vs) → b ≠ T := fun b o hb hnf q => by
    rw [q, hT] at hb; injection hb with hb; subst hb; exact hnf ts hdT
  refine wpAny_setField hT hdT hsz3 (k _ ⟨fun b o hbo => (other _ b fun q => by rw [q, hnT] at hbo; cases hbo).trans (f1 b o hbo), f2,
    f3.of_keeps fun b o hb hnf => ⟨o, (other _ b (noRecord b o hb hnf)).trans hb, rfl⟩, ?_⟩ fun b o hb hnf => ⟨o.slots, (other _ b (noRecord b o hb hnf)).trans hb⟩)
  refine ⟨oe, vs, T, _, _, (other _ e (Ne.symm hTe)).trans he, hcls, hd, h1, hnT, hTe, Heap.get?_update_self _ hT (Obj.isFreed_of_fields (Obj.data_mapFields hdT _)), Obj.data_mapFields hdT _, ?_⟩
  simp [hsz3, hf]
end

section
variable {w : World} {A : Around} {E : Value → Shared → Prop} {s : Shared} {env : Env} {outer : List Env} {L e : Addr} {h : Heap} {X T : String} {mg mb : Str → Option Value}

/-- a clause that takes it, once it is held -/
theorem held_caught {prog : Program} {base : Heap} {a0 : Value} {x : Str} {np pos : Pos} {b₀ : Stmt} {suite : List Stmt} {Q : Flow → Shared → Prop} (hH : Heap.HeldW base (env :: outer) e (.type X) a0 L s.heap)
    (G : Gl w mg mb base) (ex : nsIn (KF w) mainGlobals x = some none) (hv : bootBuiltins x = some (.type T))
    (hexc : isSubtype (.type T) (.type "BaseException") = pure true) (hnt : isSubtype (.type ((Manifest.find? T).elim "type" fun x => x.metatype)) (.type "tuple") = pure false)
    (hsub : isSubtype (.type X) (.type T) = pure true)
    (k : ∀ h', base.StaysIn h' → s.heap.UpToSlots h' → wpAny (model prog w) (A.mark (some (.ref e))) (execs (b₀ :: suite) env) Q (fun _ _ => False) { s with heap := h' })
    (hn : x ≠ "__name__") (hg : env.globals = mainGlobals) (hb : env.builtins = builtinsNs) (hk : env.scope.kind = .function) (hxk : env.kindOf x = some .globalImplicit) (hd : (x == ("__debug__" : Str)) = false) :
    wpAny (model prog w) A (setFlight (.ref e) none) (fun _ s₃ => wpAny (model prog w) A (handleBy (.ref e) env [.ExceptHandler (some (.Name x np)) none (b₀ :: suite) pos]) Q E s₃) E s := by
  refine wpAny_landsW hH fun h₁ hfl hs₁ => ?_
  refine wpAny_handleBy_builtin (X := X) (T := T) (b := true) hexc hnt hsub (bname (G.keeps hfl.1) ex hv ⟨rfl, ?_, ?_⟩ hn hg hb hk hxk hd)
  · obtain ⟨ob, h1, h2⟩ := hfl.there; exact ⟨ob, h1, h2⟩
  · rw [if_pos rfl]
    refine wpAny_setFlight_noneW hfl.1 hfl.2.2.1 hfl.2.2.2 fun h₂ k1 _ _ k4 => ?_
    refine wpAny_mono (k h₂ k1 ?_) (fun _ _ q => q) fun _ _ f => f.elim
    exact hs₁.trans fun b o q hn => ⟨o.slots, k4 b o q hn⟩
end
end Mine

namespace Mine

def SkipSpec (x : Str) (p q : Nat) : Prop := p ≤ q ∧ (∀ r, p ≤ r → r < q → x.cps[r]? = some 45) ∧ x.cps[q]? ≠ some 45

theorem item_at {x : Str} {r : Nat} {c : Nat} (h : x.cps[r]? = some c) : Txt.item x (r : Int) = ⟨#[c]⟩ := by
  have hr : r < x.cps.size := (Array.getElem?_eq_some_iff.mp h).1
  unfold Txt.item
  have : Txt.charAt x (r : Int) = some c := by
    unfold Txt.charAt seqIndex?
    have h0 : ¬ ((r : Int) < 0) := by omega
    simp only [h0, if_false, Str.length]
    have h1 : (decide (0 ≤ (r : Int)) && decide ((r : Int) < (x.cps.size : Int))) = true := by simp; omega
    first
      | (rw [if_pos h1]; simpa using h)
      | (simp [hr]; simpa using h)
  rw [this]; rfl

theorem in_dash (c : Nat) : Txt.contains (Str.ofString "-") ⟨#[c]⟩ = (c == 45) := by
  have := StrLaws.found_one (Str.ofString "-") c
  unfold Txt.contains
  rw [this]
  have e : (Str.ofString "-").cps.toList = [45] := rfl
  rw [e]
  by_cases h : c = 45 <;> simp [h]

set_option maxHeartbeats 2000000 in
theorem skip_ok {w : World} {A : Around} {E : Value → Shared → Prop} {s : Shared} {mg mb : Str → Option Value} {outer : List Env} {hb : Heap} {x : Str} {p : Nat} {t0 t1 t2 : Tok} {Q : Value → Shared → Prop}
    (G : Gl w mg mb hb) (hk0 : ∀ b o, hb.get? b = some o → s.heap.get? b = some o) (hfB : ∀ L ∈ FLs outer, hb.get? L = none) (hh : A.handled = none) (hroom : A.depth < recursionLimit) (hfr : A.frames = some outer) (hF : FramesOk s.heap outer)
    (hx : x.length < 1000) (hp : p ≤ x.length)
    (h : ∀ h' tk u (q : Nat), KU (FLs outer) s.heap h' → SkipSpec x p q → Q (.int (q : Int) u) { s with heap := h', toks := tk }) :
    wpAny (model PR w) A (call (.ref 75) [.str x t0, .int (p : Int) t1, .str (Str.ofString "-") t2]) Q E s := by
  have Gs := G.keeps hk0
  refine wpAny_call (codeAny_call_def hroom (Gs.inK _ _ (by rfl)) rfl Gs.lim (codeRec_of Gs.inK (by kernel_rfl)) rfl (BindsTo.of_eq rfl) (by decide) (locs rfl) ?_)
  intro h₀ hn hk
  obtain ⟨m0, hn0, ms, mp, mc⟩ : ∃ m0 : Str → Option Value, h₀.Ns s.heap.objs.size m0 ∧ m0 (Str.ofString "src") = some (.str x t0) ∧ m0 (Str.ofString "pos") = some (.int (p : Int) t1) ∧ m0 (Str.ofString "chars") = some (.str (Str.ofString "-") t2) := ⟨_, hn, rfl, rfl, rfl⟩
  clear hn
  have hL : ∀ b o, s.heap.get? b = some o → b ≠ s.heap.objs.size := fun b o e => Nat.ne_of_lt (Heap.lt_size e)
  -- behind the try: return pos
  refine wpAny_execs_cons (wpAny_Try_except (wpAny_execs_cons (wpAny_While (codeAny_whileLoop
    (fun n s' => ∃ h' tk m' r u, s' = { s with heap := h', toks := tk } ∧ h'.Ns s.heap.objs.size m' ∧ m' (Str.ofString "src") = some (.str x t0) ∧ m' (Str.ofString "pos") = some (.int ((r : Nat) : Int) u) ∧ m' (Str.ofString "chars") = some (.str (Str.ofString "-") t2) ∧
      p ≤ r ∧ r ≤ x.length ∧ (∀ i, p ≤ i → i < r → x.cps[i]? = some 45) ∧ n = x.length + 1 - r ∧ (∀ b o, b ≠ s.heap.objs.size → h₀.get? b = some o → h'.get? b = some o)) ?_ (x.length + 1 - p)
    ⟨h₀, _, m0, p, t1, rfl, hn0, ms, mp, mc, Nat.le_refl _, hp, fun i a b => by omega, rfl, fun _ _ _ e => e⟩))))
  rintro n s' ⟨h₁, tk₁, m₁, r, u, rfl, hn₁, ns1, np1, nc1, hpr, hr, hall, rfl, hk₁⟩
  refine wpAny_isTrue_Compare1 (Subscript_ (lname hn₁ ns1 (lname hn₁ np1 ?_)))
  refine item_str_or hh (by unfold fitsSsize; simp; omega) (fun hout h₂ tk₂ e hx₂ => ?_) fun _ hlt => ?_
  · -- IndexError
    replace hx₂ : Heap.NewExc h₁ h₂ e "IndexError" := hx₂
    have hF1 : FramesOk h₁ outer := hF.keeps fun b o e => hk₁ b o (hL b o e) (hk b o e)
    refine note_new (h := h₁) (Around.frames_deeper hfr) rfl (hF1.cons (by intro q; cases q) rfl hn₁) hx₂ fun h₃ a0 hH₃ hs₃ => ?_
    refine came_back rfl hH₃ fun h₄ hH₄ hs₄ => ?_
    refine wpAny_noteFrame_againW rfl hH₄.2.2.2 ?_
    have hbB : ∀ b o, hb.get? b = some o → (hideAll h₁ (s.heap.objs.size :: FLs outer)).get? b = some o := fun b o e => by
      have e1 := hk₁ b o (hL b o (hk0 b o e)) (hk b o (hk0 b o e))
      refine hideAll_get _ e1 fun hm => ?_
      rcases List.mem_cons.mp hm with q | hm
      · exact hL b o (hk0 b o e) q
      · rw [hfB b hm] at e; cases e
    refine held_caught hH₄ (G.keeps hbB) (by kernel_rfl) PyProof.Rows.Boot.«IndexError» F.isExc_IndexError F.notTuple_IndexError F.self_IndexError (fun h₅ hst₅ hs₅ => ?_) (by decide) rfl rfl rfl rfl (by decide)
    refine wpAny_execs_cons (wpAny_Pass (wpAny_execs_nil ?_))
    have up : h₁.UpToSlots h₅ := ((((Heap.UpToSlots.of_keeps hx₂.keeps).trans hs₃).trans hs₄).trans hs₅)
    refine wpAny_execs_cons (wpAny_Return_some (lname (up.ns hn₁) np1 ?_))
    have hrl : r = x.length := by omega
    refine h h₅ _ u r ⟨fun b o hbF e => ?_, ?_⟩ ⟨hpr, hall, ?_⟩
    · refine hst₅ b o (hideAll_get _ (hk₁ b o (hL b o e) (hk b o e)) fun hm => ?_)
      rcases List.mem_cons.mp hm with q | hm
      · exact hL b o e q
      · exact hbF hm
    · exact (Heap.UpToSlots.of_keeps fun b o e => hk₁ b o (hL b o e) (hk b o e)).trans up
    · rw [hrl]; unfold Str.length; simp
  · have hlt' : r < x.cps.size := by
      have : (r : Int) < x.length := hlt
      unfold Str.length at this; omega
    obtain ⟨c, hc⟩ : ∃ c, x.cps[r]? = some c := ⟨x.cps[r], by simp [hlt']⟩
    rw [item_at hc]
    refine lname hn₁ nc1 (SB.contains (wpAny_truthy_bool ?_))
    rw [in_dash]
    cases hcc : (c == 45) with
    | true =>
      rw [if_pos rfl]
      refine wpAny_execs_cons (wpAny_AugAssign_Name (wpAny_loadName_local (by rfl) (by rfl) hn₁ np1 (wpAny_Constant_int (PyProof.Rows.iadd_int ?_))))
      refine wpAny_storeName_local (by rfl) hn₁ (fun h₂ hn₂ hs₂ => wpAny_execs_nil ?_) (by rfl)
      replace hs₂ : Heap.SameBut s.heap.objs.size h₁ h₂ := hs₂
      have e45 : c = 45 := by simpa using hcc
      refine ⟨x.length + 1 - (r + 1), by unfold Str.length at hr ⊢; omega, h₂, _, _, r + 1, _, rfl, hn₂, ns1, rfl, nc1, by omega, by unfold Str.length; omega, fun i a b => ?_, rfl, fun b o hb e => hs₂.extBut b o hb (hk₁ b o hb e)⟩
      by_cases hi : i = r
      · rw [hi, hc, e45]
      · exact hall i a (by omega)
    | false =>
      rw [if_neg (by simp)]
      refine wpAny_execs_nil (wpAny_execs_nil (wpAny_execs_nil ?_))
      refine wpAny_execs_cons (wpAny_Return_some (lname hn₁ np1 ?_))
      refine h h₁ _ u r (KU.of fun b o e => hk₁ b o (hL b o e) (hk b o e)) ⟨hpr, hall, ?_⟩
      rw [hc]; intro q; cases q; simp at hcc
end Mine

namespace Mine

theorem KU.same {FL : List Addr} {s h h' : Heap} {X : Addr} (a : KU FL s h) (hs : Heap.SameBut X h h') (hX : s.get? X = none) : KU FL s h' := by
  have hne : ∀ b o, s.get? b = some o → b ≠ X := fun b o e q => by rw [q, hX] at e; cases e
  refine ⟨fun b o hb e => hs.extBut b o (hne b o e) (a.keep b o hb e), fun b o e hn => ?_⟩
  obtain ⟨sl, q⟩ := a.slots b o e hn
  exact ⟨sl, hs.extBut b _ (hne b o e) q⟩
theorem KU.more {FL : List Addr} {s h h' : Heap} {L : Addr} (a : KU FL s h) (b : KU (L :: FL) h h') (hL : s.get? L = none) : KU FL s h' := by
  refine ⟨fun x o hx e => b.keep x o (fun hm => ?_) (a.keep x o hx e), a.slots.trans b.slots⟩
  rcases List.mem_cons.mp hm with q | hm
  · rw [q, hL] at e; cases e
  · exact hx hm
theorem KU.sub {FL : List Addr} {s h h' : Heap} (a : KU FL s h) (k : ∀ b o, h.get? b = some o → h'.get? b = some o) : KU FL s h' := a.trans (.of k)
theorem KU.base {FL : List Addr} {hb s h : Heap} (k : ∀ b o, hb.get? b = some o → s.get? b = some o) (hfB : ∀ L ∈ FL, hb.get? L = none) (a : KU FL s h) : ∀ b o, hb.get? b = some o → h.get? b = some o :=
  fun b o e => a.keep b o (fun hm => by rw [hfB b hm] at e; cases e) (k b o e)
theorem none_of_ge {h : Heap} {a : Addr} (hle : @LE.le Nat _ h.objs.size a) : h.get? a = none := by
  cases q : h.get? a with
  | none => rfl
  | some o => have := ltS q; omega

section
variable {M : Model} {A : Around} {E : Value → Shared → Prop} {s : Shared} {env : Env} {pos : Pos} {Q : Value → Shared → Prop}
theorem Call_name2 {x : Str} {np : Pos} {e₁ e₂ : PySem.Expr} (hs : starEach [e₁, e₂] env = [(false, eval e₁ env), (false, eval e₂ env)])
    (h : wpAny M A (eval (.Name x np) env) (fun f s₁ => wpAny M A (callWith pos f [] [(false, eval e₁ env), (false, eval e₂ env)] []) Q E s₁) E s) :
    wpAny M A (eval (.Call (.Name x np) [e₁, e₂] [] pos) env) Q E s := by
  show wpAny M A (do callWith pos (← eval (.Name x np) env) [] (backTo pos (starEach [e₁, e₂] env)) (backToKw pos (keywordEach [] env))) Q E s
  rw [hs]
  exact wpAny_bind h
theorem Call_name3 {x : Str} {np : Pos} {e₁ e₂ e₃ : PySem.Expr} (hs : starEach [e₁, e₂, e₃] env = [(false, eval e₁ env), (false, eval e₂ env), (false, eval e₃ env)])
    (h : wpAny M A (eval (.Name x np) env) (fun f s₁ => wpAny M A (callWith pos f [] [(false, eval e₁ env), (false, eval e₂ env), (false, eval e₃ env)] []) Q E s₁) E s) :
    wpAny M A (eval (.Call (.Name x np) [e₁, e₂, e₃] [] pos) env) Q E s := by
  show wpAny M A (do callWith pos (← eval (.Name x np) env) [] (backTo pos (starEach [e₁, e₂, e₃] env)) (backToKw pos (keywordEach [] env))) Q E s
  rw [hs]
  exact wpAny_bind h
end

/-- the beads of a text: the signs that are no minus, from the second on -/
def bl (x : Str) (q : Nat) : List Str := (((x.cps.toList.take q).drop 1).filter fun c => c != 45).map fun c => ⟨#[c]⟩

theorem bl_one (x : Str) : bl x 1 = [] := by
  unfold bl
  have : ((x.cps.toList.take 1).drop 1) = [] := by
    apply List.drop_eq_nil_of_le; simp; omega
  rw [this]; rfl

theorem bl_snoc {x : Str} {q : Nat} {c : Nat} (h1 : 1 ≤ q) (hc : x.cps[q]? = some c) : bl x (q + 1) = bl x q ++ (if c != 45 then [⟨#[c]⟩] else []) := by
  unfold bl
  have hq : q < x.cps.toList.length := by have := (Array.getElem?_eq_some_iff.mp hc).1; simpa using this
  rw [List.take_add_one, show x.cps.toList[q]? = some c from by simpa using hc, List.drop_append]
  have : (List.take q x.cps.toList).length = q := by rw [List.length_take]; omega
  rw [this, show 1 - q = 0 by omega]
  simp only [Option.toList_some, List.drop_zero, List.filter_append, List.map_append, List.filter_cons, List.filter_nil]
  split <;> simp_all

theorem bl_skip {x : Str} {p : Nat} (h1 : 1 ≤ p) : ∀ {q : Nat}, p ≤ q → (∀ r, p ≤ r → r < q → x.cps[r]? = some 45) → bl x q = bl x p := by
  intro q hpq hall
  induction q with
  | zero => have : p = 0 := by omega
            rw [this]
  | succ q ih =>
    by_cases e : p = q + 1
    · rw [e]
    · have hc := hall q (by omega) (by omega)
      rw [bl_snoc (by omega) hc, ih (by omega) (fun r a b => hall r a (by omega))]
      simp

theorem skip_le {x : Str} {p q : Nat} (h : SkipSpec x p q) (hp : p ≤ x.length) : q ≤ x.length := by
  by_cases e : p = q
  · omega
  · have h1 := h.1
    have := h.2.1 (q - 1) (by omega) (by omega)
    have := (Array.getElem?_eq_some_iff.mp this).1
    unfold Str.length; omega

theorem append_item {prog : Program} {w : World} {A : Around} {E : Value → Shared → Prop} {s : Shared} {env : Env} {xl xt xp : Str} {p ap pos spos p1 p2 p3 : Pos} {m : Str → Option Value} {P : Addr} {ys : Array Value} {x : Str} {q c : Nat} {t u : Tok} {Q : Flow → Shared → Prop}
    (hn : s.heap.Ns env.locals m) (hv : m xl = some (.ref P)) (hP : s.heap.PlainList P ys) (hsz : ys.size ≤ sizeLine) (ht : m xt = some (.str x t)) (hq : m xp = some (.int (q : Int) u)) (hc : x.cps[q]? = some c) (hx : x.length < 1000)
    (h : ∀ h' t tk, h'.PlainList P (ys.push (.str ⟨#[c]⟩ t)) → Heap.SameBut P s.heap h' → Q .next { s with heap := h', toks := tk })
    (hk : env.scope.kind = .function := by rfl) (hxl : env.kindOf xl = some .local := by rfl) (hxt : env.kindOf xt = some .local := by rfl) (hxp : env.kindOf xp = some .local := by rfl)
    (hd : (xl == ("__debug__" : Str)) = false := by decide) (hd2 : (xt == ("__debug__" : Str)) = false := by decide) (hd3 : (xp == ("__debug__" : Str)) = false := by decide)
    (hline : (ap.endLine == pos.line) = true := by rfl) (hi : interactive env = false := by rfl) :
    wpAny (model prog w) A (exec (.Expr (.Call (.Attribute (.Name xl p) (Str.ofString "append") ap) [.Subscript (.Name xt p1) (.Name xp p2) p3] [] pos) spos) env) Q E s := by
  refine append_stmt (x := ⟨#[c]⟩) hn hv hP hsz (Subscript_ (lname hn ht (lname hn hq ?_ hk hxp hd3) hk hxt hd2)) h hk hxl hd rfl hline hi
  have hlt : q < x.cps.size := (Array.getElem?_eq_some_iff.mp hc).1
  refine item_str ?_ ?_ ?_ fun _ => ?_
  · unfold fitsSsize; unfold Str.length at hx; simp; omega
  · unfold Str.length; omega
  · unfold Str.length; omega
  · rw [item_at hc]; exact ⟨_, _, rfl, rfl⟩

set_option maxHeartbeats 2000000 in
theorem beads_ok {w : World} {A : Around} {E : Value → Shared → Prop} {s : Shared} {mg mb : Str → Option Value} {outer : List Env} {hb : Heap} {mode : Int} {t0 : Tok} {Q : Value → Shared → Prop} {x : Str}
    (hx : Txt.join (Str.ofString "") (modeChars (32768 + mode)) = x) (hlen : x.length = 10)
    (G : Gl w mg mb hb) (hk0 : ∀ b o, hb.get? b = some o → s.heap.get? b = some o) (hfB : ∀ L ∈ FLs outer, hb.get? L = none) (hh : A.handled = none) (hroom : A.depth + 2 < recursionLimit) (hfr : A.frames = some outer) (hF : FramesOk s.heap outer)
    (h : ∀ h' tk D ys, KU (FLs outer) s.heap h' → s.heap.get? D = none → h'.PlainList D ys → StrsAre ys.toList (bl x 10) → Q (.ref D) { s with heap := h', toks := tk }) :
    wpAny (model PR w) A (call (.ref 82) [.int mode t0]) Q E s := by
  have Gs := G.keeps hk0
  refine wpAny_call (codeAny_call_def (by omega) (Gs.inK _ _ (by rfl)) rfl Gs.lim (codeRec_of Gs.inK (by kernel_rfl)) rfl (BindsTo.of_eq rfl) (by decide) (locs rfl) ?_)
  intro h₀ hn hk
  obtain ⟨m0, hn0, mm⟩ : ∃ m0 : Str → Option Value, h₀.Ns s.heap.objs.size m0 ∧ m0 (Str.ofString "mode") = some (.int mode t0) := ⟨_, hn, rfl⟩
  clear hn
  have hLn : s.heap.get? s.heap.objs.size = none := none_of_ge (Nat.le_refl _)
  have hLb : hb.get? s.heap.objs.size = none := by
    cases q : hb.get? s.heap.objs.size with
    | none => rfl
    | some o => rw [hk0 _ _ q] at hLn; cases hLn
  have U0 : KU (FLs outer) s.heap h₀ := .of hk
  have GF : ∀ h', KU (FLs outer) s.heap h' → Gl w mg mb h' := fun h' U => G.keeps (KU.base hk0 hfB U)
  -- text = filemode(..)
  refine wpAny_execs_cons (wpAny_Assign_Name (Call_name1 rfl (gname (v := .ref 68) (GF _ U0) (by kernel_rfl) (callWith_fn1 (wpAny_BinOp (wpAny_Constant_int (lname hn0 mm (PyProof.Rows.add_int
    ⟨⟨(GF _ U0).inK _ _ (by rfl), rfl⟩, filemode_ok (GF _ U0) hh (by show A.depth + 1 + 1 < _; omega) fun h₁ tk₁ u₁ hk₁ => ?_⟩))))))))
  replace hk₁ : ∀ b o, h₀.get? b = some o → h₁.get? b = some o := hk₁
  rw [hx]
  have U1 := U0.sub hk₁
  refine wpAny_storeName_local (by rfl) (hn0.keeps hk₁) (fun h₂ hn₂ hs₂ => ?_) (by rfl)
  replace hs₂ : Heap.SameBut s.heap.objs.size h₁ h₂ := hs₂
  have U2 := U1.same hs₂ hLn
  -- beads = []
  refine wpAny_execs_cons (wpAny_Assign_Name (List_ (Calls.spliced_nil (wpAny_newList ?_ (by decide)))))
  have hD0 := Heap.get?_push_size h₂ (o := { cls := .type "list", data := .seq ([] : List Value).toArray }) rfl
  have hk2 : ∀ b o, h₂.get? b = some o → (h₂.push { cls := .type "list", data := .seq ([] : List Value).toArray }).get? b = some o := fun b o e => Heap.get?_push_of_some _ e
  have hLlt : @LT.lt Nat _ s.heap.objs.size h₂.objs.size := by obtain ⟨_, _, _, e, _⟩ := hn₂; exact ltS e
  generalize hD : h₂.objs.size = D at *
  generalize h₂.push { cls := .type "list", data := .seq ([] : List Value).toArray } = h₃ at *
  have U3 := U2.sub hk2
  have hDL : D ≠ s.heap.objs.size := neA (.inr hLlt)
  have hDn : s.heap.get? D = none := none_of_ge (Nat.le_of_lt hLlt)
  have hDF : D ∉ s.heap.objs.size :: FLs outer := by
    intro hm
    rcases List.mem_cons.mp hm with q | hm
    · exact hDL q
    · obtain ⟨env, he, hf⟩ := List.mem_filterMap.mp hm
      obtain ⟨_, L', o, h1, h2, _⟩ := hF env he
      rw [hf] at h1; cases h1
      rw [hDn] at h2; cases h2
  refine wpAny_storeName_local (by rfl) (hn₂.keeps hk2) (fun h₄ hn₄ hs₄ => ?_) (by rfl)
  replace hs₄ : Heap.SameBut s.heap.objs.size h₃ h₄ := hs₄
  have U4 := U3.same hs₄ hLn
  have hP4 : h₄.PlainList D #[] := ⟨_, hs₄.extBut D _ hDL hD0⟩
  obtain ⟨m4, hn4, mt4, mb4⟩ : ∃ m4 : Str → Option Value, h₄.Ns s.heap.objs.size m4 ∧ m4 (Str.ofString "text") = some (.str x u₁) ∧ m4 (Str.ofString "beads") = some (.ref D) := ⟨_, hn₄, rfl, rfl⟩
  clear hn₄
  -- pos = skip_chars(text, 1, '-')
  have frames : ∀ (h' : Heap) (m' : Str → Option Value) (env : Env), KU (FLs outer) s.heap h' → h'.Ns s.heap.objs.size m' → env.scope.kind ≠ .module → env.frame = some s.heap.objs.size → FramesOk h' (env :: outer) := fun h' m' env U hn' hk' hf' => (U.frames hF).cons hk' hf' hn'
  have hfB' : ∀ L ∈ s.heap.objs.size :: FLs outer, hb.get? L = none := fun L hL => by
    rcases List.mem_cons.mp hL with q | hL
    · rw [q]; exact hLb
    · exact hfB L hL
  refine wpAny_execs_cons (wpAny_Assign_Name (Call_name3 rfl (gname (v := .ref 75) (GF _ U4) (by kernel_rfl) (callWith_fn3 (lname hn4 mt4 (wpAny_Constant_int (Calls.Constant_str
    ⟨⟨(GF _ U4).inK _ _ (by rfl), rfl⟩, skip_ok (x := x) (p := 1) G (KU.base hk0 hfB U4) (by exact hfB') hh (by show A.depth + 1 < _; omega) (Around.frames_deeper hfr) (frames _ _ _ U4 hn4 (by intro q; cases q) rfl) (by omega) (by omega) fun h₅ tk₅ u₅ q U5 hq => ?_⟩)))))))
  replace U5 : KU (s.heap.objs.size :: FLs outer) h₄ h₅ := U5
  have V5 := U4.more U5 hLn
  refine wpAny_storeName_local (by rfl) (U5.ns hn4) (fun h₆ hn₆ hs₆ => ?_) (by rfl)
  replace hs₆ : Heap.SameBut s.heap.objs.size h₅ h₆ := hs₆
  have U6 := V5.same hs₆ hLn
  have hP6 : h₆.PlainList D #[] := (hP4.at fun o e => U5.keep D o hDF e).at fun o e => hs₆.extBut D o hDL e
  have hq10 := skip_le hq (by omega)
  -- the loop
  refine wpAny_execs_cons (wpAny_While (codeAny_whileLoop
    (fun n s' => ∃ h' tk m' ys q u, s' = { s with heap := h', toks := tk } ∧ h'.Ns s.heap.objs.size m' ∧ m' (Str.ofString "text") = some (.str x u₁) ∧ m' (Str.ofString "beads") = some (.ref D) ∧ m' (Str.ofString "pos") = some (.int ((q : Nat) : Int) u) ∧
      1 ≤ q ∧ q ≤ 10 ∧ h'.PlainList D ys ∧ StrsAre ys.toList (bl x q) ∧ x.cps[q]? ≠ some 45 ∧ KU (FLs outer) s.heap h' ∧ n = 11 - q) ?_ (11 - q)
    ⟨h₆, _, _, #[], q, u₅, rfl, hn₆, mt4, mb4, rfl, hq.1, by omega, hP6, by rw [bl_skip (Nat.le_refl 1) hq.1 hq.2.1, bl_one]; exact .nil, hq.2.2, U6, rfl⟩))
  rintro n s' ⟨h₇, tk₇, m₇, ys, r, u, rfl, hn₇, mt7, mb7, mp7, hr1, hr10, hP7, hS7, h45, U7, rfl⟩
  refine wpAny_isTrue_Compare1 (lname hn₇ mp7 (wpAny_Constant_int (PyProof.Rows.lt_int (wpAny_truthy_bool ?_))))
  by_cases hlt : r < 10
  · rw [if_pos (by simpa using (by omega : (r : Int) < 10))]
    have hrs : r < x.cps.size := by unfold Str.length at hlen; omega
    obtain ⟨c, hc⟩ : ∃ c, x.cps[r]? = some c := ⟨x.cps[r], by simp [hrs]⟩
    have c45 : (c != 45) = true := by
      rw [hc] at h45
      simp; intro q; exact h45 (by rw [q])
    have hsz : ys.size ≤ sizeLine := by
      have e1 := hS7.length
      have e2 : (bl x r).length ≤ r := by
        unfold bl; rw [List.length_map]
        refine Nat.le_trans (List.length_filter_le _ _) ?_
        simp; omega
      have e4 : ys.toList.length = ys.size := by simp
      have : sizeLine = 2 ^ 24 := sizeLine_eq
      omega
    refine wpAny_execs_cons (append_item hn₇ mb7 hP7 hsz mt7 mp7 hc (by omega) fun h₈ t₈ tk₈ hP8 hs₈ => ?_)
    replace hs₈ : Heap.SameBut D h₇ h₈ := hs₈
    have U8 := U7.same hs₈ hDn
    have hn₈ := hn₇.sameBut hs₈ (Ne.symm hDL)
    refine wpAny_execs_cons (wpAny_Assign_Name (Call_name3 rfl (gname (v := .ref 75) (GF _ U8) (by kernel_rfl) (callWith_fn3 (lname hn₈ mt7 (wpAny_BinOp (lname hn₈ mp7 (wpAny_Constant_int (PyProof.Rows.add_int (Calls.Constant_str
      ⟨⟨(GF _ U8).inK _ _ (by rfl), rfl⟩, skip_ok (x := x) (p := r + 1) G (KU.base hk0 hfB U8) (by exact hfB') hh (by show A.depth + 1 < _; omega) (Around.frames_deeper hfr) (frames _ _ _ U8 hn₈ (by intro q; cases q) rfl) (by omega) (by omega) fun h₉ tk₉ u₉ q' U9 hq' => ?_⟩))))))))))
    replace U9 : KU (s.heap.objs.size :: FLs outer) h₈ h₉ := U9
    have V9 := U8.more U9 hLn
    refine wpAny_storeName_local (by rfl) (U9.ns hn₈) (fun h₁₀ hn₁₀ hs₁₀ => wpAny_execs_nil ?_) (by rfl)
    replace hs₁₀ : Heap.SameBut s.heap.objs.size h₉ h₁₀ := hs₁₀
    have hq10' := skip_le hq' (by omega)
    refine ⟨11 - q', by have := hq'.1; omega, h₁₀, _, _, _, q', u₉, rfl, hn₁₀, mt7, mb7, rfl, by have := hq'.1; omega, by omega, (hP8.at fun o e => U9.keep D o hDF e).at fun o e => hs₁₀.extBut D o hDL e, ?_, hq'.2.2, V9.same hs₁₀ hLn, rfl⟩
    rw [bl_skip (by omega) hq'.1 hq'.2.1, bl_snoc hr1 hc, if_pos c45]
    exact strs_push hS7
  · rw [if_neg (by simpa using (by omega : ¬ (r : Int) < 10))]
    have hr : r = 10 := by omega
    subst hr
    refine wpAny_execs_nil (wpAny_execs_cons (wpAny_Return_some (lname hn₇ mb7 ?_)))
    exact h h₇ _ D ys U7 hDn hP7 hS7
end Mine

namespace Mine

/-- a list of texts stands at D -/
def SL (h : Heap) (D : Addr) (xs : List Str) : Prop := ∃ vs : List Value, h.PlainList D vs.toArray ∧ StrsAre vs xs
theorem SL.of {h : Heap} {D : Addr} {ys : Array Value} {xs : List Str} (hp : h.PlainList D ys) (hs : StrsAre ys.toList xs) : SL h D xs := ⟨ys.toList, hp, hs⟩
theorem SL.at {h h' : Heap} {D : Addr} {xs : List Str} (a : SL h D xs) (k : ∀ o, h.get? D = some o → h'.get? D = some o) : SL h' D xs := let ⟨vs, p, q⟩ := a; ⟨vs, p.at k, q⟩
theorem SL.keeps {h h' : Heap} {D : Addr} {xs : List Str} (a : SL h D xs) (k : ∀ b o, h.get? b = some o → h'.get? b = some o) : SL h' D xs := a.at fun o e => k D o e
theorem SL.lt {h : Heap} {D : Addr} {xs : List Str} (a : SL h D xs) : @LT.lt Nat _ D h.objs.size := let ⟨_, ⟨_, e⟩, _⟩ := a; ltS e

theorem new_none (h : Heap) : h.get? h.objs.size = none := none_of_ge (Nat.le_refl _)

section
variable {prog : Program} {w : World} {A : Around} {E : Value → Shared → Prop} {s : Shared} {env : Env} {Q : Value → Shared → Prop}

theorem add_SL {a b : Addr} {xs ys : List Str} (ha : SL s.heap a xs) (hb : SL s.heap b ys) (hsz : xs.length + ys.length ≤ 1000)
    (k : ∀ D h', s.heap.get? D = none → SL h' D (xs ++ ys) → (∀ b o, s.heap.get? b = some o → h'.get? b = some o) → Q (.ref D) { s with heap := h' }) :
    wpAny (model prog w) A (binaryOp .Add (.ref a) (.ref b)) Q E s := by
  obtain ⟨vs, ⟨n, ho⟩, hv⟩ := ha
  obtain ⟨ws, ⟨n2, ho2⟩, hw⟩ := hb
  have e : vs.toArray ++ ws.toArray = (vs ++ ws).toArray := by simp
  have : sizeLine = 2 ^ 24 := sizeLine_eq
  refine concat_meets ⟨_, ho, rfl⟩ ⟨_, ho2, rfl⟩ noFill_list_add seq_list_add PySem.F.slot_list_add PySem.F.entry_list_add (PySem.F.args_list_add_2 _ _)
    (list_addW a b vs.toArray ws.toArray n n2 none none #[] #[] (by simp; rw [hv.length, hw.length]; omega)) ⟨ho, ho2, ?_⟩
  rw [e]
  exact k _ _ (new_none _) ⟨_, ⟨_, Heap.get?_push_size _ rfl⟩, StrsAre.append' hv hw⟩ fun b o q => Heap.get?_push_of_some _ q

theorem mul_SL {a : Addr} {x : Str} {n : Int} {u : Tok} (ha : SL s.heap a [x]) (hlo : -1000 ≤ n) (hhi : n ≤ 1000)
    (k : ∀ D h', s.heap.get? D = none → SL h' D (List.replicate n.toNat x) → (∀ b o, s.heap.get? b = some o → h'.get? b = some o) → Q (.ref D) { s with heap := h' }) :
    wpAny (model prog w) A (binaryOp .Mult (.ref a) (.int n u)) Q E s := by
  obtain ⟨vs, ⟨e, ho⟩, hv⟩ := ha
  obtain ⟨t, vs', rfl, hv'⟩ := hv.cons_inv
  obtain rfl := hv'.nil_inv
  refine wpAny_binaryOp_repeat_ref (T := "list") (U := "int") (by decide) ⟨_, ho, rfl⟩ (fun s' => typeIs_int s' n u) noFill_list_mul F.fills_int_mul F.slot_int_rmul repeat_list F.slot_int_index.lookup
    (call_meets F.slot_int_rmul (typeIs_int s n u) F.entry_int_rmul (F.args_int_rmul_2 _ _) (lm_int_rmul_list_any n u a _ e none #[])
      ⟨ho, rfl, ⟨_, ho, rfl⟩, call_meets F.slot_list_mul ⟨_, ho, rfl⟩ F.entry_list_mul (F.args_list_mul_2 _ _)
        (lm_list_mul_any a _ e none #[] n u (by simp [Builtin.List.listFitsIndex]; omega) (by simp; omega) (by simp [Builtin.List.listTooLong, sizeLine]; omega))
        ⟨ho, ?_⟩⟩)
  refine k _ _ (new_none _) ⟨List.replicate n.toNat (.str x t), ⟨0, ?_⟩, ?_⟩ fun b o q => Heap.get?_push_of_some _ q
  · rw [Heap.get?_push_size _ rfl]
    have e2 := listMul_foldl_if #[Value.str x t] n.toNat
    simp only [e2]
    congr 3
    have : ∀ k : Nat, (List.replicate k [Value.str x t]).flatten = List.replicate k (Value.str x t) := by
      intro k; induction k with
      | zero => rfl
      | succ k ih => simp [List.replicate_succ, ih]
    rw [this]
  · generalize n.toNat = k
    induction k with
    | zero => exact .nil
    | succ k ih => exact .cons x t ih

theorem sorted_SL {a : Addr} {xs : List Str} (ha : SL s.heap a xs) (h64 : xs.length < 64)
    (k : ∀ D h' xs', s.heap.get? D = none → SL h' D xs' → xs'.Perm xs → sortedS xs' = true → (∀ b o, s.heap.get? b = some o → h'.get? b = some o) → Q (.ref D) { s with heap := h' }) :
    wpAny (model prog w) A (call (.builtin "sorted") [.ref a]) Q E s := by
  obtain ⟨vs, hp, hv⟩ := ha
  refine sorted_strs hp.isList hv (by rw [hv.length]; exact h64) fun out ss' a1 a2 a3 => ?_
  obtain ⟨e, he⟩ := sortedAll_at s.heap vs out
  exact k _ _ ss' (none_of_ge (Nat.le_succ _)) (.of ⟨e, he⟩ a1) a2 a3 fun b o q => sortedAll_old q

theorem countIn_eq (k : Str) : ∀ ys : List Str, PySem.Spec.countIn (.str k) (ys.map PyData.str) = ((ys.count k : Nat) : Int)
  | [] => rfl
  | y :: r => by
    have hs : PySem.Spec.same (.str y) (.str k) = (y == k) := rfl
    have ih := countIn_eq k r
    by_cases h : (y == k) = true
    · have e : PySem.Spec.countIn (.str k) ((y :: r).map PyData.str) = 1 + PySem.Spec.countIn (.str k) (r.map PyData.str) := by
        show (if PySem.Spec.same (.str y) (.str k) = true then (1 : Int) else 0) + _ = _
        rw [if_pos (hs.trans h)]
      rw [e, ih, List.count_cons, if_pos h]; omega
    · have e : PySem.Spec.countIn (.str k) ((y :: r).map PyData.str) = 0 + PySem.Spec.countIn (.str k) (r.map PyData.str) := by
        show (if PySem.Spec.same (.str y) (.str k) = true then (1 : Int) else 0) + _ = _
        rw [if_neg (by rw [hs]; exact h)]
      rw [e, ih, List.count_cons, if_neg h]; omega

theorem count_SL {a : Addr} {xs : List Str} {x : Str} {t : Tok} (ha : SL s.heap a xs) (k : Q (.int ((xs.count x : Nat) : Int) s.toks) { s with toks := s.toks + 1 }) :
    wpAny (model prog w) A (call (.builtin "list.count") [.ref a, .str x t]) Q E s := by
  obtain ⟨vs, hp, hv⟩ := ha
  refine count_list_strs hp.isList hv ?_
  rw [countIn_eq]; exact k

theorem strs_eqAt {vs ws : List Value} {xs ys : List Str} (hv : StrsAre vs xs) (hw : StrsAre ws ys) {A : Around} {s : Shared} (j : Nat) (h1 : j < vs.toArray.size) (h2 : j < ws.toArray.size) :
    SeqAt.EqAt A s vs.toArray[j] ws.toArray[j] (xs[j]? == ys[j]?) := by
  have h1' : j < vs.length := by simpa using h1
  have h2' : j < ws.length := by simpa using h2
  obtain ⟨y, t, e1, e2⟩ := hv.item j vs[j] (by simp [h1'])
  obtain ⟨z, u, e3, e4⟩ := hw.item j ws[j] (by simp [h2'])
  simp only [List.getElem_toArray]
  rw [e1, e3, e2, e4]
  exact (eqGives_str y z t u).at _ _

theorem all_eq {xs ys : List Str} (h : xs.length = ys.length) : ((List.range xs.length).all fun j => xs[j]? == ys[j]?) = decide (xs = ys) := by
  rw [Bool.eq_iff_iff, List.all_eq_true, decide_eq_true_eq]
  constructor
  · intro hh
    apply List.ext_getElem? 
    intro i
    by_cases hi : i < xs.length
    · simpa using hh i (List.mem_range.mpr hi)
    · rw [List.getElem?_eq_none (by omega), List.getElem?_eq_none (by omega)]
  · rintro rfl i _; simp

theorem ne_SL {a b : Addr} {xs ys : List Str} (ha : SL s.heap a xs) (hb : SL s.heap b ys) (hu : A.units < cLine) (k : Q (.bool (!decide (xs = ys))) s) :
    wpAny (model prog w) A (compareOp .NotEq (.ref a) (.ref b)) Q E s := by
  obtain ⟨vs, hp, hv⟩ := ha
  obtain ⟨ws, hp2, hw⟩ := hb
  show wpAny _ _ (richCompare .NotEq (.ref a) (.ref b)) Q E s
  by_cases hl : xs.length = ys.length
  · have hsz : vs.toArray.size = xs.length := by simp [hv.length]
    refine SeqAt.RcNeAt.lists (e := fun j => xs[j]? == ys[j]?) hp.isList hp2.isList (by simp [hv.length, hw.length, hl]) hu (fun j h1 h2 => strs_eqAt hv hw j h1 h2) _ _ _ _ ?_
    rw [hsz, all_eq hl]; exact k
  · refine SeqAt.RcNeAt.lists_lengths hp.isList hp2.isList (by simp [hv.length, hw.length, hl]) hu _ _ _ _ ?_
    have : decide (xs = ys) = false := by simp; intro e; exact hl (by rw [e])
    rw [this] at k; exact k

theorem eq_SL {a b : Addr} {xs ys : List Str} (ha : SL s.heap a xs) (hb : SL s.heap b ys) (hu : A.units < cLine) (k : Q (.bool (decide (xs = ys))) s) :
    wpAny (model prog w) A (compareOp .Eq (.ref a) (.ref b)) Q E s := by
  obtain ⟨vs, hp, hv⟩ := ha
  obtain ⟨ws, hp2, hw⟩ := hb
  by_cases hl : xs.length = ys.length
  · have hsz : vs.toArray.size = xs.length := by simp [hv.length]
    refine SeqAt.eq_listAt (e := fun j => xs[j]? == ys[j]?) hp.isList hp2.isList (by simp [hv.length, hw.length, hl]) hu (fun j h1 h2 => strs_eqAt hv hw j h1 h2) ?_
    rw [hsz, all_eq hl]; exact k
  · refine SeqAt.eq_list_lengthsAt hp.isList hp2.isList (by simp [hv.length, hw.length, hl]) hu ?_
    have : decide (xs = ys) = false := by simp; intro e; exact hl (by rw [e])
    rw [this] at k; exact k

theorem slice_raw {value : PySem.Expr} {lower upper : Option PySem.Expr} {p : Pos} {l : Addr} {items : Array Value} {vl vu : Value} {lo hi : Option Int}
    (hl : s.heap.IsList l items) (pl : IsPart vl lo) (pu : IsPart vu hi)
    (h : Q (.ref (s.heap.objs.size + 1)) { s with heap := (s.heap.push { cls := .type "slice", data := .fields #[vl, vu, .none] }).push { cls := .type "list", data := .seq (slicePick items lo hi none) } })
    (hsz : items.size ≤ sizeLine) :
    wpAny (model prog w) A (subscriptTail value (.Slice lower upper none p) (.ref l) (.ref s.heap.objs.size)) Q E { s with heap := s.heap.push { cls := .type "slice", data := .fields #[vl, vu, .none] } } := by
  refine tail_any (Heap.IsList.typeIs (s := { s with heap := s.heap.push { cls := .type "slice", data := .fields #[vl, vu, .none] } }) (hl.push _)) list_getitem_lookup
    (wpAny_getItem_list_slice (hl.push _) (Heap.IsSliceOf.new ..) pl pu .none (by simp) ?_ hsz) rfl
  show Q (.ref (s.heap.push _).objs.size) _
  rw [Heap.size_push]
  exact h

/-- a new list by a slice, whatever its items -/
theorem slice_IL {value : PySem.Expr} {lower upper : Option PySem.Expr} {p : Pos} {l : Addr} {vs : List Value} {vl vu : Value} {lo hi : Option Int}
    (hl : s.heap.IsList l vs.toArray) (pl : IsPart vl lo) (pu : IsPart vu hi) (hx : vs.length ≤ 1000)
    (k : ∀ D h', s.heap.get? D = none → h'.PlainList D (slicePick vs.toArray lo hi none) → (∀ b o, s.heap.get? b = some o → h'.get? b = some o) → Q (.ref D) { s with heap := h' }) :
    wpAny (model prog w) A (newFields "slice" [vl, vu, .none]) (fun i s₁ => wpAny (model prog w) A (subscriptTail value (.Slice lower upper none p) (.ref l) i) Q E s₁) E s := by
  have : sizeLine = 2 ^ 24 := sizeLine_eq
  refine wpAny_newObj_type ?_ (by size_fits)
  refine slice_raw hl pl pu ?_ (by simp; omega)
  refine k _ _ (none_of_ge (Nat.le_succ _)) ⟨0, ?_⟩ fun b o q => Heap.get?_push_of_some _ (Heap.get?_push_of_some _ q)
  have := Heap.get?_push_size (s.heap.push { cls := .type "slice", data := .fields #[vl, vu, .none] }) (o := { cls := .type "list", data := .seq (slicePick vs.toArray lo hi none) }) rfl
  rw [Heap.size_push] at this
  exact this

theorem slice_SL {value : PySem.Expr} {lower upper : Option PySem.Expr} {p : Pos} {l : Addr} {xs ys : List Str} {vl vu : Value} {lo hi : Option Int}
    (hl : SL s.heap l xs) (pl : IsPart vl lo) (pu : IsPart vu hi) (hx : xs.length ≤ 1000) (hy : ∀ vs : List Value, vs.length = xs.length → StrsAre vs xs → StrsAre (slicePick vs.toArray lo hi none).toList ys)
    (k : ∀ D h', s.heap.get? D = none → SL h' D ys → (∀ b o, s.heap.get? b = some o → h'.get? b = some o) → Q (.ref D) { s with heap := h' }) :
    wpAny (model prog w) A (newFields "slice" [vl, vu, .none]) (fun i s₁ => wpAny (model prog w) A (subscriptTail value (.Slice lower upper none p) (.ref l) i) Q E s₁) E s := by
  obtain ⟨vs, hp, hv⟩ := hl
  exact slice_IL hp.isList pl pu (by rw [hv.length]; exact hx) fun D h' a b c => k D h' a (.of b (hy vs hv.length hv)) c

theorem eval_slice_nu {hi : PySem.Expr} {p : Pos} (h : wpAny (model prog w) A (eval hi env) (fun u s₁ => wpAny (model prog w) A (newFields "slice" [.none, u, .none]) Q E s₁) E s) :
    wpAny (model prog w) A (eval (.Slice none (some hi) none p) env) Q E s := by
  show wpAny _ _ (do let l ← valueOrNone none; let u ← holding [l] (valueOrNone (some (eval hi env))); let s ← holding [l, u] (valueOrNone none); newFields "slice" [l, u, s]) Q E s
  exact wpAny_bind (wpAny_pure (wpAny_bind (wpAny_holding (wpAny_mono h (fun u s₁ h₁ => wpAny_bind (wpAny_holding (wpAny_pure h₁))) fun _ _ e => e))))
theorem eval_slice_ln {lo : PySem.Expr} {p : Pos} (h : wpAny (model prog w) A (eval lo env) (fun u s₁ => wpAny (model prog w) A (newFields "slice" [u, .none, .none]) Q E s₁) E s) :
    wpAny (model prog w) A (eval (.Slice (some lo) none none p) env) Q E s := by
  show wpAny _ _ (do let l ← valueOrNone (some (eval lo env)); let u ← holding [l] (valueOrNone none); let s ← holding [l, u] (valueOrNone none); newFields "slice" [l, u, s]) Q E s
  exact wpAny_bind (wpAny_mono h (fun u s₁ h₁ => wpAny_bind (wpAny_holding (wpAny_pure (wpAny_bind (wpAny_holding (wpAny_pure h₁)))))) fun _ _ e => e)
theorem eval_slice_lu {lo hi : PySem.Expr} {p : Pos} (h : wpAny (model prog w) A (eval lo env) (fun l s₁ => wpAny (model prog w) A (eval hi env) (fun u s₂ => wpAny (model prog w) A (newFields "slice" [l, u, .none]) Q E s₂) E s₁) E s) :
    wpAny (model prog w) A (eval (.Slice (some lo) (some hi) none p) env) Q E s := by
  show wpAny _ _ (do let l ← valueOrNone (some (eval lo env)); let u ← holding [l] (valueOrNone (some (eval hi env))); let s ← holding [l, u] (valueOrNone none); newFields "slice" [l, u, s]) Q E s
  exact wpAny_bind (wpAny_mono h (fun l s₁ h₁ => wpAny_bind (wpAny_holding (wpAny_mono h₁ (fun u s₂ h₂ => wpAny_bind (wpAny_holding (wpAny_pure h₂))) fun _ _ e => e))) fun _ _ e => e)

theorem add_IL {a b : Addr} {vs ws : List Value} (ha : s.heap.IsList a vs.toArray) (hb : s.heap.IsList b ws.toArray) (hsz : vs.length + ws.length ≤ 1000)
    (k : ∀ D h', s.heap.get? D = none → h'.PlainList D (vs ++ ws).toArray → (∀ b o, s.heap.get? b = some o → h'.get? b = some o) → Q (.ref D) { s with heap := h' }) :
    wpAny (model prog w) A (binaryOp .Add (.ref a) (.ref b)) Q E s := by
  obtain ⟨⟨cls, dd, data, sl⟩, ho, hc, n, hd⟩ := id ha
  obtain ⟨⟨cls2, dd2, data2, sl2⟩, ho2, hc2, n2, hd2⟩ := id hb
  simp only at hc hd hc2 hd2
  subst hc hd hc2 hd2
  have e : vs.toArray ++ ws.toArray = (vs ++ ws).toArray := by simp
  have : sizeLine = 2 ^ 24 := sizeLine_eq
  refine concat_meets ⟨_, ho, rfl⟩ ⟨_, ho2, rfl⟩ noFill_list_add seq_list_add PySem.F.slot_list_add PySem.F.entry_list_add (PySem.F.args_list_add_2 _ _)
    (list_addW a b vs.toArray ws.toArray n n2 dd dd2 sl sl2 (by simp; omega)) ⟨ho, ho2, ?_⟩
  rw [e]
  exact k _ _ (new_none _) ⟨_, Heap.get?_push_size _ rfl⟩ fun b o q => Heap.get?_push_of_some _ q

theorem item_IL {value : PySem.Expr} {slice : PySem.Expr} {a : Addr} {vs : List Value} {i : Nat} {u : Tok} {v : Value} (ha : s.heap.IsList a vs.toArray) (hv : vs[i]? = some v) (hi : i < 1000) (k : Q v s)
    (hs : subscripted slice false (.ref a) (.int (i : Int) u) = operate [.ref a, .int (i : Int) u] (getItem (.ref a) (.int (i : Int) u)) := by with_unfolding_all rfl) :
    wpAny (model prog w) A (subscriptTail value slice (.ref a) (.int (i : Int) u)) Q E s :=
  tail_any ha.typeIs slot_list_getitem.lookup (wpAny_getItem_list ha (by omega) (by omega) (by simpa using hv) k) hs
end
end Mine

namespace Mine

def kinds : List Str := [⟨#[114]⟩, ⟨#[119]⟩, ⟨#[120]⟩]
def evenF (xs : List Str) : List Str := xs ++ kinds.filter fun k => xs.count k % 2 == 1

def oddP (xs : List Str) : Value → Bool
  | .str k _ => xs.count k % 2 == 1
  | _ => false

theorem rwx_values {vs : List Value} (hl : vs.length = 3) (h : ∀ (j : Nat) (v : Value), vs[j]? = some v → SignAt (Str.ofString "rwx") j v) : StrsAre vs kinds := by
  obtain ⟨v0, v1, v2, rfl⟩ : ∃ v0 v1 v2, vs = [v0, v1, v2] := by
    match vs, hl with
    | [a, b, c], _ => exact ⟨a, b, c, rfl⟩
  obtain ⟨c0, u0, e0, rfl⟩ := h 0 v0 rfl
  obtain ⟨c1, u1, e1, rfl⟩ := h 1 v1 rfl
  obtain ⟨c2, u2, e2, rfl⟩ := h 2 v2 rfl
  have f0 : c0 = 114 := by have : (Str.ofString "rwx").cps[0]? = some 114 := rfl; rw [this] at e0; cases e0; rfl
  have f1 : c1 = 119 := by have : (Str.ofString "rwx").cps[1]? = some 119 := rfl; rw [this] at e1; cases e1; rfl
  have f2 : c2 = 120 := by have : (Str.ofString "rwx").cps[2]? = some 120 := rfl; rw [this] at e2; cases e2; rfl
  subst f0 f1 f2
  exact .cons _ _ (.cons _ _ (.cons _ _ .nil))

theorem strs_filter {xs : List Str} : ∀ {vs : List Value} {ks : List Str}, StrsAre vs ks → StrsAre (vs.filter (oddP xs)) (ks.filter fun k => xs.count k % 2 == 1)
  | _, _, .nil => .nil
  | _, _, .cons y t r => by
    have ih := strs_filter (xs := xs) r
    have ho : oddP xs (.str y t) = (xs.count y % 2 == 1) := rfl
    by_cases hy : (xs.count y % 2 == 1) = true
    · rw [List.filter_cons_of_pos (ho.trans hy), List.filter_cons_of_pos (p := fun k => xs.count k % 2 == 1) hy]
      exact .cons y t ih
    · rw [List.filter_cons_of_neg (by rw [ho]; exact hy), List.filter_cons_of_neg (p := fun k => xs.count k % 2 == 1) hy]
      exact ih

theorem paired_eq : ∀ {vs ys : List Value}, Paired (fun v y => y = v) vs ys → ys = vs
  | _, _, .nil => rfl
  | _, _, .cons h r => by rw [h, paired_eq r]

set_option maxHeartbeats 2000000 in
theorem even_ok {w : World} {A : Around} {E : Value → Shared → Prop} {s : Shared} {mg mb : Str → Option Value} {D : Addr} {xs : List Str} {Q : Value → Shared → Prop}
    (G : Gl w mg mb s.heap) (hh : A.handled = none) (hroom : A.depth < recursionLimit) (hD : SL s.heap D xs) (hlen : xs.length ≤ 500)
    (h : ∀ h' tk D', s.heap.get? D' = none → SL h' D' (evenF xs) → (∀ b o, s.heap.get? b = some o → h'.get? b = some o) → Q (.ref D') { s with heap := h', toks := tk }) :
    wpAny (model PR w) A (call (.ref 87) [.ref D]) Q E s := by
  refine wpAny_call (codeAny_call_function hroom (G.inK _ _ (by rfl)) rfl rfl rfl rfl (codeRec_of G.inK (by kernel_rfl)) ((BindsTo.of_eq rfl) _ _ _ _ ?_))
  refine wpAny_newFunctionEnv_cells rfl ?_ fun env he s' x => ?_
  · intro y hy; cases hy with
    | head => exact .inr ⟨rfl, rfl⟩
    | tail _ hy => cases hy
  subst he
  obtain ⟨h₀, tk₀, rfl, hk⟩ := x.done
  refine ⟨G.lim.keeps hk, codeAny_func ?_⟩
  have hn := x.toInCall.ns
  have hc := x.cell (Str.ofString "beads") (s.heap.objs.size + 1) rfl
  obtain ⟨hcc⟩ : Nonempty (Heap.IsCell h₀ (s.heap.objs.size + 1) (some (.ref D))) := ⟨hc⟩
  clear hc x
  have hD0 : SL h₀ D xs := hD.keeps hk
  refine wpAny_execs_cons (wpAny_Return_some (wpAny_BinOp (wpAny_Name (wpAny_loadName_cell (by rfl) (by rfl) (by rfl) hcc ?_) (by decide))))
  refine wpAny_ListComp_free (oddP xs) (fun v y => y = v) (cl := [(Str.ofString "beads", s.heap.objs.size + 1)]) (by with_unfolding_all rfl) (by decide) (by rfl) (by decide) (by rfl) (Calls.Constant_str (wpAny_pyIter_str fun o St W hst => ?_)) (by intro _; rfl)
  refine ⟨_, _, _, _, _, St, rfl, W _ hh, by decide, hst, ?_, ⟨?_, ?_⟩, ?_⟩
  · intro b hb
    rw [List.mem_singleton.mp hb]
    show @LT.lt Nat _ _ _
    rw [Heap.size_push]; exact Nat.lt_succ_self _
  · intro C i v s₃ m₃ E' hC hP hn₃ hm₃ hk₃ _
    obtain ⟨c, u, hcu, rfl⟩ := hP
    have kk : ∀ b o, h₀.get? b = some o → s₃.heap.get? b = some o := fun b o e => hk₃ b o (by simp; exact Nat.ne_of_lt (Heap.lt_size e)) (Heap.get?_push_of_some _ e)
    refine wpAny_tests_one (wpAny_isTrue_Compare1 (wpAny_BinOp (Call_method1 rfl rfl rfl (wpAny_Name (wpAny_loadName_cell (by rfl) (by rfl) (by rfl) (hcc.keeps kk) ?_) (by decide)))))
    obtain ⟨vs, hp, hv⟩ := hD0.keeps kk
    refine ⟨"list", "list.count", F.plainAttrs_list, F.slot_list_count, F.type_list_count, hp.isList.typeIs, noDict_plain hp, ?_⟩
    refine Calls.callWith_builtin rfl (Calls.evalArgs_plain (Calls.spliced_cons (lname hn₃ hm₃ (Calls.spliced_nil ?_))))
    refine count_SL ⟨vs, hp, hv⟩ (wpAny_Constant_int (mod_int' (by decide) (wpAny_Constant_int (PyProof.Rows.eq_int (wpAny_truthy_bool ⟨?_, _, _, rfl, fun _ _ e => e⟩)))))
    show _ = (xs.count _ % 2 == 1)
    rw [Int.fmod_eq_emod_of_nonneg _ (by decide)]
    have : ((xs.count ⟨#[c]⟩ : Nat) : Int) % 2 = ((xs.count ⟨#[c]⟩ % 2 : Nat) : Int) := by omega
    rw [this]
    by_cases hz : xs.count ⟨#[c]⟩ % 2 = 1
    · rw [hz]; rfl
    · have : xs.count ⟨#[c]⟩ % 2 = 0 := by omega
      rw [this]; rfl
  · intro C i v s₃ m₃ E' hC hP _ hn₃ hm₃ hk₃ _
    exact lname hn₃ hm₃ ⟨rfl, _, _, rfl, fun _ _ e => e⟩
  · intro D2 h₂ tk₂ ys vs hDn hl hpl hlen2 hP hF hk₂
    have hvs := rwx_values (vs := vs) hlen2 hP
    have hys : StrsAre ys.toList (kinds.filter fun k => xs.count k % 2 == 1) := by rw [paired_eq hF]; exact strs_filter hvs
    have kk : ∀ b o, h₀.get? b = some o → h₂.get? b = some o := fun b o e => hk₂ b o (by simp; exact Nat.ne_of_lt (Heap.lt_size e)) (Heap.get?_push_of_some _ e)
    have hfl : (kinds.filter fun k => xs.count k % 2 == 1).length ≤ 3 := List.length_filter_le _ _
    refine add_SL (hD0.keeps kk) (.of hpl hys) (by omega) fun D3 h₃ hD3 hS3 hk₃ => ?_
    refine h h₃ _ D3 ?_ hS3 fun b o e => hk₃ b o (kk b o (hk b o e))
    cases q : s.heap.get? D3 with
    | none => rfl
    | some o => rw [kk _ _ (hk _ _ q)] at hD3; cases hD3
end Mine

namespace Mine

def uldR : List Str → List Str → List Str → List Str × List Str
  | [], ms, ac => (ms, ac)
  | x :: r, ms, ac => if x ∈ ac then uldR r ms (ac.erase x) else uldR r (ms ++ [x]) ac

theorem mapSeq_plain (its : Array Value) (n : Nat) (f : Array Value → Array Value) :
    ∃ n', Obj.mapSeq f { cls := .type "list", data := .seq its n } = { cls := .type "list", data := .seq (f its) n' } := by
  simp [Obj.mapSeq]

theorem plain_mapSeq {h : Heap} {l : Addr} {its : Array Value} (hp : h.PlainList l its) (f : Array Value → Array Value) : (h.update l (Obj.mapSeq f)).PlainList l (f its) := by
  obtain ⟨n, e⟩ := hp
  obtain ⟨n', e'⟩ := mapSeq_plain its n f
  refine ⟨n', ?_⟩
  rw [Heap.get?_update_self _ e (by rw [e']; rfl), e']

theorem strs_snoc_inv : ∀ {vs : List Value} {xs : List Str} {x : Str}, StrsAre vs (xs ++ [x]) → ∃ ws t, vs = ws ++ [.str x t] ∧ StrsAre ws xs
  | _, [], x, h => by
    obtain ⟨t, vs', rfl, h'⟩ := h.cons_inv
    rw [h'.nil_inv]
    exact ⟨[], t, rfl, .nil⟩
  | _, y :: r, x, h => by
    obtain ⟨t, vs', rfl, h'⟩ := h.cons_inv
    obtain ⟨ws, u, rfl, hw⟩ := strs_snoc_inv h'
    exact ⟨.str y t :: ws, u, rfl, .cons y t hw⟩

theorem strs_erase {x : Str} : ∀ {vs : List Value} {ys : List Str}, StrsAre vs ys → x ∈ ys → ∃ (j : Nat) (hj : j < vs.length), isStrOf x vs[j] = true ∧ (∀ m (hm : m < vs.length), m < j → isStrOf x vs[m] = false) ∧ StrsAre (vs.eraseIdx j) (ys.erase x)
  | _, _, .nil, h => by cases h
  | _, _, .cons y t r, h => by
    by_cases e : y = x
    · subst e
      refine ⟨0, by simp, by simp [isStrOf], fun m hm hlt => by omega, ?_⟩
      simpa using r
    · have hx : x ∈ _ := (List.mem_cons.mp h).resolve_left (Ne.symm e)
      obtain ⟨j, hj, h1, h2, h3⟩ := strs_erase r hx
      refine ⟨j + 1, by simp; exact hj, by simpa using h1, ?_, ?_⟩
      · intro m hm hlt
        cases m with
        | zero => simp [isStrOf, e]
        | succ m => simpa using h2 m (by simpa using hm) (by omega)
      · rw [List.erase_cons_tail (by simpa using e)]
        simpa using StrsAre.cons y t h3

section
variable {prog : Program} {w : World} {A : Around} {E : Value → Shared → Prop} {s : Shared} {env : Env} {Q : Value → Shared → Prop}

theorem pop_SL {a : Addr} {xs : List Str} {x : Str} (ha : SL s.heap a (xs ++ [x])) (hsz : xs.length ≤ 1000)
    (k : ∀ t h', SL h' a xs → Heap.SameBut a s.heap h' → Q (.str x t) { s with heap := h' }) : wpAny (model prog w) A (call (.builtin "list.pop") [.ref a]) Q E s := by
  obtain ⟨vs, hp, hv⟩ := ha
  obtain ⟨ws, t, rfl, hw⟩ := strs_snoc_inv hv
  have : sizeLine = 2 ^ 24 := sizeLine_eq
  have hl := hw.length
  have hp' := hp
  obtain ⟨n, ho⟩ := hp
  refine call_meets F.slot_list_pop ⟨_, ho, rfl⟩ F.entry_list_pop (F.args_list_pop_1 _) (MeetsSeq.list_pop_last a _ n (.str x t) (by simp) (by simp; omega)) ⟨ho, ?_⟩
  have hq := plain_mapSeq hp' (fun xs => xs.eraseIdxIfInBounds ((ws ++ [Value.str x t]).toArray.size - 1))
  have e : (ws ++ [Value.str x t]).toArray.eraseIdxIfInBounds ((ws ++ [Value.str x t]).toArray.size - 1) = ws.toArray := by
    apply Array.toList_inj.mp
    simp
    rw [List.eraseIdx_append_of_length_le (Nat.le_refl _)]
    simp
  rw [e] at hq
  exact k t _ ⟨ws, hq, hw⟩ (Heap.SameBut.update ..)

theorem remove_SL {b : Addr} {ys : List Str} {x : Str} {t : Tok} (hb : SL s.heap b ys) (hx : x ∈ ys) (hsz : ys.length ≤ 1000)
    (k : ∀ h', SL h' b (ys.erase x) → Heap.SameBut b s.heap h' → Q .none { s with heap := h' }) : wpAny (model prog w) A (call (.builtin "list.remove") [.ref b, .str x t]) Q E s := by
  obtain ⟨vs, hp, hv⟩ := hb
  have hp' := hp
  obtain ⟨n, ho⟩ := hp
  have : sizeLine = 2 ^ 24 := sizeLine_eq
  have hl := hv.length
  obtain ⟨j, hj, h1, h2, h3⟩ := strs_erase hv hx
  refine call_meets F.slot_list_remove ⟨_, ho, rfl⟩ F.entry_list_remove (F.args_list_remove_2 _ _)
    (MeetsSeq.list_remove b vs.toArray n (.str x t) (isStrOf x) (fun y hy => eq_isStrOf x t hv y (by simpa using hy)) j (by simpa using hj) (by simpa using h1) (fun m hm hlt => by simpa using h2 m (by simpa using hm) hlt) (by simp; omega)) ⟨ho, ?_⟩
  have hq := plain_mapSeq hp' (fun xs => xs.eraseIdxIfInBounds j)
  have e : vs.toArray.eraseIdxIfInBounds j = (vs.eraseIdx j).toArray := by
    simp
  simp only [e] at hq
  exact k _ ⟨_, hq, h3⟩ (Heap.SameBut.update ..)

theorem remove_SL_none {b : Addr} {ys : List Str} {x : Str} {t : Tok} (hb : SL s.heap b ys) (hx : x ∉ ys) (hh : A.handled = none)
    (k : ∀ h' tk e, Heap.NewExc s.heap h' e "ValueError" → E (.ref e) { s with heap := h', toks := tk }) : wpAny (model prog w) A (call (.builtin "list.remove") [.ref b, .str x t]) Q E s := by
  obtain ⟨vs, ⟨n, ho⟩, hv⟩ := hb
  refine call_meets F.slot_list_remove ⟨_, ho, rfl⟩ F.entry_list_remove (F.args_list_remove_2 _ _)
    (MeetsSeq.list_remove_none b vs.toArray n (.str x t) (isStrOf x) (fun y hy => eq_isStrOf x t hv y (by simpa using hy)) (fun m hm => ?_)) ⟨ho, hh, k⟩
  obtain ⟨y, u, e1, e2⟩ := hv.item m vs[m] (by simp at hm ⊢)
  simp only [List.getElem_toArray]
  rw [e1]
  show (y == x) = false
  have : y ≠ x := fun q => hx (q ▸ List.mem_of_getElem? e2)
  simpa using this

theorem truthy_SL {a : Addr} {xs : List Str} {Q : Bool → Shared → Prop} (ha : SL s.heap a xs) (hsz : xs.length ≤ 1000) (k : ∀ tk, Q (!xs.isEmpty) { s with toks := tk }) : wpAny (model prog w) A (truthy (.ref a)) Q E s := by
  obtain ⟨vs, hp, hv⟩ := ha
  refine wpAny_truthy_list hp.isList (by simp; rw [hv.length]; omega) ?_
  have hl := hv.length
  cases xs with
  | nil => rw [hv.nil_inv]; exact k _
  | cons x r =>
    obtain ⟨t, vs', rfl, _⟩ := hv.cons_inv
    exact k _
end
end Mine

namespace Mine

theorem snoc_of_ne {xs : List Str} (h : xs ≠ []) : ∃ r x, xs = r ++ [x] := ⟨xs.dropLast, xs.getLast h, (List.dropLast_concat_getLast h).symm⟩

theorem uldR_hit {r : List Str} {x : Str} {ms ac : List Str} (h : x ∈ ac) : uldR (r ++ [x]).reverse ms ac = uldR r.reverse ms (ac.erase x) := by
  rw [List.reverse_append]; simp [uldR, h]
theorem uldR_miss {r : List Str} {x : Str} {ms ac : List Str} (h : x ∉ ac) : uldR (r ++ [x]).reverse ms ac = uldR r.reverse (ms ++ [x]) ac := by
  rw [List.reverse_append]; simp [uldR, h]

theorem append_SL {prog : Program} {w : World} {A : Around} {E : Value → Shared → Prop} {s : Shared} {env : Env} {xl : Str} {e : PySem.Expr} {p ap pos spos : Pos} {m : Str → Option Value} {P : Addr} {ys : List Str} {x : Str} {Q : Flow → Shared → Prop}
    (hn : s.heap.Ns env.locals m) (hv : m xl = some (.ref P)) (hP : SL s.heap P ys) (hsz : ys.length ≤ 1000)
    (he : wpAny (model prog w) A (eval e env) (fun v s₁ => ∃ t tk, v = .str x t ∧ s₁ = { s with toks := tk }) E s)
    (h : ∀ h' tk, SL h' P (ys ++ [x]) → Heap.SameBut P s.heap h' → Q .next { s with heap := h', toks := tk })
    (hk : env.scope.kind = .function := by rfl) (hx : env.kindOf xl = some .local := by rfl) (hd : (xl == ("__debug__" : Str)) = false := by decide)
    (hstar : starEach [e] env = [(false, eval e env)] := by rfl) (hline : (ap.endLine == pos.line) = true := by rfl) (hi : interactive env = false := by rfl) :
    wpAny (model prog w) A (exec (.Expr (.Call (.Attribute (.Name xl p) (Str.ofString "append") ap) [e] [] pos) spos) env) Q E s := by
  obtain ⟨vs, hp, hvs⟩ := hP
  have : sizeLine = 2 ^ 24 := sizeLine_eq
  refine append_stmt hn hv hp (by simp; rw [hvs.length]; omega) he (fun h' t tk hp' hs' => h h' tk (.of hp' ?_) hs') hk hx hd hstar hline hi
  exact strs_push hvs

theorem noDict_SL {h : Heap} {D : Addr} {xs : List Str} (hD : SL h D xs) : ∀ a, Value.ref D = .ref a → ∃ ob, h.get? a = some ob ∧ ob.dict = none := let ⟨_, hp, _⟩ := hD; noDict_plain hp
theorem SL.typeIs {s : Shared} {D : Addr} {xs : List Str} (hD : SL s.heap D xs) : s.TypeIs (.ref D) "list" := let ⟨_, hp, _⟩ := hD; hp.isList.typeIs

theorem hide_none {h : Heap} {l : List Addr} {c : Addr} (e : h.get? c = none) : (hideAll h l).get? c = none := by
  cases q : (hideAll h l).get? c with
  | none => rfl
  | some o => have := of_hideAll _ q; rw [e] at this; cases this

set_option maxHeartbeats 4000000 in
theorem uld_ok {w : World} {A : Around} {E : Value → Shared → Prop} {s : Shared} {mg mb : Str → Option Value} {outer : List Env} {hb : Heap} {a b : Addr} {xs ys : List Str} {Q : Value → Shared → Prop}
    (G : Gl w mg mb hb) (hk0 : ∀ c o, hb.get? c = some o → s.heap.get? c = some o) (hfB : ∀ L ∈ FLs outer, hb.get? L = none) (ha0 : hb.get? a = none) (hb0 : hb.get? b = none)
    (hh : A.handled = none) (hroom : A.depth < recursionLimit) (hfr : A.frames = some outer) (hF : FramesOk s.heap outer) (haF : a ∉ FLs outer) (hbF : b ∉ FLs outer) (hab : a ≠ b)
    (ha : SL s.heap a xs) (hB : SL s.heap b ys) (hxl : xs.length ≤ 100) (hyl : ys.length ≤ 100)
    (h : ∀ h' tk T M, KU (FLs outer) (hideAll s.heap [a, b]) h' → s.heap.get? T = none → s.heap.get? M = none → h'.IsTuple T #[.ref M, .ref b] → SL h' M (uldR xs.reverse [] ys).1 → SL h' b (uldR xs.reverse [] ys).2 → Q (.ref T) { s with heap := h', toks := tk }) :
    wpAny (model PR w) A (call (.ref 21) [.ref a, .ref b]) Q E s := by
  have Gs := G.keeps hk0
  refine wpAny_call (codeAny_call_def hroom (Gs.inK _ _ (by rfl)) rfl Gs.lim (codeRec_of Gs.inK (by kernel_rfl)) rfl (BindsTo.of_eq rfl) (by decide) (locs rfl) ?_)
  intro h₀ hn hk
  obtain ⟨m0, hn0, me, mac⟩ : ∃ m0 : Str → Option Value, h₀.Ns s.heap.objs.size m0 ∧ m0 (Str.ofString "expected") = some (.ref a) ∧ m0 (Str.ofString "actual") = some (.ref b) := ⟨_, hn, rfl, rfl⟩
  clear hn
  -- the ground: all but the two lists
  generalize hsB : hideAll s.heap [a, b] = sB at *
  have sBs : ∀ c o, sB.get? c = some o → s.heap.get? c = some o := fun c o e => of_hideAll [a, b] (hsB ▸ e)
  have hLs : s.heap.get? s.heap.objs.size = none := none_of_ge (Nat.le_refl _)
  have hLn : sB.get? s.heap.objs.size = none := hsB ▸ hide_none hLs
  have han : sB.get? a = none := hsB ▸ hideAll_none _ (by simp)
  have hbn : sB.get? b = none := hsB ▸ hideAll_none _ (by simp)
  have hbB : ∀ c o, hb.get? c = some o → sB.get? c = some o := fun c o e => by
    rw [← hsB]
    refine hideAll_get _ (hk0 c o e) fun hm => ?_
    rcases List.mem_cons.mp hm with q | hm
    · rw [q, ha0] at e; cases e
    · rw [List.mem_singleton.mp hm, hb0] at e; cases e
  have hLb : hb.get? s.heap.objs.size = none := by
    cases q : hb.get? s.heap.objs.size with
    | none => rfl
    | some o => rw [hk0 _ _ q] at hLs; cases hLs
  have hFB : FramesOk sB outer := fun env he => by
    obtain ⟨k1, L, o, k2, k3, k4⟩ := hF env he
    refine ⟨k1, L, o, k2, ?_, k4⟩
    have hLF : L ∈ FLs outer := List.mem_filterMap.mpr ⟨env, he, k2⟩
    rw [← hsB]
    refine hideAll_get _ k3 fun hm => ?_
    rcases List.mem_cons.mp hm with q | hm
    · exact haF (q ▸ hLF)
    · exact hbF ((List.mem_singleton.mp hm) ▸ hLF)
  have U0 : KU (FLs outer) sB h₀ := .of fun c o e => hk c o (sBs c o e)
  have aL : a ≠ s.heap.objs.size := neA (.inl ha.lt)
  have bL : b ≠ s.heap.objs.size := neA (.inl hB.lt)
  -- missing = []
  refine wpAny_execs_cons (wpAny_Assign_Name (List_ (Calls.spliced_nil (wpAny_newList ?_ (by decide)))))
  have hM0 := Heap.get?_push_size h₀ (o := { cls := .type "list", data := .seq ([] : List Value).toArray }) rfl
  have hk1 : ∀ b o, h₀.get? b = some o → (h₀.push { cls := .type "list", data := .seq ([] : List Value).toArray }).get? b = some o := fun b o e => Heap.get?_push_of_some _ e
  have hLlt : @LT.lt Nat _ s.heap.objs.size h₀.objs.size := by obtain ⟨_, _, _, e, _⟩ := hn0; exact ltS e
  generalize hM : h₀.objs.size = M at *
  generalize h₀.push { cls := .type "list", data := .seq ([] : List Value).toArray } = h₁ at *
  have ML : M ≠ s.heap.objs.size := neA (.inr hLlt)
  have Ma : M ≠ a := neA (.inr (Nat.lt_trans ha.lt hLlt))
  have Mb : M ≠ b := neA (.inr (Nat.lt_trans hB.lt hLlt))
  have Ms : s.heap.get? M = none := none_of_ge (Nat.le_of_lt hLlt)
  have Mn : sB.get? M = none := hsB ▸ hide_none Ms
  have notF : ∀ c, c ≠ s.heap.objs.size → c ∉ FLs outer → c ∉ s.heap.objs.size :: FLs outer := fun c h1 h2 hm => by
    rcases List.mem_cons.mp hm with q | hm
    · exact h1 q
    · exact h2 hm
  have MF : M ∉ FLs outer := fun hm => by
    obtain ⟨env, he, hf⟩ := List.mem_filterMap.mp hm
    obtain ⟨_, L', o, h1, h2, _⟩ := hF env he
    rw [hf] at h1; cases h1
    rw [Ms] at h2; cases h2
  have U1 := U0.sub hk1
  refine wpAny_storeName_local (by rfl) (hn0.keeps hk1) (fun h₂ hn₂ hs₂ => ?_) (by rfl)
  replace hs₂ : Heap.SameBut s.heap.objs.size h₁ h₂ := hs₂
  have U2 := U1.same hs₂ hLn
  obtain ⟨m2, hn2, me2, mac2, mm2⟩ : ∃ m2 : Str → Option Value, h₂.Ns s.heap.objs.size m2 ∧ m2 (Str.ofString "expected") = some (.ref a) ∧ m2 (Str.ofString "actual") = some (.ref b) ∧ m2 (Str.ofString "missing") = some (.ref M) := ⟨_, hn₂, me, mac, rfl⟩
  clear hn₂
  have a2 : SL h₂ a xs := ((ha.keeps hk).keeps hk1).at fun o e => hs₂.extBut a o aL e
  have b2 : SL h₂ b ys := ((hB.keeps hk).keeps hk1).at fun o e => hs₂.extBut b o bL e
  have M2 : SL h₂ M [] := ⟨[], ⟨_, hs₂.extBut M _ ML hM0⟩, .nil⟩
  -- the loop
  refine wpAny_execs_cons (wpAny_While (codeAny_whileLoop
    (fun n s' => ∃ h' tk m' cur ms ac, s' = { s with heap := h', toks := tk } ∧ h'.Ns s.heap.objs.size m' ∧ m' (Str.ofString "expected") = some (.ref a) ∧ m' (Str.ofString "actual") = some (.ref b) ∧ m' (Str.ofString "missing") = some (.ref M) ∧
      SL h' a cur ∧ SL h' M ms ∧ SL h' b ac ∧ uldR cur.reverse ms ac = uldR xs.reverse [] ys ∧ ms.length + cur.length ≤ 100 ∧ ac.length ≤ 100 ∧ KU (FLs outer) sB h' ∧ n = cur.length + 1) ?_ (xs.length + 1)
    ⟨h₂, _, m2, xs, [], ys, rfl, hn2, me2, mac2, mm2, a2, M2, b2, rfl, by simpa using hxl, hyl, U2, rfl⟩))
  rintro n s' ⟨h₃, tk₃, m₃, cur, ms, ac, rfl, hn₃, me3, mac3, mm3, a3, M3, b3, hR3, hl3, hl3', U3, rfl⟩
  refine isTrue_plain (lname hn₃ me3 (truthy_SL a3 (by omega) fun tk => ?_))
  by_cases hcur : cur = []
  · subst hcur
    rw [if_neg (by simp)]
    refine wpAny_execs_nil (wpAny_execs_cons (wpAny_Return_some (Tuple_ (Calls.spliced_cons (lname hn₃ mm3 (Calls.spliced_cons (lname hn₃ mac3 (Calls.spliced_nil (wpAny_newTuple ?_ (by show 2 ≤ sizeLine; decide))))))))))
    have hk4 : ∀ c o, h₃.get? c = some o → (h₃.push { cls := .type "tuple", data := .seq [Value.ref M, Value.ref b].toArray }).get? c = some o := fun c o e => Heap.get?_push_of_some _ e
    refine h _ _ _ M (U3.sub hk4) ?_ Ms ⟨_, Heap.get?_push_size _ rfl, rfl, _, rfl⟩ ?_ ?_
    · refine none_of_ge ?_
      obtain ⟨_, _, _, e, _⟩ := hn₃
      exact Nat.le_of_lt (ltS e)
    · rw [← hR3]; exact M3.keeps hk4
    · rw [← hR3]; exact b3.keeps hk4
  · obtain ⟨r, x, rfl⟩ := snoc_of_ne hcur
    rw [if_pos (by simp)]
    rw [List.length_append, List.length_singleton] at hl3
    -- item = expected.pop()
    refine wpAny_execs_cons (wpAny_Assign_Name (Call_method0 rfl rfl (lname hn₃ me3 ⟨"list", "list.pop", F.plainAttrs_list, F.slot_list_pop, F.type_list_pop, SL.typeIs (s := { s with heap := h₃, toks := tk }) a3, noDict_SL a3, ?_⟩)))
    refine Calls.callWith_builtin rfl (PyProof.Rows.evalArgs_none (pop_SL a3 (by omega) fun t₄ h₄ a4 hs₄ => ?_))
    replace hs₄ : Heap.SameBut a h₃ h₄ := hs₄
    have U4 := U3.same hs₄ han
    have hn₄ := hn₃.sameBut hs₄ (Ne.symm aL)
    have M4 : SL h₄ M ms := M3.at fun o e => hs₄.extBut M o Ma e
    have b4 : SL h₄ b ac := b3.at fun o e => hs₄.extBut b o (Ne.symm hab) e
    refine wpAny_storeName_local (by rfl) hn₄ (fun h₅ hn₅ hs₅ => ?_) (by rfl)
    replace hs₅ : Heap.SameBut s.heap.objs.size h₄ h₅ := hs₅
    have U5 := U4.same hs₅ hLn
    have a5 : SL h₅ a r := a4.at fun o e => hs₅.extBut a o aL e
    have M5 : SL h₅ M ms := M4.at fun o e => hs₅.extBut M o ML e
    have b5 : SL h₅ b ac := b4.at fun o e => hs₅.extBut b o bL e
    obtain ⟨m5, hn5, me5, mac5, mm5, mi5⟩ : ∃ m5 : Str → Option Value, h₅.Ns s.heap.objs.size m5 ∧ m5 (Str.ofString "expected") = some (.ref a) ∧ m5 (Str.ofString "actual") = some (.ref b) ∧ m5 (Str.ofString "missing") = some (.ref M) ∧ m5 (Str.ofString "item") = some (.str x t₄) := ⟨_, hn₅, me3, mac3, mm3, rfl⟩
    clear hn₅ hn₄
    -- try: actual.remove(item)
    refine wpAny_execs_cons (wpAny_Try_except (wpAny_execs_cons (wpAny_Expr ?_)))
    refine Call_method1 rfl rfl rfl (lname hn5 mac5 ⟨"list", "list.remove", F.plainAttrs_list, F.slot_list_remove, F.type_list_remove, SL.typeIs (s := { s with heap := h₅, toks := _ }) b5, noDict_SL b5, ?_⟩)
    refine Calls.callWith_builtin rfl (Calls.evalArgs_plain (Calls.spliced_cons (lname hn5 mi5 (Calls.spliced_nil ?_))))
    by_cases hx : x ∈ ac
    · refine remove_SL b5 hx (by omega) fun h₆ b6 hs₆ => ?_
      replace hs₆ : Heap.SameBut b h₅ h₆ := hs₆
      refine wpAny_execs_nil (wpAny_execs_nil (wpAny_execs_nil ?_))
      refine ⟨r.length + 1, by simp, h₆, _, m5, r, ms, ac.erase x, rfl, hn5.sameBut hs₆ (Ne.symm bL), me5, mac5, mm5, a5.at fun o e => hs₆.extBut a o hab e, M5.at fun o e => hs₆.extBut M o Mb e, b6, ?_, by omega, ?_, U5.same hs₆ hbn, rfl⟩
      · rw [← hR3, uldR_hit hx]
      · have := List.length_erase_le (a := x) (l := ac); omega
    · refine remove_SL_none b5 hx hh fun h₆ tk₆ e hx₆ => ?_
      replace hx₆ : Heap.NewExc h₅ h₆ e "ValueError" := hx₆
      have hF5 : FramesOk h₅ outer := U5.frames hFB
      refine note_new (h := h₅) (Around.frames_deeper hfr) rfl (hF5.cons (by intro q; cases q) rfl hn5) hx₆ fun h₇ a0 hH₇ hs₇ => ?_
      have hbB5 : ∀ c o, hb.get? c = some o → (hideAll h₅ (s.heap.objs.size :: FLs outer)).get? c = some o := fun c o e => by
        have e1 := (KU.base hbB hfB U5) c o e
        refine hideAll_get _ e1 fun hm => ?_
        rcases List.mem_cons.mp hm with q | hm
        · rw [q, hLb] at e; cases e
        · rw [hfB c hm] at e; cases e
      refine held_caught hH₇ (G.keeps hbB5) (by kernel_rfl) PyProof.Rows.Boot.«ValueError» F.isExc_ValueError F.notTuple_ValueError F.self_ValueError (fun h₈ hst₈ hs₈ => ?_) (by decide) rfl rfl rfl rfl (by decide)
      replace hst₈ : (hideAll h₅ (s.heap.objs.size :: FLs outer)).StaysIn h₈ := hst₈
      have up : h₅.UpToSlots h₈ := (((Heap.UpToSlots.of_keeps hx₆.keeps).trans hs₇).trans hs₈)
      have V8 : KU (s.heap.objs.size :: FLs outer) h₅ h₈ := ⟨fun c o hc q => hst₈ c o (hideAll_get _ q hc), up⟩
      have U8 := U5.more V8 hLn
      have hn8 := V8.ns hn5
      have a8 : SL h₈ a r := a5.at fun o q => V8.keep a o (notF a aL haF) q
      have M8 : SL h₈ M ms := M5.at fun o q => V8.keep M o (notF M ML MF) q
      have b8 : SL h₈ b ac := b5.at fun o q => V8.keep b o (notF b bL hbF) q
      refine wpAny_execs_cons (append_SL hn8 mm5 M8 (by omega) (lname hn8 mi5 ⟨_, _, rfl, rfl⟩) fun h₉ tk₉ M9 hs₉ => ?_)
      replace hs₉ : Heap.SameBut M h₈ h₉ := hs₉
      refine wpAny_execs_nil (wpAny_execs_nil ?_)
      refine ⟨r.length + 1, by simp, h₉, _, m5, r, ms ++ [x], ac, rfl, hn8.sameBut hs₉ (Ne.symm ML), me5, mac5, mm5, a8.at fun o q => hs₉.extBut a o (Ne.symm Ma) q, M9, b8.at fun o q => hs₉.extBut b o (Ne.symm Mb) q, ?_, by simp; omega, hl3', U8.same hs₉ Mn, rfl⟩
      rw [← hR3, uldR_miss hx]
end Mine

namespace Mine

/-- all is kept but the frame's own namespace -/
def KL (L : Addr) (h h' : Heap) : Prop := ∀ c o, c ≠ L → h.get? c = some o → h'.get? c = some o
theorem KL.refl {L : Addr} {h : Heap} : KL L h h := fun _ _ _ e => e
theorem KL.trans {L : Addr} {h h' h'' : Heap} (a : KL L h h') (b : KL L h' h'') : KL L h h'' := fun c o hc e => b c o hc (a c o hc e)
theorem KL.of {L : Addr} {h h' : Heap} (k : ∀ b o, h.get? b = some o → h'.get? b = some o) : KL L h h' := fun c o _ e => k c o e
theorem KL.same {L : Addr} {h h' : Heap} (hs : Heap.SameBut L h h') : KL L h h' := fun c o hc e => hs.extBut c o hc e
theorem KL.ku {L : Addr} {h h' : Heap} (k : KU [L] h h') : KL L h h' := fun c o hc e => k.keep c o (by simpa using hc) e
theorem KL.sl {L : Addr} {h h' : Heap} (k : KL L h h') {D : Addr} {xs : List Str} (a : SL h D xs) (hD : D ≠ L) : SL h' D xs := a.at fun o e => k D o hD e
theorem KL.cell {L : Addr} {h h' : Heap} (k : KL L h h') {c : Addr} {v : Option Value} (a : h.IsCell c v) (hc : c ≠ L) : h'.IsCell c v := let ⟨o, e, d⟩ := a; ⟨o, k c o hc e, d⟩
theorem KL.plain {L : Addr} {h h' : Heap} (k : KL L h h') {D : Addr} {its : Array Value} (a : h.PlainList D its) (hD : D ≠ L) : h'.PlainList D its := a.at fun o e => k D o hD e
theorem KL.base {L : Addr} {hb h h' : Heap} (k : KL L h h') (a : ∀ b o, hb.get? b = some o → h.get? b = some o) (hL : hb.get? L = none) : ∀ b o, hb.get? b = some o → h'.get? b = some o :=
  fun b o e => k b o (fun q => by rw [q, hL] at e; cases e) (a b o e)
theorem ne_new {h : Heap} {L D : Addr} {m : Str → Option Value} (hn : h.Ns L m) (e : h.get? D = none) : D ≠ L := fun q => by
  obtain ⟨_, _, _, e', _⟩ := hn
  rw [q, e'] at e; cases e

section
variable {M : Model} {A : Around} {E : Value → Shared → Prop} {s : Shared} {env : Env} {pos : Pos} {Q : Value → Shared → Prop}
theorem List_one {e₁ : PySem.Expr} (hs : starEach [e₁] env = [(false, eval e₁ env)])
    (h : wpAny M A (eval e₁ env) (fun v s₁ => wpAny M A (newList [v]) Q E s₁) E s) : wpAny M A (eval (.List [e₁] pos) env) Q E s := by
  refine List_ ?_
  rw [hs]
  exact Calls.spliced_cons (wpAny_mono h (fun _ _ h₁ => Calls.spliced_nil h₁) fun _ _ e => e)
theorem List_two {e₁ e₂ : PySem.Expr} (hs : starEach [e₁, e₂] env = [(false, eval e₁ env), (false, eval e₂ env)])
    (h : wpAny M A (eval e₁ env) (fun v s₁ => wpAny M A (eval e₂ env) (fun u s₂ => wpAny M A (newList [v, u]) Q E s₂) E s₁) E s) : wpAny M A (eval (.List [e₁, e₂] pos) env) Q E s := by
  refine List_ ?_
  rw [hs]
  exact Calls.spliced_cons (wpAny_mono h (fun _ _ h₁ => Calls.spliced_cons (wpAny_mono h₁ (fun _ _ h₂ => Calls.spliced_nil h₂) fun _ _ e => e)) fun _ _ e => e)
theorem Tuple_three {e₁ e₂ e₃ : PySem.Expr} {k : Nat} (hs : starEach [e₁, e₂, e₃] env = [(false, eval e₁ env), (false, eval e₂ env), (false, eval e₃ env)])
    (h : wpAny M A (eval e₁ env) (fun v s₁ => wpAny M A (eval e₂ env) (fun u s₂ => wpAny M A (eval e₃ env) (fun x s₃ => wpAny M A (newTuple [v, u, x]) Q E s₃) E s₂) E s₁) E s) : wpAny M A (eval (.Tuple [e₁, e₂, e₃] k pos) env) Q E s := by
  refine Tuple_ ?_
  rw [hs]
  exact Calls.spliced_cons (wpAny_mono h (fun _ _ h₁ => Calls.spliced_cons (wpAny_mono h₁ (fun _ _ h₂ => Calls.spliced_cons (wpAny_mono h₂ (fun _ _ h₃ => Calls.spliced_nil h₃) fun _ _ e => e)) fun _ _ e => e)) fun _ _ e => e)
end

/-- all that stands in a heap, but for one place -/
def allBut (h : Heap) (L : Addr) : List (Addr × Obj) := (List.range h.objs.size).filterMap fun a => if a = L then none else (h.get? a).map fun o => ((a : Addr), o)
theorem mem_allBut {h : Heap} {L a : Addr} {o : Obj} (e : h.get? a = some o) (ha : a ≠ L) : (a, o) ∈ allBut h L := by
  unfold allBut
  rw [List.mem_filterMap]
  refine ⟨a, List.mem_range.mpr (ltS e), ?_⟩
  have ha' : ¬ (@Eq Nat a L) := ha
  rw [if_neg ha', e]; rfl
theorem of_allBut {h : Heap} {L : Addr} {p : Addr × Obj} (hp : p ∈ allBut h L) : h.get? p.1 = some p.2 ∧ p.1 ≠ L := by
  unfold allBut at hp
  rw [List.mem_filterMap] at hp
  obtain ⟨a, _, e⟩ := hp
  by_cases ha : a = L
  · rw [if_pos ha] at e; cases e
  · rw [if_neg ha] at e
    cases q : h.get? a with
    | none => rw [q] at e; cases e
    | some o => rw [q] at e; cases e; exact ⟨q, ha⟩
def noHeap (h : Heap) : Heap := { h with objs := #[] }
theorem noHeap_get (h : Heap) (a : Addr) : (noHeap h).get? a = none := none_of_ge (Nat.zero_le _)
end Mine

namespace Mine

noncomputable def lawD : List Stmt × Scope := match (PySem.Challenge.pw_oy0041_01.main.body[30]? : Option Stmt) with
  | some (.FunctionDef _ _ body _ _ _ scope _ _ _) => (body, scope)
  | _ => ([], default)
noncomputable abbrev lawB : List Stmt := lawD.1
noncomputable abbrev lawS : Scope := lawD.2
noncomputable abbrev lawE (L fa : Addr) (cd : Value) : Env := envOfC (Str.ofString "law") lawS L fa cd

theorem two_ints {vs : List Value} {ns : List Int} (h : IntsAre vs ns) : ∀ {ws : List Value}, IntsAre ws [0, 0] → ∃ n0 n1 t0 t1, (vs ++ ws).take 2 = [Value.int n0 t0, Value.int n1 t1] := by
  intro ws hw
  cases hw with
  | cons _ t r =>
    cases r with
    | cons _ u r =>
      cases r
      cases h with
      | nil => exact ⟨0, 0, t, u, rfl⟩
      | cons n tn r =>
        cases r with
        | nil => exact ⟨n, 0, tn, t, rfl⟩
        | cons n' tn' r => exact ⟨n, n', tn, tn', rfl⟩

theorem mode_range (c n : Int) : 0 ≤ (c + n).fmod 512 ∧ (c + n).fmod 512 < 512 := by
  rw [Int.fmod_eq_emod_of_nonneg _ (by decide)]
  omega

set_option maxHeartbeats 4000000 in
theorem law_A {w : World} {A : Around} {E : Value → Shared → Prop} {s : Shared} {hb : Heap} {L fa lS : Addr} {cd : Value} {vs : List Value} {ns : List Int} {m₀ : Str → Option Value} {Q : Flow → Shared → Prop}
    (hk0 : ∀ b o, hb.get? b = some o → s.heap.get? b = some o) (hn : s.heap.Ns L m₀) (ms : m₀ (Str.ofString "script") = some (.ref lS))
    (hS : hb.IsList lS vs.toArray) (hI : IntsAre vs ns) (hl : ns.length ≤ 63)
    (k : ∀ h' tk m lm a b ta tb, KL L s.heap h' → h'.Ns L m → m (Str.ofString "modes") = some (.ref lm) → lm ≠ L → h'.PlainList lm #[.int a ta, .int b tb] → 0 ≤ a → a < 512 → 0 ≤ b → b < 512 →
      wpAny (model PR w) A (execs (lawB.drop 2) (lawE L fa cd)) Q E { s with heap := h', toks := tk }) :
    wpAny (model PR w) A (execs lawB (lawE L fa cd)) Q E s := by
  have hS0 : s.heap.IsList lS vs.toArray := hS.at fun o e => hk0 _ o e
  refine wpAny_execs_cons (wpAny_Assign_Name (Subscript_ (wpAny_BinOp (lname hn ms (List_two rfl (wpAny_Constant_int (wpAny_Constant_int (wpAny_newList ?_ (by show 2 ≤ sizeLine; decide)))))))))
  generalize hZ : s.heap.objs.size = Z at *
  have hz0 := Heap.get?_push_size s.heap (o := { cls := .type "list", data := .seq [Value.int 0 s.toks, Value.int 0 (s.toks + 1)].toArray }) rfl
  have hkz : ∀ b o, s.heap.get? b = some o → (s.heap.push { cls := .type "list", data := .seq [Value.int 0 s.toks, Value.int 0 (s.toks + 1)].toArray }).get? b = some o := fun b o e => Heap.get?_push_of_some _ e
  rw [hZ] at hz0
  generalize s.heap.push { cls := .type "list", data := .seq [Value.int 0 s.toks, Value.int 0 (s.toks + 1)].toArray } = h₁ at *
  have hI2 : IntsAre [Value.int 0 s.toks, Value.int 0 (s.toks + 1)] [0, 0] := .cons _ _ (.cons _ _ .nil)
  have hlv := hI.length
  refine add_IL (hS0.at fun o e => hkz _ o e) ⟨_, hz0, rfl, _, rfl⟩ (by simp; omega) fun D2 h₂ hD2 hP2 hk2 => ?_
  obtain ⟨n0, n1, t0, t1, e2⟩ := two_ints hI hI2
  refine eval_slice_nu (wpAny_Constant_int ?_)
  refine slice_IL hP2.isList .none (.int 2 _) (by simp; omega) fun D3 h₃ hD3 hP3 hk3 => ?_
  have e3 := slicePick_upto' (vs ++ [Value.int 0 s.toks, Value.int 0 (s.toks + 1)]).toArray 2
  have e3' : slicePick (vs ++ [Value.int 0 s.toks, Value.int 0 (s.toks + 1)]).toArray none (some 2) none = #[Value.int n0 t0, Value.int n1 t1] := by
    refine e3.trans ?_
    simp only [e2]
  rw [e3'] at hP3
  have K3 : ∀ b o, s.heap.get? b = some o → h₃.get? b = some o := fun b o e => hk3 b o (hk2 b o (hkz b o e))
  have D3L : D3 ≠ L := ne_new (hn.keeps fun b o e => hk2 b o (hkz b o e)) hD3
  refine wpAny_storeName_local (by rfl) (hn.keeps K3) (fun h₄ hn₄ hs₄ => ?_) (by rfl)
  replace hs₄ : Heap.SameBut L h₃ h₄ := hs₄
  have hP4 : h₄.PlainList D3 #[Value.int n0 t0, Value.int n1 t1] := hP3.at fun o e => hs₄.extBut D3 o D3L e
  have hP4' : h₄.IsList D3 [Value.int n0 t0, Value.int n1 t1].toArray := hP4.isList
  obtain ⟨m4, hn4, mm4⟩ : ∃ m4 : Str → Option Value, h₄.Ns L m4 ∧ m4 (Str.ofString "numbers") = some (.ref D3) := ⟨_, hn₄, rfl⟩
  clear hn₄
  have K4 : KL L s.heap h₄ := (KL.of K3).trans (.same hs₄)
  have it0 : ∀ {sl : PySem.Expr} {val : PySem.Expr} {u : Tok} {s' : Shared} {Q : Value → Shared → Prop}, s'.heap = h₄ → Q (Value.int n0 t0) s' → subscripted sl false (.ref D3) (.int ((0 : Nat) : Int) u) = operate [.ref D3, .int ((0 : Nat) : Int) u] (getItem (.ref D3) (.int ((0 : Nat) : Int) u)) → wpAny (model PR w) A (subscriptTail val sl (.ref D3) (.int ((0 : Nat) : Int) u)) Q E s' := fun e q hs => item_IL (i := 0) (by rw [e]; exact hP4') rfl (by decide) q hs
  have it1 : ∀ {sl : PySem.Expr} {val : PySem.Expr} {u : Tok} {s' : Shared} {Q : Value → Shared → Prop}, s'.heap = h₄ → Q (Value.int n1 t1) s' → subscripted sl false (.ref D3) (.int ((1 : Nat) : Int) u) = operate [.ref D3, .int ((1 : Nat) : Int) u] (getItem (.ref D3) (.int ((1 : Nat) : Int) u)) → wpAny (model PR w) A (subscriptTail val sl (.ref D3) (.int ((1 : Nat) : Int) u)) Q E s' := fun e q hs => item_IL (i := 1) (by rw [e]; exact hP4') rfl (by decide) q hs
  refine wpAny_execs_cons (wpAny_Assign_Name (List_two rfl (wpAny_BinOp (wpAny_BinOp (wpAny_Constant_int (Subscript_ (lname hn4 mm4 (wpAny_Constant_int ?_))))))))
  refine it0 rfl ?_ (by with_unfolding_all rfl)
  refine PyProof.Rows.add_int (wpAny_Constant_int (mod_int' (by decide) ?_))
  refine wpAny_BinOp (wpAny_BinOp (wpAny_Constant_int (Subscript_ (lname hn4 mm4 (wpAny_Constant_int ?_)))))
  refine it1 rfl ?_ (by with_unfolding_all rfl)
  refine PyProof.Rows.add_int (wpAny_Constant_int (mod_int' (by decide) ?_))
  refine wpAny_newList ?_ (by show 2 ≤ sizeLine; decide)
  have hL4 : @LT.lt Nat _ L h₄.objs.size := by obtain ⟨_, _, _, e, _⟩ := hn4; exact ltS e
  refine (fun (X : ∀ (ob : Obj) a b ta tb, ob = { cls := .type "list", data := .seq [Value.int a ta, Value.int b tb].toArray } → 0 ≤ a ∧ a < 512 → 0 ≤ b ∧ b < 512 → ∀ tk, wpAny (model PR w) A (storeName (lawE L fa cd) (Str.ofString "modes") (.ref h₄.objs.size)) (fun _ s₁ => wpAny (model PR w) A (execs (lawB.drop 2) (lawE L fa cd)) Q E s₁) E { s with heap := h₄.push ob, toks := tk }) => X _ _ _ _ _ rfl (mode_range _ _) (mode_range _ _) _) ?_
  intro ob a b ta tb hob ha hb' tk
  have hm5 := Heap.get?_push_size h₄ (o := ob) (by rw [hob]; rfl)
  have hk5 : ∀ b o, h₄.get? b = some o → (h₄.push ob).get? b = some o := fun b o e => Heap.get?_push_of_some _ e
  refine wpAny_storeName_local (by rfl) (hn4.keeps hk5) (fun h₆ hn₆ hs₆ => ?_) (by rfl)
  replace hs₆ : Heap.SameBut L (h₄.push ob) h₆ := hs₆
  have DL : h₄.objs.size ≠ L := neA (.inr hL4)
  have hP6 : h₆.get? h₄.objs.size = some ob := hs₆.extBut _ _ DL hm5
  rw [hob] at hP6
  exact k h₆ _ _ _ _ _ _ _ ((K4.trans (.of hk5)).trans (.same hs₆)) hn₆ rfl DL ⟨_, hP6⟩ ha.1 ha.2 hb'.1 hb'.2
end Mine

namespace Mine

theorem boot_range : bootBuiltins (Str.ofString "range") = some (.type "range") := by rfl

set_option maxHeartbeats 4000000 in
theorem law_B {w : World} {A : Around} {E : Value → Shared → Prop} {s : Shared} {hb : Heap} {mg mb : Str → Option Value} {L fa lm : Addr} {cd : Value} {m : Str → Option Value} {a b : Int} {ta tb : Tok} {Q : Flow → Shared → Prop}
    (hh : A.handled = none) (G : Gl w mg mb hb) (hk0 : ∀ b o, hb.get? b = some o → s.heap.get? b = some o) (hn : s.heap.Ns L m) (mm : m (Str.ofString "modes") = some (.ref lm)) (hlm : s.heap.PlainList lm #[.int a ta, .int b tb])
    (k : ∀ h' tk m' D, KL L s.heap h' → h'.Ns L m' → m' (Str.ofString "modes") = some (.ref lm) → m' (Str.ofString "due") = some (.ref D) → D ≠ L → SL h' D (bitsOf a ++ bitsOf b) →
      wpAny (model PR w) A (execs (lawB.drop 3) (lawE L fa cd)) Q E { s with heap := h', toks := tk }) :
    wpAny (model PR w) A (execs (lawB.drop 2) (lawE L fa cd)) Q E s := by
  have F : Fr (noHeap s.heap) L s.heap m := ⟨hn, fun b o e => (by rw [noHeap_get] at e; cases e), Nat.zero_le _⟩
  have N : News (noHeap s.heap) L s.heap (allBut s.heap L) := fun p hp => ⟨(of_allBut hp).1, (of_allBut hp).2, noHeap_get _ _⟩
  refine wpAny_execs_cons ?_
  refine due_rule (env := lawE L fa cd) (k := 9) (lm := lm) (items := #[.int a ta, .int b tb]) (gOf a b) (fun j v => ∃ t, v = .int ((0:Int) + j * 1) t) F N (by with_unfolding_all rfl) (by decide) (by decide) rfl (by decide) rfl rfl (by decide) rfl rfl hh (by intro _; rfl) (by intro _ _; rfl)
    (lname hn mm ⟨rfl, rfl⟩) hlm.isList ?hiter ?htest ?helt ?done (by show 2 * 9 ≤ sizeLine; decide)
  case hiter =>
    intro C i v s₂ m₂ hv hn₂ hm1 hk₂
    have G₂ := (G.keeps hk0).keeps hk₂
    refine Call_name1 rfl (bname G₂ (by kernel_rfl) (v := .type "range") boot_range (callWith_type1 (wpAny_Constant_int ?_)))
    exact range_keeps_walks hh (by decide) (by decide)
  case htest =>
    intro C i v j u s₂ m₂ hv hj hu hn₂ hm1 hm2 hk₂
    obtain ⟨t, rfl⟩ := hu
    obtain ⟨x, tx, rfl, hx⟩ : ∃ x tx, v = .int x tx ∧ (gOf a b i j).isSome = bitOf x j := by
      unfold gOf
      rcases i with _ | _ | i
      · cases hv; refine ⟨a, ta, rfl, ?_⟩; simp; cases bitOf a j <;> rfl
      · cases hv; refine ⟨b, tb, rfl, ?_⟩; simp; cases bitOf b j <;> rfl
      · simp at hv
    rw [hx]
    exact due_test hn₂ rfl rfl rfl hm1 hm2 hj rfl
  case helt =>
    intro C i v j u s₂ m₂ x hv hj hu hg hn₂ hm1 hm2 hk₂
    obtain ⟨t, rfl⟩ := hu
    have hx : x = sg j := by
      unfold gOf at hg
      by_cases hq : bitOf (if i = 0 then a else b) j = true
      · rw [if_pos hq] at hg; cases hg; rfl
      · rw [if_neg hq] at hg; cases hg
    rw [hx]
    exact due_elt hn₂ rfl rfl hm2 rfl
  case done =>
    intro D h' tk ys n hS F' N' _
    have hS' : StrsAre ys.toList (bitsOf a ++ bitsOf b) := by rw [← flat_bits]; exact hS
    refine k h' tk _ D (fun c o hc e => (N' (c, o) (.tail _ (mem_allBut e hc))).1) F'.ns ?_ rfl (N' _ (.head _)).2.1 (.of ⟨n, (N' _ (.head _)).1⟩ hS')
    exact mm
end Mine

namespace Mine

abbrev cAt (L : Addr) (n : Nat) : Addr := @HAdd.hAdd Nat Nat Nat _ L n
theorem cAt_ne {L : Addr} {n : Nat} (h : 0 < n) : cAt L n ≠ L := neA (.inr (by unfold cAt; omega))
theorem cAt_inj {L : Addr} {n k : Nat} (h : n ≠ k) : cAt L n ≠ cAt L k := neA (by unfold cAt; omega)

theorem KL.ns_ku {L : Addr} {h h' : Heap} {m : Str → Option Value} (k : KU [L] h h') (hn : h.Ns L m) : h'.Ns L m := k.ns hn

theorem frames_one {L fa : Addr} {cd : Value} {h : Heap} {m : Str → Option Value} (hn : h.Ns L m) : FramesOk h [lawE L fa cd] :=
  FramesOk.cons (l := []) (fun _ q => by cases q) (by intro q; cases q) rfl hn
theorem FLs_one {L fa : Addr} {cd : Value} : FLs [lawE L fa cd] = [L] := rfl

structure LawH (w : World) (A : Around) (mg mb : Str → Option Value) (hb : Heap) (L fa : Addr) (cd : Value) : Prop where
  hh : A.handled = none
  room : A.depth + 10 < recursionLimit
  units : A.units < cLine
  fr : A.frames = some [lawE L fa cd]
  G : Gl w mg mb hb
  hL : ∀ n : Nat, hb.get? (cAt L n) = none

def ModeText (a : Int) : Prop := ∃ x, Txt.join (Str.ofString "") (modeChars (32768 + a)) = x ∧ x.length = 10 ∧ bl x 10 = bitsOf a

theorem bits_le (a : Int) : (bitsOf a).length ≤ 9 := by
  unfold bitsOf
  exact Nat.le_trans (List.length_filterMap_le _ _) (by simp)

theorem callWith_fn1' {M : Model} {A : Around} {E : Value → Shared → Prop} {s : Shared} {pos : Pos} {Q : Value → Shared → Prop} {a : Addr} {o : Obj} {fd : FuncData} {t : Sem Value} (ho : s.heap.get? a = some o) (hd : o.data = .func fd)
    (h : wpAny M A t (fun v s₁ => s₁.heap.get? a = some o ∧ wpAny M A (call (.ref a) [v]) Q E s₁) E s) :
    wpAny M A (callWith pos (.ref a) [] [(false, t)] []) Q E s := callWith_fn1 (wpAny_mono h (fun _ _ h₁ => ⟨⟨h₁.1, hd⟩, h₁.2⟩) fun _ _ e => e)
theorem callWith_fn2' {M : Model} {A : Around} {E : Value → Shared → Prop} {s : Shared} {pos : Pos} {Q : Value → Shared → Prop} {a : Addr} {o : Obj} {fd : FuncData} {t u : Sem Value} (ho : s.heap.get? a = some o) (hd : o.data = .func fd)
    (h : wpAny M A t (fun v s₁ => wpAny M A u (fun v' s₂ => s₂.heap.get? a = some o ∧ wpAny M A (call (.ref a) [v, v']) Q E s₂) E s₁) E s) :
    wpAny M A (callWith pos (.ref a) [] [(false, t), (false, u)] []) Q E s := callWith_fn2 (wpAny_mono h (fun _ _ h₁ => wpAny_mono h₁ (fun _ _ h₂ => ⟨⟨h₂.1, hd⟩, h₂.2⟩) fun _ _ e => e) fun _ _ e => e)

set_option maxHeartbeats 4000000 in
theorem beads_step {w : World} {A : Around} {E : Value → Shared → Prop} {s : Shared} {hb : Heap} {mg mb : Str → Option Value} {L fa : Addr} {cd : Value} {m : Str → Option Value} {a : Int} {Q : Value → Shared → Prop} {t : Sem Value} {pos np : Pos}
    (H : LawH w A mg mb hb L fa cd) (hk0 : ∀ b o, hb.get? b = some o → s.heap.get? b = some o) (hn : s.heap.Ns L m) (ha : ModeText a)
    (ht : wpAny (model PR w) A t (fun v s₁ => ∃ u tk, v = .int a u ∧ s₁ = { s with toks := tk }) E s)
    (k : ∀ h' tk D, KU [L] s.heap h' → s.heap.get? D = none → SL h' D (bitsOf a) → Q (.ref D) { s with heap := h', toks := tk }) :
    wpAny (model PR w) A (eval (.Name (Str.ofString "_law_beads") np) (lawE L fa cd)) (fun f s₁ => wpAny (model PR w) A (callWith pos f [] [(false, t)] []) Q E s₁) E s := by
  have Gs := H.G.keeps hk0
  have hfn := Gs.inK 82 _ (by rfl)
  refine gname (v := .ref 82) Gs (by kernel_rfl) (callWith_fn1' hfn rfl (wpAny_mono ht (fun v s₁ h₁ => ?_) fun _ _ e => e))
  obtain ⟨u, tk, rfl, rfl⟩ := h₁
  obtain ⟨x, hx, hlen, hbl⟩ := ha
  have hr := H.room
  refine ⟨hfn, beads_ok (outer := [lawE L fa cd]) hx hlen H.G hk0 ?_ H.hh (by omega) H.fr (frames_one hn) fun h' tk' D ys hU hD hp hS => ?_⟩
  · intro L' hL'
    rw [FLs_one] at hL'
    rw [List.mem_singleton.mp hL']
    exact H.hL 0
  · rw [hbl] at hS
    exact k h' tk' D hU hD (.of hp hS)
end Mine

namespace Mine

set_option maxHeartbeats 4000000 in
theorem law_C {w : World} {A : Around} {E : Value → Shared → Prop} {s : Shared} {hb : Heap} {mg mb : Str → Option Value} {L fa lm D : Addr} {cd : Value} {m : Str → Option Value} {a b : Int} {ta tb : Tok} {Q : Flow → Shared → Prop}
    (H : LawH w A mg mb hb L fa cd) (hk0 : ∀ b o, hb.get? b = some o → s.heap.get? b = some o) (hn : s.heap.Ns L m) (mm : m (Str.ofString "modes") = some (.ref lm)) (md : m (Str.ofString "due") = some (.ref D)) (hlm : s.heap.PlainList lm #[.int a ta, .int b tb]) (hlmL : lm ≠ L)
    (hD : SL s.heap D (bitsOf a ++ bitsOf b)) (hDL : D ≠ L) (ha : ModeText a) (hbm : ModeText b)
    (c1 : s.heap.IsCell (cAt L 1) none) (c2 : s.heap.IsCell (cAt L 2) none) (c3 : s.heap.IsCell (cAt L 3) none) (c4 : s.heap.IsCell (cAt L 4) none)
    (k : ∀ h' tk m' B, (∀ b o, hb.get? b = some o → h'.get? b = some o) → h'.Ns L m' → B ≠ L → (∀ n, 1 ≤ n → n ≤ 4 → B ≠ cAt L n) → hb.get? B = none → SL h' B (evenF (bitsOf a ++ bitsOf b)) → h'.IsCell (cAt L 1) (some (.ref B)) → h'.IsCell (cAt L 2) none → h'.IsCell (cAt L 3) none → h'.IsCell (cAt L 4) none →
      wpAny (model PR w) A (execs (lawB.drop 5) (lawE L fa cd)) Q E { s with heap := h', toks := tk }) :
    wpAny (model PR w) A (execs (lawB.drop 3) (lawE L fa cd)) Q E s := by
  have Gs := H.G.keeps hk0
  have hr := H.room
  have hb0 : hb.get? L = none := H.hL 0
  have hfn := Gs.inK 87 _ (by rfl)
  have hlmI : s.heap.IsList lm [Value.int a ta, Value.int b tb].toArray := hlm.isList
  have it0 : ∀ {sl : PySem.Expr} {val : PySem.Expr} {u : Tok} {s' : Shared} {Q : Value → Shared → Prop}, s'.heap = s.heap → Q (Value.int a ta) s' → subscripted sl false (.ref lm) (.int ((0 : Nat) : Int) u) = operate [.ref lm, .int ((0 : Nat) : Int) u] (getItem (.ref lm) (.int ((0 : Nat) : Int) u)) → wpAny (model PR w) A (subscriptTail val sl (.ref lm) (.int ((0 : Nat) : Int) u)) Q E s' := fun e q hs => item_IL (i := 0) (by rw [e]; exact hlmI) rfl (by decide) q hs
  refine wpAny_execs_cons (wpAny_Assign_Name (Call_name1 rfl (gname (v := .ref 87) Gs (by kernel_rfl) (callWith_fn1' hfn rfl (wpAny_BinOp ?_)))))
  refine Call_name1 rfl (beads_step H hk0 hn ha ?_ fun h₁ tk₁ D1 U1 hD1 S1 => ?_)
  · refine Subscript_ (lname hn mm (wpAny_Constant_int ?_))
    exact it0 rfl ⟨_, _, rfl, rfl⟩ (by with_unfolding_all rfl)
  have k1 : ∀ b o, hb.get? b = some o → h₁.get? b = some o := (KL.ku U1).base hk0 hb0
  have hn1 := U1.ns hn
  have D1L : D1 ≠ L := ne_new hn hD1
  have hlm1 : h₁.IsList lm [Value.int a ta, Value.int b tb].toArray := ((KL.ku U1).plain hlm hlmL).isList
  have it1 : ∀ {sl : PySem.Expr} {val : PySem.Expr} {u : Tok} {s' : Shared} {Q : Value → Shared → Prop}, s'.heap = h₁ → Q (Value.int b tb) s' → subscripted sl false (.ref lm) (.int ((1 : Nat) : Int) u) = operate [.ref lm, .int ((1 : Nat) : Int) u] (getItem (.ref lm) (.int ((1 : Nat) : Int) u)) → wpAny (model PR w) A (subscriptTail val sl (.ref lm) (.int ((1 : Nat) : Int) u)) Q E s' := fun e q hs => item_IL (i := 1) (by rw [e]; exact hlm1) rfl (by decide) q hs
  refine Call_name1 rfl (beads_step H k1 hn1 hbm ?_ fun h₂ tk₂ D2 U2 hD2 S2 => ?_)
  · refine Subscript_ (lname hn1 mm (wpAny_Constant_int ?_))
    exact it1 rfl ⟨_, _, rfl, rfl⟩ (by with_unfolding_all rfl)
  replace U2 : KU [L] h₁ h₂ := U2
  have k2 : ∀ b o, hb.get? b = some o → h₂.get? b = some o := (KL.ku U2).base k1 hb0
  have hn2 := U2.ns hn1
  have la := bits_le a
  have lb := bits_le b
  refine add_SL ((KL.ku U2).sl S1 D1L) S2 (by omega) fun D3 h₃ hD3 S3 hk3 => ?_
  replace hk3 : ∀ b o, h₂.get? b = some o → h₃.get? b = some o := hk3
  have k3 : ∀ b o, hb.get? b = some o → h₃.get? b = some o := fun b o e => hk3 b o (k2 b o e)
  have G3 := H.G.keeps k3
  have hn3 := hn2.keeps hk3
  refine ⟨G3.inK 87 _ (by rfl), even_ok G3 H.hh (by omega) S3 (by simp; omega) fun h₄ tk₄ B hB S4 hk4 => ?_⟩
  replace hk4 : ∀ b o, h₃.get? b = some o → h₄.get? b = some o := hk4
  replace hB : h₃.get? B = none := hB
  have BL : B ≠ L := ne_new hn3 hB
  have hn4 := hn3.keeps hk4
  have K4 : KL L s.heap h₄ := (((KL.ku U1).trans (.ku U2)).trans (.of hk3)).trans (.of hk4)
  have K3 : KL L s.heap h₃ := (((KL.ku U1).trans (.ku U2)).trans (.of hk3))
  have k4 : ∀ b o, hb.get? b = some o → h₄.get? b = some o := fun b o e => hk4 b o (k3 b o e)
  have nc : ∀ {c : Addr} {v : Option Value}, s.heap.IsCell c v → c ≠ L → B ≠ c := fun hc hcL q => by
    obtain ⟨o, e, _⟩ := K3.cell hc hcL
    rw [← q, hB] at e; cases e
  refine wpAny_storeName_cell (by rfl) (by rfl) (by rfl) (K4.cell c1 (cAt_ne (by decide))) fun h₅ hc₅ hs₅ => ?_
  replace hs₅ : Heap.SameBut (cAt L 1) h₄ h₅ := hs₅
  have BC : ∀ n, 1 ≤ n → n ≤ 4 → B ≠ cAt L n := fun n h1 h4 => by
    have : n = 1 ∨ n = 2 ∨ n = 3 ∨ n = 4 := by omega
    rcases this with rfl | rfl | rfl | rfl
    · exact nc c1 (cAt_ne (by decide))
    · exact nc c2 (cAt_ne (by decide))
    · exact nc c3 (cAt_ne (by decide))
    · exact nc c4 (cAt_ne (by decide))
  have hBb : hb.get? B = none := by
    cases q : hb.get? B with
    | none => rfl
    | some o => rw [k3 _ _ q] at hB; cases hB
  have k5 : ∀ b o, hb.get? b = some o → h₅.get? b = some o := fun b o e => hs₅.extBut b o (fun q => by rw [q, H.hL 1] at e; cases e) (k4 b o e)
  have hn5 := hn4.sameBut hs₅ (Ne.symm (cAt_ne (n := 1) (by decide)))
  have S5 : SL h₅ B (evenF (bitsOf a ++ bitsOf b)) := S4.at fun o e => hs₅.extBut B o (BC 1 (by decide) (by decide)) e
  have nD : D ≠ cAt L 1 := fun q => by
    obtain ⟨vs, ⟨n, e⟩, _⟩ := hD
    obtain ⟨o, e', d⟩ := c1
    rw [q, e'] at e; cases e; cases d
  have D5 : SL h₅ D (bitsOf a ++ bitsOf b) := (K4.sl hD hDL).at fun o e => hs₅.extBut D o nD e
  have c2' : h₅.IsCell (cAt L 2) none := (K4.cell c2 (cAt_ne (by decide))).sameBut hs₅ (cAt_inj (by decide))
  have c3' : h₅.IsCell (cAt L 3) none := (K4.cell c3 (cAt_ne (by decide))).sameBut hs₅ (cAt_inj (by decide))
  have c4' : h₅.IsCell (cAt L 4) none := (K4.cell c4 (cAt_ne (by decide))).sameBut hs₅ (cAt_inj (by decide))
  have G5 := H.G.keeps k5
  have hfn5 := G5.inK 87 _ (by rfl)
  refine wpAny_execs_cons (wpAny_If (wpAny_isTrue_Compare1 (wpAny_Name (wpAny_loadName_cell (by rfl) (by rfl) (by rfl) hc₅ ?_) (by decide))))
  refine Call_name1 rfl (gname (v := .ref 87) G5 (by kernel_rfl) (callWith_fn1' hfn5 rfl (lname hn5 md ⟨hfn5, even_ok G5 H.hh (by omega) D5 (by simp; omega) fun h₆ tk₆ B2 hB2 S6 hk6 => ?_⟩)))
  replace hk6 : ∀ b o, h₅.get? b = some o → h₆.get? b = some o := hk6
  refine ne_SL (S5.keeps hk6) S6 H.units (wpAny_truthy_bool ?_)
  rw [if_neg (by simp)]
  exact wpAny_execs_nil (k h₆ _ m B (fun b o e => hk6 b o (k5 b o e)) (hn5.keeps hk6) BL BC hBb (S5.keeps hk6) (hc₅.keeps hk6) (c2'.keeps hk6) (c3'.keeps hk6) (c4'.keeps hk6))
end Mine

namespace Mine

/-- a row that the comprehension has made -/
def RowAt (h₁ : Heap) (bad : List Addr) (G : Value → Array Value → Prop) (h : Heap) (v y : Value) : Prop :=
  ∃ T its, y = .ref T ∧ h₁.get? T = none ∧ T ∉ bad ∧ h.IsList T its ∧ G v its
theorem RowAt.keep {h₁ : Heap} {bad : List Addr} {G : Value → Array Value → Prop} {h h' : Heap} {v y : Value} (x : RowAt h₁ bad G h v y)
    (hk : ∀ b o, b ∉ bad → h.get? b = some o → h'.get? b = some o) : RowAt h₁ bad G h' v y :=
  let ⟨T, its, e, h1, h2, h3, h4⟩ := x; ⟨T, its, e, h1, h2, h3.at fun o q => hk T o h2 q, h4⟩

section
variable {prog : Program} {w : World} {A : Around} {E : Value → Shared → Prop} {env : Env} {s : Shared}

theorem newEnv_comp {scope : Scope} {g : Addr} {cl : List (Str × Addr)} {qual : Str} {Q : Env → Shared → Prop}
    (h : Q { scope, locals := s.heap.objs.size, globals := g, cells := cellsFrom (s.heap.objs.size + 1) scope.names cl, qual, func := none, code := env.code, frame := env.frame, builtins := env.builtins }
      { s with heap := pushCells (s.heap.push { cls := .type "dict", data := .dict #[] }) scope.names }) :
    wpAny (model prog w) A (newFunctionEnv scope g cl [] qual none .none (some env)) Q E s := by
  simp only [newFunctionEnv, Option.isSome_some, if_true]
  refine wpAny_bind (wpAny_alloc ?_)
  refine wpAny_bind (wpAny_layCells _ (fun name kind cells => by cases hkc : kind == NameKind.cell <;> simp [hkc]) _ _ _ _ ?_)
  rw [show ({ s with heap := s.heap.push { cls := .type "dict", data := .dict #[] } } : Shared).heap.objs.size = s.heap.objs.size + 1 from Heap.size_push ..]
  refine wpAny_bind ?_
  rw [List.forIn_nil]
  exact wpAny_pure (wpAny_pure h)

/-- the loop of a comprehension whose name lives in a cell, and whose items are lists -/
theorem cell_loop {elt iter : PySem.Expr} {x : Str} {px : Pos} {scope : Scope} {pos : Pos} {I D C c : Addr} {fp wr : List Addr} {n : Nat} {P : Nat → Value → Prop} {St : Nat → Heap → Prop} {cenv : Env} {m : Str → Option Value} {v₀ : Option Value} {R : Result → Shared → Prop}
    (W : Walks prog w A I fp wr n P St) (G : Value → Array Value → Prop) (hlive : ∀ i h, St i h → ∀ b ∈ wr, ∃ o, h.get? b = some o)
    (hk : cenv.scope.kind = .function) (hx : cenv.kindOf x = some .cell) (hc : cenv.cells.lookup x = some c)
    (hCf : C ∉ fp) (hDf : D ∉ fp) (hcf : c ∉ fp) (hDC : D ≠ C) (hDc : D ≠ c) (hcC : C ≠ c)
    (hst : St 0 s.heap) (hacc : s.heap.PlainList D #[]) (hn : s.heap.Ns C m) (hcell : s.heap.IsCell c v₀)
    (helt : ∀ i v (s₂ : Shared) (E' : Value → Shared → Prop), P i v → s₂.heap.IsCell c (some v) → (∀ b o, b ∉ C :: c :: D :: wr → s.heap.get? b = some o → s₂.heap.get? b = some o) →
      wpAny (model prog w) A (eval elt cenv) (fun y s₃ => (∃ T its, y = .ref T ∧ s₂.heap.get? T = none ∧ s₃.heap.IsList T its ∧ G v its) ∧ Keeps s₂ s₃) E' s₂)
    (hR : ∀ h' tk m' ys (vs : List Value), h'.Ns C m' → h'.PlainList D ys → vs.length = n → (∀ j v, vs[j]? = some v → P j v) → Paired (RowAt s.heap (C :: c :: D :: wr) G h') vs ys.toList →
      (∀ b o, b ∉ C :: c :: D :: wr → s.heap.get? b = some o → h'.get? b = some o) → R (.ok .next) { s with heap := h', toks := tk })
    (hsz : n ≤ sizeLine) :
    codeAny (model prog w) A (.compLoop (.ListComp elt [⟨.Name x px, iter, [], 0⟩] scope pos) 0 (.ref I) (.ref D) cenv) R s := by
  refine codeAny_compLoop_tests
    (fun k s' => ∃ h' tk m' v' ys, ∃ vs : List Value, s' = { s with heap := h', toks := tk } ∧ St vs.length h' ∧ h'.PlainList D ys ∧ h'.Ns C m' ∧ h'.IsCell c v' ∧ (∀ j v, vs[j]? = some v → P j v) ∧
      Paired (RowAt s.heap (C :: c :: D :: wr) G h') vs ys.toList ∧ vs.length ≤ n ∧ k = n + 1 - vs.length ∧
      (∀ b o, b ∉ C :: c :: D :: wr → s.heap.get? b = some o → h'.get? b = some o)) ?_ (n + 1)
    ⟨s.heap, s.toks, m, v₀, #[], [], rfl, hst, hacc, hn, hcell, by simp, by simpa using Paired.nil, Nat.zero_le _, rfl, fun _ _ _ e => e⟩
  rintro k s' ⟨H, tk, m', v', ys, vs, rfl, hst', hacc', hn', hc', hP, hF, hi, rfl, hk'⟩
  have hCw : C ∉ wr := fun h => hCf (W.sub _ h)
  have hDw : D ∉ wr := fun h => hDf (W.sub _ h)
  have hcw : c ∉ wr := fun h => hcf (W.sub _ h)
  have nb : ∀ {b : Addr}, b ∉ C :: c :: D :: wr → b ≠ C ∧ b ≠ c ∧ b ≠ D ∧ b ∉ wr := fun h => by
    simp only [List.mem_cons, not_or] at h; exact h
  by_cases hlt : vs.length < n
  · refine W.item vs.length _ _ _ hlt hst' fun v h₁ tk₁ hPv hst₁ hk₁ => ?_
    refine wpAny_assign_Name (wpAny_storeName_cell hk hx hc (v₀ := v') ?_ fun h₂ hc₂ hs₂ => ?_)
    · obtain ⟨o, e, d⟩ := hc'; exact ⟨o, hk₁ _ o hcw e, d⟩
    replace hs₂ : Heap.SameBut c h₁ h₂ := hs₂
    have hst₂ : St (vs.length + 1) h₂ := W.frame _ _ _ hst₁ fun b hb o e => hs₂.extBut b o (fun h => hcf (h ▸ hb)) e
    have up₂ : ∀ b o, b ≠ c → b ∉ wr → H.get? b = some o → h₂.get? b = some o := fun b o h1 h2 e => hs₂.extBut b o h1 (hk₁ b o h2 e)
    have k2 : ∀ b o, b ∉ C :: c :: D :: wr → s.heap.get? b = some o → h₂.get? b = some o := fun b o hb e => up₂ b o (nb hb).2.1 (nb hb).2.2.2 (hk' b o hb e)
    rw [List.forIn_nil]
    refine wpAny_pure ?_
    rw [if_pos rfl]
    refine wpAny_mono (helt vs.length v _ _ hPv hc₂ k2) (fun y s₄ h₄ => ?_) fun _ _ e => e
    obtain ⟨⟨T, its, rfl, hTn, hTl, hG⟩, h₃, tk₃, rfl, hk₃⟩ := h₄
    replace hTn : h₂.get? T = none := hTn
    replace hk₃ : ∀ b o, h₂.get? b = some o → h₃.get? b = some o := hk₃
    have hn₂ : h₂.Ns C m' := hn'.at' fun o e => up₂ _ o hcC hCw e
    have hacc₃ : h₃.PlainList D ys := hacc'.at fun o e => hk₃ _ o (up₂ D o hDc hDw e)
    have hTC : T ≠ C := ne_new hn₂ hTn
    have hTc : T ≠ c := fun q => by obtain ⟨o, e, _⟩ := hc₂; rw [q] at hTn; rw [show h₂.get? c = some o from e] at hTn; cases hTn
    have hTD : T ≠ D := fun q => by
      obtain ⟨n', e⟩ := hacc'
      have := up₂ D _ hDc hDw e
      rw [q, this] at hTn; cases hTn
    have hTw : T ∉ wr := fun hm => by obtain ⟨o, e⟩ := hlive _ _ hst₂ T hm; rw [e] at hTn; cases hTn
    have hTb : T ∉ C :: c :: D :: wr := by simp only [List.mem_cons, not_or]; exact ⟨hTC, hTc, hTD, hTw⟩
    have hTs : s.heap.get? T = none := by
      cases e : s.heap.get? T with
      | none => rfl
      | some o => rw [k2 T o hTb e] at hTn; cases hTn
    have e1 := hF.length
    have e4 : ys.toList.length = ys.size := by simp
    refine wpAny_list_append_plain (hsz := by omega) hacc₃ fun h₅ hl₅ hs₅ => ?_
    replace hs₅ : Heap.SameBut D h₃ h₅ := hs₅
    have up₅ : ∀ b o, b ∉ C :: c :: D :: wr → H.get? b = some o → h₅.get? b = some o := fun b o hb e => hs₅.extBut b o (nb hb).2.2.1 (hk₃ b o (up₂ b o (nb hb).2.1 (nb hb).2.2.2 e))
    refine ⟨n + 1 - (vs.length + 1), by omega, h₅, tk₃, m', some v, ys.push (.ref T), vs ++ [v], rfl, ?_, hl₅, (hn₂.keeps hk₃).sameBut hs₅ (Ne.symm hDC), ((hc₂.keeps hk₃).sameBut hs₅ (Ne.symm hDc)), ?_, ?_, (by rw [List.length_append, List.length_singleton]; exact hlt), (by rw [List.length_append, List.length_singleton]), fun b o hb e => up₅ b o hb (hk' b o hb e)⟩
    · have := W.frame _ _ h₅ hst₂ fun b hb o e => hs₅.extBut b o (fun h => hDf (h ▸ hb)) (hk₃ b o e)
      simpa using this
    · intro j u hj
      rcases Nat.lt_trichotomy j vs.length with h | h | h
      · exact hP j u (by rwa [List.getElem?_append_left h] at hj)
      · subst h; simp at hj; subst hj; exact hPv
      · have hnone : (vs ++ [v])[j]? = none := List.getElem?_eq_none (by rw [List.length_append, List.length_singleton]; omega)
        rw [hnone] at hj; cases hj
    · have hF₅ := hF.mono (F' := RowAt s.heap (C :: c :: D :: wr) G h₅) fun _ _ hy => hy.keep up₅
      have hy₅ : RowAt s.heap (C :: c :: D :: wr) G h₅ v (.ref T) := ⟨T, its, rfl, hTs, hTb, hTl.at fun o e => hs₅.extBut T o hTD e, hG⟩
      simpa using Paired.snoc hF₅ hy₅
  · have hin : vs.length = n := by omega
    refine W.done _ _ _ (hin ▸ hst') fun h₁ tk₁ hk₁ => ?_
    exact hR h₁ tk₁ m' ys vs (hn'.at' fun o e => hk₁ _ o hCw e) (hacc'.at fun o e => hk₁ _ o hDw e) hin hP (hF.mono fun _ _ hy => hy.keep fun b o hb e => hk₁ b o (nb hb).2.2.2 e) fun b o hb e => hk₁ b o (nb hb).2.2.2 (hk' b o hb e)
end
end Mine

namespace Mine
section
variable {prog : Program} {w : World} {A : Around} {E : Value → Shared → Prop} {env : Env} {s : Shared}

theorem assign_cell_comp {elt iter : PySem.Expr} {x y : Str} {px py : Pos} {scope : Scope} {cl : List (Str × Addr)} {pos spos : Pos} {Q : Flow → Shared → Prop} (G : Value → Array Value → Prop)
    (hsw : swapsWith (.ListComp elt [⟨.Name x px, iter, [], 0⟩] scope pos) (some (.Name y py)) spos.line env = pure true)
    (hclos : closureFor scope env = pure cl) (hkind : scope.kind = .function)
    (hnames : ∀ z ∈ scope.names, z.2 = .local → scope.names.lookup z.1 = some .local)
    (hcs : ∀ n, cellsFrom n scope.names cl = (x, n) :: cl) (hpc : ∀ h, pushCells h scope.names = h.push { cls := .type "cell", data := .cell none }) (hx : (relabel scope env).names.lookup x = some .cell)
    (hy : env.kindOf y = some .local) (hp : (env.scope.kind == .class || (env.scope.kind == .module && env.locals != env.globals)) = false)
    (h : wpAny (model prog w) A (eval iter env) (fun xv s₁ => wpAny (model prog w) A (pyIter xv) (fun it s₂ => ∃ I fp wr n P St m, it = .ref I ∧ Walks prog w A I fp wr n P St ∧ n ≤ sizeLine ∧ (∀ i h, St i h → ∀ b ∈ wr, ∃ o, h.get? b = some o) ∧ St 0 s₂.heap ∧ (∀ b ∈ fp, @LT.lt Nat _ b s₂.heap.objs.size) ∧
      env.locals ∉ wr ∧ s₂.heap.Ns env.locals m ∧
      (∀ C c i v (s₃ : Shared) (E' : Value → Shared → Prop), P i v → s₃.heap.IsCell c (some v) → (∀ b o, b ∉ wr → s₂.heap.get? b = some o → s₃.heap.get? b = some o) →
        wpAny (model prog w) A (eval elt (compEnvC scope ((x, c) :: cl) C env)) (fun y s₄ => (∃ T its, y = .ref T ∧ s₃.heap.get? T = none ∧ s₄.heap.IsList T its ∧ G v its) ∧ Keeps s₃ s₄) E' s₃) ∧
      (∀ D h' tk ys (vs : List Value), s₂.heap.get? D = none → h'.PlainList D ys → vs.length = n → (∀ j v, vs[j]? = some v → P j v) → Paired (RowAt s₂.heap [D] G h') vs ys.toList →
        h'.Ns env.locals (fun z => if z = y then some (.ref D) else m z) → (∀ b o, b ≠ env.locals → b ∉ wr → s₂.heap.get? b = some o → h'.get? b = some o) → Q .next { s₂ with heap := h', toks := tk })) E s₁) E s)
    (hs : ∀ x, foldedSetIterable iter env x = pure x := by intro _; rfl) :
    wpAny (model prog w) A (exec (.Assign [.Name y py] (.ListComp elt [⟨.Name x px, iter, [], 0⟩] scope pos) spos) env) Q E s := by
  rw [exec_Assign_Name_used _ _ _ _ hsw]
  refine wpAny_bind (wpAny_standAt (wpAny_bind ?_))
  show wpAny _ A (do let _ ← comprehension (.ListComp elt [⟨.Name x px, iter, [], 0⟩] scope pos) scope env _ (newList []) false (eval iter env) (some (assign (.Name y py) env))) _ _ s
  refine wpAny_bind (wpAny_mono (wpAny_comprehension_free (use := some (assign (.Name y py) env)) (Q := fun _ s' => Q .next s') rfl hs hclos hkind hnames
    (wpAny_mono h (fun xv s₁ h₁ => wpAny_mono h₁ (fun it s₂ h₂ => ?_) fun _ _ e => e) fun _ _ e => e)) (fun _ s' hq => wpAny_pure (wpAny_pure hq)) fun _ _ e => e)
  obtain ⟨I, fp, wr, n, P, St, m, rfl, W, hsz, hlive, hst, hfp, hLf, hn, hq, hQ⟩ := h₂
  refine wpAny_newObj_type ?_
  refine newEnv_comp ?_
  dsimp only
  rw [hcs, hpc]
  generalize hH1 : s₂.heap.push { cls := .type "list", dict := none, data := .seq ([] : List Value).toArray } = H1
  generalize hH2 : H1.push { cls := .type "dict", data := .dict #[] } = H2
  generalize hH3 : H2.push { cls := .type "cell", data := .cell none } = H3
  have z1 : H1.objs.size = s₂.heap.objs.size + 1 := by rw [← hH1, Heap.size_push]
  have z2 : H2.objs.size = H1.objs.size + 1 := by rw [← hH2, Heap.size_push]
  have old : ∀ b o, s₂.heap.get? b = some o → H3.get? b = some o := fun b o e => by
    rw [← hH3, ← hH2, ← hH1]
    exact Heap.get?_push_of_some _ (Heap.get?_push_of_some _ (Heap.get?_push_of_some _ e))
  have hacc : H3.PlainList s₂.heap.objs.size #[] := ⟨0, by rw [← hH3, ← hH2, ← hH1]; exact Heap.get?_push_of_some _ (Heap.get?_push_of_some _ (Heap.get?_push_size _ rfl))⟩
  have hnC : H3.Ns H1.objs.size (fun _ => none) := by
    refine (Heap.Ns.new H1 (.type "dict")).keeps fun b o e => ?_
    rw [← hH3, ← hH2]; exact Heap.get?_push_of_some _ e
  have hcell : H3.IsCell H2.objs.size none := ⟨_, by rw [← hH3]; exact Heap.get?_push_size _ rfl, rfl⟩
  rw [← z2]
  have hst₁ : St 0 H3 := W.frame _ _ _ hst fun b _ o e => old b o e
  have hDC : @Ne Addr s₂.heap.objs.size H1.objs.size := neA (by omega)
  have hDc : @Ne Addr s₂.heap.objs.size H2.objs.size := neA (by omega)
  have hCc : @Ne Addr H1.objs.size H2.objs.size := neA (by omega)
  have nfp : ∀ (b : Addr), @LE.le Nat _ s₂.heap.objs.size b → b ∉ fp := fun b hb hm => by have := hfp b hm; omega
  have nwr : ∀ (b : Addr), @LE.le Nat _ s₂.heap.objs.size b → b ∉ wr := fun b hb hm => nfp b hb (W.sub _ hm)
  have below : ∀ b o, s₂.heap.get? b = some o → b ∉ wr → b ∉ (H1.objs.size : Addr) :: H2.objs.size :: s₂.heap.objs.size :: wr := fun b o e hb => by
    have := ltS e
    simp only [List.mem_cons, not_or]
    exact ⟨neA (a := b) (b := H1.objs.size) (by omega), neA (a := b) (b := H2.objs.size) (by omega), neA (a := b) (b := s₂.heap.objs.size) (by omega), hb⟩
  have loop : ∀ s₃ : Shared, s₃ = { s₂ with heap := H3 } →
      codeAny (model prog w) A (.compLoop (.ListComp elt [⟨.Name x px, iter, [], 0⟩] scope pos) 0 (.ref I) (.ref s₂.heap.objs.size) (compEnvC scope ((x, H2.objs.size) :: cl) H1.objs.size env))
        (compPost (model prog w) A E (some (assign (.Name y py) env)) (fun _ s' => Q .next s') (.ref s₂.heap.objs.size) H1.objs.size) s₃ := by
    rintro s₃ rfl
    refine cell_loop (C := H1.objs.size) (c := H2.objs.size) W G hlive (by simp [compEnvC, relabel, hkind]) hx (by simp [compEnvC]) (nfp _ (by omega)) (nfp _ (Nat.le_refl _)) (nfp _ (by omega)) hDC hDc hCc hst₁ hacc hnC hcell ?_ ?_ hsz
    · intro i v s₃ E' hP hc hk
      exact hq _ _ i v s₃ E' hP hc fun b o hb e => hk b o (below b o e hb) (old b o e)
    · intro h' tk m' ys vs hnC' hpl hlen hP hF hk
      have hL := ltS (show s₂.heap.get? env.locals = some _ from hn.choose_spec.choose_spec.choose_spec.1)
      have keep : ∀ b o, b ∉ wr → s₂.heap.get? b = some o → h'.get? b = some o := fun b o hb e => hk b o (below b o e hb) (old b o e)
      show wpAny _ A (assign (.Name y py) env (.ref s₂.heap.objs.size)) _ _ _
      refine wpAny_assign_Name (wpAny_storeName_local hy (hn.at' fun o e => keep _ o hLf e) (fun h₂ hn₂ hs₂ => ?_) hp)
      replace hs₂ : Heap.SameBut env.locals h' h₂ := hs₂
      have hLC : env.locals ≠ H1.objs.size := neA (a := env.locals) (b := H1.objs.size) (by omega)
      have hLD : env.locals ≠ s₂.heap.objs.size := neA (a := env.locals) (b := s₂.heap.objs.size) (by omega)
      refine ⟨m', hnC'.sameBut hs₂ (Ne.symm hLC), fun h₃ hs₃ => ?_⟩
      replace hs₃ : Heap.SameBut H1.objs.size h₂ h₃ := hs₃
      refine hQ s₂.heap.objs.size h₃ _ ys vs (new_none _) (hpl.at fun o e => hs₃.extBut _ o hDC (hs₂.extBut _ o (Ne.symm hLD) e)) hlen hP ?_ (hn₂.sameBut hs₃ hLC) ?_
      · refine hF.mono fun _ _ hy => ?_
        obtain ⟨T, its, e, h1, h2, h3, h4⟩ := hy
        replace h1 : H3.get? T = none := h1
        simp only [List.mem_cons, not_or] at h2
        have hT2 : s₂.heap.get? T = none := by
          cases q : s₂.heap.get? T with
          | none => rfl
          | some o => rw [old T o q] at h1; cases h1
        have hTL : T ≠ env.locals := ne_new hn hT2
        exact ⟨T, its, e, hT2, by simpa using h2.2.2.1, h3.at fun o q => hs₃.extBut T o h2.1 (hs₂.extBut T o hTL q), h4⟩
      · intro b o hbL hb e
        have := ltS e
        exact hs₃.extBut b o (neA (a := b) (b := H1.objs.size) (by omega)) (hs₂.extBut b o hbL (keep b o hb e))
  exact codeAny_compStart_list (loop _ rfl) (W.self 0 _ _ _ hst₁ (loop _ rfl))
end
end Mine

namespace Mine

theorem boot_len : bootBuiltins (Str.ofString "len") = some (.builtin "len") := by rfl

theorem len_SL {prog : Program} {w : World} {A : Around} {E : Value → Shared → Prop} {s : Shared} {Q : Value → Shared → Prop} {a : Addr} {xs : List Str} (ha : SL s.heap a xs) (hsz : xs.length ≤ 1000) (k : ∀ u tk, Q (.int ((xs.length : Nat) : Int) u) { s with toks := tk }) :
    wpAny (model prog w) A (call (.builtin "len") [.ref a]) Q E s := by
  obtain ⟨vs, hp, hv⟩ := ha
  have hl := hv.length
  refine Calls.call_len_list hp.isList (by simp; omega) ?_
  have e : vs.toArray.size = xs.length := by simp [hl]
  rw [e]; exact k _ _

theorem strs_take {xs : List Str} : ∀ {vs : List Value}, StrsAre vs xs → ∀ n, StrsAre (vs.take n) (xs.take n) := by
  intro vs h
  induction h with
  | nil => intro n; simp; exact .nil
  | cons y t r ih => intro n; cases n with
    | zero => simp; exact .nil
    | succ n => simp; exact .cons y t (ih n)
theorem strs_drop {xs : List Str} : ∀ {vs : List Value}, StrsAre vs xs → ∀ n, StrsAre (vs.drop n) (xs.drop n) := by
  intro vs h
  induction h with
  | nil => intro n; simp; exact .nil
  | cons y t r ih => intro n; cases n with
    | zero => simp; exact .cons y t r
    | succ n => simp; exact ih n

def rowOf (xs : List Str) (k : Str) : List Int := (List.range (xs.length + 1)).map fun j => (((xs.take j).count k : Nat) : Int)
def rowG (xs : List Str) (v : Value) (its : Array Value) : Prop := ∃ k t, v = .str k t ∧ IntsAre its.toList (rowOf xs k)

theorem ints_of_paired {xs : List Str} {k : Str} : ∀ {vs ys : List Value} (n : Nat), Paired (fun v y => ∃ (j : Nat) (t u : Tok), v = .int ((0 : Int) + j * 1) t ∧ y = .int (((xs.take j).count k : Nat) : Int) u) vs ys →
    (∀ (j : Nat) v, vs[j]? = some v → ∃ t, v = .int ((0 : Int) + ((j + n : Nat) : Int) * 1) t) → IntsAre ys ((List.range' n vs.length).map fun j => (((xs.take j).count k : Nat) : Int))
  | _, _, _, .nil, _ => .nil
  | _, _, n, .cons h r, hj => by
    obtain ⟨j, t, u, e1, rfl⟩ := h
    obtain ⟨t', e2⟩ := hj 0 _ rfl
    rw [e2] at e1
    injection e1 with e1 _
    have hjn : j = n := by omega
    subst hjn
    rw [List.length_cons, List.range'_succ, List.map_cons]
    refine .cons _ u (ints_of_paired (j + 1) r fun i v hv => ?_)
    obtain ⟨t2, e⟩ := hj (i + 1) v hv
    exact ⟨t2, by rw [e]; congr 2; omega⟩

theorem filter_true {α : Type} (l : List α) : l.filter (fun _ => true) = l := by simp

theorem three_rows {xs : List Str} {h₁ h : Heap} {bad : List Addr} {vs ys : List Value} (hv : StrsAre vs kinds) (hF : Paired (RowAt h₁ bad (rowG xs) h) vs ys) :
    ∃ y0 y1 y2 T0 T1 T2 i0 i1 i2, ys = [y0, y1, y2] ∧ y0 = .ref T0 ∧ y1 = .ref T1 ∧ y2 = .ref T2 ∧ h₁.get? T0 = none ∧ h₁.get? T1 = none ∧ h₁.get? T2 = none ∧
      h.IsList T0 i0 ∧ h.IsList T1 i1 ∧ h.IsList T2 i2 ∧ IntsAre i0.toList (rowOf xs ⟨#[114]⟩) ∧ IntsAre i1.toList (rowOf xs ⟨#[119]⟩) ∧ IntsAre i2.toList (rowOf xs ⟨#[120]⟩) := by
  unfold kinds at hv
  obtain ⟨t0, vs0, rfl, hv0⟩ := hv.cons_inv
  obtain ⟨t1, vs1, rfl, hv1⟩ := hv0.cons_inv
  obtain ⟨t2, vs2, rfl, hv2⟩ := hv1.cons_inv
  obtain rfl := hv2.nil_inv
  cases hF with
  | cons h0 r =>
    cases r with
    | cons h1 r =>
      cases r with
      | cons h2 r =>
        cases r
        obtain ⟨T0, i0, e0, n0, _, l0, k0, u0, f0, g0⟩ := h0
        obtain ⟨T1, i1, e1, n1, _, l1, k1, u1, f1, g1⟩ := h1
        obtain ⟨T2, i2, e2, n2, _, l2, k2, u2, f2, g2⟩ := h2
        injection f0 with f0 _; injection f1 with f1 _; injection f2 with f2 _
        subst f0 f1 f2
        exact ⟨_, _, _, T0, T1, T2, i0, i1, i2, rfl, e0, e1, e2, n0, n1, n2, l0, l1, l2, g0, g1, g2⟩

theorem iter_rwx {prog : Program} {w : World} {A : Around} {E : Value → Shared → Prop} {s : Shared} {Q : Value → Shared → Prop} {t : Tok} (hh : A.handled = none)
    (k : ∀ I h' St, s.heap.get? I = none → (∀ b o, s.heap.get? b = some o → h'.get? b = some o) → Walks prog w A I [I] [I] 3 (SignAt (Str.ofString "rwx")) St → (∀ i h, St i h → ∃ o, h.get? I = some o) → St 0 h' → Q (.ref I) { s with heap := h' }) :
    wpAny (model prog w) A (pyIter (.str (Str.ofString "rwx") t)) Q E s := by
  have ha : (Str.ofString "rwx").cps.all (· < 128) = true := by decide +kernel
  refine wpAny_pyIter_ascii ha ?_
  refine k _ _ _ (new_none _) (fun b o e => Heap.get?_push_of_some _ e) (Walks.strAscii hh _ (Str.ofString "rwx") t) ?_ ⟨_, Heap.get?_push_size _ rfl, rfl, rfl⟩
  rintro i h ⟨o, e, _⟩
  exact ⟨o, e⟩

set_option maxHeartbeats 4000000 in
theorem law_D {w : World} {A : Around} {E : Value → Shared → Prop} {s : Shared} {hb : Heap} {mg mb : Str → Option Value} {L fa B : Addr} {cd : Value} {m : Str → Option Value} {xs : List Str} {Q : Flow → Shared → Prop}
    (H : LawH w A mg mb hb L fa cd) (hk0 : ∀ b o, hb.get? b = some o → s.heap.get? b = some o) (hn : s.heap.Ns L m) (hBL : B ≠ L) (hB : SL s.heap B xs) (hxs : xs.length ≤ 100)
    (c1 : s.heap.IsCell (cAt L 1) (some (.ref B)))
    (k : ∀ h' tk m' u AH T0 T1 T2 i0 i1 i2, KL L s.heap h' → h'.Ns L m' → m' (Str.ofString "half") = some (.int ((xs.length : Int).fdiv 2) u) → m' (Str.ofString "ahead") = some (.ref AH) → AH ≠ L → s.heap.get? AH = none → h'.PlainList AH #[.ref T0, .ref T1, .ref T2] →
      T0 ≠ L → T1 ≠ L → T2 ≠ L → s.heap.get? T0 = none → s.heap.get? T1 = none → s.heap.get? T2 = none → h'.IsList T0 i0 → h'.IsList T1 i1 → h'.IsList T2 i2 →
      IntsAre i0.toList (rowOf xs ⟨#[114]⟩) → IntsAre i1.toList (rowOf xs ⟨#[119]⟩) → IntsAre i2.toList (rowOf xs ⟨#[120]⟩) →
      wpAny (model PR w) A (execs (lawB.drop 7) (lawE L fa cd)) Q E { s with heap := h', toks := tk }) :
    wpAny (model PR w) A (execs (lawB.drop 5) (lawE L fa cd)) Q E s := by
  have Gs := H.G.keeps hk0
  refine wpAny_execs_cons (wpAny_Assign_Name (wpAny_BinOp (Call_name1 rfl (bname Gs (by kernel_rfl) boot_len (Calls.callWith_builtin rfl (Calls.evalArgs_plain (Calls.spliced_cons (wpAny_Name (wpAny_loadName_cell (by rfl) (by rfl) (by rfl) c1 ?_) (by decide)))))))))
  refine Calls.spliced_nil (len_SL hB (by omega) fun u₁ tk₁ => wpAny_Constant_int (floordiv_int (by decide) ?_ (Or.inl (PyProof.noPylong_small (by omega)))))
  refine wpAny_storeName_local (by rfl) hn (fun h₁ hn₁ hs₁ => ?_) (by rfl)
  replace hs₁ : Heap.SameBut L s.heap h₁ := hs₁
  have K1 : KL L s.heap h₁ := .same hs₁
  have c1' := K1.cell c1 (cAt_ne (by decide))
  have B1 := K1.sl hB hBL
  have k1 := K1.base hk0 (H.hL 0)
  have G1 := H.G.keeps k1
  obtain ⟨m1, hn1, mh1⟩ : ∃ m1 : Str → Option Value, h₁.Ns L m1 ∧ m1 (Str.ofString "half") = some (.int ((xs.length : Int).fdiv 2) (tk₁ + 1)) := ⟨_, hn₁, rfl⟩
  clear hn₁
  refine wpAny_execs_cons ?_
  refine assign_cell_comp (env := lawE L fa cd) (cl := [(Str.ofString "beads", cAt L 1)]) (rowG xs) (by with_unfolding_all rfl) (by with_unfolding_all rfl) rfl (by decide) (fun _ => rfl) (fun _ => rfl) rfl rfl rfl
    (Calls.Constant_str (iter_rwx H.hh fun I hI0 St hIn hkI W hlive hst => ?_))
  replace hIn : h₁.get? I = none := hIn
  replace hkI : ∀ b o, h₁.get? b = some o → hI0.get? b = some o := hkI
  have nI : ∀ b o, h₁.get? b = some o → b ∉ [I] := fun b o e hm => by
    rw [List.mem_singleton.mp hm, hIn] at e; cases e
  have hLI : L ∉ [I] := by obtain ⟨_, _, _, e, _⟩ := hn1; exact nI _ _ e
  refine ⟨I, _, _, _, _, _, m1, rfl, W, by decide, ?_, hst, ?_, hLI, hn1.keeps hkI, ?_, ?_⟩
  · intro i h st b hm
    rw [List.mem_singleton.mp hm]; exact hlive i h st
  · intro b hm
    rw [List.mem_singleton.mp hm]
    obtain ⟨o, e⟩ := hlive _ _ hst
    exact ltS e
  · intro C c i v s₃ E' hP hc hk₃
    obtain ⟨cp, uc, hcp, rfl⟩ := hP
    have kk : ∀ b o, h₁.get? b = some o → s₃.heap.get? b = some o := fun b o e => hk₃ b o (nI b o e) (hkI b o e)
    have c3 := c1'.keeps kk
    have B3 := B1.keeps kk
    have G3 := G1.keeps kk
    refine wpAny_ListComp_free (fun _ => true) (fun v y => ∃ (j : Nat) (t u : Tok), v = .int ((0 : Int) + j * 1) t ∧ y = .int (((xs.take j).count ⟨#[cp]⟩ : Nat) : Int) u) (cl := [(Str.ofString "kind", c), (Str.ofString "beads", cAt L 1)]) (by with_unfolding_all rfl) (by decide) rfl (by decide) rfl ?_ (by intro _; rfl)
    refine Call_name1 rfl (bname G3 (by kernel_rfl) boot_range (callWith_type1 (wpAny_BinOp ?_)))
    refine Call_name1 rfl (bname G3 (by kernel_rfl) boot_len (Calls.callWith_builtin rfl (Calls.evalArgs_plain (Calls.spliced_cons (wpAny_Name (wpAny_loadName_cell (by rfl) (by rfl) (by rfl) c3 ?_) (by decide))))))
    refine Calls.spliced_nil (len_SL B3 (by omega) fun u₄ tk₄ => wpAny_Constant_int (PyProof.Rows.add_int ?_))
    refine wpAny_mono (range_keeps_walks H.hh (by omega) (by omega)) (fun x s₅ h₅ => wpAny_mono h₅ (fun it s₆ h₆ => ?_) fun _ _ e => e) fun _ _ e => e
    obtain ⟨⟨h₆', tk₆, rfl, hk₆⟩, J, St', rfl, hJn, ⟨oJ, hJ⟩, WJ, hst'⟩ := h₆
    replace hk₆ : ∀ b o, s₃.heap.get? b = some o → h₆'.get? b = some o := hk₆
    replace hJn : s₃.heap.get? J = none := hJn
    have eN : (((xs.length : Nat) : Int) + 1).toNat = xs.length + 1 := by omega
    rw [eN] at WJ
    have : sizeLine = 2 ^ 24 := sizeLine_eq
    have nJ : ∀ b o, s₃.heap.get? b = some o → b ∉ [J] := fun b o e hm => by
      rw [List.mem_singleton.mp hm, hJn] at e; cases e
    refine ⟨J, _, _, _, _, _, rfl, WJ, by omega, hst', ?_, ⟨?_, ?_⟩, ?_⟩
    · intro b hm
      rw [List.mem_singleton.mp hm]; exact ltS hJ
    · intro C2 i2 v2 s₇ m₇ E2 _ _ _ _ _ _
      rw [List.forIn_nil]
      exact wpAny_pure ⟨rfl, _, _, rfl, fun _ _ e => e⟩
    · intro C2 i2 v2 s₇ m₇ E2 _ hP2 _ hn₇ hm₇ hk₇ _
      obtain ⟨t2, rfl⟩ := hP2
      have kk7 : ∀ b o, s₃.heap.get? b = some o → s₇.heap.get? b = some o := fun b o e => hk₇ b o (nJ b o e) (hk₆ b o e)
      have c7 := c3.keeps kk7
      have k7 := hc.keeps kk7
      have B7 := B3.keeps kk7
      refine Call_method1 rfl rfl rfl (Subscript_ (wpAny_Name (wpAny_loadName_cell (by rfl) (by rfl) (by rfl) c7 ?_) (by decide)))
      refine eval_slice_nu (lname hn₇ hm₇ ?_)
      have e0 : (0 : Int) + (i2 : Int) * 1 = (i2 : Int) := by omega
      rw [e0]
      refine slice_SL (ys := xs.take i2) B7 .none (.int _ _) (by omega) (fun vs _ hv => ?_) fun D8 h₈ hD8 S8 hk8 => ?_
      · rw [slicePick_upto']; simpa using strs_take hv i2
      replace hk8 : ∀ b o, s₇.heap.get? b = some o → h₈.get? b = some o := hk8
      refine ⟨"list", "list.count", F.plainAttrs_list, F.slot_list_count, F.type_list_count, SL.typeIs (s := { s₇ with heap := h₈ }) S8, noDict_SL S8, ?_⟩
      refine Calls.callWith_builtin rfl (Calls.evalArgs_plain (Calls.spliced_cons (wpAny_Name (wpAny_loadName_cell (by rfl) (by rfl) (by rfl) (k7.keeps hk8) ?_) (by decide))))
      exact Calls.spliced_nil (count_SL S8 ⟨⟨i2, t2, _, by rw [e0], rfl⟩, _, _, rfl, hk8⟩)
    · intro D8 h₈ tk₈ ys vs hDn hl hpl hlen2 hP2 hF hk₈
      refine ⟨⟨D8, ys, rfl, ?_, hl, ⟨_, _, rfl, ?_⟩⟩, _, _, rfl, fun b o e => hk₈ b o (nJ b o e) (hk₆ b o e)⟩
      · cases q : s₃.heap.get? D8 with
        | none => rfl
        | some o => have := hk₆ _ _ q; rw [show h₆'.get? D8 = none from hDn] at this; cases this
      · rw [filter_true] at hF
        have := ints_of_paired 0 hF fun j v hv => by obtain ⟨t, e⟩ := hP2 j v hv; exact ⟨t, by rw [e]; simp⟩
        rw [hlen2] at this
        unfold rowOf
        rw [List.range_eq_range']
        exact this
  · intro D h' tk ys vs hD hpl hlen hP hF hn' hk'
    have hvs := rwx_values hlen hP
    have older : ∀ T, hI0.get? T = none → s.heap.get? T = none ∧ T ≠ L := fun T hT => by
      have h1 : h₁.get? T = none := by
        cases q : h₁.get? T with
        | none => rfl
        | some o => rw [hkI _ _ q] at hT; cases hT
      have hTL := ne_new hn1 h1
      refine ⟨?_, hTL⟩
      cases q : s.heap.get? T with
      | none => rfl
      | some o => rw [hs₁.extBut T o hTL q] at h1; cases h1
    replace hD : hI0.get? D = none := hD
    have KK : KL L s.heap h' := fun b o hb e => hk' b o hb (nI b o (K1 b o hb e)) (hkI b o (K1 b o hb e))
    obtain ⟨y0, y1, y2, T0, T1, T2, i0, i1, i2, e, q0, q1, q2, hT0, hT1, hT2, l0, l1, l2, r0, r1, r2⟩ := three_rows hvs hF
    have epl : h'.PlainList D #[.ref T0, .ref T1, .ref T2] := by
      have : ys = #[.ref T0, .ref T1, .ref T2] := by
        rw [q0, q1, q2] at e
        exact Array.toList_inj.mp e
      rw [← this]; exact hpl
    exact k h' tk _ _ D T0 T1 T2 i0 i1 i2 KK hn' mh1 rfl (older D hD).2 (older D hD).1 epl (older _ hT0).2 (older _ hT1).2 (older _ hT2).2 (older _ hT0).1 (older _ hT1).1 (older _ hT2).1 l0 l1 l2 r0 r1 r2
end Mine

namespace Mine

theorem uldR_counts (c : Str) : ∀ (es ms ac : List Str), (uldR es ms ac).1.count c = ms.count c + (es.count c - ac.count c) ∧ (uldR es ms ac).2.count c = ac.count c - es.count c
  | [], ms, ac => by simp [uldR]
  | x :: r, ms, ac => by
    by_cases hx : x ∈ ac
    · have e : uldR (x :: r) ms ac = uldR r ms (ac.erase x) := by simp [uldR, hx]
      have ih := uldR_counts c r ms (ac.erase x)
      have hp : 0 < ac.count x := List.count_pos_iff.mpr hx
      rw [e, ih.1, ih.2, List.count_erase, List.count_cons]
      by_cases hc : x = c
      · subst hc; simp only [beq_self_eq_true, if_true]; omega
      · have : (x == c) = false := by simpa using hc
        simp [this]
    · have e : uldR (x :: r) ms ac = uldR r (ms ++ [x]) ac := by simp [uldR, hx]
      have ih := uldR_counts c r (ms ++ [x]) ac
      have hp : ac.count x = 0 := List.count_eq_zero.mpr hx
      rw [e, ih.1, ih.2, List.count_append, List.count_cons, List.count_cons]
      by_cases hc : x = c
      · subst hc; simp only [beq_self_eq_true, if_true, List.count_nil]; omega
      · have : (x == c) = false := by simpa using hc
        simp [this]

abbrev kR : Str := ⟨#[114]⟩
abbrev kW : Str := ⟨#[119]⟩
abbrev kX : Str := ⟨#[120]⟩
theorem mem_kinds {y : Str} (h : y ∈ kinds) : y = kR ∨ y = kW ∨ y = kX := by
  simpa [kinds] using h

theorem formX : ∀ ys : List Str, (∀ y ∈ ys, y ∈ kinds) → risingS kX ys = true → ∃ c, ys = List.replicate c kX
  | [], _, _ => ⟨0, rfl⟩
  | y :: r, hm, hs => by
    unfold risingS at hs
    rcases mem_kinds (hm y (.head _)) with rfl | rfl | rfl
    · exact absurd hs (by simp [Spec.ltCps])
    · exact absurd hs (by simp [Spec.ltCps])
    · obtain ⟨c, e⟩ := formX r (fun y hy => hm y (.tail _ hy)) (by simpa [Spec.ltCps] using hs)
      exact ⟨c + 1, by rw [e, List.replicate_succ]⟩
theorem formW : ∀ ys : List Str, (∀ y ∈ ys, y ∈ kinds) → risingS kW ys = true → ∃ b c, ys = List.replicate b kW ++ List.replicate c kX
  | [], _, _ => ⟨0, 0, rfl⟩
  | y :: r, hm, hs => by
    unfold risingS at hs
    rcases mem_kinds (hm y (.head _)) with rfl | rfl | rfl
    · exact absurd hs (by simp [Spec.ltCps])
    · obtain ⟨b, c, e⟩ := formW r (fun y hy => hm y (.tail _ hy)) (by simpa [Spec.ltCps] using hs)
      exact ⟨b + 1, c, by rw [e, List.replicate_succ, List.cons_append]⟩
    · obtain ⟨c, e⟩ := formX r (fun y hy => hm y (.tail _ hy)) (by simpa [Spec.ltCps] using hs)
      exact ⟨0, c + 1, by rw [e, List.replicate_succ]; rfl⟩
theorem formR : ∀ ys : List Str, (∀ y ∈ ys, y ∈ kinds) → risingS kR ys = true → ∃ a b c, ys = List.replicate a kR ++ List.replicate b kW ++ List.replicate c kX
  | [], _, _ => ⟨0, 0, 0, rfl⟩
  | y :: r, hm, hs => by
    unfold risingS at hs
    rcases mem_kinds (hm y (.head _)) with rfl | rfl | rfl
    · obtain ⟨a, b, c, e⟩ := formR r (fun y hy => hm y (.tail _ hy)) (by simpa [Spec.ltCps] using hs)
      exact ⟨a + 1, b, c, by rw [e, List.replicate_succ, List.cons_append, List.cons_append]⟩
    · obtain ⟨b, c, e⟩ := formW r (fun y hy => hm y (.tail _ hy)) (by simpa [Spec.ltCps] using hs)
      exact ⟨0, b + 1, c, by rw [e, List.replicate_succ]; rfl⟩
    · obtain ⟨c, e⟩ := formX r (fun y hy => hm y (.tail _ hy)) (by simpa [Spec.ltCps] using hs)
      exact ⟨0, 0, c + 1, by rw [e, List.replicate_succ]; rfl⟩

theorem rising_first : ∀ ys : List Str, (∀ y ∈ ys, y ∈ kinds) → sortedS ys = true → risingS kR ys = true
  | [], _, _ => rfl
  | y :: r, hm, hs => by
    have hs' : risingS y r = true := hs
    unfold risingS
    rcases mem_kinds (hm y (.head _)) with rfl | rfl | rfl <;> simpa [Spec.ltCps] using hs'

theorem sorted_form {ys : List Str} (hm : ∀ y ∈ ys, y ∈ kinds) (hs : sortedS ys = true) : ys = List.replicate (ys.count kR) kR ++ List.replicate (ys.count kW) kW ++ List.replicate (ys.count kX) kX := by
  obtain ⟨a, b, c, e⟩ := formR ys hm (rising_first ys hm hs)
  have e1 : ys.count kR = a := by rw [e]; simp [List.count_append, List.count_replicate]
  have e2 : ys.count kW = b := by rw [e]; simp [List.count_append, List.count_replicate]
  have e3 : ys.count kX = c := by rw [e]; simp [List.count_append, List.count_replicate]
  rw [e1, e2, e3]; exact e

def ea (xs : List Str) (i j k : Nat) : List Str := xs.take i ++ (xs.drop j).take (k - j)
def ac (xs : List Str) (i j k : Nat) : List Str := (xs.drop i).take (j - i) ++ xs.drop k
def pc (xs : List Str) (c : Str) (n : Nat) : Int := (((xs.take n).count c : Nat) : Int)
def moreI (xs : List Str) (c : Str) (i j k : Nat) : Int := 2 * (pc xs c i - pc xs c j + pc xs c k) - (xs.count c : Nat)

theorem count_mid (xs : List Str) (c : Str) {j k : Nat} (h : j ≤ k) : (((xs.drop j).take (k - j)).count c) + (xs.take j).count c = (xs.take k).count c := by
  have : xs.take k = xs.take j ++ (xs.drop j).take (k - j) := by
    conv => lhs; rw [show k = j + (k - j) by omega]
    rw [List.take_add]
  rw [this, List.count_append]; omega
theorem count_rest (xs : List Str) (c : Str) (k : Nat) : ((xs.drop k).count c) + (xs.take k).count c = xs.count c := by
  conv => rhs; rw [← List.take_append_drop k xs]
  rw [List.count_append]; omega

theorem more_eq {xs : List Str} {c : Str} {i j k : Nat} (hij : i ≤ j) (hjk : j ≤ k) : moreI xs c i j k = ((ea xs i j k).count c : Nat) - ((ac xs i j k).count c : Nat) := by
  unfold moreI pc ea ac
  rw [List.count_append, List.count_append]
  have h1 := count_mid xs c hjk
  have h2 := count_mid xs c hij
  have h3 := count_rest xs c k
  omega

def fairAt (xs : List Str) (i j k : Nat) : Bool := kinds.all fun c => (ea xs i j k).count c == (ac xs i j k).count c

theorem ea_mem {xs : List Str} {i j k : Nat} (h : ∀ y ∈ xs, y ∈ kinds) : ∀ y ∈ ea xs i j k, y ∈ kinds := fun y hy => by
  unfold ea at hy
  rcases List.mem_append.mp hy with hy | hy
  · exact h y (List.mem_of_mem_take hy)
  · exact h y (List.mem_of_mem_drop (List.mem_of_mem_take hy))
theorem ac_mem {xs : List Str} {i j k : Nat} (h : ∀ y ∈ xs, y ∈ kinds) : ∀ y ∈ ac xs i j k, y ∈ kinds := fun y hy => by
  unfold ac at hy
  rcases List.mem_append.mp hy with hy | hy
  · exact h y (List.mem_of_mem_drop (List.mem_of_mem_take hy))
  · exact h y (List.mem_of_mem_drop hy)

theorem uld_missing {es as : List Str} (he : ∀ y ∈ es, y ∈ kinds) (c : Str) : (uldR es.reverse [] as).1.count c = es.count c - as.count c := by
  rw [(uldR_counts c es.reverse [] as).1]; simp
theorem uld_left {es as : List Str} (c : Str) : (uldR es.reverse [] as).2.count c = as.count c - es.count c := by
  rw [(uldR_counts c es.reverse [] as).2]; simp

/-- what sorted(lacking) and sorted(left) are -/
theorem lacking_form {es as ys : List Str} (he : ∀ y ∈ es, y ∈ kinds) (hp : ys.Perm (uldR es.reverse [] as).1) (hs : sortedS ys = true) :
    ys = List.replicate (es.count kR - as.count kR) kR ++ List.replicate (es.count kW - as.count kW) kW ++ List.replicate (es.count kX - as.count kX) kX := by
  have hm : ∀ y ∈ ys, y ∈ kinds := fun y hy => by
    have h1 : 0 < ys.count y := List.count_pos_iff.mpr hy
    rw [hp.count_eq, uld_missing he] at h1
    exact he y (List.count_pos_iff.mp (by omega))
  have := sorted_form hm hs
  rw [hp.count_eq, hp.count_eq, hp.count_eq, uld_missing he, uld_missing he, uld_missing he] at this
  exact this
theorem left_form {es as ys : List Str} (ha : ∀ y ∈ as, y ∈ kinds) (hp : ys.Perm (uldR es.reverse [] as).2) (hs : sortedS ys = true) :
    ys = List.replicate (as.count kR - es.count kR) kR ++ List.replicate (as.count kW - es.count kW) kW ++ List.replicate (as.count kX - es.count kX) kX := by
  have hm : ∀ y ∈ ys, y ∈ kinds := fun y hy => by
    have h1 : 0 < ys.count y := List.count_pos_iff.mpr hy
    rw [hp.count_eq, uld_left] at h1
    exact ha y (List.count_pos_iff.mp (by omega))
  have := sorted_form hm hs
  rw [hp.count_eq, hp.count_eq, hp.count_eq, uld_left, uld_left, uld_left] at this
  exact this

theorem both_empty {es as : List Str} (he : ∀ y ∈ es, y ∈ kinds) (ha : ∀ y ∈ as, y ∈ kinds) : ((uldR es.reverse [] as).1 ++ (uldR es.reverse [] as).2 = []) ↔ (kinds.all fun c => es.count c == as.count c) = true := by
  rw [List.all_eq_true]
  constructor
  · intro h c hc
    have h1 := List.append_eq_nil_iff.mp h
    have e1 := uld_missing (as := as) he c
    have e2 := uld_left (es := es) (as := as) c
    rw [h1.1, List.count_nil] at e1
    rw [h1.2, List.count_nil] at e2
    simp; omega
  · intro h
    rw [List.append_eq_nil_iff]
    have hcount : ∀ c ∈ kinds, es.count c = as.count c := fun c hc => by simpa using h c hc
    constructor
    · rw [List.eq_nil_iff_forall_not_mem]
      intro y hy
      have h1 := List.count_pos_iff.mpr hy
      rw [uld_missing he] at h1
      have hye : y ∈ es := List.count_pos_iff.mp (by omega)
      have := hcount y (he y hye); omega
    · rw [List.eq_nil_iff_forall_not_mem]
      intro y hy
      have h1 := List.count_pos_iff.mpr hy
      rw [uld_left] at h1
      have hye : y ∈ as := List.count_pos_iff.mp (by omega)
      have := hcount y (ha y hye); omega
end Mine

namespace Mine

noncomputable def innerB : List Stmt := match (lawB[8]? : Option Stmt) with
  | some (.For _ _ [.For _ _ b _ _] _ _) => b
  | _ => []

/-- the ground that the loops leave alone -/
structure GR (w : World) (mg mb : Str → Option Value) (gr : Heap) (L FA B AH T0 T1 T2 : Addr) (i0 i1 i2 : Array Value) (xs : List Str) (half : Nat) : Prop where
  G : Gl w mg mb gr
  b : SL gr B xs
  c1 : gr.IsCell (cAt L 1) (some (.ref B))
  ah : gr.PlainList AH #[.ref T0, .ref T1, .ref T2]
  t0 : gr.IsList T0 i0
  t1 : gr.IsList T1 i1
  t2 : gr.IsList T2 i2
  r0 : IntsAre i0.toList (rowOf xs kR)
  r1 : IntsAre i1.toList (rowOf xs kW)
  r2 : IntsAre i2.toList (rowOf xs kX)
  nL : gr.get? L = none
  n2 : gr.get? (cAt L 2) = none
  n3 : gr.get? (cAt L 3) = none
  n4 : gr.get? (cAt L 4) = none
  nF : gr.get? FA = none
  fL : FA ≠ L
  f2 : FA ≠ cAt L 2
  f3 : FA ≠ cAt L 3
  f4 : FA ≠ cAt L 4
  mem : ∀ y ∈ xs, y ∈ kinds
  len : xs.length = 2 * half
  small : half ≤ 15

structure LS (gr : Heap) (L FA : Addr) (h : Heap) (m : Str → Option Value) (v2 v3 v4 : Option Value) (ys : Array Value) : Prop where
  keep : ∀ b o, gr.get? b = some o → h.get? b = some o
  ns : h.Ns L m
  c2 : h.IsCell (cAt L 2) v2
  c3 : h.IsCell (cAt L 3) v3
  c4 : h.IsCell (cAt L 4) v4
  fa : h.PlainList FA ys

structure MF (m : Str → Option Value) (half : Nat) (AH FA : Addr) : Prop where
  h : ∃ u, m (Str.ofString "half") = some (.int (half : Int) u)
  a : m (Str.ofString "ahead") = some (.ref AH)
  f : m (Str.ofString "fair") = some (.ref FA)

section
variable {w : World} {mg mb : Str → Option Value} {gr : Heap} {L FA B AH T0 T1 T2 : Addr} {i0 i1 i2 : Array Value} {xs : List Str} {half : Nat} {h h' : Heap} {m m' : Str → Option Value} {v2 v3 v4 v : Option Value} {ys : Array Value}

theorem ne_none {g : Heap} {b c : Addr} {o : Obj} (e : g.get? b = some o) (hc : g.get? c = none) : b ≠ c := fun q => by rw [q, hc] at e; cases e

theorem LS.keeps (l : LS gr L FA h m v2 v3 v4 ys) (k : ∀ b o, h.get? b = some o → h'.get? b = some o) : LS gr L FA h' m v2 v3 v4 ys :=
  ⟨fun b o e => k b o (l.keep b o e), l.ns.keeps k, l.c2.keeps k, l.c3.keeps k, l.c4.keeps k, l.fa.at fun o e => k _ o e⟩
theorem LS.kl (R : GR w mg mb gr L FA B AH T0 T1 T2 i0 i1 i2 xs half) (l : LS gr L FA h m v2 v3 v4 ys) (k : KL L h h') (hn : h'.Ns L m') : LS gr L FA h' m' v2 v3 v4 ys :=
  ⟨k.base l.keep R.nL, hn, k.cell l.c2 (cAt_ne (by decide)), k.cell l.c3 (cAt_ne (by decide)), k.cell l.c4 (cAt_ne (by decide)), l.fa.at fun o e => k _ o R.fL e⟩
theorem LS.set2 (R : GR w mg mb gr L FA B AH T0 T1 T2 i0 i1 i2 xs half) (l : LS gr L FA h m v2 v3 v4 ys) (hs : Heap.SameBut (cAt L 2) h h') (hc : h'.IsCell (cAt L 2) v) : LS gr L FA h' m v v3 v4 ys :=
  ⟨fun b o e => hs.extBut b o (ne_none e R.n2) (l.keep b o e), l.ns.sameBut hs (Ne.symm (cAt_ne (by decide))), hc, l.c3.sameBut hs (cAt_inj (by decide)), l.c4.sameBut hs (cAt_inj (by decide)), l.fa.at fun o e => hs.extBut _ o R.f2 e⟩
theorem LS.set3 (R : GR w mg mb gr L FA B AH T0 T1 T2 i0 i1 i2 xs half) (l : LS gr L FA h m v2 v3 v4 ys) (hs : Heap.SameBut (cAt L 3) h h') (hc : h'.IsCell (cAt L 3) v) : LS gr L FA h' m v2 v v4 ys :=
  ⟨fun b o e => hs.extBut b o (ne_none e R.n3) (l.keep b o e), l.ns.sameBut hs (Ne.symm (cAt_ne (by decide))), l.c2.sameBut hs (cAt_inj (by decide)), hc, l.c4.sameBut hs (cAt_inj (by decide)), l.fa.at fun o e => hs.extBut _ o R.f3 e⟩
theorem LS.set4 (R : GR w mg mb gr L FA B AH T0 T1 T2 i0 i1 i2 xs half) (l : LS gr L FA h m v2 v3 v4 ys) (hs : Heap.SameBut (cAt L 4) h h') (hc : h'.IsCell (cAt L 4) v) : LS gr L FA h' m v2 v3 v ys :=
  ⟨fun b o e => hs.extBut b o (ne_none e R.n4) (l.keep b o e), l.ns.sameBut hs (Ne.symm (cAt_ne (by decide))), l.c2.sameBut hs (cAt_inj (by decide)), l.c3.sameBut hs (cAt_inj (by decide)), hc, l.fa.at fun o e => hs.extBut _ o R.f4 e⟩
theorem LS.setF (R : GR w mg mb gr L FA B AH T0 T1 T2 i0 i1 i2 xs half) (l : LS gr L FA h m v2 v3 v4 ys) {zs : Array Value} (hs : Heap.SameBut FA h h') (hf : h'.PlainList FA zs) : LS gr L FA h' m v2 v3 v4 zs :=
  ⟨fun b o e => hs.extBut b o (ne_none e R.nF) (l.keep b o e), l.ns.sameBut hs (Ne.symm R.fL), l.c2.sameBut hs (Ne.symm R.f2), l.c3.sameBut hs (Ne.symm R.f3), l.c4.sameBut hs (Ne.symm R.f4), hf⟩

theorem cell_name {prog : Program} {A : Around} {E : Value → Shared → Prop} {s : Shared} {env : Env} {x : Str} {pos : Pos} {c : Addr} {v : Value} {Q : Value → Shared → Prop} (hv : s.heap.IsCell c (some v)) (h : Q v s)
    (hk : env.scope.kind = .function := by rfl) (hx : env.kindOf x = some .cell := by rfl) (hc : env.cells.lookup x = some c := by rfl) (hd : (x == ("__debug__" : Str)) = false := by decide) :
    wpAny (model prog w) A (eval (.Name x pos) env) Q E s := wpAny_Name (wpAny_loadName_cell hk hx hc hv h) hd

/-- a slice of the beads -/
theorem slice_bi {prog : Program} {A : Around} {E : Value → Shared → Prop} {s : Shared} {value : PySem.Expr} {lower upper : Option PySem.Expr} {p : Pos} {Q : Value → Shared → Prop} {a b : Nat} {t u : Tok} {D : Addr} (hB : SL s.heap D xs) (hl : xs.length ≤ 100) (hab : a ≤ b) (hb : b ≤ xs.length)
    (k : ∀ D h', s.heap.get? D = none → SL h' D ((xs.drop a).take (b - a)) → (∀ b o, s.heap.get? b = some o → h'.get? b = some o) → Q (.ref D) { s with heap := h' }) :
    wpAny (model prog w) A (newFields "slice" [.int (a : Int) t, .int (b : Int) u, .none]) (fun i s₁ => wpAny (model prog w) A (subscriptTail value (.Slice lower upper none p) (.ref D) i) Q E s₁) E s := by
  refine slice_SL hB (.int _ _) (.int _ _) (by omega) (fun vs hlv hv => ?_) k
  rw [slicePick_run _ a b (by simp; omega) hab]
  simpa using strs_take (strs_drop hv a) (b - a)
theorem slice_nb {prog : Program} {A : Around} {E : Value → Shared → Prop} {s : Shared} {value : PySem.Expr} {lower upper : Option PySem.Expr} {p : Pos} {Q : Value → Shared → Prop} {b : Nat} {u : Tok} {D : Addr} (hB : SL s.heap D xs) (hl : xs.length ≤ 100)
    (k : ∀ D h', s.heap.get? D = none → SL h' D (xs.take b) → (∀ b o, s.heap.get? b = some o → h'.get? b = some o) → Q (.ref D) { s with heap := h' }) :
    wpAny (model prog w) A (newFields "slice" [.none, .int (b : Int) u, .none]) (fun i s₁ => wpAny (model prog w) A (subscriptTail value (.Slice lower upper none p) (.ref D) i) Q E s₁) E s := by
  refine slice_SL hB .none (.int _ _) (by omega) (fun vs hlv hv => ?_) k
  rw [slicePick_upto']
  simpa using strs_take hv b
theorem slice_an {prog : Program} {A : Around} {E : Value → Shared → Prop} {s : Shared} {value : PySem.Expr} {lower upper : Option PySem.Expr} {p : Pos} {Q : Value → Shared → Prop} {a : Nat} {t : Tok} {D : Addr} (hB : SL s.heap D xs) (hl : xs.length ≤ 100)
    (k : ∀ D h', s.heap.get? D = none → SL h' D (xs.drop a) → (∀ b o, s.heap.get? b = some o → h'.get? b = some o) → Q (.ref D) { s with heap := h' }) :
    wpAny (model prog w) A (newFields "slice" [.int (a : Int) t, .none, .none]) (fun i s₁ => wpAny (model prog w) A (subscriptTail value (.Slice lower upper none p) (.ref D) i) Q E s₁) E s := by
  refine slice_SL hB (.int _ _) .none (by omega) (fun vs hlv hv => ?_) k
  rw [slicePick_from']
  simpa using strs_drop hv a
end
end Mine

namespace Mine

theorem eaL {xs : List Str} {i j k : Nat} (h : xs.length ≤ 100) (hij : i ≤ j) : (ea xs i j k).length ≤ 100 := by
  unfold ea; simp; omega
theorem acL {xs : List Str} {i j k : Nat} (h : xs.length ≤ 100) (hjk : j ≤ k) : (ac xs i j k).length ≤ 100 := by
  unfold ac; simp; omega

set_option maxHeartbeats 4000000 in
theorem body_1 {w : World} {A : Around} {E : Value → Shared → Prop} {s : Shared} {hb gr : Heap} {mg mb : Str → Option Value} {L fa FA B AH T0 T1 T2 : Addr} {i0 i1 i2 : Array Value} {cd : Value} {m : Str → Option Value} {xs : List Str} {half i j : Nat} {ti tj : Tok} {v2 : Option Value} {ys : Array Value} {Q : Flow → Shared → Prop}
    (H : LawH w A mg mb hb L fa cd) (R : GR w mg mb gr L FA B AH T0 T1 T2 i0 i1 i2 xs half) (l : LS gr L FA s.heap m v2 (some (.int (i : Int) ti)) (some (.int (j : Int) tj)) ys) (mf : MF m half AH FA)
    (hi : i ≤ half) (hij : i ≤ j) (hj : j ≤ half + i)
    (k : ∀ h' tk m' uk M N, LS gr L FA h' m' (some (.int ((half - i + j : Nat) : Int) uk)) (some (.int (i : Int) ti)) (some (.int (j : Int) tj)) ys → MF m' half AH FA → m' (Str.ofString "lacking") = some (.ref M) → m' (Str.ofString "left") = some (.ref N) → M ≠ L → N ≠ L →
      SL h' M (uldR (ea xs i j (half - i + j)).reverse [] (ac xs i j (half - i + j))).1 → SL h' N (uldR (ea xs i j (half - i + j)).reverse [] (ac xs i j (half - i + j))).2 →
      wpAny (model PR w) A (execs (innerB.drop 2) (lawE L fa cd)) Q E { s with heap := h', toks := tk }) :
    wpAny (model PR w) A (execs innerB (lawE L fa cd)) Q E s := by
  obtain ⟨⟨uh, mh⟩, ma, mfa⟩ := mf
  have hlen := R.len
  have hsm := R.small
  have hx100 : xs.length ≤ 100 := by omega
  refine wpAny_execs_cons (wpAny_Assign_Name (wpAny_BinOp (wpAny_BinOp (lname l.ns mh (cell_name l.c3 (PyProof.Rows.sub_int (cell_name l.c4 (PyProof.Rows.add_int ?_))))))))
  have ek : (half : Int) - (i : Int) + (j : Int) = ((half - i + j : Nat) : Int) := by omega
  rw [ek]
  generalize hK : half - i + j = K at *
  have hjK : j ≤ K := by omega
  have hKx : K ≤ xs.length := by omega
  refine wpAny_storeName_cell (by rfl) (by rfl) (by rfl) l.c2 fun h₁ hc₁ hs₁ => ?_
  replace hs₁ : Heap.SameBut (cAt L 2) s.heap h₁ := hs₁
  replace hc₁ : h₁.IsCell (cAt L 2) (some (.int (K : Int) (s.toks + 1))) := hc₁
  have l1 := l.set2 R hs₁ hc₁
  have b1 := R.b.keeps l1.keep
  have cb1 := R.c1.keeps l1.keep
  have G1 := R.G.keeps l1.keep
  have hfn := G1.inK 21 _ (by rfl)
  refine wpAny_execs_cons (Assign_Tuple (Call_name2 rfl (gname (v := .ref 21) G1 (by kernel_rfl) (callWith_fn2' hfn rfl (wpAny_BinOp ?_)))))
  refine Subscript_ (cell_name cb1 (eval_slice_nu (cell_name l1.c3 ?_)))
  refine slice_nb b1 hx100 fun D2 h₂ hD2 S2 hk2 => ?_
  replace hk2 : ∀ b o, h₁.get? b = some o → h₂.get? b = some o := hk2
  have l2 := l1.keeps hk2
  refine Subscript_ (cell_name (cb1.keeps hk2) (eval_slice_lu (cell_name l2.c4 (cell_name l2.c2 ?_))))
  refine slice_bi (b1.keeps hk2) hx100 hjK hKx fun D3 h₃ hD3 S3 hk3 => ?_
  replace hk3 : ∀ b o, h₂.get? b = some o → h₃.get? b = some o := hk3
  have l3 := l2.keeps hk3
  refine add_SL (S2.keeps hk3) S3 (by simp; omega) fun D4 h₄ hD4 S4 hk4 => ?_
  replace hk4 : ∀ b o, h₃.get? b = some o → h₄.get? b = some o := hk4
  replace hD4 : h₃.get? D4 = none := hD4
  have l4 := l3.keeps hk4
  have b4 := R.b.keeps l4.keep
  have cb4 := R.c1.keeps l4.keep
  refine wpAny_BinOp (Subscript_ (cell_name cb4 (eval_slice_lu (cell_name l4.c3 (cell_name l4.c4 ?_)))))
  refine slice_bi b4 hx100 hij (by omega) fun D5 h₅ hD5 S5 hk5 => ?_
  replace hk5 : ∀ b o, h₄.get? b = some o → h₅.get? b = some o := hk5
  have l5 := l4.keeps hk5
  refine Subscript_ (cell_name (cb4.keeps hk5) (eval_slice_ln (cell_name l5.c2 ?_)))
  refine slice_an (b4.keeps hk5) hx100 fun D6 h₆ hD6 S6 hk6 => ?_
  replace hk6 : ∀ b o, h₅.get? b = some o → h₆.get? b = some o := hk6
  have l6 := l5.keeps hk6
  refine add_SL (S5.keeps hk6) S6 (by simp; omega) fun D7 h₇ hD7 S7 hk7 => ?_
  replace hk7 : ∀ b o, h₆.get? b = some o → h₇.get? b = some o := hk7
  replace hD7 : h₆.get? D7 = none := hD7
  have l7 := l6.keeps hk7
  have S4' : SL h₇ D4 (ea xs i j K) := ((S4.keeps hk5).keeps hk6).keeps hk7
  have S7' : SL h₇ D7 (ac xs i j K) := S7
  have G7 := R.G.keeps l7.keep
  have D4gr : gr.get? D4 = none := by
    cases q : gr.get? D4 with
    | none => rfl
    | some o => rw [l3.keep _ _ q] at hD4; cases hD4
  have D7gr : gr.get? D7 = none := by
    cases q : gr.get? D7 with
    | none => rfl
    | some o => rw [l6.keep _ _ q] at hD7; cases hD7
  have D4L : D4 ≠ L := ne_new l3.ns hD4
  have D7L : D7 ≠ L := ne_new l6.ns hD7
  have D47 : D4 ≠ D7 := fun q => by
    obtain ⟨vs, ⟨n, e⟩, _⟩ := ((S4.keeps hk5).keeps hk6)
    rw [q, hD7] at e; cases e
  have notc : ∀ {c : Addr} {v : Option Value}, h₃.IsCell c v → c ≠ D4 := fun hc q => by
    obtain ⟨o, e, _⟩ := hc; rw [q, hD4] at e; cases e
  have notc7 : ∀ {c : Addr} {v : Option Value}, h₆.IsCell c v → c ≠ D7 := fun hc q => by
    obtain ⟨o, e, _⟩ := hc; rw [q, hD7] at e; cases e
  have FA4 : FA ≠ D4 := fun q => by obtain ⟨n, e⟩ := l3.fa; rw [q, hD4] at e; cases e
  have FA7 : FA ≠ D7 := fun q => by obtain ⟨n, e⟩ := l6.fa; rw [q, hD7] at e; cases e
  have hr := H.room
  refine ⟨G7.inK 21 _ (by rfl), uld_ok (outer := [lawE L fa cd]) R.G l7.keep ?_ D4gr D7gr H.hh (by omega) H.fr (frames_one l7.ns) ?_ ?_ D47 S4' S7' (eaL hx100 hij) (acL hx100 hjK) fun h₈ tk₈ T M U8 hT hM hTup SM SN => ?_⟩
  · intro L' hL'
    rw [FLs_one] at hL'
    rw [List.mem_singleton.mp hL']; exact R.nL
  · rw [FLs_one]; simpa using D4L
  · rw [FLs_one]; simpa using D7L
  replace U8 : KU [L] (hideAll h₇ [D4, D7]) h₈ := U8
  replace hM : h₇.get? M = none := hM
  have keepx : ∀ b o, b ≠ L → b ≠ D4 → b ≠ D7 → h₇.get? b = some o → h₈.get? b = some o := fun b o h1 h2 h3 e =>
    U8.keep b o (by simpa using h1) (hideAll_get _ e (by simp; exact ⟨h2, h3⟩))
  have cellx : ∀ {c : Addr} {v : Option Value}, h₇.IsCell c v → c ≠ L → c ≠ D4 → c ≠ D7 → h₈.IsCell c v := fun hc h1 h2 h3 => by
    obtain ⟨o, e, d⟩ := hc; exact ⟨o, keepx _ o h1 h2 h3 e, d⟩
  have hn8 : h₈.Ns L m := U8.ns (l7.ns.at' fun o e => hideAll_get _ e (by simp; exact ⟨Ne.symm D4L, Ne.symm D7L⟩))
  have l8 : LS gr L FA h₈ m (some (.int (K : Int) (s.toks + 1))) (some (.int (i : Int) ti)) (some (.int (j : Int) tj)) ys :=
    ⟨fun b o e => keepx b o (ne_none e R.nL) (ne_none e D4gr) (ne_none e D7gr) (l7.keep b o e), hn8, cellx l7.c2 (cAt_ne (by decide)) (notc l3.c2) (notc7 l6.c2), cellx l7.c3 (cAt_ne (by decide)) (notc l3.c3) (notc7 l6.c3), cellx l7.c4 (cAt_ne (by decide)) (notc l3.c4) (notc7 l6.c4), l7.fa.at fun o e => keepx _ o R.fL FA4 FA7 e⟩
  have ML : M ≠ L := ne_new l7.ns hM
  refine assign_pair H.hh hTup hn8 rfl rfl rfl fun h₉ tk₉ hn₉ hk₉ => ?_
  replace hk₉ : KL L h₈ h₉ := hk₉
  refine wpAny_mono (k h₉ tk₉ _ _ M D7 (l8.kl R hk₉ hn₉) ⟨⟨uh, mh⟩, ma, mfa⟩ rfl rfl ML D7L (hk₉.sl SM ML) (hk₉.sl SN D7L)) (fun _ _ q => q) fun _ _ q => q
end Mine

namespace Mine

def intAt (its : Array Value) (n : Nat) : Int := match its[n]? with
  | some (.int a _) => a
  | _ => 0
def valOf (its : Array Value) (i j k : Nat) : Int := 2 * (intAt its i - intAt its j + intAt its k) - intAt its (its.size - 1)

theorem ints_get : ∀ {vs : List Value} {ns : List Int}, IntsAre vs ns → ∀ (n : Nat) (a : Int), ns[n]? = some a → ∃ t, vs[n]? = some (.int a t)
  | _, _, .nil, n, a, h => by simp at h
  | _, _, .cons x t r, n, a, h => by
    cases n with
    | zero => simp at h; subst h; exact ⟨t, rfl⟩
    | succ n => simpa using ints_get r n a (by simpa using h)

theorem row_get {xs : List Str} {c : Str} {its : Array Value} (r : IntsAre its.toList (rowOf xs c)) {n : Nat} (hn : n ≤ xs.length) : ∃ t, its[n]? = some (.int (pc xs c n) t) := by
  have h : (rowOf xs c)[n]? = some (pc xs c n) := by
    unfold rowOf pc
    rw [List.getElem?_map, List.getElem?_range (by omega)]; rfl
  obtain ⟨t, e⟩ := ints_get r n _ h
  exact ⟨t, by simpa using e⟩
theorem row_size {xs : List Str} {c : Str} {its : Array Value} (r : IntsAre its.toList (rowOf xs c)) : its.size = xs.length + 1 := by
  have := r.length
  unfold rowOf at this
  simpa using this
theorem intAt_row {xs : List Str} {c : Str} {its : Array Value} (r : IntsAre its.toList (rowOf xs c)) {n : Nat} (hn : n ≤ xs.length) : intAt its n = pc xs c n := by
  obtain ⟨t, e⟩ := row_get r hn
  unfold intAt; rw [e]
theorem valOf_row {xs : List Str} {c : Str} {its : Array Value} (r : IntsAre its.toList (rowOf xs c)) {i j k : Nat} (hi : i ≤ xs.length) (hj : j ≤ xs.length) (hk : k ≤ xs.length) : valOf its i j k = moreI xs c i j k := by
  unfold valOf moreI
  rw [row_size r, intAt_row r hi, intAt_row r hj, intAt_row r hk, intAt_row r (by omega : xs.length + 1 - 1 ≤ xs.length)]
  have : pc xs c (xs.length + 1 - 1) = ((xs.count c : Nat) : Int) := by unfold pc; simp
  rw [this]

theorem list_uniq {h : Heap} {T : Addr} {a b : Array Value} (x : h.IsList T a) (y : h.IsList T b) : a = b := by
  obtain ⟨o, e, _, n, d⟩ := x
  obtain ⟨o', e', _, n', d'⟩ := y
  rw [e] at e'; cases e'
  rw [d] at d'; injection d'

theorem three_vals {gr : Heap} {T0 T1 T2 : Addr} {i0 i1 i2 : Array Value} {i j k : Nat} {vs zs : List Value} (hl : vs.length = 3) (hP : ∀ (n : Nat) v, vs[n]? = some v → (#[Value.ref T0, .ref T1, .ref T2] : Array Value)[n]? = some v)
    (h0 : gr.IsList T0 i0) (h1 : gr.IsList T1 i1) (h2 : gr.IsList T2 i2) (hF : Paired (fun v y => ∀ T its, v = .ref T → gr.IsList T its → ∃ u, y = .int (valOf its i j k) u) vs zs) :
    ∃ u0 u1 u2, zs = [.int (valOf i0 i j k) u0, .int (valOf i1 i j k) u1, .int (valOf i2 i j k) u2] := by
  obtain ⟨a, b, c, rfl⟩ : ∃ a b c, vs = [a, b, c] := by
    match vs, hl with
    | [a, b, c], _ => exact ⟨a, b, c, rfl⟩
  have ea := hP 0 a rfl
  have eb := hP 1 b rfl
  have ec := hP 2 c rfl
  cases ea; cases eb; cases ec
  cases hF with
  | cons f0 r =>
    cases r with
    | cons f1 r =>
      cases r with
      | cons f2 r =>
        cases r
        obtain ⟨u0, rfl⟩ := f0 _ _ rfl h0
        obtain ⟨u1, rfl⟩ := f1 _ _ rfl h1
        obtain ⟨u2, rfl⟩ := f2 _ _ rfl h2
        exact ⟨u0, u1, u2, rfl⟩

theorem item_neg1 {prog : Program} {w : World} {A : Around} {E : Value → Shared → Prop} {s : Shared} {Q : Value → Shared → Prop} {value slice : PySem.Expr} {a : Addr} {its : Array Value} {u : Tok} {v : Value} (ha : s.heap.IsList a its) (hv : its[its.size - 1]? = some v) (k : Q v s)
    (hs : subscripted slice false (.ref a) (.int (-1) u) = operate [.ref a, .int (-1) u] (getItem (.ref a) (.int (-1) u))) :
    wpAny (model prog w) A (subscriptTail value slice (.ref a) (.int (-1) u)) Q E s := by
  have hp : 0 < its.size := by have := (Array.getElem?_eq_some_iff.mp hv).1; omega
  refine tail_any ha.typeIs slot_list_getitem.lookup (wpAny_getItem_list_neg ha (by decide) (by omega) (by decide) ?_ k) hs
  have : ((-1 : Int) + (its.size : Int)).toNat = its.size - 1 := by omega
  rw [this]; exact hv

theorem item_A {prog : Program} {w : World} {A : Around} {E : Value → Shared → Prop} {s : Shared} {Q : Value → Shared → Prop} {value slice : PySem.Expr} {a : Addr} {its : Array Value} {i : Nat} {u : Tok} {v : Value} (ha : s.heap.IsList a its) (hv : its[i]? = some v) (hi : i < 1000) (k : Q v s)
    (hs : subscripted slice false (.ref a) (.int (i : Int) u) = operate [.ref a, .int (i : Int) u] (getItem (.ref a) (.int (i : Int) u))) :
    wpAny (model prog w) A (subscriptTail value slice (.ref a) (.int (i : Int) u)) Q E s :=
  tail_any ha.typeIs slot_list_getitem.lookup (wpAny_getItem_list ha (by omega) (by omega) (by simpa using hv) k) hs

set_option maxHeartbeats 4000000 in
theorem body_2 {w : World} {A : Around} {E : Value → Shared → Prop} {s : Shared} {hb gr : Heap} {mg mb : Str → Option Value} {L fa FA B AH T0 T1 T2 M N : Addr} {i0 i1 i2 : Array Value} {cd : Value} {m : Str → Option Value} {xs lk lf : List Str} {half i j K : Nat} {ti tj uk : Tok} {ys : Array Value} {Q : Flow → Shared → Prop}
    (H : LawH w A mg mb hb L fa cd) (R : GR w mg mb gr L FA B AH T0 T1 T2 i0 i1 i2 xs half) (l : LS gr L FA s.heap m (some (.int (K : Int) uk)) (some (.int (i : Int) ti)) (some (.int (j : Int) tj)) ys) (mf : MF m half AH FA)
    (mM : m (Str.ofString "lacking") = some (.ref M)) (mN : m (Str.ofString "left") = some (.ref N)) (ML : M ≠ L) (NL : N ≠ L) (sM : SL s.heap M lk) (sN : SL s.heap N lf)
    (hi : i ≤ xs.length) (hj : j ≤ xs.length) (hK : K ≤ xs.length)
    (k : ∀ h' tk m' Z u0 u1 u2, LS gr L FA h' m' (some (.int (K : Int) uk)) (some (.int (i : Int) ti)) (some (.int (j : Int) tj)) ys → MF m' half AH FA → m' (Str.ofString "lacking") = some (.ref M) → m' (Str.ofString "left") = some (.ref N) → m' (Str.ofString "more") = some (.ref Z) → Z ≠ L →
      SL h' M lk → SL h' N lf → h'.PlainList Z #[.int (moreI xs kR i j K) u0, .int (moreI xs kW i j K) u1, .int (moreI xs kX i j K) u2] →
      wpAny (model PR w) A (execs (innerB.drop 3) (lawE L fa cd)) Q E { s with heap := h', toks := tk }) :
    wpAny (model PR w) A (execs (innerB.drop 2) (lawE L fa cd)) Q E s := by
  obtain ⟨mhh, ma, mfa⟩ := mf
  have hlen := R.len
  have hsm := R.small
  refine wpAny_execs_cons ?_
  refine wpAny_Assign_ListComp_free (env := lawE L fa cd) (fun _ => true) (fun v y => ∀ T its, v = .ref T → gr.IsList T its → ∃ u, y = .int (valOf its i j K) u) (cl := [(Str.ofString "k", cAt L 2), (Str.ofString "j", cAt L 4), (Str.ofString "i", cAt L 3)])
    (by with_unfolding_all rfl) (by with_unfolding_all rfl) (by decide) rfl (by decide) rfl rfl rfl ?_ (by intro _; rfl)
  have ahI := (R.ah.at fun o e => l.keep _ o e).isList
  refine lname l.ns ma (wpAny_pyIter_list ahI ?_)
  have hAHlt : @LT.lt Nat _ AH s.heap.objs.size := by obtain ⟨_, e, _⟩ := ahI; exact ltS e
  have hkI : ∀ b o, s.heap.get? b = some o → (s.heap.push { cls := .type "list_iterator", data := .fields #[.ref AH, .int 0 0] }).get? b = some o := fun b o e => Heap.get?_push_of_some _ e
  have hI0 := Heap.get?_push_size s.heap (o := { cls := .type "list_iterator", data := .fields #[.ref AH, .int 0 0] }) rfl
  have nI : ∀ b o, s.heap.get? b = some o → b ∉ [(s.heap.objs.size : Addr)] := fun b o e hm => by
    have e1 := ltS e
    rw [List.mem_singleton.mp hm] at e1
    exact Nat.lt_irrefl _ e1
  have hLn : L ∉ [(s.heap.objs.size : Addr)] := by obtain ⟨_, _, _, e, _⟩ := l.ns; exact nI _ _ e
  refine ⟨_, _, _, _, _, _, m, rfl, Walks.list H.hh s.heap.objs.size AH (neA (.inl hAHlt)) #[.ref T0, .ref T1, .ref T2], by show 3 ≤ sizeLine; decide, ⟨⟨_, hI0, rfl, rfl⟩, ahI.at fun o e => hkI _ o e⟩, ?_, hLn, l.ns.keeps hkI, ⟨?_, ?_⟩, ?_⟩
  · intro b hm
    show @LT.lt Nat _ b (s.heap.push _).objs.size
    rw [Heap.size_push]
    rcases List.mem_cons.mp hm with q | hm
    · rw [q]; exact Nat.lt_succ_self _
    · rw [List.mem_singleton.mp hm]; exact Nat.lt_succ_of_lt hAHlt
  · intro C2 i2 v2 s₇ m₇ E2 _ _ _ _ _ _
    rw [List.forIn_nil]
    exact wpAny_pure ⟨rfl, _, _, rfl, fun _ _ e => e⟩
  · intro C2 i2' v2 s₇ m₇ E2 _ hP2 _ hn₇ hm₇ hk₇ _
    have kk7 : ∀ b o, s.heap.get? b = some o → s₇.heap.get? b = some o := fun b o e => hk₇ b o (nI b o e) (hkI b o e)
    have l7 := l.keeps kk7
    obtain ⟨T, its, c, rfl, hT, hr⟩ : ∃ T its c, v2 = .ref T ∧ gr.IsList T its ∧ IntsAre its.toList (rowOf xs c) := by
      rcases i2' with _ | _ | _ | n
      · cases hP2; exact ⟨T0, i0, kR, rfl, R.t0, R.r0⟩
      · cases hP2; exact ⟨T1, i1, kW, rfl, R.t1, R.r1⟩
      · cases hP2; exact ⟨T2, i2, kX, rfl, R.t2, R.r2⟩
      · simp at hP2
    have hT7 : s₇.heap.IsList T its := hT.at fun o e => l7.keep _ o e
    obtain ⟨tti, gi⟩ := row_get hr hi
    obtain ⟨ttj, gj⟩ := row_get hr hj
    obtain ⟨ttk, gk⟩ := row_get hr hK
    obtain ⟨ttn, gn⟩ := row_get hr (Nat.le_refl xs.length)
    have gn' : its[its.size - 1]? = some (.int (pc xs c xs.length) ttn) := by rw [row_size hr]; simpa using gn
    refine wpAny_BinOp (wpAny_BinOp (wpAny_Constant_int (wpAny_BinOp (wpAny_BinOp (Subscript_ (lname hn₇ hm₇ (cell_name l7.c3 ?_)))))))
    refine item_A (by exact hT7) gi (by omega) ?_ (by with_unfolding_all rfl)
    refine Subscript_ (lname hn₇ hm₇ (cell_name l7.c4 (item_A (by exact hT7) gj (by omega) ?_ (by with_unfolding_all rfl))))
    refine PyProof.Rows.sub_int (Subscript_ (lname hn₇ hm₇ (cell_name l7.c2 (item_A (by exact hT7) gk (by omega) ?_ (by with_unfolding_all rfl)))))
    refine PyProof.Rows.add_int (PyProof.Rows.mul_int (Subscript_ (lname hn₇ hm₇ (UnaryOp_ (wpAny_Constant_int (PyProof.Rows.neg_int ?_))))))
    refine item_neg1 (by exact hT7) gn' ?_ (by with_unfolding_all rfl)
    refine PyProof.Rows.sub_int ⟨?_, _, _, rfl, fun _ _ e => e⟩
    intro T' its' eT hT'
    cases eT
    have := list_uniq hT hT'
    subst this
    rw [valOf_row hr hi hj hK]
    have : pc xs c xs.length = ((xs.count c : Nat) : Int) := by unfold pc; simp
    rw [this]
    exact ⟨_, rfl⟩
  · intro D h' tk zs vs hD hl hpl hlen2 hP hF hn' hk'
    rw [filter_true] at hF
    obtain ⟨u0, u1, u2, e⟩ := three_vals (gr := gr) (i := i) (j := j) (k := K) (vs := vs) hlen2 hP R.t0 R.t1 R.t2 hF
    have ez : zs = #[.int (moreI xs kR i j K) u0, .int (moreI xs kW i j K) u1, .int (moreI xs kX i j K) u2] := by
      rw [valOf_row R.r0 hi hj hK, valOf_row R.r1 hi hj hK, valOf_row R.r2 hi hj hK] at e
      exact Array.toList_inj.mp e
    rw [ez] at hpl
    have KK : KL L s.heap h' := fun b o hb e => hk' b o hb (nI b o e) (hkI b o e)
    have DL : D ≠ L := ne_new (l.ns.keeps hkI) hD
    exact k h' tk _ D u0 u1 u2 (l.kl R KK hn') ⟨mhh, ma, mfa⟩ mM mN rfl DL (KK.sl sM ML) (KK.sl sN NL) hpl
end Mine

namespace Mine

theorem boot_sorted : bootBuiltins (Str.ofString "sorted") = some (.builtin "sorted") := by rfl

/-- e gives the whole number n and leaves the heap, wherever h stands -/
def GivesInt (w : World) (A : Around) (E : Value → Shared → Prop) (env : Env) (s : Shared) (e : PySem.Expr) (n : Int) : Prop :=
  ∀ h₁ tk (Q : Value → Shared → Prop), (∀ b o, s.heap.get? b = some o → h₁.get? b = some o) → (∀ u tk', Q (.int n u) { s with heap := h₁, toks := tk' }) → wpAny (model PR w) A (eval e env) Q E { s with heap := h₁, toks := tk }

section
variable {w : World} {A : Around} {E : Value → Shared → Prop} {env : Env} {s : Shared} {Q : Value → Shared → Prop}

theorem rep_step {e : PySem.Expr} {n : Int} {x : Str} {kk : Nat} {p1 p2 p3 : Pos} {h₁ : Heap} {tk : Nat} (he : GivesInt w A E env s e n) (hk : ∀ b o, s.heap.get? b = some o → h₁.get? b = some o) (h1 : -1000 ≤ n) (h2 : n ≤ 1000)
    (k : ∀ D h' tk', h₁.get? D = none → SL h' D (List.replicate n.toNat x) → (∀ b o, h₁.get? b = some o → h'.get? b = some o) → Q (.ref D) { s with heap := h', toks := tk' }) :
    wpAny (model PR w) A (eval (.BinOp (.List [.Constant (.str x) kk p1] p2) .Mult e p3) env) Q E { s with heap := h₁, toks := tk } := by
  refine wpAny_BinOp (List_one rfl (Calls.Constant_str ?_))
  refine wpAny_newList ?_ (by show 1 ≤ sizeLine; decide)
  have hn := Heap.get?_push_size h₁ (o := { cls := .type "list", data := .seq [Value.str x tk].toArray }) rfl
  have hk1 : ∀ b o, h₁.get? b = some o → (h₁.push { cls := .type "list", data := .seq [Value.str x tk].toArray }).get? b = some o := fun b o q => Heap.get?_push_of_some _ q
  have hD : SL (h₁.push { cls := .type "list", data := .seq [Value.str x tk].toArray }) h₁.objs.size [x] := ⟨[Value.str x tk], ⟨_, hn⟩, .cons _ _ .nil⟩
  have hh := he (h₁.push { cls := .type "list", data := .seq [Value.str x tk].toArray }) (tk + 1) (fun v s' => wpAny (model PR w) A (binaryOp .Mult (.ref h₁.objs.size) v) Q E s') (fun b o q => hk1 b o (hk b o q)) fun u tk' => ?_
  · exact hh
  · refine mul_SL hD h1 h2 fun D h' hDn hS hk' => ?_
    refine k D h' _ ?_ hS fun b o q => hk' b o (hk1 b o q)
    cases q : h₁.get? D with
    | none => rfl
    | some o => have := hk1 _ _ q; rw [show (h₁.push _).get? D = none from hDn] at this; cases this

theorem three_reps {e0 e1 e2 : PySem.Expr} {n0 n1 n2 : Int} {k0 k1 k2 : Nat} {p0 p1 p2 q0 q1 q2 r0 r1 r2 o1 o2 : Pos} {h₁ : Heap} {tk : Nat}
    (g0 : GivesInt w A E env s e0 n0) (g1 : GivesInt w A E env s e1 n1) (g2 : GivesInt w A E env s e2 n2) (hk : ∀ b o, s.heap.get? b = some o → h₁.get? b = some o)
    (a0 : -200 ≤ n0 ∧ n0 ≤ 200) (a1 : -200 ≤ n1 ∧ n1 ≤ 200) (a2 : -200 ≤ n2 ∧ n2 ≤ 200)
    (k : ∀ D h' tk', h₁.get? D = none → SL h' D (List.replicate n0.toNat kR ++ List.replicate n1.toNat kW ++ List.replicate n2.toNat kX) → (∀ b o, h₁.get? b = some o → h'.get? b = some o) → Q (.ref D) { s with heap := h', toks := tk' }) :
    wpAny (model PR w) A (eval (.BinOp (.BinOp (.BinOp (.List [.Constant (.str (Str.ofString "r")) k0 p0] q0) .Mult e0 r0) .Add (.BinOp (.List [.Constant (.str (Str.ofString "w")) k1 p1] q1) .Mult e1 r1) o1) .Add (.BinOp (.List [.Constant (.str (Str.ofString "x")) k2 p2] q2) .Mult e2 r2) o2) env) Q E { s with heap := h₁, toks := tk } := by
  refine wpAny_BinOp (wpAny_BinOp (rep_step g0 hk (by omega) (by omega) fun D0 f0 t0 d0 S0 kk0 => ?_))
  refine rep_step g1 (fun b o q => kk0 b o (hk b o q)) (by omega) (by omega) fun D1 f1 t1 d1 S1 kk1 => ?_
  refine add_SL (S0.keeps kk1) S1 (by simp; omega) fun D2 f2 d2 S2 kk2 => ?_
  replace kk2 : ∀ b o, f1.get? b = some o → f2.get? b = some o := kk2
  refine rep_step (s := s) (h₁ := f2) g2 (fun b o q => kk2 b o (kk1 b o (kk0 b o (hk b o q)))) (by omega) (by omega) fun D3 f3 t3 d3 S3 kk3 => ?_
  refine add_SL (S2.keeps kk3) S3 (by simp; omega) fun D4 f4 d4 S4 kk4 => ?_
  replace kk4 : ∀ b o, f3.get? b = some o → f4.get? b = some o := kk4
  refine k D4 f4 _ ?_ S4 fun b o q => kk4 b o (kk3 b o (kk2 b o (kk1 b o (kk0 b o q))))
  cases q : h₁.get? D4 with
  | none => rfl
  | some o => have := kk3 _ _ (kk2 _ _ (kk1 _ _ (kk0 _ _ q))); rw [show f3.get? D4 = none from d4] at this; cases this
end
end Mine
namespace Mine

theorem pc_le {xs : List Str} {c : Str} {n : Nat} (h : xs.length ≤ 100) : 0 ≤ pc xs c n ∧ pc xs c n ≤ 100 := by
  unfold pc
  have h1 : (xs.take n).count c ≤ (xs.take n).length := List.count_le_length
  have h2 : (xs.take n).length ≤ xs.length := by simp; omega
  omega
theorem more_le {xs : List Str} {c : Str} {i j k : Nat} (h : xs.length ≤ 100) (hij : i ≤ j) (hjk : j ≤ k) : -200 ≤ moreI xs c i j k ∧ moreI xs c i j k ≤ 200 := by
  rw [more_eq hij hjk]
  have h1 : (ea xs i j k).count c ≤ (ea xs i j k).length := List.count_le_length
  have h2 : (ac xs i j k).count c ≤ (ac xs i j k).length := List.count_le_length
  have h3 := eaL (k := k) h hij
  have h4 := acL (i := i) h hjk
  omega

theorem more_toNat {xs : List Str} {c : Str} {i j k : Nat} (hij : i ≤ j) (hjk : j ≤ k) : (moreI xs c i j k).toNat = (ea xs i j k).count c - (ac xs i j k).count c ∧ (-(moreI xs c i j k)).toNat = (ac xs i j k).count c - (ea xs i j k).count c := by
  rw [more_eq hij hjk]; omega

theorem uld_len {es ms as : List Str} : (uldR es ms as).1.length ≤ ms.length + es.length ∧ (uldR es ms as).2.length ≤ as.length := by
  induction es generalizing ms as with
  | nil => simp [uldR]
  | cons x r ih =>
    by_cases hx : x ∈ as
    · have e : uldR (x :: r) ms as = uldR r ms (as.erase x) := by simp [uldR, hx]
      rw [e]
      have := ih (ms := ms) (as := as.erase x)
      have h2 := List.length_erase_le (a := x) (l := as)
      simp only [List.length_cons]; omega
    · have e : uldR (x :: r) ms as = uldR r (ms ++ [x]) as := by simp [uldR, hx]
      rw [e]
      have := ih (ms := ms ++ [x]) (as := as)
      simp only [List.length_cons, List.length_append, List.length_nil] at this ⊢; omega
end Mine

namespace Mine

theorem eaX {xs : List Str} {i j k : Nat} (hij : i ≤ j) : (ea xs i j k).length ≤ xs.length := by
  unfold ea; simp; omega
theorem acX {xs : List Str} {i j k : Nat} (hjk : j ≤ k) : (ac xs i j k).length ≤ xs.length := by
  unfold ac; simp; omega

set_option maxHeartbeats 4000000 in
theorem body_3 {w : World} {A : Around} {E : Value → Shared → Prop} {s : Shared} {hb gr : Heap} {mg mb : Str → Option Value} {L fa FA B AH T0 T1 T2 M N Z : Addr} {i0 i1 i2 : Array Value} {cd : Value} {m : Str → Option Value} {xs : List Str} {half i j K : Nat} {ti tj uk u0 u1 u2 : Tok} {ys : Array Value} {Q : Flow → Shared → Prop}
    (H : LawH w A mg mb hb L fa cd) (R : GR w mg mb gr L FA B AH T0 T1 T2 i0 i1 i2 xs half) (l : LS gr L FA s.heap m (some (.int (K : Int) uk)) (some (.int (i : Int) ti)) (some (.int (j : Int) tj)) ys) (mf : MF m half AH FA)
    (mM : m (Str.ofString "lacking") = some (.ref M)) (mN : m (Str.ofString "left") = some (.ref N)) (mZ : m (Str.ofString "more") = some (.ref Z))
    (sM : SL s.heap M (uldR (ea xs i j K).reverse [] (ac xs i j K)).1) (sN : SL s.heap N (uldR (ea xs i j K).reverse [] (ac xs i j K)).2)
    (hZ : s.heap.PlainList Z #[.int (moreI xs kR i j K) u0, .int (moreI xs kW i j K) u1, .int (moreI xs kX i j K) u2])
    (hij : i ≤ j) (hjK : j ≤ K) (hsz : ys.size ≤ 10000)
    (k : ∀ h' tk ys', LS gr L FA h' m (some (.int (K : Int) uk)) (some (.int (i : Int) ti)) (some (.int (j : Int) tj)) ys' → ys'.size = ys.size + (if fairAt xs i j K then 1 else 0) → Q .next { s with heap := h', toks := tk }) :
    wpAny (model PR w) A (execs (innerB.drop 3) (lawE L fa cd)) Q E s := by
  obtain ⟨mhh, ma, mfa⟩ := mf
  have hlen := R.len
  have hsm := R.small
  have hx100 : xs.length ≤ 100 := by omega
  have hul := uld_len (es := (ea xs i j K).reverse) (ms := []) (as := ac xs i j K)
  have hel := eaX (k := K) (xs := xs) hij
  have hal := acX (i := i) (xs := xs) hjK
  rw [List.length_reverse, List.length_nil] at hul
  have Gs := R.G.keeps l.keep
  have am := ea_mem (i := i) (j := j) (k := K) R.mem
  have bm := ac_mem (i := i) (j := j) (k := K) R.mem
  have zI : s.heap.IsList Z #[.int (moreI xs kR i j K) u0, .int (moreI xs kW i j K) u1, .int (moreI xs kX i j K) u2] := hZ.isList
  have item0 : ∀ {h₁ : Heap} {tk : Nat} {Q : Value → Shared → Prop} {sl val : PySem.Expr} {u : Tok}, (∀ b o, s.heap.get? b = some o → h₁.get? b = some o) → Q (.int (moreI xs kR i j K) u0) { s with heap := h₁, toks := tk } → subscripted sl false (.ref Z) (.int ((0 : Nat) : Int) u) = operate [.ref Z, .int ((0 : Nat) : Int) u] (getItem (.ref Z) (.int ((0 : Nat) : Int) u)) → wpAny (model PR w) A (subscriptTail val sl (.ref Z) (.int ((0 : Nat) : Int) u)) Q E { s with heap := h₁, toks := tk } := fun hk q hs => item_A (i := 0) (by exact zI.at fun o e => hk _ o e) rfl (by decide) q hs
  have item1 : ∀ {h₁ : Heap} {tk : Nat} {Q : Value → Shared → Prop} {sl val : PySem.Expr} {u : Tok}, (∀ b o, s.heap.get? b = some o → h₁.get? b = some o) → Q (.int (moreI xs kW i j K) u1) { s with heap := h₁, toks := tk } → subscripted sl false (.ref Z) (.int ((1 : Nat) : Int) u) = operate [.ref Z, .int ((1 : Nat) : Int) u] (getItem (.ref Z) (.int ((1 : Nat) : Int) u)) → wpAny (model PR w) A (subscriptTail val sl (.ref Z) (.int ((1 : Nat) : Int) u)) Q E { s with heap := h₁, toks := tk } := fun hk q hs => item_A (i := 1) (by exact zI.at fun o e => hk _ o e) rfl (by decide) q hs
  have item2 : ∀ {h₁ : Heap} {tk : Nat} {Q : Value → Shared → Prop} {sl val : PySem.Expr} {u : Tok}, (∀ b o, s.heap.get? b = some o → h₁.get? b = some o) → Q (.int (moreI xs kX i j K) u2) { s with heap := h₁, toks := tk } → subscripted sl false (.ref Z) (.int ((2 : Nat) : Int) u) = operate [.ref Z, .int ((2 : Nat) : Int) u] (getItem (.ref Z) (.int ((2 : Nat) : Int) u)) → wpAny (model PR w) A (subscriptTail val sl (.ref Z) (.int ((2 : Nat) : Int) u)) Q E { s with heap := h₁, toks := tk } := fun hk q hs => item_A (i := 2) (by exact zI.at fun o e => hk _ o e) rfl (by decide) q hs
  -- sorted(lacking)
  refine wpAny_execs_cons (wpAny_If (wpAny_isTrue_Compare1 (Call_name1 rfl (bname Gs (by kernel_rfl) boot_sorted (Calls.callWith_builtin rfl (Calls.evalArgs_plain (Calls.spliced_cons (lname l.ns mM (Calls.spliced_nil ?_)))))))))
  refine sorted_SL sM (by omega) fun D1 h₁ xs1 hD1 S1 hp1 hs1 hk1 => ?_
  replace hk1 : ∀ b o, s.heap.get? b = some o → h₁.get? b = some o := hk1
  refine three_reps (s := s) (h₁ := h₁) ?_ ?_ ?_ hk1 (more_le (c := kR) hx100 hij hjK) (more_le (c := kW) hx100 hij hjK) (more_le (c := kX) hx100 hij hjK) fun D2 h₂ t₂ hD2 S2 hk2 => ?_
  · exact fun f tk Q hk hq => Subscript_ (lname (l.ns.keeps hk) mZ (wpAny_Constant_int (item0 hk (hq _ _) (by with_unfolding_all rfl))))
  · exact fun f tk Q hk hq => Subscript_ (lname (l.ns.keeps hk) mZ (wpAny_Constant_int (item1 hk (hq _ _) (by with_unfolding_all rfl))))
  · exact fun f tk Q hk hq => Subscript_ (lname (l.ns.keeps hk) mZ (wpAny_Constant_int (item2 hk (hq _ _) (by with_unfolding_all rfl))))
  have f1 := lacking_form am hp1 hs1
  rw [(more_toNat (c := kR) hij hjK).1, (more_toNat (c := kW) hij hjK).1, (more_toNat (c := kX) hij hjK).1, ← f1] at S2
  refine ne_SL (S1.keeps hk2) S2 H.units (wpAny_truthy_bool ?_)
  rw [if_neg (by simp)]
  refine wpAny_execs_nil ?_
  have k2 : ∀ b o, s.heap.get? b = some o → h₂.get? b = some o := fun b o e => hk2 b o (hk1 b o e)
  have l2 := l.keeps k2
  -- sorted(left)
  refine wpAny_execs_cons (wpAny_If (wpAny_isTrue_Compare1 (Call_name1 rfl (bname (Gs.keeps k2) (by kernel_rfl) boot_sorted (Calls.callWith_builtin rfl (Calls.evalArgs_plain (Calls.spliced_cons (lname l2.ns mN (Calls.spliced_nil ?_)))))))))
  refine sorted_SL (sN.keeps k2) (by omega) fun D3 h₃ xs3 hD3 S3 hp3 hs3 hk3 => ?_
  replace hk3 : ∀ b o, h₂.get? b = some o → h₃.get? b = some o := hk3
  have b0 := more_le (c := kR) hx100 hij hjK
  have b1 := more_le (c := kW) hx100 hij hjK
  have b2 := more_le (c := kX) hx100 hij hjK
  refine three_reps (s := s) (h₁ := h₃) (n0 := -(moreI xs kR i j K)) (n1 := -(moreI xs kW i j K)) (n2 := -(moreI xs kX i j K)) ?_ ?_ ?_ (fun b o e => hk3 b o (k2 b o e)) (by omega) (by omega) (by omega) fun D4 h₄ t₄ hD4 S4 hk4 => ?_
  · exact fun f tk Q hk hq => UnaryOp_ (Subscript_ (lname (l.ns.keeps hk) mZ (wpAny_Constant_int (item0 hk (PyProof.Rows.neg_int (hq _ _)) (by with_unfolding_all rfl)))))
  · exact fun f tk Q hk hq => UnaryOp_ (Subscript_ (lname (l.ns.keeps hk) mZ (wpAny_Constant_int (item1 hk (PyProof.Rows.neg_int (hq _ _)) (by with_unfolding_all rfl)))))
  · exact fun f tk Q hk hq => UnaryOp_ (Subscript_ (lname (l.ns.keeps hk) mZ (wpAny_Constant_int (item2 hk (PyProof.Rows.neg_int (hq _ _)) (by with_unfolding_all rfl)))))
  have f3 := left_form bm hp3 hs3
  rw [(more_toNat (c := kR) hij hjK).2, (more_toNat (c := kW) hij hjK).2, (more_toNat (c := kX) hij hjK).2, ← f3] at S4
  refine ne_SL (S3.keeps hk4) S4 H.units (wpAny_truthy_bool ?_)
  rw [if_neg (by simp)]
  refine wpAny_execs_nil ?_
  have k4 : ∀ b o, s.heap.get? b = some o → h₄.get? b = some o := fun b o e => hk4 b o (hk3 b o (k2 b o e))
  have l4 := l.keeps k4
  -- lacking + left == []
  refine wpAny_execs_cons (wpAny_If (wpAny_isTrue_Compare1 (wpAny_BinOp (lname l4.ns mM (lname l4.ns mN ?_)))))
  refine add_SL (sM.keeps k4) (sN.keeps k4) (by omega) fun D5 h₅ hD5 S5 hk5 => ?_
  replace hk5 : ∀ b o, h₄.get? b = some o → h₅.get? b = some o := hk5
  refine List_ (Calls.spliced_nil (wpAny_newList ?_ (by decide)))
  have hn6 := Heap.get?_push_size h₅ (o := { cls := .type "list", data := .seq ([] : List Value).toArray }) rfl
  have hk6 : ∀ b o, h₅.get? b = some o → (h₅.push { cls := .type "list", data := .seq ([] : List Value).toArray }).get? b = some o := fun b o q => Heap.get?_push_of_some _ q
  have S6 : SL (h₅.push { cls := .type "list", data := .seq ([] : List Value).toArray }) h₅.objs.size [] := ⟨[], ⟨_, hn6⟩, .nil⟩
  refine eq_SL (S5.keeps hk6) S6 H.units (wpAny_truthy_bool ?_)
  generalize h₅.push { cls := .type "list", data := .seq ([] : List Value).toArray } = h₆ at *
  have l6 := l4.keeps (fun b o e => hk6 b o (hk5 b o e))
  have hbe := both_empty am bm
  by_cases hf : fairAt xs i j K = true
  · rw [if_pos (by simp only [decide_eq_true_eq]; exact hbe.mpr hf)]
    refine wpAny_execs_cons (wpAny_Expr ?_ rfl rfl)
    refine Call_method1 rfl rfl rfl (lname l6.ns mfa ⟨"list", "list.append", F.plainAttrs_list, F.slot_list_append, F.type_list_append, l6.fa.isList.typeIs (s := { s with heap := h₆, toks := t₄ }), noDict_plain l6.fa, ?_⟩)
    refine Calls.callWith_builtin rfl (Calls.evalArgs_plain (Calls.spliced_cons (Tuple_three rfl (cell_name l6.c3 (cell_name l6.c4 (cell_name l6.c2 ?_))))))
    refine wpAny_newTuple ?_ (by show 3 ≤ sizeLine; decide)
    generalize hT7 : h₆.objs.size = T7
    generalize hob : ({ cls := .type "tuple", data := _ } : Obj) = ob
    have hk7 : ∀ b o, h₆.get? b = some o → (h₆.push ob).get? b = some o := fun b o q => Heap.get?_push_of_some _ q
    have l7 := l6.keeps hk7
    have : sizeLine = 2 ^ 24 := sizeLine_eq
    refine Calls.spliced_nil (wpAny_list_append_plain (hsz := by omega) l7.fa fun h₈ hp8 hs8 => ?_)
    replace hs8 : Heap.SameBut FA (h₆.push ob) h₈ := hs8
    refine wpAny_execs_nil (wpAny_execs_nil ?_)
    exact k h₈ _ _ (l7.setF R hs8 hp8) (by rw [if_pos hf]; simp)
  · rw [if_neg (by simp only [decide_eq_true_eq]; exact fun q => hf (hbe.mp q))]
    refine wpAny_execs_nil (wpAny_execs_nil ?_)
    exact k h₆ _ ys l6 (by rw [if_neg hf]; rfl)
end Mine

namespace Mine

section
variable {prog : Program} {w : World} {A : Around} {E : Value → Shared → Prop} {env : Env} {s : Shared}

def IterOk (prog : Program) (w : World) (A : Around) (s : Shared) (n : Nat) (a : Int) (it : Value) (s₂ : Shared) : Prop :=
  Keeps s s₂ ∧ ∃ J St', it = .ref J ∧ s.heap.get? J = none ∧ (∃ o, s₂.heap.get? J = some o) ∧ Walks prog w A J [J] [J] n (fun q v => ∃ t, v = .int (a + (q : Nat) * 1) t) St' ∧ St' 0 s₂.heap

theorem range2_walks (hh : A.handled = none) {a b : Int} {n : Nat} {t u : Tok} (ha : 0 ≤ a) (hb : b < 2 ^ 62) (hn : b - a = n) :
    wpAny (model prog w) A (call (.type "range") [.int a t, .int b u]) (fun x s₃ => wpAny (model prog w) A (pyIter x) (fun it s₄ => IterOk prog w A s n a it s₄) E s₃) E s := by
  refine call_range_2 ?_
  refine wpAny_pyIter_range (IsRange.new ..) (small_one (by omega) (by omega) (by omega) hb) ?_
  have hsz : (Builtin.Range.rangeSize a b 1) = ((n : Nat) : Int) - ((0 : Nat) : Int) := by rw [rangeSize_nat, hn]; simp
  have ea : a + ((0 : Nat) : Int) * 1 = a := by omega
  refine ⟨⟨_, _, rfl, fun b o e => Heap.get?_push_of_some _ (Heap.get?_push_of_some _ e)⟩, _, _, rfl, ?_, ⟨_, Heap.get?_push_size _ rfl⟩, Walks.range hh _ a 1 n, ?_⟩
  · cases q : s.heap.get? _ with
    | none => rfl
    | some o => have := ltS q; simp only [Heap.size_push] at this; omega
  · show IsRangeIter _ _ _ _ _
    rw [← hsz, ea]
    exact Heap.get?_push_size _ rfl

theorem for_cell {x : Str} {px pos : Pos} {iter : PySem.Expr} {body : List Stmt} {c : Addr} {n : Nat} {a : Int} {Q : Flow → Shared → Prop} (I : Nat → Heap → Prop) (bad : List Addr)
    (hk : env.scope.kind = .function) (hx : env.kindOf x = some .cell) (hc : env.cells.lookup x = some c)
    (hiter : wpAny (model prog w) A (eval iter env) (fun xv s₁ => wpAny (model prog w) A (pyIter xv) (fun it s₂ => IterOk prog w A s n a it s₂) E s₁) E s)
    (h0 : I 0 s.heap) (hcb : c ∈ bad) (hbad : ∀ b ∈ bad, ∃ o, s.heap.get? b = some o)
    (frame : ∀ q h h' J, s.heap.get? J = none → I q h → (∀ b o, b ≠ J → h.get? b = some o → h'.get? b = some o) → I q h')
    (turn : ∀ q h t, q < n → I q h → ∃ v₀, h.IsCell c v₀ ∧ ∀ h₁ tk₁, Heap.SameBut c h h₁ → h₁.IsCell c (some (.int (a + (q : Nat) * 1) t)) →
      wpAny (model prog w) A (execs body env) (fun f s₃ => f = .next ∧ ∃ h' tk', s₃ = { s with heap := h', toks := tk' } ∧ I (q + 1) h' ∧ (∀ b o, b ∉ bad → h₁.get? b = some o → h'.get? b = some o)) (fun _ _ => False) { s with heap := h₁, toks := tk₁ })
    (done : ∀ h' tk, I n h' → Q .next { s with heap := h', toks := tk }) (hs : ∀ x, foldedSetIterable iter env x = pure x) :
    wpAny (model prog w) A (exec (.For (.Name x px) iter body [] pos) env) Q E s := by
  refine wpAny_For (wpAny_mono hiter (fun xv s₁ h₁ => wpAny_mono h₁ (fun it s₂ h₂ => ?_) fun _ _ e => e) fun _ _ e => e) hs
  obtain ⟨⟨h₂', tk₂, rfl, hk₂⟩, J, St, rfl, hJ, ⟨oJ, hJo⟩, W, hst⟩ := h₂
  have hJb : ∀ b ∈ bad, b ≠ J := fun b hb q => by obtain ⟨o, e⟩ := hbad b hb; rw [q, hJ] at e; cases e
  have hJbad : J ∉ bad := fun hm => hJb J hm rfl
  have hcJ : c ≠ J := hJb c hcb
  refine codeAny_forLoop (fun k s' => ∃ h' tk q, s' = { s with heap := h', toks := tk } ∧ St q h' ∧ I q h' ∧ q ≤ n ∧ k = n + 1 - q) ?_ (n + 1)
    ⟨h₂', tk₂, 0, rfl, hst, frame 0 _ _ J hJ h0 fun b o _ e => hk₂ b o e, Nat.zero_le _, rfl⟩
  rintro k s' ⟨h', tk, q, rfl, hst', hI, hq, rfl⟩
  by_cases hlt : q < n
  · refine W.item q _ _ _ hlt hst' fun v h₁ tk₁ hPv hst₁ hk₁ => ?_
    obtain ⟨t, rfl⟩ := hPv
    have hI1 : I q h₁ := frame q h' h₁ J hJ hI fun b o hb e => hk₁ b o (by simpa using hb) e
    obtain ⟨v₀, hc₀, ht⟩ := turn q h₁ t hlt hI1
    refine wpAny_assign_Name (wpAny_storeName_cell hk hx hc hc₀ fun h₂ hc₂ hs₂ => ?_)
    replace hs₂ : Heap.SameBut c h₁ h₂ := hs₂
    refine wpAny_mono (ht h₂ _ hs₂ hc₂) (fun f s₃ h₃ => ?_) fun _ _ x => x.elim
    obtain ⟨rfl, h₃, tk₃, rfl, hI3, hk3⟩ := h₃
    refine ⟨n + 1 - (q + 1), by omega, h₃, tk₃, q + 1, rfl, ?_, hI3, hlt, rfl⟩
    refine W.frame _ _ _ hst₁ fun b hb o e => ?_
    rw [List.mem_singleton.mp hb] at e ⊢
    exact hk3 J o hJbad (hs₂.extBut J o (Ne.symm hcJ) e)
  · have hin : q = n := by omega
    subst hin
    refine W.done _ _ _ hst' fun h₁ tk₁ hk₁ => ?_
    exact wpAny_execs_nil (done h₁ tk₁ (frame q h' h₁ J hJ hI fun b o hb e => hk₁ b o (by simpa using hb) e))
end

abbrev badL (L FA : Addr) : List Addr := [L, cAt L 2, cAt L 3, cAt L 4, FA]

structure LT (L FA : Addr) (h : Heap) (m : Str → Option Value) (v2 v3 v4 : Option Value) (ys : Array Value) : Prop where
  ns : h.Ns L m
  c2 : h.IsCell (cAt L 2) v2
  c3 : h.IsCell (cAt L 3) v3
  c4 : h.IsCell (cAt L 4) v4
  fa : h.PlainList FA ys

theorem LT.frame {L FA J : Addr} {s h h' : Heap} {m : Str → Option Value} {v2 v3 v4 : Option Value} {ys : Array Value} (l : LT L FA h m v2 v3 v4 ys) (hbad : ∀ b ∈ badL L FA, ∃ o, s.get? b = some o) (hJ : s.get? J = none)
    (k : ∀ b o, b ≠ J → h.get? b = some o → h'.get? b = some o) : LT L FA h' m v2 v3 v4 ys := by
  have nJ : ∀ b ∈ badL L FA, b ≠ J := fun b hb q => by obtain ⟨o, e⟩ := hbad b hb; rw [q, hJ] at e; cases e
  have cl : ∀ {c : Addr} {v : Option Value}, c ∈ badL L FA → h.IsCell c v → h'.IsCell c v := fun hc ⟨o, e, d⟩ => ⟨o, k _ o (nJ _ hc) e, d⟩
  exact ⟨l.ns.at' fun o e => k _ o (nJ _ (by simp)) e, cl (by simp) l.c2, cl (by simp) l.c3, cl (by simp) l.c4, l.fa.at fun o e => k _ o (nJ _ (by simp)) e⟩

theorem GR.more {w : World} {mg mb : Str → Option Value} {gr gr' : Heap} {L FA B AH T0 T1 T2 : Addr} {i0 i1 i2 : Array Value} {xs : List Str} {half : Nat} (R : GR w mg mb gr L FA B AH T0 T1 T2 i0 i1 i2 xs half) (k : ∀ b o, gr.get? b = some o → gr'.get? b = some o)
    (hb : ∀ b ∈ badL L FA, gr'.get? b = none) : GR w mg mb gr' L FA B AH T0 T1 T2 i0 i1 i2 xs half :=
  ⟨R.G.keeps k, R.b.keeps k, R.c1.keeps k, R.ah.at fun o e => k _ o e, R.t0.at fun o e => k _ o e, R.t1.at fun o e => k _ o e, R.t2.at fun o e => k _ o e, R.r0, R.r1, R.r2, hb _ (by simp), hb _ (by simp), hb _ (by simp), hb _ (by simp), hb _ (by simp), R.fL, R.f2, R.f3, R.f4, R.mem, R.len, R.small⟩

theorem bad_none {w : World} {mg mb : Str → Option Value} {gr : Heap} {L FA B AH T0 T1 T2 : Addr} {i0 i1 i2 : Array Value} {xs : List Str} {half : Nat} (R : GR w mg mb gr L FA B AH T0 T1 T2 i0 i1 i2 xs half) : ∀ b ∈ badL L FA, gr.get? b = none := fun b hb => by
  simp only [badL, List.mem_cons, List.not_mem_nil, or_false] at hb
  rcases hb with rfl | rfl | rfl | rfl | rfl
  · exact R.nL
  · exact R.n2
  · exact R.n3
  · exact R.n4
  · exact R.nF

set_option maxHeartbeats 1000000 in
theorem body_ok {w : World} {A : Around} {E : Value → Shared → Prop} {s : Shared} {hb gr : Heap} {mg mb : Str → Option Value} {L fa FA B AH T0 T1 T2 : Addr} {i0 i1 i2 : Array Value} {cd : Value} {m : Str → Option Value} {xs : List Str} {half i j : Nat} {ti tj : Tok} {v2 : Option Value} {ys : Array Value} {Q : Flow → Shared → Prop}
    (H : LawH w A mg mb hb L fa cd) (R : GR w mg mb gr L FA B AH T0 T1 T2 i0 i1 i2 xs half) (hg : ∀ b o, gr.get? b = some o → s.heap.get? b = some o) (l : LT L FA s.heap m v2 (some (.int (i : Int) ti)) (some (.int (j : Int) tj)) ys) (mf : MF m half AH FA)
    (hi : i ≤ half) (hij : i ≤ j) (hj : j ≤ half + i) (hsz : ys.size ≤ 10000)
    (k : ∀ h' tk m' v2' ys', (∀ b o, b ∉ badL L FA → s.heap.get? b = some o → h'.get? b = some o) → LT L FA h' m' v2' (some (.int (i : Int) ti)) (some (.int (j : Int) tj)) ys' → MF m' half AH FA → ys'.size = ys.size + (if fairAt xs i j (half - i + j) then 1 else 0) → Q .next { s with heap := h', toks := tk }) :
    wpAny (model PR w) A (execs innerB (lawE L fa cd)) Q E s := by
  have kg : ∀ b o, gr.get? b = some o → (hideAll s.heap (badL L FA)).get? b = some o := fun b o e => hideAll_get _ (hg b o e) fun hm => by rw [bad_none R b hm] at e; cases e
  have R' := R.more kg fun b hm => hideAll_none _ hm
  have l' : LS (hideAll s.heap (badL L FA)) L FA s.heap m v2 (some (.int (i : Int) ti)) (some (.int (j : Int) tj)) ys := ⟨fun b o e => of_hideAll _ e, l.ns, l.c2, l.c3, l.c4, l.fa⟩
  have hlen := R.len
  refine body_1 H R' l' mf hi hij hj fun h₁ tk₁ m₁ uk M N l1 mf1 mM mN ML NL sM sN => ?_
  refine body_2 H R' l1 mf1 mM mN ML NL sM sN (by omega) (by omega) (by omega) fun h₂ tk₂ m₂ Z u0 u1 u2 l2 mf2 mM2 mN2 mZ2 ZL sM2 sN2 hZ2 => ?_
  refine body_3 H R' l2 mf2 mM2 mN2 mZ2 sM2 sN2 hZ2 hij (by omega) hsz fun h₃ tk₃ ys' l3 hy => ?_
  exact k h₃ tk₃ m₂ _ ys' (fun b o hb e => l3.keep b o (hideAll_get _ e hb)) ⟨l3.ns, l3.c2, l3.c3, l3.c4, l3.fa⟩ mf2 hy
end Mine

namespace Mine

noncomputable def innerFor : Stmt := match (lawB[8]? : Option Stmt) with
  | some (.For _ _ [f] _ _) => f
  | _ => default

theorem bad_there {L FA : Addr} {h : Heap} {m : Str → Option Value} {v2 v3 v4 : Option Value} {ys : Array Value} (l : LT L FA h m v2 v3 v4 ys) : ∀ b ∈ badL L FA, ∃ o, h.get? b = some o := fun b hb => by
  simp only [badL, List.mem_cons, List.not_mem_nil, or_false] at hb
  rcases hb with rfl | rfl | rfl | rfl | rfl
  · obtain ⟨o, _, _, e, _⟩ := l.ns; exact ⟨o, e⟩
  · obtain ⟨o, e, _⟩ := l.c2; exact ⟨o, e⟩
  · obtain ⟨o, e, _⟩ := l.c3; exact ⟨o, e⟩
  · obtain ⟨o, e, _⟩ := l.c4; exact ⟨o, e⟩
  · obtain ⟨n, e⟩ := l.fa; exact ⟨_, e⟩

theorem callWith_type2 {M : Model} {A : Around} {E : Value → Shared → Prop} {s : Shared} {pos : Pos} {Q : Value → Shared → Prop} {T : String} {t u : Sem Value}
    (h : wpAny M A t (fun v s₁ => wpAny M A u (fun v' s₂ => wpAny M A (call (.type T) [v, v']) Q E s₂) E s₁) E s) : wpAny M A (callWith pos (.type T) [] [(false, t), (false, u)] []) Q E s :=
  PySem.callWith_type rfl (Calls.evalArgs_plain (Calls.spliced_cons (wpAny_mono h (fun _ _ h₁ => Calls.spliced_cons (wpAny_mono h₁ (fun _ _ h₂ => Calls.spliced_nil h₂) fun _ _ e => e)) fun _ _ e => e)))

theorem LT.set4 {w : World} {mg mb : Str → Option Value} {gr : Heap} {L FA B AH T0 T1 T2 : Addr} {i0 i1 i2 : Array Value} {xs : List Str} {half : Nat} (R : GR w mg mb gr L FA B AH T0 T1 T2 i0 i1 i2 xs half) {h h' : Heap} {m : Str → Option Value} {v2 v3 v4 v : Option Value} {ys : Array Value}
    (l : LT L FA h m v2 v3 v4 ys) (hs : Heap.SameBut (cAt L 4) h h') (hc : h'.IsCell (cAt L 4) v) : LT L FA h' m v2 v3 v ys :=
  ⟨l.ns.sameBut hs (Ne.symm (cAt_ne (by decide))), l.c2.sameBut hs (cAt_inj (by decide)), l.c3.sameBut hs (cAt_inj (by decide)), hc, l.fa.at fun o e => hs.extBut _ o R.f4 e⟩
theorem LT.set3 {w : World} {mg mb : Str → Option Value} {gr : Heap} {L FA B AH T0 T1 T2 : Addr} {i0 i1 i2 : Array Value} {xs : List Str} {half : Nat} (R : GR w mg mb gr L FA B AH T0 T1 T2 i0 i1 i2 xs half) {h h' : Heap} {m : Str → Option Value} {v2 v3 v4 v : Option Value} {ys : Array Value}
    (l : LT L FA h m v2 v3 v4 ys) (hs : Heap.SameBut (cAt L 3) h h') (hc : h'.IsCell (cAt L 3) v) : LT L FA h' m v2 v v4 ys :=
  ⟨l.ns.sameBut hs (Ne.symm (cAt_ne (by decide))), l.c2.sameBut hs (cAt_inj (by decide)), hc, l.c4.sameBut hs (cAt_inj (by decide)), l.fa.at fun o e => hs.extBut _ o R.f3 e⟩

set_option maxHeartbeats 2000000 in
theorem loop_j {w : World} {A : Around} {E : Value → Shared → Prop} {s : Shared} {hb gr : Heap} {mg mb : Str → Option Value} {L fa FA B AH T0 T1 T2 : Addr} {i0 i1 i2 : Array Value} {cd : Value} {m : Str → Option Value} {xs : List Str} {half i : Nat} {ti : Tok} {v2 v4 : Option Value} {ys : Array Value} {Q : Flow → Shared → Prop}
    (H : LawH w A mg mb hb L fa cd) (R : GR w mg mb gr L FA B AH T0 T1 T2 i0 i1 i2 xs half) (hg : ∀ b o, gr.get? b = some o → s.heap.get? b = some o) (l : LT L FA s.heap m v2 (some (.int (i : Int) ti)) v4 ys) (mf : MF m half AH FA)
    (hi : i ≤ half) (hsz : ys.size ≤ 5000)
    (k : ∀ h' tk m' v2' v4' ys', (∀ b o, b ∉ badL L FA → s.heap.get? b = some o → h'.get? b = some o) → LT L FA h' m' v2' (some (.int (i : Int) ti)) v4' ys' → MF m' half AH FA → ys.size ≤ ys'.size → ys'.size ≤ ys.size + (half + 1) →
      (∀ q, q < half + 1 → fairAt xs i (i + q) (half + q) = true → 0 < ys'.size) → Q .next { s with heap := h', toks := tk }) :
    wpAny (model PR w) A (exec innerFor (lawE L fa cd)) Q E s := by
  have Gs := R.G.keeps hg
  have hsm := R.small
  have hbt := bad_there l
  obtain ⟨uh, mh⟩ := mf.h
  refine for_cell (env := lawE L fa cd) (x := Str.ofString "j") (c := cAt L 4) (n := half + 1) (a := (i : Int))
    (fun q h => ∃ m' v2' v4' ys', (∀ b o, b ∉ badL L FA → s.heap.get? b = some o → h.get? b = some o) ∧ LT L FA h m' v2' (some (.int (i : Int) ti)) v4' ys' ∧ MF m' half AH FA ∧ ys.size ≤ ys'.size ∧ ys'.size ≤ ys.size + q ∧
      (∀ q', q' < q → fairAt xs i (i + q') (half + q') = true → 0 < ys'.size)) (badL L FA) rfl rfl rfl ?hiter ?h0 (by simp) hbt ?frame ?turn ?done (by intro _; rfl)
  case hiter =>
    refine Call_name2 rfl (bname Gs (by kernel_rfl) boot_range (callWith_type2 (cell_name l.c3 (wpAny_BinOp (wpAny_BinOp (lname l.ns mh (cell_name l.c3 (PyProof.Rows.add_int (wpAny_Constant_int (PyProof.Rows.add_int ?_))))))))))
    refine wpAny_mono (range2_walks H.hh (n := half + 1) (by omega) (by omega) (by omega)) (fun x s₃ h₃ => wpAny_mono h₃ (fun it s₄ h₄ => ?_) fun _ _ e => e) fun _ _ e => e
    obtain ⟨⟨h5, t5, e5, k5⟩, rest⟩ := h₄
    exact ⟨⟨h5, t5, e5, k5⟩, rest⟩
  case h0 => exact ⟨m, v2, v4, ys, fun _ _ _ e => e, l, mf, Nat.le_refl _, Nat.le_refl _, fun q' h => by omega⟩
  case frame =>
    rintro q h h' J hJ ⟨m', v2', v4', ys', hk, l', mf', a1, a2, a3⟩ hkJ
    exact ⟨m', v2', v4', ys', fun b o hb e => hkJ b o (ne_none e hJ) (hk b o hb e), l'.frame hbt hJ hkJ, mf', a1, a2, a3⟩
  case turn =>
    rintro q h t hq ⟨m', v2', v4', ys', hk, l', mf', a1, a2, a3⟩
    refine ⟨v4', l'.c4, fun h₁ tk₁ hs₁ hc₁ => ?_⟩
    have ej : (i : Int) + (q : Int) * 1 = ((i + q : Nat) : Int) := by omega
    rw [ej] at hc₁
    have l1 := l'.set4 R hs₁ hc₁
    have k1 : ∀ b o, b ∉ badL L FA → s.heap.get? b = some o → h₁.get? b = some o := fun b o hb e => hs₁.extBut b o (fun q => hb (by rw [q]; simp)) (hk b o hb e)
    have hg1 : ∀ b o, gr.get? b = some o → h₁.get? b = some o := fun b o e => k1 b o (fun hm => by rw [bad_none R b hm] at e; cases e) (hg b o e)
    refine body_ok H R hg1 l1 mf' hi (by omega) (by omega) (by omega) fun h₂ tk₂ m₂ v2₂ ys₂ hk₂ l2 mf2 hy => ?_
    have eK : half - i + (i + q) = half + q := by omega
    rw [eK] at hy
    refine ⟨rfl, h₂, tk₂, rfl, ⟨m₂, v2₂, _, ys₂, fun b o hb e => hk₂ b o hb (k1 b o hb e), l2, mf2, ?_, ?_, fun q' hq' hf => ?_⟩, fun b o hb e => hk₂ b o hb e⟩
    · rw [hy]; omega
    · rw [hy]; split <;> omega
    · by_cases e : q' = q
      · subst e; rw [hy, if_pos hf]; omega
      · have := a3 q' (by omega) hf; rw [hy]; omega
  case done =>
    rintro h' tk ⟨m', v2', v4', ys', hk, l', mf', a1, a2, a3⟩
    exact k h' tk m' v2' v4' ys' hk l' mf' a1 a2 a3
end Mine

namespace Mine

theorem list_not_cell {h : Heap} {T c : Addr} {its : Array Value} {v : Option Value} (a : h.IsList T its) (b : h.IsCell c v) : T ≠ c := fun q => by
  obtain ⟨o, e, _, n, d⟩ := a
  obtain ⟨o', e', d'⟩ := b
  rw [q, e'] at e; cases e
  rw [d'] at d; cases d

set_option maxHeartbeats 2000000 in
theorem loop_i {w : World} {A : Around} {E : Value → Shared → Prop} {s : Shared} {hb gr : Heap} {mg mb : Str → Option Value} {L fa FA B AH T0 T1 T2 : Addr} {i0 i1 i2 : Array Value} {cd : Value} {m : Str → Option Value} {xs : List Str} {half : Nat} {v2 v3 v4 : Option Value} {Q : Flow → Shared → Prop}
    (H : LawH w A mg mb hb L fa cd) (R : GR w mg mb gr L FA B AH T0 T1 T2 i0 i1 i2 xs half) (hg : ∀ b o, gr.get? b = some o → s.heap.get? b = some o) (l : LT L FA s.heap m v2 v3 v4 #[]) (mf : MF m half AH FA)
    (k : ∀ h' tk m' v2' v3' v4' ys', (∀ b o, b ∉ badL L FA → s.heap.get? b = some o → h'.get? b = some o) → LT L FA h' m' v2' v3' v4' ys' → MF m' half AH FA →
      (∀ i, i < half + 1 → ∀ q, q < half + 1 → fairAt xs i (i + q) (half + q) = true → 0 < ys'.size) → wpAny (model PR w) A (execs (lawB.drop 9) (lawE L fa cd)) Q E { s with heap := h', toks := tk }) :
    wpAny (model PR w) A (execs (lawB.drop 8) (lawE L fa cd)) Q E s := by
  have Gs := R.G.keeps hg
  have hsm := R.small
  have hbt := bad_there l
  obtain ⟨uh, mh⟩ := mf.h
  refine wpAny_execs_cons ?_
  refine for_cell (env := lawE L fa cd) (x := Str.ofString "i") (c := cAt L 3) (n := half + 1) (a := 0)
    (fun q h => ∃ m' v2' v3' v4' ys', (∀ b o, b ∉ badL L FA → s.heap.get? b = some o → h.get? b = some o) ∧ LT L FA h m' v2' v3' v4' ys' ∧ MF m' half AH FA ∧ ys'.size ≤ q * (half + 1) ∧
      (∀ i, i < q → ∀ q', q' < half + 1 → fairAt xs i (i + q') (half + q') = true → 0 < ys'.size)) (badL L FA) rfl rfl rfl ?hiter ?h0 (by simp) hbt ?frame ?turn ?done (by intro _; rfl)
  case hiter =>
    refine Call_name1 rfl (bname Gs (by kernel_rfl) boot_range (callWith_type1 (wpAny_BinOp (lname l.ns mh (wpAny_Constant_int (PyProof.Rows.add_int ?_))))))
    have e1 : (((half : Nat) : Int) + 1).toNat = half + 1 := by omega
    refine wpAny_mono (range_keeps_walks H.hh (by omega) (by omega)) (fun x s₃ h₃ => wpAny_mono h₃ (fun it s₄ h₄ => ?_) fun _ _ e => e) fun _ _ e => e
    rw [e1] at h₄
    obtain ⟨⟨h5, t5, e5, k5⟩, rest⟩ := h₄
    exact ⟨⟨h5, t5, e5, k5⟩, rest⟩
  case h0 => exact ⟨m, v2, v3, v4, #[], fun _ _ _ e => e, l, mf, by simp, fun i h => by omega⟩
  case frame =>
    rintro q h h' J hJ ⟨m', v2', v3', v4', ys', hk, l', mf', a1, a2⟩ hkJ
    exact ⟨m', v2', v3', v4', ys', fun b o hb e => hkJ b o (ne_none e hJ) (hk b o hb e), l'.frame hbt hJ hkJ, mf', a1, a2⟩
  case turn =>
    rintro q h t hq ⟨m', v2', v3', v4', ys', hk, l', mf', a1, a2⟩
    refine ⟨v3', l'.c3, fun h₁ tk₁ hs₁ hc₁ => ?_⟩
    have ej : (0 : Int) + (q : Int) * 1 = (q : Int) := by omega
    rw [ej] at hc₁
    have l1 := l'.set3 R hs₁ hc₁
    have k1 : ∀ b o, b ∉ badL L FA → s.heap.get? b = some o → h₁.get? b = some o := fun b o hb e => hs₁.extBut b o (fun q => hb (by rw [q]; simp)) (hk b o hb e)
    have hg1 : ∀ b o, gr.get? b = some o → h₁.get? b = some o := fun b o e => k1 b o (fun hm => by rw [bad_none R b hm] at e; cases e) (hg b o e)
    have hsz : ys'.size ≤ 5000 := by
      have : q * (half + 1) ≤ 16 * 16 := Nat.mul_le_mul (by omega) (by omega)
      omega
    refine wpAny_execs_cons (loop_j H R hg1 l1 mf' (by omega) hsz fun h₂ tk₂ m₂ v2₂ v4₂ ys₂ hk₂ l2 mf2 b1 b2 b3 => ?_)
    refine wpAny_execs_nil ⟨rfl, h₂, tk₂, rfl, ⟨m₂, v2₂, _, v4₂, ys₂, fun b o hb e => hk₂ b o hb (k1 b o hb e), l2, mf2, ?_, fun i hi q' hq' hf => ?_⟩, fun b o hb e => hk₂ b o hb e⟩
    · rw [Nat.succ_mul]; omega
    · by_cases e : i = q
      · subst e; exact b3 q' hq' hf
      · have := a2 i (by omega) q' hq' hf; omega
  case done =>
    rintro h' tk ⟨m', v2', v3', v4', ys', hk, l', mf', a1, a2⟩
    exact k h' tk m' v2' v3' v4' ys' hk l' mf' a2

set_option maxHeartbeats 2000000 in
theorem law_F {w : World} {A : Around} {E : Value → Shared → Prop} {s : Shared} {hb : Heap} {mg mb : Str → Option Value} {L fa B AH T0 T1 T2 : Addr} {i0 i1 i2 : Array Value} {cd : Value} {m : Str → Option Value} {xs : List Str} {half : Nat} {uh : Tok} {Q : Flow → Shared → Prop}
    (H : LawH w A mg mb hb L fa cd) (hk0 : ∀ b o, hb.get? b = some o → s.heap.get? b = some o) (hn : s.heap.Ns L m) (mh : m (Str.ofString "half") = some (.int (half : Int) uh)) (ma : m (Str.ofString "ahead") = some (.ref AH))
    (hB : SL s.heap B xs) (BL : B ≠ L) (c1 : s.heap.IsCell (cAt L 1) (some (.ref B))) (c2 : s.heap.IsCell (cAt L 2) none) (c3 : s.heap.IsCell (cAt L 3) none) (c4 : s.heap.IsCell (cAt L 4) none)
    (hA : s.heap.PlainList AH #[.ref T0, .ref T1, .ref T2]) (AL : AH ≠ L) (T0L : T0 ≠ L) (T1L : T1 ≠ L) (T2L : T2 ≠ L) (t0 : s.heap.IsList T0 i0) (t1 : s.heap.IsList T1 i1) (t2 : s.heap.IsList T2 i2)
    (r0 : IntsAre i0.toList (rowOf xs kR)) (r1 : IntsAre i1.toList (rowOf xs kW)) (r2 : IntsAre i2.toList (rowOf xs kX))
    (mem : ∀ y ∈ xs, y ∈ kinds) (len : xs.length = 2 * half) (small : half ≤ 15) (fair : ∃ i q, i < half + 1 ∧ q < half + 1 ∧ fairAt xs i (i + q) (half + q) = true)
    (k : ∀ h' tk, (∀ b o, hb.get? b = some o → h'.get? b = some o) → Q (.ret (.bool true)) { s with heap := h', toks := tk }) :
    wpAny (model PR w) A (execs (lawB.drop 7) (lawE L fa cd)) Q E s := by
  refine wpAny_execs_cons (wpAny_Assign_Name (List_ (Calls.spliced_nil (wpAny_newList ?_ (by decide)))))
  have hFn : s.heap.get? s.heap.objs.size = none := new_none _
  have hf0 := Heap.get?_push_size s.heap (o := { cls := .type "list", data := .seq ([] : List Value).toArray }) rfl
  have hk1 : ∀ b o, s.heap.get? b = some o → (s.heap.push { cls := .type "list", data := .seq ([] : List Value).toArray }).get? b = some o := fun b o q => Heap.get?_push_of_some _ q
  generalize hFA : (s.heap.objs.size : Addr) = FA at *
  generalize s.heap.push { cls := .type "list", data := .seq ([] : List Value).toArray } = h₁ at *
  refine wpAny_storeName_local (by rfl) (hn.keeps hk1) (fun h₂ hn₂ hs₂ => ?_) (by rfl)
  replace hs₂ : Heap.SameBut L h₁ h₂ := hs₂
  have FAL : FA ≠ L := ne_new hn hFn
  have K2 : KL L s.heap h₂ := (KL.of hk1).trans (.same hs₂)
  have fa2 : h₂.PlainList FA #[] := ⟨_, hs₂.extBut FA _ FAL hf0⟩
  have old : ∀ b o, s.heap.get? b = some o → b ≠ FA := fun b o e => ne_none e hFn
  have cne : ∀ {c : Addr} {v : Option Value}, s.heap.IsCell c v → FA ≠ c := fun ⟨o, e, _⟩ => Ne.symm (old _ o e)
  have lne : ∀ {T : Addr} {its : Array Value}, s.heap.IsList T its → T ≠ L → T ∉ badL L FA := fun hT hTL hm => by
    simp only [badL, List.mem_cons, List.not_mem_nil, or_false] at hm
    rcases hm with q | q | q | q | q
    · exact hTL q
    · exact list_not_cell hT c2 q
    · exact list_not_cell hT c3 q
    · exact list_not_cell hT c4 q
    · obtain ⟨o, e, _⟩ := hT; exact old _ o e q
  have hgr : ∀ b o, b ∉ badL L FA → s.heap.get? b = some o → (hideAll h₂ (badL L FA)).get? b = some o := fun b o hb e => hideAll_get _ (K2 b o (fun q => hb (by rw [q]; simp)) e) hb
  have lgr : ∀ {T : Addr} {its : Array Value}, s.heap.IsList T its → T ≠ L → (hideAll h₂ (badL L FA)).IsList T its := fun hT hTL => hT.at fun o e => hgr _ o (lne hT hTL) e
  have bgr : ∀ b o, hb.get? b = some o → (hideAll h₂ (badL L FA)).get? b = some o := fun b o e => hgr b o (fun hm => by
    simp only [badL, List.mem_cons, List.not_mem_nil, or_false] at hm
    rcases hm with q | q | q | q | q
    · rw [q, show hb.get? L = none from H.hL 0] at e; cases e
    · rw [q, H.hL 2] at e; cases e
    · rw [q, H.hL 3] at e; cases e
    · rw [q, H.hL 4] at e; cases e
    · exact old b o (hk0 b o e) q) (hk0 b o e)
  have c1n : cAt L 1 ∉ badL L FA := fun hm => by
    simp only [badL, List.mem_cons, List.not_mem_nil, or_false] at hm
    rcases hm with q | q | q | q | q
    · exact cAt_ne (by decide) q
    · exact cAt_inj (by decide) q
    · exact cAt_inj (by decide) q
    · exact cAt_inj (by decide) q
    · exact cne c1 q.symm
  have R : GR w mg mb (hideAll h₂ (badL L FA)) L FA B AH T0 T1 T2 i0 i1 i2 xs half :=
    { G := H.G.keeps bgr
      b := by obtain ⟨vs, hp, hv⟩ := hB; exact ⟨vs, hp.at fun o e => hgr _ o (lne hp.isList BL) e, hv⟩
      c1 := by obtain ⟨o, e, d⟩ := c1; exact ⟨o, hgr _ o c1n e, d⟩
      ah := hA.at fun o e => hgr _ o (lne hA.isList AL) e
      t0 := lgr t0 T0L
      t1 := lgr t1 T1L
      t2 := lgr t2 T2L
      r0 := r0
      r1 := r1
      r2 := r2
      nL := hideAll_none _ (by simp)
      n2 := hideAll_none _ (by simp)
      n3 := hideAll_none _ (by simp)
      n4 := hideAll_none _ (by simp)
      nF := hideAll_none _ (by simp)
      fL := FAL
      f2 := cne c2
      f3 := cne c3
      f4 := cne c4
      mem := mem
      len := len
      small := small }
  have l2 : LT L FA h₂ (fun y => if y = Str.ofString "fair" then some (.ref FA) else m y) none none none #[] :=
    ⟨hn₂, K2.cell c2 (cAt_ne (by decide)), K2.cell c3 (cAt_ne (by decide)), K2.cell c4 (cAt_ne (by decide)), fa2⟩
  refine loop_i H R (fun b o e => of_hideAll _ e) l2 ⟨⟨uh, mh⟩, ma, rfl⟩ fun h₃ tk₃ m₃ v2₃ v3₃ v4₃ ys₃ hk₃ l3 mf3 hf => ?_
  obtain ⟨i, q, hi, hq, hfa⟩ := fair
  have hpos := hf i hi q hq hfa
  have k3 : ∀ b o, hb.get? b = some o → h₃.get? b = some o := fun b o e => hk₃ b o (fun hm => by have e1 := bgr b o e; rw [hideAll_none _ hm] at e1; cases e1) (of_hideAll _ (bgr b o e))
  refine wpAny_execs_cons (wpAny_Return_some (wpAny_Compare1 (lname l3.ns mf3.f (List_ (Calls.spliced_nil (wpAny_newList ?_ (by decide)))))))
  have hn6 := Heap.get?_push_size h₃ (o := { cls := .type "list", data := .seq ([] : List Value).toArray }) rfl
  have hk6 : ∀ b o, h₃.get? b = some o → (h₃.push { cls := .type "list", data := .seq ([] : List Value).toArray }).get? b = some o := fun b o q => Heap.get?_push_of_some _ q
  have h0 : ys₃.size ≠ 0 := by omega
  have hne : (ys₃.size != (#[] : Array Value).size) = true := by simpa using h0
  show wpAny _ _ (richCompare .NotEq _ _) _ _ _
  refine SeqAt.RcNeAt.lists_lengths (items := ys₃) (items2 := #[]) (by exact (l3.fa.at fun o e => hk6 _ o e).isList) ⟨_, hn6, rfl, _, rfl⟩ hne H.units _ _ _ _ ?_
  exact k _ _ fun b o e => hk6 b o (k3 b o e)
end Mine

namespace Mine

structure Plain (a b : Int) : Prop where
  ma : ModeText a
  mb : ModeText b
  mem : ∀ y ∈ evenF (bitsOf a ++ bitsOf b), y ∈ kinds
  fair : ∃ half i q, (evenF (bitsOf a ++ bitsOf b)).length = 2 * half ∧ half ≤ 15 ∧ i < half + 1 ∧ q < half + 1 ∧ fairAt (evenF (bitsOf a ++ bitsOf b)) i (i + q) (half + q) = true

theorem law_ok {w : World} {A : Around} {E : Value → Shared → Prop} {s : Shared} {hb : Heap} {mg mb : Str → Option Value} {L fa lS : Addr} {cd : Value} {vs : List Value} {ns : List Int} {m₀ : Str → Option Value} {Q : Flow → Shared → Prop}
    (P : ∀ a b : Int, 0 ≤ a → a < 512 → 0 ≤ b → b < 512 → Plain a b)
    (H : LawH w A mg mb hb L fa cd) (hk0 : ∀ b o, hb.get? b = some o → s.heap.get? b = some o) (hn : s.heap.Ns L m₀) (ms : m₀ (Str.ofString "script") = some (.ref lS))
    (hS : hb.IsList lS vs.toArray) (hI : IntsAre vs ns) (hl : ns.length ≤ 63)
    (c1 : s.heap.IsCell (cAt L 1) none) (c2 : s.heap.IsCell (cAt L 2) none) (c3 : s.heap.IsCell (cAt L 3) none) (c4 : s.heap.IsCell (cAt L 4) none)
    (k : ∀ h' tk, (∀ b o, hb.get? b = some o → h'.get? b = some o) → Q (.ret (.bool true)) { s with heap := h', toks := tk }) :
    wpAny (model PR w) A (execs lawB (lawE L fa cd)) Q E s := by
  have hL0 : hb.get? L = none := H.hL 0
  refine law_A hk0 hn ms hS hI hl fun h₁ tk₁ m₁ lm a b ta tb K1 hn₁ mm lmL hlm a0 a1 b0 b1 => ?_
  obtain ⟨pa, pb, mem, half, i, q, elen, hsm, hi, hq, hf⟩ := P a b a0 a1 b0 b1
  have k1 := K1.base hk0 hL0
  refine law_B H.hh H.G k1 hn₁ mm hlm fun h₂ tk₂ m₂ D K2 hn₂ mm₂ md₂ DL SD => ?_
  replace K2 : KL L h₁ h₂ := K2
  have K12 := K1.trans K2
  have k2 := K2.base k1 hL0
  refine law_C H k2 hn₂ mm₂ md₂ (K2.plain hlm lmL) lmL SD DL pa pb (K12.cell c1 (cAt_ne (by decide))) (K12.cell c2 (cAt_ne (by decide))) (K12.cell c3 (cAt_ne (by decide))) (K12.cell c4 (cAt_ne (by decide)))
    fun h₃ tk₃ m₃ B k3 hn₃ BL _ _ SB d1 d2 d3 d4 => ?_
  refine law_D H k3 hn₃ BL SB (by omega) d1 fun h₄ tk₄ m₄ u AH T0 T1 T2 i0 i1 i2 K4 hn₄ mh ma AL _ hA T0L T1L T2L _ _ _ t0 t1 t2 r0 r1 r2 => ?_
  replace K4 : KL L h₃ h₄ := K4
  have eh : (((evenF (bitsOf a ++ bitsOf b)).length : Nat) : Int).fdiv 2 = ((half : Nat) : Int) := by
    rw [elen, Int.fdiv_eq_ediv_of_nonneg _ (by decide)]; omega
  rw [eh] at mh
  exact law_F H (K4.base k3 hL0) hn₄ mh ma (K4.sl SB BL) BL (K4.cell d1 (cAt_ne (by decide))) (K4.cell d2 (cAt_ne (by decide))) (K4.cell d3 (cAt_ne (by decide))) (K4.cell d4 (cAt_ne (by decide))) hA AL T0L T1L T2L t0 t1 t2 r0 r1 r2 mem elen hsm ⟨i, q, hi, hq, hf⟩ k
end Mine

namespace Mine

/-- how many of the first n are set -/
def cntK (f : Nat → Bool) : Nat → Nat
  | 0 => 0
  | n + 1 => cntK f n + (f n).toNat
def oddOf (p : Nat) : Bool := (((p.testBit 0 ^^ p.testBit 1) ^^ (p.testBit 2 ^^ p.testBit 3)) ^^ (p.testBit 4 ^^ p.testBit 5))
/-- the seven slots of a kind: six bits, and one that makes them even -/
def fP (p m : Nat) : Bool := if m < 6 then p.testBit m else oddOf p
def fairK (p a b g : Nat) : Bool := 2 * (cntK (fP p) a + cntK (fP p) g) == cntK (fP p) 7 + 2 * cntK (fP p) b
def loc (u c : Nat) : Nat := (u + 2 - c) / 3

structure Cut where
  m0 : Nat
  m1 : Nat
  m2 : Nat
  a : Nat
  b : Nat
  g : Nat
structure LCut where
  a : Nat
  b : Nat
  g : Nat
  m : Nat

def locT0 : List LCut := [⟨0, 0, 3, 9288929863215775255⟩, ⟨0, 0, 4, 9144584873703244055⟩, ⟨0, 1, 4, 15294433055965719485⟩, ⟨0, 1, 5, 3151884032496315325⟩, ⟨0, 1, 6, 565333696654269⟩, ⟨0, 2, 4, 1153045820037195633⟩, ⟨0, 2, 5, 16677235211060635505⟩, ⟨0, 2, 6, 616587324182488945⟩, ⟨0, 3, 5, 1657607239476123393⟩, ⟨0, 3, 6, 16752966303229613825⟩, ⟨0, 3, 7, 9288929863215775255⟩, ⟨0, 4, 6, 1692791708252045313⟩, ⟨0, 4, 7, 9144584873703244055⟩, ⟨0, 5, 6, 282673272586241⟩]
def locT1 : List LCut := [⟨0, 5, 7, 78557348435656983⟩, ⟨1, 1, 3, 9288929863215775255⟩, ⟨1, 1, 4, 9144584873703244055⟩, ⟨1, 2, 3, 9043148679590619⟩, ⟨1, 2, 4, 12835500499242470875⟩, ⟨1, 2, 5, 5610319318442921435⟩, ⟨1, 2, 6, 1130628738010587⟩, ⟨1, 3, 4, 144162476387384619⟩, ⟨1, 3, 5, 13631035988326071595⟩, ⟨1, 3, 6, 4671592625273158955⟩, ⟨1, 3, 7, 18085678874416317⟩, ⟨1, 4, 5, 156218621398155819⟩, ⟨1, 4, 6, 13678606059713659435⟩, ⟨1, 4, 7, 15294433055965719485⟩]
def locT2 : List LCut := [⟨1, 5, 6, 156266702823359019⟩, ⟨1, 5, 7, 3151884032496315325⟩, ⟨2, 2, 3, 9288929863215775255⟩, ⟨2, 2, 4, 9144584873703244055⟩, ⟨2, 2, 5, 78557348435656983⟩, ⟨2, 3, 3, 2261205935623911⟩, ⟨2, 3, 4, 10234684754155696615⟩, ⟨2, 3, 5, 8207783443253260775⟩, ⟨2, 3, 6, 4521677420589543⟩, ⟨2, 4, 4, 2261205935623911⟩, ⟨2, 4, 5, 10297208482867285735⟩, ⟨2, 4, 6, 8147266202313527015⟩, ⟨2, 4, 7, 1153045820037195633⟩, ⟨2, 5, 6, 10297453545666809575⟩]
def locT3 : List LCut := [⟨2, 5, 7, 16677235211060635505⟩, ⟨2, 6, 6, 2261205935623911⟩, ⟨2, 6, 7, 616587324182488945⟩, ⟨3, 4, 5, 9085986401492762135⟩, ⟨3, 4, 6, 72082887486307863⟩, ⟨3, 5, 5, 9288929863215775255⟩, ⟨3, 5, 6, 9085756070206275095⟩, ⟨3, 5, 7, 1657607239476123393⟩, ⟨3, 6, 7, 16752966303229613825⟩, ⟨4, 5, 5, 9144584873703244055⟩, ⟨4, 5, 6, 78531523191374103⟩, ⟨4, 6, 6, 9144584873703244055⟩, ⟨4, 6, 7, 1692791708252045313⟩, ⟨5, 7, 7, 78557348435656983⟩]
def locT : List LCut := locT0 ++ locT1 ++ locT2 ++ locT3
def cutT : List Cut := [⟨9288929863215775255, 9288929863215775255, 9288929863215775255, 0, 0, 9⟩,
  ⟨3151884032496315325, 3151884032496315325, 3151884032496315325, 0, 3, 15⟩,
  ⟨13631035988326071595, 13631035988326071595, 13631035988326071595, 3, 9, 15⟩,
  ⟨8147266202313527015, 8147266202313527015, 8147266202313527015, 6, 12, 18⟩,
  ⟨9144584873703244055, 9144584873703244055, 9144584873703244055, 0, 0, 12⟩,
  ⟨616587324182488945, 616587324182488945, 616587324182488945, 0, 6, 18⟩,
  ⟨16677235211060635505, 16677235211060635505, 16677235211060635505, 0, 6, 15⟩,
  ⟨13678606059713659435, 4671592625273158955, 4671592625273158955, 3, 10, 18⟩,
  ⟨9085986401492762135, 10297208482867285735, 10297208482867285735, 7, 12, 15⟩,
  ⟨12835500499242470875, 12835500499242470875, 12835500499242470875, 3, 6, 12⟩,
  ⟨16752966303229613825, 9085756070206275095, 9085756070206275095, 9, 16, 19⟩,
  ⟨10234684754155696615, 10234684754155696615, 10234684754155696615, 6, 9, 12⟩,
  ⟨8207783443253260775, 5610319318442921435, 5610319318442921435, 4, 7, 15⟩,
  ⟨10297453545666809575, 13678606059713659435, 13678606059713659435, 4, 13, 18⟩,
  ⟨4671592625273158955, 16752966303229613825, 16752966303229613825, 1, 9, 18⟩,
  ⟨9085756070206275095, 9085986401492762135, 9085986401492762135, 9, 13, 16⟩,
  ⟨15294433055965719485, 15294433055965719485, 15294433055965719485, 0, 3, 12⟩,
  ⟨10297208482867285735, 8207783443253260775, 8207783443253260775, 6, 10, 15⟩,
  ⟨10297453545666809575, 10297453545666809575, 10297453545666809575, 6, 15, 18⟩,
  ⟨5610319318442921435, 5610319318442921435, 15294433055965719485, 2, 5, 14⟩,
  ⟨4671592625273158955, 4671592625273158955, 5610319318442921435, 3, 8, 17⟩,
  ⟨13678606059713659435, 13678606059713659435, 13631035988326071595, 3, 11, 17⟩,
  ⟨16677235211060635505, 10297453545666809575, 13678606059713659435, 5, 14, 19⟩,
  ⟨4521677420589543, 4671592625273158955, 4671592625273158955, 4, 9, 18⟩,
  ⟨9085756070206275095, 9085756070206275095, 10297453545666809575, 8, 15, 18⟩,
  ⟨15294433055965719485, 9144584873703244055, 16752966303229613825, 1, 11, 20⟩,
  ⟨13631035988326071595, 13631035988326071595, 12835500499242470875, 3, 8, 14⟩,
  ⟨8147266202313527015, 10297208482867285735, 13631035988326071595, 5, 11, 16⟩,
  ⟨8207783443253260775, 10234684754155696615, 9144584873703244055, 6, 8, 13⟩,
  ⟨9144584873703244055, 16752966303229613825, 16752966303229613825, 0, 10, 19⟩,
  ⟨4671592625273158955, 616587324182488945, 16677235211060635505, 1, 7, 17⟩,
  ⟨3151884032496315325, 13678606059713659435, 13678606059713659435, 3, 13, 19⟩,
  ⟨616587324182488945, 3151884032496315325, 3151884032496315325, 0, 4, 16⟩,
  ⟨9144584873703244055, 9085986401492762135, 9085986401492762135, 10, 13, 15⟩,
  ⟨12835500499242470875, 12835500499242470875, 9288929863215775255, 3, 5, 11⟩,
  ⟨8207783443253260775, 9144584873703244055, 12835500499242470875, 5, 7, 13⟩,
  ⟨16752966303229613825, 16677235211060635505, 10297453545666809575, 7, 16, 20⟩,
  ⟨4671592625273158955, 1130628738010587, 616587324182488945, 2, 7, 18⟩,
  ⟨16677235211060635505, 1153045820037195633, 8147266202313527015, 6, 13, 20⟩,
  ⟨8147266202313527015, 8147266202313527015, 8207783443253260775, 6, 11, 17⟩,
  ⟨13678606059713659435, 13631035988326071595, 1657607239476123393, 2, 10, 16⟩,
  ⟨15294433055965719485, 18085678874416317, 4671592625273158955, 3, 10, 20⟩,
  ⟨1657607239476123393, 9085756070206275095, 72082887486307863, 9, 14, 19⟩,
  ⟨9085756070206275095, 9288929863215775255, 10297208482867285735, 8, 14, 16⟩,
  ⟨616587324182488945, 16677235211060635505, 16677235211060635505, 0, 6, 16⟩,
  ⟨78531523191374103, 78531523191374103, 9085756070206275095, 11, 15, 18⟩,
  ⟨9288929863215775255, 9043148679590619, 9043148679590619, 4, 6, 9⟩,
  ⟨78557348435656983, 1692791708252045313, 1692791708252045313, 0, 13, 19⟩,
  ⟨16677235211060635505, 15294433055965719485, 15294433055965719485, 0, 4, 13⟩,
  ⟨9043148679590619, 9043148679590619, 9288929863215775255, 3, 5, 9⟩,
  ⟨565333696654269, 565333696654269, 565333696654269, 0, 3, 18⟩,
  ⟨72082887486307863, 72082887486307863, 8207783443253260775, 8, 11, 17⟩,
  ⟨10297208482867285735, 10234684754155696615, 144162476387384619, 5, 10, 13⟩,
  ⟨9144584873703244055, 12835500499242470875, 12835500499242470875, 4, 6, 12⟩,
  ⟨9085756070206275095, 72082887486307863, 10297208482867285735, 8, 13, 17⟩,
  ⟨2261205935623911, 10297453545666809575, 10297453545666809575, 6, 16, 18⟩,
  ⟨8147266202313527015, 4521677420589543, 13631035988326071595, 5, 10, 17⟩,
  ⟨156218621398155819, 156218621398155819, 13631035988326071595, 3, 11, 15⟩,
  ⟨1657607239476123393, 16677235211060635505, 1153045820037195633, 0, 7, 14⟩,
  ⟨15294433055965719485, 13678606059713659435, 1692791708252045313, 2, 12, 19⟩,
  ⟨5610319318442921435, 5610319318442921435, 9144584873703244055, 3, 5, 14⟩,
  ⟨10297208482867285735, 2261205935623911, 10234684754155696615, 6, 11, 13⟩,
  ⟨78557348435656983, 1692791708252045313, 9144584873703244055, 13, 19, 20⟩,
  ⟨18085678874416317, 9288929863215775255, 616587324182488945, 1, 8, 20⟩,
  ⟨1153045820037195633, 13678606059713659435, 13678606059713659435, 4, 12, 19⟩,
  ⟨10234684754155696615, 2261205935623911, 9043148679590619, 5, 8, 10⟩,
  ⟨1692791708252045313, 9144584873703244055, 78531523191374103, 12, 17, 19⟩,
  ⟨616587324182488945, 16677235211060635505, 156266702823359019, 5, 16, 20⟩,
  ⟨156266702823359019, 282673272586241, 1692791708252045313, 1, 14, 18⟩,
  ⟨78557348435656983, 78557348435656983, 12835500499242470875, 5, 6, 14⟩,
  ⟨72082887486307863, 8147266202313527015, 4521677420589543, 7, 11, 18⟩]

def locOk (t : LCut) : Bool := (List.range 64).all fun p => !t.m.testBit p || fairK p t.a t.b t.g
theorem locT0_ok : locT0.all locOk = true := by decide +kernel
theorem locT1_ok : locT1.all locOk = true := by decide +kernel
theorem locT2_ok : locT2.all locOk = true := by decide +kernel
theorem locT3_ok : locT3.all locOk = true := by decide +kernel
theorem locT_ok : locT.all locOk = true := by
  unfold locT
  rw [List.all_append, List.all_append, List.all_append, locT0_ok, locT1_ok, locT2_ok, locT3_ok]
  rfl
def inLoc (a b g m : Nat) : Bool := locT.any fun t => t.a == a && t.b == b && t.g == g && t.m == m
def cutOk (t : Cut) : Bool := decide (t.a ≤ t.b) && decide (t.b ≤ t.g) && decide (t.g ≤ 21) && inLoc (loc t.a 0) (loc t.b 0) (loc t.g 0) t.m0 && inLoc (loc t.a 1) (loc t.b 1) (loc t.g 1) t.m1 && inLoc (loc t.a 2) (loc t.b 2) (loc t.g 2) t.m2
theorem cutT_ok : cutT.all cutOk = true := by decide +kernel

def bitIn (m b : Nat) : Bool := Nat.beq (Nat.land m b) 0
def subT (b0 : Nat) : List Cut → List Cut
  | [] => []
  | t :: r => match bitIn t.m0 b0 with
    | true => subT b0 r
    | false => t :: subT b0 r
def cov (b1 : Nat) : List Cut → Nat
  | [] => 0
  | t :: r => match bitIn t.m1 b1 with
    | true => cov b1 r
    | false => Nat.lor t.m2 (cov b1 r)
def covOk (p0 : Nat) : Bool := (List.range 64).all fun p1 => Nat.beq (cov (Nat.pow 2 p1) (subT (Nat.pow 2 p0) cutT)) 18446744073709551615

theorem cov0 : (List.range' 0 4).all covOk = true := by decide +kernel
theorem cov1 : (List.range' 4 4).all covOk = true := by decide +kernel
theorem cov2 : (List.range' 8 4).all covOk = true := by decide +kernel
theorem cov3 : (List.range' 12 4).all covOk = true := by decide +kernel
theorem cov4 : (List.range' 16 4).all covOk = true := by decide +kernel
theorem cov5 : (List.range' 20 4).all covOk = true := by decide +kernel
theorem cov6 : (List.range' 24 4).all covOk = true := by decide +kernel
theorem cov7 : (List.range' 28 4).all covOk = true := by decide +kernel
theorem cov8 : (List.range' 32 4).all covOk = true := by decide +kernel
theorem cov9 : (List.range' 36 4).all covOk = true := by decide +kernel
theorem cov10 : (List.range' 40 4).all covOk = true := by decide +kernel
theorem cov11 : (List.range' 44 4).all covOk = true := by decide +kernel
theorem cov12 : (List.range' 48 4).all covOk = true := by decide +kernel
theorem cov13 : (List.range' 52 4).all covOk = true := by decide +kernel
theorem cov14 : (List.range' 56 4).all covOk = true := by decide +kernel
theorem cov15 : (List.range' 60 4).all covOk = true := by decide +kernel
end Mine

namespace Mine
theorem covAll {n : Nat} (h : n < 64) : covOk n = true := by
  have key : ∀ s, (List.range' s 4).all covOk = true → s ≤ n → n < s + 4 → covOk n = true := fun s hs h1 h2 =>
    List.all_eq_true.mp hs n (List.mem_range'_1.mpr ⟨h1, h2⟩)
  by_cases h0 : n < 4
  · exact key 0 cov0 (by omega) (by omega)
  by_cases h1 : n < 8
  · exact key 4 cov1 (by omega) (by omega)
  by_cases h2 : n < 12
  · exact key 8 cov2 (by omega) (by omega)
  by_cases h3 : n < 16
  · exact key 12 cov3 (by omega) (by omega)
  by_cases h4 : n < 20
  · exact key 16 cov4 (by omega) (by omega)
  by_cases h5 : n < 24
  · exact key 20 cov5 (by omega) (by omega)
  by_cases h6 : n < 28
  · exact key 24 cov6 (by omega) (by omega)
  by_cases h7 : n < 32
  · exact key 28 cov7 (by omega) (by omega)
  by_cases h8 : n < 36
  · exact key 32 cov8 (by omega) (by omega)
  by_cases h9 : n < 40
  · exact key 36 cov9 (by omega) (by omega)
  by_cases h10 : n < 44
  · exact key 40 cov10 (by omega) (by omega)
  by_cases h11 : n < 48
  · exact key 44 cov11 (by omega) (by omega)
  by_cases h12 : n < 52
  · exact key 48 cov12 (by omega) (by omega)
  by_cases h13 : n < 56
  · exact key 52 cov13 (by omega) (by omega)
  by_cases h14 : n < 60
  · exact key 56 cov14 (by omega) (by omega)
  by_cases h15 : n < 64
  · exact key 60 cov15 (by omega) (by omega)
  omega

theorem bit_of {m p : Nat} (h : bitIn m (Nat.pow 2 p) = false) : m.testBit p = true := by
  cases hb : m.testBit p with
  | true => rfl
  | false =>
    have e : m &&& 2 ^ p = 0 := by
      apply Nat.eq_of_testBit_eq
      intro i
      rw [Nat.testBit_and, Nat.testBit_two_pow, Nat.zero_testBit]
      by_cases q : p = i
      · rw [← q, hb]; rfl
      · simp [q]
    have : bitIn m (Nat.pow 2 p) = true := by
      unfold bitIn
      show Nat.beq (m &&& 2 ^ p) 0 = true
      rw [e]; rfl
    rw [this] at h; cases h

theorem sub_mem {p0 : Nat} : ∀ {L : List Cut} {t : Cut}, t ∈ subT (Nat.pow 2 p0) L → t ∈ L ∧ t.m0.testBit p0 = true
  | [], _, h => by cases h
  | u :: r, t, h => by
    unfold subT at h
    split at h
    · exact ⟨.tail _ (sub_mem h).1, (sub_mem h).2⟩
    · rename_i hc
      rcases List.mem_cons.mp h with e | h
      · rw [e]; exact ⟨.head _, bit_of hc⟩
      · exact ⟨.tail _ (sub_mem h).1, (sub_mem h).2⟩

theorem cov_bit {p1 p2 : Nat} : ∀ L : List Cut, (cov (Nat.pow 2 p1) L).testBit p2 = true → ∃ t ∈ L, t.m1.testBit p1 = true ∧ t.m2.testBit p2 = true
  | [], h => by simp [cov] at h
  | t :: r, h => by
    unfold cov at h
    split at h
    · obtain ⟨t', ht, q⟩ := cov_bit r h; exact ⟨t', .tail _ ht, q⟩
    · rename_i hc
      have h' : (t.m2 ||| cov (Nat.pow 2 p1) r).testBit p2 = true := h
      rw [Nat.testBit_or, Bool.or_eq_true] at h'
      rcases h' with h | h
      · exact ⟨t, .head _, bit_of hc, h⟩
      · obtain ⟨t', ht, q⟩ := cov_bit r h; exact ⟨t', .tail _ ht, q⟩

theorem full_bit {p : Nat} (h : p < 64) : (18446744073709551615 : Nat).testBit p = true := by
  have e : (18446744073709551615 : Nat) = 2 ^ 64 - 1 := by decide
  rw [e, Nat.testBit_two_pow_sub_one]; simpa using h

theorem cover_all {p0 p1 p2 : Nat} (h0 : p0 < 64) (h1 : p1 < 64) (h2 : p2 < 64) : ∃ t ∈ cutT, t.m0.testBit p0 = true ∧ t.m1.testBit p1 = true ∧ t.m2.testBit p2 = true := by
  have h := List.all_eq_true.mp (covAll h0) p1 (List.mem_range.mpr h1)
  have e := Nat.eq_of_beq_eq_true h
  obtain ⟨t, ht, q1, q2⟩ := cov_bit _ (by rw [e]; exact full_bit h2)
  exact ⟨t, (sub_mem ht).1, (sub_mem ht).2, q1, q2⟩

theorem inLoc_ok {a b g m p : Nat} (h : inLoc a b g m = true) (hp : p < 64) (hm : m.testBit p = true) : fairK p a b g = true := by
  unfold inLoc at h
  rw [List.any_eq_true] at h
  obtain ⟨t, ht, e⟩ := h
  simp only [Bool.and_eq_true, beq_iff_eq] at e
  obtain ⟨⟨⟨rfl, rfl⟩, rfl⟩, rfl⟩ := e
  have h1 := List.all_eq_true.mp locT_ok t ht
  have h2 := List.all_eq_true.mp h1 p (List.mem_range.mpr hp)
  rw [hm] at h2
  simpa using h2

theorem fair3 {p0 p1 p2 : Nat} (h0 : p0 < 64) (h1 : p1 < 64) (h2 : p2 < 64) : ∃ a b g, a ≤ b ∧ b ≤ g ∧ g ≤ 21 ∧ fairK p0 (loc a 0) (loc b 0) (loc g 0) = true ∧ fairK p1 (loc a 1) (loc b 1) (loc g 1) = true ∧ fairK p2 (loc a 2) (loc b 2) (loc g 2) = true := by
  obtain ⟨t, ht, q0, q1, q2⟩ := cover_all h0 h1 h2
  have h := List.all_eq_true.mp cutT_ok t ht
  unfold cutOk at h
  simp only [Bool.and_eq_true, decide_eq_true_eq] at h
  obtain ⟨⟨⟨⟨⟨a1, a2⟩, a3⟩, b0⟩, b1⟩, b2⟩ := h
  exact ⟨t.a, t.b, t.g, a1, a2, a3, inLoc_ok b0 h0 q0, inLoc_ok b1 h1 q1, inLoc_ok b2 h2 q2⟩
end Mine

namespace Mine

def pre (S : Nat → Bool) (u : Nat) : List Str := (List.range u).filterMap fun t => if S t then some (sg t) else none

theorem pre_succ (S : Nat → Bool) (u : Nat) : pre S (u + 1) = pre S u ++ (if S u then [sg u] else []) := by
  unfold pre
  rw [List.range_succ, List.filterMap_append]
  cases h : S u <;> simp [h]

theorem sg_mod (t : Nat) : sg t = sg (t % 3) := by unfold sg; simp
theorem sg_eq {t c : Nat} (hc : c < 3) : (sg t == sg c) = decide (t % 3 = c) := by
  rw [sg_mod t]
  have ht : t % 3 < 3 := Nat.mod_lt _ (by decide)
  generalize t % 3 = r at ht ⊢
  match r, ht, c, hc with
  | 0, _, 0, _ => rfl
  | 0, _, 1, _ => rfl
  | 0, _, 2, _ => rfl
  | 1, _, 0, _ => rfl
  | 1, _, 1, _ => rfl
  | 1, _, 2, _ => rfl
  | 2, _, 0, _ => rfl
  | 2, _, 1, _ => rfl
  | 2, _, 2, _ => rfl

theorem pre_count (S : Nat → Bool) {c : Nat} (hc : c < 3) : ∀ u, (pre S u).count (sg c) = cntK (fun m => S (3 * m + c)) (loc u c)
  | 0 => by
    have : loc 0 c = 0 := by unfold loc; omega
    rw [this]; rfl
  | u + 1 => by
    rw [pre_succ, List.count_append, pre_count S hc u]
    by_cases hu : u % 3 = c
    · have e : loc (u + 1) c = loc u c + 1 := by unfold loc; omega
      have e2 : 3 * loc u c + c = u := by unfold loc; omega
      rw [e, cntK, e2]
      cases h : S u
      · simp
      · simp [List.count_cons, sg_eq hc, hu]
    · have e : loc (u + 1) c = loc u c := by unfold loc; omega
      rw [e]
      cases h : S u
      · simp
      · simp [List.count_cons, sg_eq hc, hu]

theorem pre_split (S : Nat → Bool) (u : Nat) : ∀ d, ∃ r, pre S (u + d) = pre S u ++ r
  | 0 => ⟨[], by simp⟩
  | d + 1 => by
    obtain ⟨r, e⟩ := pre_split S u d
    exact ⟨r ++ (if S (u + d) then [sg (u + d)] else []), by rw [← Nat.add_assoc, pre_succ, e, List.append_assoc]⟩
theorem pre_take (S : Nat → Bool) {u v : Nat} (h : u ≤ v) : (pre S v).take (pre S u).length = pre S u ∧ (pre S u).length ≤ (pre S v).length := by
  obtain ⟨r, e⟩ := pre_split S u (v - u)
  rw [show u + (v - u) = v by omega] at e
  rw [e]
  constructor
  · simp
  · simp

theorem sg_kinds (t : Nat) : sg t ∈ kinds := by
  rw [sg_mod t]
  have ht : t % 3 < 3 := Nat.mod_lt _ (by decide)
  generalize t % 3 = r at ht ⊢
  match r, ht with
  | 0, _ => exact .head _
  | 1, _ => exact .tail _ (.head _)
  | 2, _ => exact .tail _ (.tail _ (.head _))
theorem pre_mem (S : Nat → Bool) (u : Nat) : ∀ y ∈ pre S u, y ∈ kinds := fun y hy => by
  unfold pre at hy
  rw [List.mem_filterMap] at hy
  obtain ⟨t, _, e⟩ := hy
  split at e
  · cases e; exact sg_kinds t
  · cases e

theorem len_counts : ∀ xs : List Str, (∀ y ∈ xs, y ∈ kinds) → xs.length = xs.count (sg 0) + xs.count (sg 1) + xs.count (sg 2)
  | [], _ => rfl
  | y :: r, h => by
    have ih := len_counts r fun y hy => h y (.tail _ hy)
    have e0 : sg 0 = kR := rfl
    have e1 : sg 1 = kW := rfl
    have e2 : sg 2 = kX := rfl
    rw [e0, e1, e2] at ih ⊢
    rw [List.length_cons, List.count_cons, List.count_cons, List.count_cons]
    rcases mem_kinds (h y (.head _)) with rfl | rfl | rfl
    · have h1 : (kR == kR) = true := by decide
      have h2 : (kR == kW) = false := by decide
      have h3 : (kR == kX) = false := by decide
      simp [h1, h2, h3]; omega
    · have h1 : (kW == kR) = false := by decide
      have h2 : (kW == kW) = true := by decide
      have h3 : (kW == kX) = false := by decide
      simp [h1, h2, h3]; omega
    · have h1 : (kX == kR) = false := by decide
      have h2 : (kX == kW) = false := by decide
      have h3 : (kX == kX) = true := by decide
      simp [h1, h2, h3]; omega

theorem cntK_congr {f g : Nat → Bool} : ∀ {n : Nat}, (∀ m, m < n → f m = g m) → cntK f n = cntK g n
  | 0, _ => rfl
  | n + 1, h => by
    unfold cntK
    rw [cntK_congr fun m hm => h m (by omega), h n (by omega)]

theorem pre_len (S : Nat → Bool) (u : Nat) : (pre S u).length ≤ u := by
  unfold pre
  exact Nat.le_trans (List.length_filterMap_le _ _) (by simp)

/-- a fair cut of the beads in 21 slots -/
theorem fair_slots (S : Nat → Bool) {p0 p1 p2 : Nat} (h0 : p0 < 64) (h1 : p1 < 64) (h2 : p2 < 64) (e0 : ∀ m, m < 7 → S (3 * m + 0) = fP p0 m) (e1 : ∀ m, m < 7 → S (3 * m + 1) = fP p1 m) (e2 : ∀ m, m < 7 → S (3 * m + 2) = fP p2 m) :
    ∃ half i q, (pre S 21).length = 2 * half ∧ half ≤ 15 ∧ i < half + 1 ∧ q < half + 1 ∧ fairAt (pre S 21) i (i + q) (half + q) = true := by
  obtain ⟨a, b, g, hab, hbg, hg, f0, f1, f2⟩ := fair3 h0 h1 h2
  have lc : ∀ {u c : Nat}, u ≤ 21 → loc u c ≤ 7 := fun {u c} h => by unfold loc; omega
  have key : ∀ (c p : Nat), c < 3 → (∀ m, m < 7 → S (3 * m + c) = fP p m) → fairK p (loc a c) (loc b c) (loc g c) = true →
      2 * ((pre S a).count (sg c) + (pre S g).count (sg c)) = (pre S 21).count (sg c) + 2 * (pre S b).count (sg c) := fun c p hc e f => by
    unfold fairK at f
    rw [beq_iff_eq] at f
    have l21 : loc 21 c = 7 := by unfold loc; omega
    rw [pre_count S hc, pre_count S hc, pre_count S hc, pre_count S hc, l21]
    rw [cntK_congr (f := fun m => S (3 * m + c)) (g := fP p) fun m hm => e m (by have := lc (c := c) (show a ≤ 21 by omega); omega),
      cntK_congr (f := fun m => S (3 * m + c)) (g := fP p) (n := loc g c) fun m hm => e m (by have := lc (c := c) hg; omega),
      cntK_congr (f := fun m => S (3 * m + c)) (g := fP p) (n := 7) fun m hm => e m hm,
      cntK_congr (f := fun m => S (3 * m + c)) (g := fP p) (n := loc b c) fun m hm => e m (by have := lc (c := c) (show b ≤ 21 by omega); omega)]
    exact f
  have k0 := key 0 p0 (by decide) e0 f0
  have k1 := key 1 p1 (by decide) e1 f1
  have k2 := key 2 p2 (by decide) e2 f2
  have la := len_counts _ (pre_mem S a)
  have lb := len_counts _ (pre_mem S b)
  have lg := len_counts _ (pre_mem S g)
  have l21 := len_counts _ (pre_mem S 21)
  have ta := pre_take S (show a ≤ 21 by omega)
  have tb := pre_take S (show b ≤ 21 by omega)
  have tg := pre_take S hg
  have tab := (pre_take S hab).2
  have tbg := (pre_take S hbg).2
  have l := pre_len S 21
  have hcnt : ∀ c, c ∈ kinds → ∃ d, d < 3 ∧ c = sg d := fun c hc => by
    rcases mem_kinds hc with rfl | rfl | rfl
    · exact ⟨0, by decide, rfl⟩
    · exact ⟨1, by decide, rfl⟩
    · exact ⟨2, by decide, rfl⟩
  refine ⟨(pre S a).length + (pre S g).length - (pre S b).length, (pre S a).length, (pre S b).length - (pre S a).length, by omega, by omega, by omega, by omega, ?_⟩
  have eB : (pre S a).length + ((pre S b).length - (pre S a).length) = (pre S b).length := by omega
  have eG : (pre S a).length + (pre S g).length - (pre S b).length + ((pre S b).length - (pre S a).length) = (pre S g).length := by omega
  rw [eB, eG]
  unfold fairAt
  rw [List.all_eq_true]
  intro c hc
  have hm := more_eq (xs := pre S 21) (c := c) tab tbg
  unfold moreI pc at hm
  rw [ta.1, tb.1, tg.1] at hm
  obtain ⟨d, hd, rfl⟩ := hcnt c hc
  have kd : 2 * ((pre S a).count (sg d) + (pre S g).count (sg d)) = (pre S 21).count (sg d) + 2 * (pre S b).count (sg d) := by
    match d, hd with
    | 0, _ => exact k0
    | 1, _ => exact k1
    | 2, _ => exact k2
  rw [beq_iff_eq]
  omega
end Mine

namespace Mine

theorem bits6_b : ∀ b0 b1 b2 b3 b4 b5 : Bool, (b0.toNat + 2 * b1.toNat + 4 * b2.toNat + 8 * b3.toNat + 16 * b4.toNat + 32 * b5.toNat) < 64 ∧
    (b0.toNat + 2 * b1.toNat + 4 * b2.toNat + 8 * b3.toNat + 16 * b4.toNat + 32 * b5.toNat).testBit 0 = b0 ∧ (b0.toNat + 2 * b1.toNat + 4 * b2.toNat + 8 * b3.toNat + 16 * b4.toNat + 32 * b5.toNat).testBit 1 = b1 ∧
    (b0.toNat + 2 * b1.toNat + 4 * b2.toNat + 8 * b3.toNat + 16 * b4.toNat + 32 * b5.toNat).testBit 2 = b2 ∧ (b0.toNat + 2 * b1.toNat + 4 * b2.toNat + 8 * b3.toNat + 16 * b4.toNat + 32 * b5.toNat).testBit 3 = b3 ∧
    (b0.toNat + 2 * b1.toNat + 4 * b2.toNat + 8 * b3.toNat + 16 * b4.toNat + 32 * b5.toNat).testBit 4 = b4 ∧ (b0.toNat + 2 * b1.toNat + 4 * b2.toNat + 8 * b3.toNat + 16 * b4.toNat + 32 * b5.toNat).testBit 5 = b5 := by decide +kernel

theorem bits6 (f : Nat → Bool) : ∃ p, p < 64 ∧ ∀ m, m < 6 → p.testBit m = f m := by
  obtain ⟨h, h0, h1, h2, h3, h4, h5⟩ := bits6_b (f 0) (f 1) (f 2) (f 3) (f 4) (f 5)
  refine ⟨_, h, fun m hm => ?_⟩
  match m, hm with
  | 0, _ => exact h0
  | 1, _ => exact h1
  | 2, _ => exact h2
  | 3, _ => exact h3
  | 4, _ => exact h4
  | 5, _ => exact h5

theorem par_b : ∀ b0 b1 b2 b3 b4 b5 : Bool, ((((((((0 + b0.toNat) + b1.toNat) + b2.toNat) + b3.toNat) + b4.toNat) + b5.toNat) % 2 == 1)) = (((b0 ^^ b1) ^^ (b2 ^^ b3)) ^^ (b4 ^^ b5)) := by decide

theorem odd_of {f : Nat → Bool} {p : Nat} (h : ∀ m, m < 6 → p.testBit m = f m) : (cntK f 6 % 2 == 1) = oddOf p := by
  unfold oddOf
  rw [h 0 (by decide), h 1 (by decide), h 2 (by decide), h 3 (by decide), h 4 (by decide), h 5 (by decide)]
  exact par_b _ _ _ _ _ _

def slotS (a b : Int) (t : Nat) : Bool := if t < 9 then bitOf a t else if t < 18 then bitOf b (t - 9) else ((bitsOf a ++ bitsOf b).count (sg t) % 2 == 1)

theorem pre18 (a b : Int) : pre (slotS a b) 18 = bitsOf a ++ bitsOf b := by
  have e : List.range 18 = List.range 9 ++ (List.range 9).map (9 + ·) := by decide
  unfold pre bitsOf
  rw [e, List.filterMap_append, List.filterMap_map]
  congr 1

theorem pre21 (a b : Int) : pre (slotS a b) 21 = evenF (bitsOf a ++ bitsOf b) := by
  have s18 : slotS a b 18 = ((bitsOf a ++ bitsOf b).count (sg 18) % 2 == 1) := rfl
  have s19 : slotS a b 19 = ((bitsOf a ++ bitsOf b).count (sg 19) % 2 == 1) := rfl
  have s20 : slotS a b 20 = ((bitsOf a ++ bitsOf b).count (sg 20) % 2 == 1) := rfl
  rw [pre_succ, pre_succ, pre_succ, pre18, s18, s19, s20]
  unfold evenF
  have ek : kinds = [sg 18, sg 19, sg 20] := rfl
  rw [ek, List.append_assoc, List.append_assoc]
  generalize hb : bitsOf a ++ bitsOf b = bs
  congr 1
  rw [List.filter_cons, List.filter_cons, List.filter_cons, List.filter_nil]
  cases (bs.count (sg 18) % 2 == 1) <;> cases (bs.count (sg 19) % 2 == 1) <;> cases (bs.count (sg 20) % 2 == 1) <;> rfl

theorem slot_pattern (a b : Int) {c : Nat} (hc : c < 3) : ∃ p, p < 64 ∧ ∀ m, m < 7 → slotS a b (3 * m + c) = fP p m := by
  obtain ⟨p, hp, h⟩ := bits6 fun m => slotS a b (3 * m + c)
  refine ⟨p, hp, fun m hm => ?_⟩
  unfold fP
  by_cases h6 : m < 6
  · rw [if_pos h6, h m h6]
  · have : m = 6 := by omega
    subst this
    rw [if_neg h6, ← odd_of h]
    have e : slotS a b (3 * 6 + c) = ((bitsOf a ++ bitsOf b).count (sg (18 + c)) % 2 == 1) := by
      unfold slotS; rw [if_neg (by omega), if_neg (by omega)]
    have e2 : sg (18 + c) = sg c := by rw [sg_mod (18 + c), sg_mod c]; congr 1; omega
    rw [e, e2, ← pre18, pre_count _ hc]
    have : loc 18 c = 6 := by unfold loc; omega
    rw [this]

theorem fair_beads (a b : Int) : ∃ half i q, (evenF (bitsOf a ++ bitsOf b)).length = 2 * half ∧ half ≤ 15 ∧ i < half + 1 ∧ q < half + 1 ∧ fairAt (evenF (bitsOf a ++ bitsOf b)) i (i + q) (half + q) = true := by
  obtain ⟨p0, h0, e0⟩ := slot_pattern a b (c := 0) (by decide)
  obtain ⟨p1, h1, e1⟩ := slot_pattern a b (c := 1) (by decide)
  obtain ⟨p2, h2, e2⟩ := slot_pattern a b (c := 2) (by decide)
  have := fair_slots (slotS a b) h0 h1 h2 e0 e1 e2
  rw [pre21] at this
  exact this
theorem mem_beads (a b : Int) : ∀ y ∈ evenF (bitsOf a ++ bitsOf b), y ∈ kinds := by
  rw [← pre21]; exact pre_mem _ _
end Mine

namespace Mine
def mtOk (n : Nat) : Bool := (Txt.join (Str.ofString "") (modeChars (32768 + (n : Int)))).length == 10 && decide (bl (Txt.join (Str.ofString "") (modeChars (32768 + (n : Int)))) 10 = bitsOf (n : Int))
theorem mt0 : (List.range' 0 32).all mtOk = true := by decide +kernel
theorem mt1 : (List.range' 32 32).all mtOk = true := by decide +kernel
theorem mt2 : (List.range' 64 32).all mtOk = true := by decide +kernel
theorem mt3 : (List.range' 96 32).all mtOk = true := by decide +kernel
theorem mt4 : (List.range' 128 32).all mtOk = true := by decide +kernel
theorem mt5 : (List.range' 160 32).all mtOk = true := by decide +kernel
theorem mt6 : (List.range' 192 32).all mtOk = true := by decide +kernel
theorem mt7 : (List.range' 224 32).all mtOk = true := by decide +kernel
theorem mt8 : (List.range' 256 32).all mtOk = true := by decide +kernel
theorem mt9 : (List.range' 288 32).all mtOk = true := by decide +kernel
theorem mt10 : (List.range' 320 32).all mtOk = true := by decide +kernel
theorem mt11 : (List.range' 352 32).all mtOk = true := by decide +kernel
theorem mt12 : (List.range' 384 32).all mtOk = true := by decide +kernel
theorem mt13 : (List.range' 416 32).all mtOk = true := by decide +kernel
theorem mt14 : (List.range' 448 32).all mtOk = true := by decide +kernel
theorem mt15 : (List.range' 480 32).all mtOk = true := by decide +kernel
theorem mt_all {n : Nat} (h : n < 512) : mtOk n = true := by
  have key : ∀ s, (List.range' s 32).all mtOk = true → s ≤ n → n < s + 32 → mtOk n = true := fun s hs h1 h2 =>
    List.all_eq_true.mp hs n (List.mem_range'_1.mpr ⟨h1, h2⟩)
  have : n / 32 < 16 := by omega
  by_cases h0 : n < 32
  · exact key 0 mt0 (by omega) (by omega)
  by_cases h1 : n < 64
  · exact key 32 mt1 (by omega) (by omega)
  by_cases h2 : n < 96
  · exact key 64 mt2 (by omega) (by omega)
  by_cases h3 : n < 128
  · exact key 96 mt3 (by omega) (by omega)
  by_cases h4 : n < 160
  · exact key 128 mt4 (by omega) (by omega)
  by_cases h5 : n < 192
  · exact key 160 mt5 (by omega) (by omega)
  by_cases h6 : n < 224
  · exact key 192 mt6 (by omega) (by omega)
  by_cases h7 : n < 256
  · exact key 224 mt7 (by omega) (by omega)
  by_cases h8 : n < 288
  · exact key 256 mt8 (by omega) (by omega)
  by_cases h9 : n < 320
  · exact key 288 mt9 (by omega) (by omega)
  by_cases h10 : n < 352
  · exact key 320 mt10 (by omega) (by omega)
  by_cases h11 : n < 384
  · exact key 352 mt11 (by omega) (by omega)
  by_cases h12 : n < 416
  · exact key 384 mt12 (by omega) (by omega)
  by_cases h13 : n < 448
  · exact key 416 mt13 (by omega) (by omega)
  by_cases h14 : n < 480
  · exact key 448 mt14 (by omega) (by omega)
  by_cases h15 : n < 512
  · exact key 480 mt15 (by omega) (by omega)
  omega

theorem mode_text {a : Int} (h0 : 0 ≤ a) (h1 : a < 512) : ModeText a := by
  obtain ⟨n, rfl⟩ : ∃ n : Nat, a = (n : Int) := ⟨a.toNat, by omega⟩
  have h := mt_all (n := n) (by omega)
  unfold mtOk at h
  rw [Bool.and_eq_true, beq_iff_eq, decide_eq_true_eq] at h
  exact ⟨_, rfl, h.1, h.2⟩
end Mine


namespace Mine
theorem plain_law (a b : Int) (a0 : 0 ≤ a) (a1 : a < 512) (b0 : 0 ≤ b) (b1 : b < 512) : Plain a b := ⟨mode_text a0 a1, mode_text b0 b1, mem_beads a b, fair_beads a b⟩
end Mine

set_option maxHeartbeats 8000000 in
theorem PySem.Challenge.cw_oy0041_01_holds : PySem.Challenge.rw_oy0041_01.Holds :=
  hd (by
    w_strict (
      k_go0
      (with_reducible rename Fr _ _ _ _ => kF)
      (with_reducible rename News _ _ _ _ => kN)
      (with_reducible rename Top _ _ _ _ _ _ => kT)
      (with_reducible rename Frag.In _ _ => kX)
      (with_reducible rename IntsAre _ _ => kI)
      (with_reducible rename Heap.IsList _ _ _ => kL)
      (with_reducible rename ¬ (_ < _) => kC)
      (with_reducible rename Shared.gens _ = #[] => kG)
      refine Mine.law_ok Mine.plain_law ⟨rfl, of_decide_eq_true (by with_unfolding_all rfl), of_decide_eq_true (by with_unfolding_all rfl), rfl, ⟨kT.g, kT.b, kT.builtins, kT.nolimit, kX⟩, fun n => Mine.none_of_ge (Nat.le_add_right _ n)⟩ kF.keep kF.ns rfl kL kI (by omega)
        ⟨_, (kN _ (.tail _ (.tail _ (.tail _ (.head _))))).1, by assumption⟩ ⟨_, (kN _ (.tail _ (.tail _ (.head _)))).1, by assumption⟩ ⟨_, (kN _ (.tail _ (.head _))).1, by assumption⟩ ⟨_, (kN _ (.head _)).1, by assumption⟩ ?_
      intro h' tk hk
      refine ⟨.inl ⟨_, .bool true, [], rfl, raisesW_false ?_, .bool true, ?_, fun _ => ⟨List.nodup_nil, fun _ hm => by cases hm⟩⟩, hk, rfl, kG⟩
      · wrow_none_raised
      · first | wrow_post | kc_post))
