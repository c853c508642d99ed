import Derived.Test.Qxb6602514aTbC
set_option linter.unusedVariables false
namespace Go.Proofs.Qxb6602514a.Tb
open Go.RowKit

/-- The read op's word. -/
def rOp : ByteArray := ⟨#[114]⟩

/-- Word number k of the lines. -/
def wrd (S0 S1 : Nat → ByteArray) (k : Nat) : ByteArray := if k % 2 = 0 then S0 (k / 2) else S1 (k / 2)

/-- The kinds after k words: which word has which, and how many there are. -/
def kst (S0 S1 : Nat → ByteArray) : Nat → (ByteArray → Option Int) × Nat
  | 0 => (fput (fun _ => none) rOp 0, 2)
  | k + 1 => if ((kst S0 S1 k).1 (wrd S0 S1 k)).isSome then kst S0 S1 k else (fput (kst S0 S1 k).1 (wrd S0 S1 k) ((kst S0 S1 k).2 : Nat), (kst S0 S1 k).2 + 1)

structure KInv (W : Nat → ByteArray) (k : Nat) (f : ByteArray → Option Int) (c : Nat) : Prop where
  r : f rOp = some 0
  lo : 2 ≤ c
  hi : c ≤ 2 + k
  rng : ∀ s v, f s = some v → 0 ≤ v ∧ v < (c : Int) ∧ v ≠ 1
  inj : ∀ s t v, f s = some v → f t = some v → s = t
  mem : ∀ j, j < k → (f (W j)).isSome = true
  only : ∀ s v, f s = some v → s = rOp ∨ ∃ j, j < k ∧ s = W j

theorem kst_inv (S0 S1 : Nat → ByteArray) (k : Nat) : KInv (wrd S0 S1) k (kst S0 S1 k).1 (kst S0 S1 k).2 := by
  induction k with
  | zero =>
    refine ⟨by simp [kst, fput], by simp [kst], by simp [kst], fun s v h => ?_, fun s t v h1 h2 => ?_, fun j hj => by omega, fun s v h => ?_⟩
    · simp [kst, fput] at h
      simp [kst]
      omega
    · simp [kst, fput] at h1 h2
      rw [h1.1, h2.1]
    · simp [kst, fput] at h
      exact .inl h.1
  | succ k ih =>
    obtain ⟨f, hf⟩ : ∃ f, (kst S0 S1 k).1 = f := ⟨_, rfl⟩
    obtain ⟨c, hc⟩ : ∃ c, (kst S0 S1 k).2 = c := ⟨_, rfl⟩
    rw [hf, hc] at ih
    by_cases h : (f (wrd S0 S1 k)).isSome = true
    · have e : kst S0 S1 (k + 1) = kst S0 S1 k := by rw [kst, if_pos (by rw [hf]; exact h)]
      rw [e, hf, hc]
      refine ⟨ih.r, ih.lo, by have := ih.hi; omega, ih.rng, ih.inj, fun j hj => ?_, fun s v hs => ?_⟩
      · by_cases e : j = k
        · subst e; exact h
        · exact ih.mem j (by omega)
      · rcases ih.only s v hs with h | ⟨j, h1, h2⟩
        · exact .inl h
        · exact .inr ⟨j, by omega, h2⟩
    · have e : kst S0 S1 (k + 1) = (fput f (wrd S0 S1 k) (c : Nat), c + 1) := by rw [kst, if_neg (by rw [hf]; exact h), hf, hc]
      have hn : f (wrd S0 S1 k) = none := by simpa using h
      rw [e]
      refine ⟨?_, by have := ih.lo; simp; omega, by have := ih.hi; simp; omega, fun s v hs => ?_, fun s t v h1 h2 => ?_, fun j hj => ?_, fun s v hs => ?_⟩
      · have : rOp ≠ wrd S0 S1 k := fun e => by rw [← e, ih.r] at hn; cases hn
        simp [fput, this, ih.r]
      · have := ih.lo
        by_cases e : s = wrd S0 S1 k
        · simp [fput, e] at hs
          simp; omega
        · simp [fput, e] at hs
          have := ih.rng s v hs
          simp; omega
      · by_cases e1 : s = wrd S0 S1 k
        · by_cases e2 : t = wrd S0 S1 k
          · rw [e1, e2]
          · simp [fput, e1] at h1
            simp [fput, e2] at h2
            have := ih.rng t v h2
            omega
        · by_cases e2 : t = wrd S0 S1 k
          · simp [fput, e1] at h1
            simp [fput, e2] at h2
            have := ih.rng s v h1
            omega
          · simp [fput, e1] at h1
            simp [fput, e2] at h2
            exact ih.inj s t v h1 h2
      · by_cases e : j = k
        · subst e; simp [fput]
        · by_cases e2 : wrd S0 S1 j = wrd S0 S1 k
          · simp [fput, e2]
          · simp [fput, e2]; simpa using ih.mem j (by omega)
      · by_cases e1 : s = wrd S0 S1 k
        · exact .inr ⟨k, by omega, e1⟩
        · simp [fput, e1] at hs
          rcases ih.only s v hs with h | ⟨j, h1, h2⟩
          · exact .inl h
          · exact .inr ⟨j, by omega, h2⟩

/-- The swaps after k lines: x, y: the kinds of a line's two words. -/
def swp (x y : Nat → Int) : Nat → Int → Int → Bool
  | 0 => fun _ _ => false
  | k + 1 => gput (swp x y k) (x k) (y k)

theorem swp_iff (x y : Nat → Int) (k : Nat) (a b : Int) : swp x y k a b = true ↔ ∃ i, i < k ∧ x i = a ∧ y i = b := by
  induction k with
  | zero => simp [swp]
  | succ k ih =>
    simp only [swp, gput]
    by_cases e : a = x k ∧ b = y k
    · rw [if_pos e]
      simp
      exact ⟨k, by omega, e.1.symm, e.2.symm⟩
    · rw [if_neg e, ih]
      constructor
      · rintro ⟨i, h1, h2⟩; exact ⟨i, by omega, h2⟩
      · rintro ⟨i, h1, h2, h3⟩
        refine ⟨i, ?_, h2, h3⟩
        rcases Nat.lt_or_ge i k with h | h
        · exact h
        · have : i = k := by omega
          subst this
          exact absurd ⟨h2.symm, h3.symm⟩ e

theorem swp_turn (x y : Nat → Int) (k : Nat) (a b : Int) : swp y x k b a = swp x y k a b := by
  rw [Bool.eq_iff_iff, swp_iff, swp_iff]
  constructor
  · rintro ⟨i, h1, h2, h3⟩; exact ⟨i, h1, h3, h2⟩
  · rintro ⟨i, h1, h2, h3⟩; exact ⟨i, h1, h3, h2⟩

/-- Does kind a conflict with a later kind b? -/
def cfl (g : Int → Int → Bool) (a b : Nat) : Bool := (a != 0 || b != 0) && !(g a b)

theorem run_makeMap_hint {P : Program} (t k e : TypeId) (ht : P.underlying t = some (.map k e)) (q : IntKind) (n : Nat) (w : World) : (Instr.makeMap t (some (.int q (n : Int)))).run P w = .ok (.map (some w.heap.size)) (w.alloc (.map #[] 0)) := by
  simp [Instr.makeMap, run_underlying ht, asInt, asIntOf, Result.andThen]

/-- A store into the pairs' map, for the walk. -/
theorem wpList_PM (w : World) {ops : Array Oper} {rest : List Oper} {o : Oper} {a : Act} {Q : Exit → Act → World → Prop}
    (hg : o.guard = none) (m x v : Operand) (hop : o.op = Op.mapUpdate 117 m x v) (b n : Nat) (g : Int → Int → Bool) (hm : a.eval m = .map (some b)) (hP : PM w b n g) (hn : n < maxLen)
    (p q : Int) (hx : a.eval x = .agg #[.int .i32 p, .int .i32 q]) (hv : a.eval v = .bool true) (hp : (Lit.int .i32 p).wf = true) (hq : (Lit.int .i32 q).wf = true)
    (hK : ∀ w', PM w' b (n + 1) (gput g p q) → w.mapTurned w' b → wpList Try.prog ops Q rest (a.put o.dst undef) w') :
    wpList Try.prog ops Q (o :: rest) a w := by
  refine wpList_plain hg fun K' hK' => ?_
  obtain ⟨w', hrun, r1, r2⟩ := hP.put hn hp hq
  unfold Oper.wp
  simp [execOp, hop, hm, hx, hv, hrun, Result.andThen]
  exact hK' _ _ (hK w' r1 r2)

end Go.Proofs.Qxb6602514a.Tb
