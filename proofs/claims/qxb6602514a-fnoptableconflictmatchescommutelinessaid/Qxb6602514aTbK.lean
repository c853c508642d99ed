import Derived.Test.Qxb6602514aTbM
import Derived.Laws.Bits64b
set_option linter.unusedVariables false
namespace Go.Proofs.Qxb6602514a.Tb
open Go.RowKit

theorem tbit (x b : Nat) (hx : x < 18446744073709551616) : (bits BinOp.and IntKind.u64 ((x : Int) / 2 ^ b) 1 == 1) = x.testBit b := by
  have h1 : (x : Int) / 2 ^ b = ((x / 2 ^ b : Nat) : Int) := by simp
  have h2 : x / 2 ^ b < 18446744073709551616 := Nat.lt_of_le_of_lt (Nat.div_le_self _ _) hx
  have h3 := bits_and_u64_nat (x / 2 ^ b) 1 h2 (by omega)
  rw [h1]
  have h4 : bits BinOp.and IntKind.u64 ((x / 2 ^ b : Nat) : Int) 1 = ((x / 2 ^ b % 2 : Nat) : Int) := by
    rw [← Nat.and_one_is_mod]; exact h3
  rw [h4, Nat.testBit_eq_decide_div_mod_eq]
  generalize x / 2 ^ b % 2 = q
  by_cases e : q = 1
  · subst e; rfl
  · have : ¬ ((q : Int) = 1) := by omega
    simp [e, this]

theorem pow_lt (b : Nat) (hb : b < 64) : 2 ^ b < 18446744073709551616 := by
  have := Nat.pow_lt_pow_right (a := 2) (by omega) hb
  simpa using this

theorem orb (x b : Nat) (hx : x < 18446744073709551616) (hb : b < 64) : bits BinOp.or IntKind.u64 (x : Int) (IntKind.u64.wrap (2 ^ b)) = ((x ||| 2 ^ b : Nat) : Int) := by
  have h1 : (2 : Int) ^ b = ((2 ^ b : Nat) : Int) := by simp
  have h2 := pow_lt b hb
  rw [h1, IntKind.wrap_u64]
  have h3 : ((2 ^ b : Nat) : Int) % 18446744073709551616 = ((2 ^ b : Nat) : Int) := by
    generalize 2 ^ b = q at h2; omega
  rw [h3]
  exact bits_or_u64_nat x (2 ^ b) hx h2

theorem or_lt (x b : Nat) (hx : x < 18446744073709551616) (hb : b < 64) : x ||| 2 ^ b < 18446744073709551616 := by
  have := Nat.or_lt_two_pow (n := 64) (x := x) (y := 2 ^ b) (by simpa using hx) (by have := pow_lt b hb; simpa using this)
  simpa using this

theorem or_bit (x b j : Nat) : (x ||| 2 ^ b).testBit j = (x.testBit j || j == b) := by
  rw [Nat.testBit_or, Nat.testBit_two_pow]
  by_cases e : b = j
  · subst e; simp
  · simp [e, show ¬ j = b by omega]

theorem has_lo (x b : Nat) (oa : Option Addr) (nh : Nat) (w : World) (hb : b < 64) (hx : x < 18446744073709551616) :
    Calls Try.prog 51 #[.int .u64 x, .slice oa nh nh, .int .i64 b] w fun e w' => e = .returned (.bool (x.testBit b)) ∧ w' = w := by
  go_enter Try.func51, Try.ntmps51
  go_wp2
  go_ret
  refine ⟨?_, rfl⟩
  simp only [tbit x b hx]
  rfl

theorem has_hi (x b : Nat) (g nh : Nat) (lo : Int) (w : World) (hb : 64 ≤ b) (hb2 : b < 600) (hx : x < 18446744073709551616) (hn : b / 64 - 1 < nh) (hc : w.cell? ⟨g, b / 64 - 1, none⟩ = some (.int .u64 x)) :
    Calls Try.prog 51 #[.int .u64 lo, .slice (some ⟨g, 0, none⟩) nh nh, .int .i64 b] w fun e w' => e = .returned (.bool (x.testBit (b % 64))) ∧ w' = w := by
  go_enter Try.func51, Try.ntmps51
  go_wp2
  go_ret
  refine ⟨?_, rfl⟩
  simp only [tbit x (b % 64) hx]
  rfl

theorem add_lo (x b : Nat) (B off : Nat) (w : World) (hb : b < 64) (hx : x < 18446744073709551616) (c0 : w.cell? ⟨B, off, none⟩ = some (.int .u64 x)) (f0 : w.frozen? ⟨B, off, none⟩ = false) :
    Calls Try.prog 57 #[.pointer (some ⟨B, off, none⟩), .int .i32 b] w fun e w' => e = .returned (.tuple #[]) ∧ w' = (w.setCell ⟨B, off, none⟩ (.int .u64 ((x ||| 2 ^ b : Nat) : Int))).drew := by
  go_enter Try.func57, Try.ntmps57
  go_wp2
  go_region
  rw [orb x b hx hb]
  go_end0
  exact ⟨rfl, rfl⟩

set_option maxRecDepth 100000 in
theorem add_hi (x b : Nat) (B off g nh : Nat) (w : World) (hb : 64 ≤ b) (hb2 : b < 600) (hx : x < 18446744073709551616) (hn : b / 64 - 1 < nh) (c0 : w.cell? ⟨B, off + 1, none⟩ = some (.slice (some ⟨g, 0, none⟩) nh nh)) (hc : w.cell? ⟨g, b / 64 - 1, none⟩ = some (.int .u64 x)) (f0 : w.frozen? ⟨g, b / 64 - 1, none⟩ = false) :
    Calls Try.prog 57 #[.pointer (some ⟨B, off, none⟩), .int .i32 b] w fun e w' => e = .returned (.tuple #[]) ∧ w' = (w.setCell ⟨g, b / 64 - 1, none⟩ (.int .u64 ((x ||| 2 ^ (b % 64) : Nat) : Int))).drew := by
  have i1 : (64 : Int) ≤ (b : Int) := by omega
  have i2 : (b : Int) < 600 := by omega
  have i3 : (b : Int) / 64 - 1 < (nh : Int) := by omega
  have i4 : (0 : Int) ≤ (b : Int) / 64 - 1 := by omega
  go_enter Try.func57, Try.ntmps57
  go_wp2
  go_region
  rw [orb x (b % 64) hx (by omega)]
  go_end0
  exact ⟨rfl, rfl⟩


/-- A set of kinds lies at (b, off), its high words at h: j is in it just if P j. -/
def SetAt (w : World) (b off h nh : Nat) (P : Nat → Bool) : Prop := ∃ (lo : Nat) (oa : Option Addr), lo < 18446744073709551616 ∧ w.cell? ⟨b, off, none⟩ = some (.int .u64 lo) ∧ w.frozen? ⟨b, off, none⟩ = false ∧ w.cell? ⟨b, off + 1, none⟩ = some (.slice oa nh nh) ∧ (0 < nh → oa = some ⟨h, 0, none⟩) ∧
  (∀ j, j < 64 → lo.testBit j = P j) ∧ ∀ j, j < nh → ∃ x : Nat, x < 18446744073709551616 ∧ w.cell? ⟨h, j, none⟩ = some (.int .u64 x) ∧ w.frozen? ⟨h, j, none⟩ = false ∧ ∀ i, i < 64 → x.testBit i = P (64 * (j + 1) + i)

theorem frozenOf {w wr : World} {a : Addr} {v : Value} (h : w.cell? a = some v) (hf : w.frozen? a = false) (hb : Below w.heap.size w wr) : wr.frozen? a = false := by
  have := hb.block a.block (World.block_lt_of_cell? w a h)
  rw [← hf]
  unfold World.frozen?
  rw [this]

theorem SetAt.below {w w' : World} {b off h nh : Nat} {P : Nat → Bool} (hs : SetAt w b off h nh P) (hb : Below w.heap.size w w') : SetAt w' b off h nh P := by
  obtain ⟨lo, oa, h1, h2, h3, h4, h5, h6, h7⟩ := hs
  refine ⟨lo, oa, h1, cellOf h2 hb, frozenOf h2 h3 hb, cellOf h4 hb, h5, h6, fun j hj => ?_⟩
  obtain ⟨x, x1, x2, x3, x4⟩ := h7 j hj
  exact ⟨x, x1, cellOf x2 hb, frozenOf x2 x3 hb, x4⟩

theorem SetAt.drew {w : World} {b off h nh : Nat} {P : Nat → Bool} (hs : SetAt w b off h nh P) : SetAt w.drew b off h nh P := hs

theorem SetAt.other {w : World} {b off h nh : Nat} {P : Nat → Bool} (hs : SetAt w b off h nh P) {p : Addr} (v : Value) (h1 : p ≠ ⟨b, off, none⟩) (h2 : p ≠ ⟨b, off + 1, none⟩) (h3 : ∀ j, j < nh → p ≠ ⟨h, j, none⟩) : SetAt (w.setCell p v) b off h nh P := by
  obtain ⟨lo, oa, k1, k2, k3, k4, k5, k6, k7⟩ := hs
  refine ⟨lo, oa, k1, ?_, ?_, ?_, k5, k6, fun j hj => ?_⟩
  · rw [World.cell?_setCell_other _ _ _ _ h1]; exact k2
  · rw [World.frozen?_setCell]; exact k3
  · rw [World.cell?_setCell_other _ _ _ _ h2]; exact k4
  · obtain ⟨x, x1, x2, x3, x4⟩ := k7 j hj
    refine ⟨x, x1, ?_, ?_, x4⟩
    · rw [World.cell?_setCell_other _ _ _ _ (h3 j hj)]; exact x2
    · rw [World.frozen?_setCell]; exact x3

theorem SetAt.far {w : World} {b off h nh : Nat} {P : Nat → Bool} (hs : SetAt w b off h nh P) {p : Addr} (v : Value) (h1 : p.block ≠ b) (h3 : p.block ≠ h) : SetAt (w.setCell p v) b off h nh P :=
  hs.other v (fun e => h1 (by rw [e])) (fun e => h1 (by rw [e])) (fun j _ e => h3 (by rw [e]))

theorem SetAt.congr {w : World} {b off h nh : Nat} {P Q : Nat → Bool} (hs : SetAt w b off h nh P) (he : ∀ j, P j = Q j) : SetAt w b off h nh Q := by
  have : P = Q := funext he
  rw [← this]; exact hs

theorem has_any (w : World) (b off h nh : Nat) (P : Nat → Bool) (k lo : Nat) (oa : Option Addr) (hs : SetAt w b off h nh P) (c0 : w.cell? ⟨b, off, none⟩ = some (.int .u64 lo)) (c1 : w.cell? ⟨b, off + 1, none⟩ = some (.slice oa nh nh)) (hk : k < 64 * (nh + 1)) (hk2 : k < 600) :
    Calls Try.prog 51 #[.int .u64 lo, .slice oa nh nh, .int .i64 k] w fun e w' => e = .returned (.bool (P k)) ∧ w' = w := by
  obtain ⟨lo', oa', k1, k2, k3, k4, k5, k6, k7⟩ := hs
  rw [c0] at k2
  rw [c1] at k4
  simp at k2 k4
  subst k4
  have : lo = lo' := by omega
  subst this
  by_cases hb : k < 64
  · rw [← k6 k hb]
    exact has_lo lo k oa nh w hb k1
  · obtain ⟨x, x1, x2, x3, x4⟩ := k7 (k / 64 - 1) (by omega)
    have h4 := x4 (k % 64) (by omega)
    rw [show 64 * (k / 64 - 1 + 1) + k % 64 = k by omega] at h4
    rw [← h4, k5 (by omega)]
    exact has_hi x k h nh lo w (by omega) hk2 x1 (by omega) x2

/-- p is a word of the set. -/
def WordOf (p : Addr) (b off h nh : Nat) : Prop := p = ⟨b, off, none⟩ ∨ ∃ j, j < nh ∧ p = ⟨h, j, none⟩

theorem add_any (w : World) (b off h nh k : Nat) (P : Nat → Bool) (hs : SetAt w b off h nh P) (hbh : b ≠ h) (hk : k < 64 * (nh + 1)) (hk2 : k < 600) :
    Calls Try.prog 57 #[.pointer (some ⟨b, off, none⟩), .int .i32 k] w fun e w' => e = .returned (.tuple #[]) ∧ ∃ p v, WordOf p b off h nh ∧ w' = (w.setCell p v).drew ∧ SetAt w' b off h nh (fun j => P j || j == k) := by
  obtain ⟨lo, oa, k1, k2, k3, k4, k5, k6, k7⟩ := hs
  by_cases hb : k < 64
  · refine (add_lo lo k b off w hb k1 k2 k3).mono ?_
    rintro e w' ⟨rfl, rfl⟩
    refine ⟨rfl, _, _, .inl rfl, rfl, ⟨lo ||| 2 ^ k, oa, or_lt lo k k1 hb, ?_, ?_, ?_, k5, fun j hj => by rw [or_bit, k6 j hj], fun j hj => ?_⟩⟩
    · exact World.cell?_setCell_same _ _ _ k2
    · show (w.setCell _ _).frozen? _ = false
      rw [World.frozen?_setCell]; exact k3
    · show (w.setCell _ _).cell? _ = _
      rw [World.cell?_setCell_other _ _ _ _ (by simp)]; exact k4
    · obtain ⟨x, x1, x2, x3, x4⟩ := k7 j hj
      refine ⟨x, x1, ?_, ?_, fun i hi => ?_⟩
      · show (w.setCell _ _).cell? _ = _
        rw [World.cell?_setCell_other _ _ _ _ (by intro e; apply hbh; have := congrArg Addr.block e; simp at this; omega)]; exact x2
      · show (w.setCell _ _).frozen? _ = false
        rw [World.frozen?_setCell]; exact x3
      · rw [x4 i hi]
        have : ¬ (64 * (j + 1) + i = k) := by omega
        simp [this]
  · have hj0 : k / 64 - 1 < nh := by omega
    obtain ⟨x, x1, x2, x3, x4⟩ := k7 (k / 64 - 1) hj0
    have k4' := k4
    rw [k5 (by omega)] at k4'
    refine (add_hi x k b off h nh w (by omega) hk2 x1 hj0 k4' x2 x3).mono ?_
    rintro e w' ⟨rfl, rfl⟩
    refine ⟨rfl, _, _, .inr ⟨_, hj0, rfl⟩, rfl, ⟨lo, oa, k1, ?_, ?_, ?_, k5, fun j hj => ?_, fun j hj => ?_⟩⟩
    · show (w.setCell _ _).cell? _ = _
      rw [World.cell?_setCell_other _ _ _ _ (by intro e; apply hbh; have := congrArg Addr.block e; simp at this; omega)]; exact k2
    · show (w.setCell _ _).frozen? _ = false
      rw [World.frozen?_setCell]; exact k3
    · show (w.setCell _ _).cell? _ = _
      rw [World.cell?_setCell_other _ _ _ _ (by intro e; apply hbh; have := congrArg Addr.block e; simp at this; omega)]; exact k4
    · rw [k6 j hj]
      have : ¬ (j = k) := by omega
      simp [this]
    · by_cases e : j = k / 64 - 1
      · subst e
        refine ⟨x ||| 2 ^ (k % 64), or_lt x _ x1 (by omega), ?_, ?_, fun i hi => ?_⟩
        · exact World.cell?_setCell_same _ _ _ x2
        · show (w.setCell _ _).frozen? _ = false
          rw [World.frozen?_setCell]; exact x3
        · rw [or_bit, x4 i hi]
          have e2 : (i == k % 64) = (64 * (k / 64 - 1 + 1) + i == k) := by
            rw [Bool.eq_iff_iff]
            simp only [beq_iff_eq]
            omega
          rw [e2]
      · obtain ⟨y, y1, y2, y3, y4⟩ := k7 j hj
        refine ⟨y, y1, ?_, ?_, fun i hi => ?_⟩
        · show (w.setCell _ _).cell? _ = _
          rw [World.cell?_setCell_other _ _ _ _ (by intro e'; have := congrArg Addr.off e'; simp at this; omega)]; exact y2
        · show (w.setCell _ _).frozen? _ = false
          rw [World.frozen?_setCell]; exact y3
        · rw [y4 i hi]
          have : ¬ (64 * (j + 1) + i = k) := by omega
          simp [this]

end Go.Proofs.Qxb6602514a.Tb
