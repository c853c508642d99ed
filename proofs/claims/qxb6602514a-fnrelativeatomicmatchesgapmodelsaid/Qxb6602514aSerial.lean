import Derived.Test.Qxb6602514aClone
import Derived.Deep.QuietTactic
import Derived.BigQuiet
import Derived.RegionTactic
namespace Go.Proofs.Qxb6602514a
open Go.RowKit

/-- Step l comes behind a step of the same kind that has been left. -/
def BadAt (zs : List Int) (l : Nat) : Prop := ∃ j, j + 1 ≤ l ∧ zs.getD j 0 = zs.getD l 0 ∧ zs.getD (j + 1) 0 ≠ zs.getD l 0
def SerialP (zs : List Int) : Prop := ∀ l, l < zs.length → ¬ BadAt zs l

/-- What 'done' says ahead of round k. -/
def DoneP (zs : List Int) (k : Nat) (x : Int) : Prop := ∃ j, j + 1 < k ∧ zs.getD j 0 = x ∧ zs.getD (j + 1) 0 ≠ x

/-- A row of bools. -/
def BRow (w : World) (b : Nat) (e : TypeId) (bs : List Bool) : Prop := Row w b e (bs.map Value.bool)
theorem BRow.cell {w : World} {b : Nat} {e : TypeId} {zs : List Bool} (h : BRow w b e zs) (i : Nat) (hi : i < zs.length) : w.cell? ⟨b, i, none⟩ = some (.bool (zs.getD i false)) := by
  rw [Row.cell h]; simp [List.getD, hi]
theorem BRow.set {w : World} {b : Nat} {e : TypeId} {zs : List Bool} (h : BRow w b e zs) (i : Nat) (v : Bool) : BRow (w.setCell ⟨b, i, none⟩ (.bool v)) b e (zs.set i v) := by
  have := Row.set h i (.bool v)
  unfold BRow
  rwa [List.map_set]

theorem zero70 : Try.zeroCells70.toList = (List.replicate 256 false).map Value.bool := by kernel_rfl

theorem rep_false (x m : Nat) : (List.replicate m false).getD x false = false := by
  by_cases h : x < m <;> simp [List.getD, h]
theorem DoneP_zero (zs : List Int) (x : Int) : ¬ DoneP zs 0 x := by rintro ⟨j, hj, _⟩; omega
theorem DoneP_one (zs : List Int) (x : Int) : ¬ DoneP zs 1 x := by rintro ⟨j, hj, _⟩; omega
/-- The next round's 'done', where the step changes. -/
theorem DoneP_step (zs : List Int) (k : Nat) (x : Int) : DoneP zs (k + 2) x ↔ DoneP zs (k + 1) x ∨ (zs.getD k 0 = x ∧ zs.getD (k + 1) 0 ≠ x) := by
  constructor
  · rintro ⟨j, hj, h1, h2⟩
    by_cases e : j = k
    · subst e; exact .inr ⟨h1, h2⟩
    · exact .inl ⟨j, by omega, h1, h2⟩
  · rintro (⟨j, hj, h1, h2⟩ | ⟨h1, h2⟩)
    · exact ⟨j, by omega, h1, h2⟩
    · exact ⟨k, by omega, h1, h2⟩
theorem bad_iff (zs : List Int) (k : Nat) : BadAt zs k ↔ DoneP zs (k + 1) (zs.getD k 0) := by
  constructor
  · rintro ⟨j, hj, h1, h2⟩
    exact ⟨j, by omega, h1, h2⟩
  · rintro ⟨j, hj, h1, h2⟩
    exact ⟨j, by omega, h1, h2⟩

set_option maxRecDepth 100000 in
theorem serial_any (a : Option Addr) (b n c : Nat) (zs : List Int) (w : World) (hn : n ≤ 1048576) (hl : zs.length = n) (ha : 0 < n → a = some ⟨b, 0, none⟩ ∧ IRow .u8 w b 5 zs) (hz : ∀ j, j < n → 0 ≤ zs.getD j 0 ∧ zs.getD j 0 < 256) :
    Calls Try.prog 20 #[.slice a n c] w fun e w' => ∃ r : Bool, e = .returned (.bool r) ∧ (r = true ↔ SerialP zs) ∧ Below w.heap.size w w' := by
  go_enter Try.func20, Try.ntmps20
  go_wp2
  go_loopw [4] (fun i wr => ∃ k : Nat, k ≤ n ∧ i = .int .i64 k ∧ Below w.heap.size w wr ∧ (∀ l, l < k → ¬ BadAt zs l) ∧ ∃ ds : List Bool, ds.length = 256 ∧ BRow wr w.heap.size 70 ds ∧ ∀ x : Nat, x < 256 → (ds.getD x false = true ↔ DoneP zs k x)) (fun i _ => n - (intOf i).toNat)
  case atStart =>
    refine ⟨0, Nat.zero_le _, rfl, (Below.refl _ _).alloc (Nat.le_refl _) _, fun l h => by omega, List.replicate 256 false, by simp, ?_, ?_⟩
    · unfold BRow; rw [← zero70]; exact Row.alloc_new _ _ _
    · intro x hx
      have h0 := DoneP_zero zs x
      rw [rep_false]; simp [h0]
  case round =>
    obtain ⟨k, hk, rfl, hbr, hok, ds, hdl, hdr, hds⟩ := hrel
    by_cases hlt : k < n
    · obtain ⟨rfl, hb⟩ := ha (by omega)
      have hblt := Row.lt hb
      obtain ⟨xk, hxk⟩ : ∃ x : Nat, zs.getD k 0 = x := ⟨(zs.getD k 0).toNat, by have := hz k hlt; omega⟩
      have hxk2 : xk < 256 := by have := hz k hlt; omega
      have g1 : wr.cell? ⟨b, k, none⟩ = some (.int .u8 xk) := by rw [← hxk]; exact (hbr.cell (by exact hblt)).trans (hb.cell k (by omega))
      have hbad := bad_iff zs k
      rw [hxk] at hbad
      have HB : Hid (BadAt zs k ↔ DoneP zs (k + 1) xk) := hbad
      have HX : Hid (zs.getD k 0 = xk) := hxk
      clear hbad hxk
      have f4 := Row.frozen hdr
      by_cases h0 : k = 0
      · subst h0
        have hd : decide ((0:Int) < ((0 : Nat) : Int)) = false := by simp
        have g4 := hdr.cell xk (by omega)
        have hf : ds.getD xk false = false := by
          have := hds xk hxk2
          have h1 := DoneP_zero zs xk
          simpa [h1] using this
        rw [hf] at g4
        go_wp2
        go_quiet (fail)
        go_wp2
        go_roundw
        case rel =>
          refine ⟨1, by omega, by go_num, below_drewN hbr _, ?_, ds, hdl, hdr, ?_⟩
          · intro l hl' 
            have : l = 0 := by omega
            subst this
            rw [HB.out]; exact DoneP_one zs _
          · intro x hx
            have h1 := DoneP_zero zs x
            have h2 := DoneP_one zs x
            have := hds x hx
            simp only [h1, h2] at this ⊢
            exact this
        case measure => simp [intOf]; omega
      · obtain ⟨m, rfl⟩ : ∃ m, k = m + 1 := ⟨k - 1, by omega⟩
        obtain ⟨ym, hym⟩ : ∃ x : Nat, zs.getD m 0 = x := ⟨(zs.getD m 0).toNat, by have := hz m (by omega); omega⟩
        have hym2 : ym < 256 := by have := hz m (by omega); omega
        have g0 : wr.cell? ⟨b, m, none⟩ = some (.int .u8 ym) := by rw [← hym]; exact (hbr.cell (by exact hblt)).trans (hb.cell m (by omega))
        have HY : Hid (zs.getD m 0 = ym) := hym
        clear hym
        have g4 := hdr.cell xk (by omega)
        have hi1 : (1 : Int) ≤ ((m + 1 : Nat) : Int) := by omega
        by_cases hxy : xk = ym
        · subst hxy
          have step : ∀ x : Nat, DoneP zs (m + 2) x ↔ DoneP zs (m + 1) x := by
            intro x
            rw [DoneP_step, HX.out, HY.out]
            constructor
            · rintro (h | ⟨h1, h2⟩)
              · exact h
              · exact absurd h1 h2
            · exact .inl
          by_cases hdx : ds.getD xk false = true
          · rw [hdx] at g4
            have HD : Hid (ds.getD xk false = true) := hdx
            clear hdx
            go_wp2
            go_quiet (fail)
            go_wp2
            go_ret
            refine ⟨false, rfl, ?_, below_drewN hbr _⟩
            simp only [Bool.false_eq_true, false_iff]
            intro hs
            exact hs (m + 1) (by omega) (HB.out.2 ((step _).2 ((hds xk hxk2).1 HD.out)))
          · have hdx' : ds.getD xk false = false := by simpa using hdx
            rw [hdx'] at g4
            have HD : Hid (ds.getD xk false = false) := hdx'
            clear hdx hdx'
            go_wp2
            go_quiet (fail)
            go_wp2
            go_roundw
            case rel =>
              refine ⟨m + 2, by omega, by go_num, below_drewN hbr _, ?_, ds, hdl, hdr, ?_⟩
              · intro l hl'
                by_cases e : l = m + 1
                · subst e
                  rw [HB.out, step, ← hds xk hxk2, HD.out]; simp
                · exact hok l (by omega)
              · intro x hx
                rw [step]; exact hds x hx
            case measure => simp [intOf]; omega
        · have step : ∀ x : Nat, DoneP zs (m + 2) x ↔ DoneP zs (m + 1) x ∨ ym = x := by
            intro x
            rw [DoneP_step, HX.out, HY.out]
            constructor
            · rintro (h | ⟨h1, h2⟩)
              · exact .inl h
              · exact .inr (by omega)
            · rintro (h | h)
              · exact .inl h
              · subst h; exact .inr ⟨rfl, by omega⟩
          have g5 := hdr.cell ym (by omega)
          by_cases hdx : ds.getD xk false = true
          · rw [hdx] at g4
            have HD : Hid (ds.getD xk false = true) := hdx
            clear hdx
            go_wp2
            go_quiet (fail)
            go_wp2
            go_ret
            refine ⟨false, rfl, ?_, (below_drewN hbr _).setCell (by simp) _⟩
            simp only [Bool.false_eq_true, false_iff]
            intro hs
            exact hs (m + 1) (by omega) (HB.out.2 ((step _).2 (.inl ((hds xk hxk2).1 HD.out))))
          · have hdx' : ds.getD xk false = false := by simpa using hdx
            rw [hdx'] at g4
            have HD : Hid (ds.getD xk false = false) := hdx'
            clear hdx hdx'
            go_wp2
            go_quiet (fail)
            go_wp2
            go_roundw
            case rel =>
              refine ⟨m + 2, by omega, by go_num, (below_drewN hbr _).setCell (by simp) _, ?_, ds.set ym true, by simpa using hdl, hdr.set ym true, ?_⟩
              · intro l hl'
                by_cases e : l = m + 1
                · subst e
                  rw [HB.out, step, ← hds xk hxk2, HD.out]; simp; omega
                · exact hok l (by omega)
              · intro x hx
                rw [step, ← hds x hx]
                by_cases e : ym = x
                · subst e; simp [List.getD, hdl, hym2]
                · simp [List.getD, e]
            case measure => simp [intOf]; omega
    · go_wp2
      go_ret
      exact ⟨true, rfl, by simp; intro l hl'; exact hok l (by omega), hbr⟩

end Go.Proofs.Qxb6602514a
