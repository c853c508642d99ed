import Derived.Test.Qxb6604003aBd
import Derived.OpenShut
import Derived.ProofKit
import Derived.WalkKit
import Derived.Deep.Matrix
set_option linter.unusedVariables false
namespace Go.Proofs.Qxb6604003a
open Go.RowKit Go.ChangeShapes Go.WideShapes

def toB (zs : List Int) (len : Nat) : List UInt8 := (zs.take len).map fun z => UInt8.ofNat z.toNat

theorem toB_len (zs : List Int) (len : Nat) (h : len ≤ zs.length) : (toB zs len).length = len := by simp [toB]; omega
theorem toB_at (zs : List Int) (len i : Nat) (hi : i < len) (hl : len ≤ zs.length) (hw : ∀ n ∈ zs, (Lit.int .u8 n).wf = true) : ((((toB zs len).getD i 0).toNat : Nat) : Int) = zs.getD i 0 := by
  have h1 := range_u8 hw i
  have hz : zs.getD i 0 = zs[i]?.getD 0 := List.getD_eq_getElem?_getD
  have hb : (toB zs len).getD i 0 = UInt8.ofNat (zs.getD i 0).toNat := by
    have hi2 : i < zs.length := by omega
    rw [List.getD_eq_getElem?_getD, toB, List.getElem?_map, List.getElem?_take, if_pos hi, List.getElem?_eq_getElem hi2]
    simp [List.getD, hi2]
  rw [hb, hz, UInt8.toNat_ofNat']
  omega

theorem bs_mk {w : World} {x : Addr} {len cap : Nat} {zs : List Int} (hl : len ≤ zs.length) (hm : len ≤ maxLen) (hc : ∀ i, i < zs.length → w.cell? (x.add i) = some (.int .u8 (zs.getD i 0))) (hw : ∀ n ∈ zs, (Lit.int .u8 n).wf = true) : ∃ b off, Bs w (some x) cap b off (toB zs len) := by
  obtain ⟨b, off, spot⟩ := x
  have hspot : 0 < len → spot = none := fun hp => by simpa [Addr.add] using World.cell?_spot (hc 0 (by omega))
  refine ⟨b, off, ⟨(fun h => by cases h), fun hp => ?_, fun i hi => ?_, by rw [toB_len _ _ hl]; exact hm⟩⟩
  · rw [toB_len _ _ hl] at hp
    rw [hspot hp]
  · rw [toB_len _ _ hl] at hi
    have := hc i (by omega)
    rw [hspot (by omega), Addr.add_lit] at this
    rw [this, toB_at zs len i hi hl hw]

/-- What the walk is told of a []byte that came in. -/
def IsBytes (w : World) (a : Option Addr) (len cap : Nat) : Prop := ∃ ks b off, ks.length = len ∧ Bs w a cap b off ks
/-- .. of a [][]byte. -/
def IsRows (w : World) (a : Option Addr) (len cap : Nat) : Prop := len ≤ maxLen ∧ ∃ F kb b off, KIn w a len cap b off F kb

theorem isBytes_of {H : Type} {enc : TypeId × Value → H} {w : World} {base : Nat} {held : Bool} {fuel : Nat} {a : Option Addr} {len cap : Nat} {x : DataW H × List MemPlace} (c5 : Try.prog.cellsOf 5 = 1) (h : DataW.trod enc Try.prog w base (fun _ => true) held fuel 39 [.slice a len cap] = some x) : IsBytes w a len cap := by
  rcases open_ints Try.underlying39 Try.underlying5 c5 h with ⟨hcs, _⟩ | ⟨y, l, c, zs, hcs, _, hl, hm, hz, _, hcell, hwz⟩
  · simp at hcs
    obtain ⟨rfl, rfl, rfl⟩ := hcs
    exact ⟨[], 0, 0, rfl, ⟨fun _ => ⟨rfl, rfl⟩, (fun h => by simp at h), (fun i h => by simp at h), by simp⟩⟩
  · simp at hcs
    obtain ⟨rfl, rfl, rfl⟩ := hcs
    have hz2 : zs.length = cap := by simpa using hz
    obtain ⟨b, off, hb⟩ := bs_mk (w := w) (x := y) (len := len) (cap := cap) (zs := zs) (by omega) (by omega) hcell hwz
    exact ⟨toB zs len, b, off, toB_len _ _ (by omega), hb⟩

theorem isRows_of {H : Type} {enc : TypeId × Value → H} {w : World} {base : Nat} {held : Bool} {fuel : Nat} {a : Option Addr} {len cap : Nat} {x : DataW H × List MemPlace} (c5 : Try.prog.cellsOf 5 = 1) (c39 : Try.prog.cellsOf 39 = 1) (h : DataW.trod enc Try.prog w base (fun _ => true) held fuel 22 [.slice a len cap] = some x) : IsRows w a len cap := by
  rcases Go.Deep.open_int_rows Try.underlying22 Try.underlying39 Try.underlying5 c39 c5 h with ⟨hcs, _⟩ | ⟨y, l, c, A, L, C, Z, hcs, _, hl, hm, _, hrow⟩
  · simp at hcs
    obtain ⟨rfl, rfl, rfl⟩ := hcs
    exact ⟨Nat.zero_le _, fun _ => .slice none 0 0, fun _ => [], 0, 0, ⟨fun _ => ⟨rfl, rfl⟩, fun h => by omega, fun i h => by omega, fun i h => by omega⟩⟩
  · simp at hcs
    obtain ⟨rfl, rfl, rfl⟩ := hcs
    obtain ⟨b, off, spot⟩ := y
    have hspot : 0 < len → spot = none := fun hp => by simpa [Addr.add] using World.cell?_spot (hrow 0 (by omega)).1
    refine ⟨by omega, fun r => .slice (A r) (L r) (C r), fun r => toB (Z r) (L r), b, off, ⟨(fun h => by cases h), fun hp => by rw [hspot hp], fun i hi => ?_, fun i hi => ?_⟩⟩
    · have := (hrow i (by omega)).1
      rw [hspot (by omega), Addr.add_lit] at this
      exact this
    · obtain ⟨_, h1, h2, h3, h4, h5, h6⟩ := hrow i (by omega)
      have hlz : L i ≤ (Z i).length := by omega
      show BV w (.slice (A i) (L i) (C i)) (toB (Z i) (L i))
      cases hA : A i with
      | none =>
        have hc := h5 hA
        have hl0 : L i = 0 := by omega
        refine ⟨none, 0, 0, 0, ?_, ⟨fun _ => ⟨by rw [toB_len _ _ hlz]; exact hl0, rfl⟩, fun hp => by rw [toB_len _ _ hlz] at hp; omega, fun j hj => by rw [toB_len _ _ hlz] at hj; omega, by rw [toB_len _ _ hlz]; omega⟩⟩
        rw [toB_len _ _ hlz, hc]
      | some a' =>
        obtain ⟨_, hc⟩ := h6 a' hA
        obtain ⟨b', off', hb⟩ := bs_mk (w := w) (x := a') (len := L i) (cap := C i) (zs := Z i) hlz (by omega) (fun j hj => hc j (by omega)) h4
        exact ⟨some a', C i, b', off', by rw [toB_len _ _ hlz], hb⟩

end Go.Proofs.Qxb6604003a
