import Derived.Test.Qxb6604003aBw
set_option linter.unusedVariables false
namespace Go.Proofs.Qxb6604003a
open Go.RowKit

/-- A slice value that reads as these bytes. -/
def BV (w : World) (v : Value) (ks : List UInt8) : Prop := ∃ a c b off, v = .slice a ks.length c ∧ Bs w a c b off ks
theorem BV.below {w w' : World} {v : Value} {ks : List UInt8} (h : BV w v ks) (hb : Below w.heap.size w w') : BV w' v ks := by
  obtain ⟨a, c, b, off, rfl, h⟩ := h; exact ⟨a, c, b, off, rfl, h.below hb⟩
theorem BV.nil (w : World) : BV w (.slice none 0 0) [] := ⟨none, 0, 0, 0, rfl, ⟨fun _ => ⟨rfl, rfl⟩, (fun h => by simp at h), (fun i h => by simp at h), by simp⟩⟩

theorem info5 : (Try.prog.info? 5).map (fun i => (i.zero, i.size, i.bytes)) = some (some (.int .u8 0), 1, 1) := by kernel_rfl

/-- Two slices of the same bytes are equal. -/
theorem equal_any (w : World) (a a' : Option Addr) (c b off c' b' off' : Nat) (ks : List UInt8) (h : Bs w a c b off ks) (h' : Bs w a' c' b' off' ks) (hm : ks.length ≤ 1048576) :
    Calls Try.prog 29 #[.slice a ks.length c, .slice a' ks.length c'] w fun e w' => e = .returned (.bool true) ∧ Below w.heap.size w w' := by
  obtain ⟨n, hn⟩ : ∃ n, ks.length = n := ⟨_, rfl⟩
  have hc : Hid (∀ i, i < n → w.cell? ⟨b, off + i, none⟩ = some (.int .u8 ((ks.getD i 0).toNat : Nat))) := fun i hi => h.cell i (by omega)
  have hc' : Hid (∀ i, i < n → w.cell? ⟨b', off' + i, none⟩ = some (.int .u8 ((ks.getD i 0).toNat : Nat))) := fun i hi => h'.cell i (by omega)
  have hat : Hid (0 < n → a = some ⟨b, off, none⟩) := fun hp => h.at' (by omega)
  have hat' : Hid (0 < n → a' = some ⟨b', off', none⟩) := fun hp => h'.at' (by omega)
  rw [hn] at hm
  rw [hn]
  clear h h' hn
  go_enter Try.func29, Try.ntmps29
  go_wp2
  go_loopw [5] (fun i wr => ∃ k : Nat, k ≤ n ∧ i = .int .i64 k ∧ Below w.heap.size w wr) (fun i _ => n - (intOf i).toNat)
  case atStart => exact ⟨0, Nat.zero_le _, rfl, Below.refl _ _⟩
  case round =>
    obtain ⟨k, hk, rfl, hbr⟩ := hrel
    by_cases hlt : k < n
    · obtain rfl := hat.out (by omega)
      obtain rfl := hat'.out (by omega)
      have g0 := cellOf (hc.out k (by omega)) hbr
      have g1 := cellOf (hc'.out k (by omega)) hbr
      have j0 : (0 : Int) ≤ (k : Int) := by omega
      have j1 : (k : Int) < (n : Int) := by omega
      obtain ⟨x, hx⟩ : ∃ x, (((ks.getD k 0).toNat : Nat) : Int) = x := ⟨_, rfl⟩
      rw [hx] at g0 g1
      clear hx
      go_upto_region 6 with fail
      go_quiet (fail)
      go_wp2
      go_roundw
      case rel => exact ⟨k + 1, by omega, by go_num, below_drewN hbr _⟩
      case measure => simp [intOf]; omega
    · go_wp2
      go_ret
      exact ⟨rfl, hbr⟩

/-- What a clone hands back. -/
def Cloned (w : World) (a : Option Addr) (ks : List UInt8) (e : Ending) (w' : World) : Prop := ∃ a' g, e = .returned (.slice a' ks.length ks.length) ∧ Bs w' a' ks.length g 0 ks ∧ Below w.heap.size w w' ∧ (a' = none ↔ a = none)

theorem cloneB_some (x : Addr) (c b off : Nat) (ks : List UInt8) (w : World) (hm : ks.length ≤ 1048576) (h : Bs w (some x) c b off ks) :
    Calls Try.prog 25 #[.slice (some x) ks.length c] w fun e w' => Cloned w (some x) ks e w' := by
  obtain ⟨n, hn⟩ : ∃ n, ks.length = n := ⟨_, rfl⟩
  have HN : Hid (ks.length = n) := hn
  have hc : Hid (∀ i, i < n → w.cell? ⟨b, off + i, none⟩ = some (.int .u8 ((ks.getD i 0).toNat : Nat))) := fun i hi => h.cell i (by omega)
  have hat : Hid (0 < n → some x = some ⟨b, off, none⟩) := fun hp => h.at' (by omega)
  rw [hn] at hm
  rw [hn]
  clear h hn
  have he := fun wx : World => Lib.run_eql_slice_nil (P := Try.prog) wx 39 5 (some x) n c 0 0 Try.underlying39
  go_enter Try.func25, Try.ntmps25
  go_wp2_with (at_make; refine wpList_make_row _ rfl _ _ 39 rfl 5 (.int .u8 0) 1 1 Try.underlying39 info5 _ _ _ _ n rfl rfl rfl rfl (by omega) (by unfold maxLen; omega) _ (made_one _ rfl n) _ rfl ?_; intro w1 hrow hsz hbel)
  go_loopw [4] (fun i wr => ∃ k : Nat, k ≤ n ∧ i = .int .i64 k ∧ Below w.heap.size w wr ∧ ∃ vs : List Value, vs.length = n ∧ Row wr w.heap.size 5 vs ∧ Hid (∀ j, j < k → vs[j]? = some (.int .u8 ((ks.getD j 0).toNat : Nat)))) (fun i _ => n - (intOf i).toNat)
  case atStart => exact ⟨0, Nat.zero_le _, rfl, hbel, List.replicate n (.int .u8 0), by simp, hrow, fun j hj => by omega⟩
  case round =>
    obtain ⟨k, hk, rfl, hbr, vs, hvl, hvr, hvz⟩ := hrel
    clear hrow hsz hbel
    by_cases hlt : k < n
    · obtain rfl := Option.some.inj (hat.out (by omega))
      have g1 := cellOf (hc.out k hlt) hbr
      have g2 : wr.cell? ⟨w.heap.size, k, none⟩ = some (vs[k]'(by omega)) := by rw [hvr.cell k]; simp [hvl, hlt]
      have g3 := hvr.frozen k
      go_wp2
      go_roundw
      case rel =>
        refine ⟨k + 1, by omega, by go_num, hbr.setCell (by simp) _, vs.set k (.int .u8 ((ks.getD k 0).toNat : Nat)), by simpa using hvl, hvr.set k _, fun j hj => ?_⟩
        by_cases e : j = k
        · subst e; rw [List.getElem?_set_self (by omega)]
        · rw [List.getElem?_set_ne (by omega)]; exact hvz.out j (by omega)
      case measure => simp [intOf]; omega
    · have : k = n := by omega
      subst this
      go_wp2
      go_ret
      unfold Cloned
      rw [HN.out]
      refine ⟨some ⟨w.heap.size, 0, none⟩, w.heap.size, rfl, ⟨(fun h => by cases h), fun _ => rfl, fun i hi => ?_, by rw [HN.out]; unfold maxLen; omega⟩, hbr, by simp⟩
      rw [Nat.zero_add, hvr.cell]
      exact hvz.out i (by rw [HN.out] at hi; exact hi)

theorem cloneB_any (a : Option Addr) (c b off : Nat) (ks : List UInt8) (w : World) (hm : ks.length ≤ 1048576) (h : Bs w a c b off ks) :
    Calls Try.prog 25 #[.slice a ks.length c] w fun e w' => Cloned w a ks e w' := by
  cases a with
  | some x => exact cloneB_some x c b off ks w hm h
  | none =>
    obtain ⟨h1, rfl⟩ := h.nil rfl
    obtain rfl : ks = [] := by simpa using h1
    have he := fun wx : World => Lib.run_eql_slice_nil (P := Try.prog) wx 39 5 none 0 0 0 0 Try.underlying39
    go_enter Try.func25, Try.ntmps25
    go_wp2
    go_ret
    exact ⟨none, 0, rfl, ⟨fun _ => ⟨rfl, rfl⟩, (fun h => by simp at h), (fun i h => by simp at h), by simp⟩, Below.refl _ _, by simp⟩

/-- What bytes.Clone hands back. -/
def LibCloned (w : World) (ks : List UInt8) (e : Ending) (w' : World) : Prop := ∃ g cap, e = .returned (.slice (some ⟨g, 0, none⟩) ks.length cap) ∧ Bs w' (some ⟨g, 0, none⟩) cap g 0 ks ∧ w.heap.size ≤ g ∧ g < w'.heap.size ∧ Below w.heap.size w w'

theorem libClone_any (a : Option Addr) (c b off : Nat) (ks : List UInt8) (w : World) (hp : 0 < ks.length) (hm : ks.length ≤ 1048576) (h : Bs w a c b off ks) :
    Calls Try.prog 47 #[.slice a ks.length c] w fun e w' => LibCloned w ks e w' := by
  obtain rfl := h.at' hp
  have he := fun wx : World => Lib.run_eql_slice_nil (P := Try.prog) wx 39 5 (some ⟨b, off, none⟩) ks.length c 0 0 Try.underlying39
  obtain ⟨i0, hi0, hz0, hz1, hz2⟩ := info_parts info5
  have howA : (w.alloc (.cells #[] 5)).ownsRow w.heap.size 5 1 (.slice (some ⟨w.heap.size, 0, none⟩) 0 0) 0 [] :=
    ⟨rfl, .inr ⟨w.heap.size, 0, #[], rfl, Nat.le_refl _, heap_alloc_new w (.cells #[] 5), Nat.le_refl _, by unfold maxLen; omega, rfl, rfl⟩⟩
  have hbA : Below w.heap.size w (w.alloc (.cells #[] 5)) := (Below.refl _ _).alloc (Nat.le_refl _) _
  have hcell := (h.below hbA).cell
  have HC : Hid (∀ j u, (ks.map fun k => Value.int .u8 ((k.toNat : Nat) : Int))[j]? = some u → (w.alloc (.cells #[] 5)).cell? ((⟨b, off, none⟩ : Addr).add j) = some u) := fun j u hj => by
    have hjl : j < ks.length := by simpa using (List.getElem?_eq_some_iff.1 hj).1
    rw [Addr.add_lit, hcell j hjl]
    rw [List.getElem?_map, List.getElem?_eq_getElem hjl] at hj
    simp at hj
    simp [List.getD, hjl, hj]
  have HK : Hid (∀ j, j < ks.length → (ks.map fun k => Value.int .u8 ((k.toNat : Nat) : Int))[j]? = some (.int .u8 ((ks.getD j 0).toNat : Nat))) := fun j hj => by simp [List.getD, hj]
  obtain ⟨n, hn⟩ : ∃ n, ks.length = n := ⟨_, rfl⟩
  have HN : Hid (ks.length = n) := hn
  have hmx := h.max
  rw [hn] at hm hp he
  rw [hn]
  clear hcell hn h
  go_enter Try.func47, Try.ntmps47
  go_wp2_with (at_builtin; refine wpList_append_lies _ rfl (.tmp 5) (.tmp 6) 39 rfl w.heap.size 5 i0 _ 1 1 Try.underlying39 hi0 hz0 hz1 hz2 rfl (by omega) _ 0 _ (by rfl) howA ⟨b, off, none⟩ n c (ks.map fun k => Value.int .u8 ((k.toNat : Nat) : Int)) (by rfl) (by rw [List.length_map, HN.out]; omega) HC.out (by intro u hu; obtain ⟨k, _, rfl⟩ := List.mem_map.1 hu; simp [Value.oneCell']) (by omega) (by unfold maxLen; omega) (by omega) (by simp) (w.heap.size + 1) (by simp) ?_; intro gg cap w1 hown1 hgrow hat hlt1)
  go_ret
  have hge := (hown1.lt gg rfl).1
  have hb1 : Below w.heap.size w w1 := hbA.grown hgrow (by simp) (fun j hj => by cases hj; exact Nat.le_refl _)
  rw [Nat.zero_add] at hown1
  unfold LibCloned
  rw [HN.out]
  refine ⟨gg, cap, rfl, ⟨(fun h => by cases h), fun _ => rfl, fun i hi => ?_, hmx⟩, hge, hlt1, hb1⟩
  rw [Nat.zero_add, hown1.cellAt i (by rw [HN.out] at hi; omega)]
  simpa using HK.out i hi

end Go.Proofs.Qxb6604003a
