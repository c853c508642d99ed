import Derived.Test.Qxb6604003aBy
set_option linter.unusedVariables false
namespace Go.Proofs.Qxb6604003a
open Go.RowKit

/-! ### bytes.Compare -/
theorem bytesOf_nat (ks : List UInt8) : Lib.bytesOf (ks.map fun k => ((k.toNat : Nat) : Int)) = ks := by
  unfold Lib.bytesOf
  rw [List.map_map]
  conv => rhs; rw [← List.map_id ks]
  refine List.map_congr_left fun k _ => ?_
  simp

theorem run_bytesOf {w : World} {a : Option Addr} {c b off : Nat} {ks : List UInt8} (h : Bs w a c b off ks) : (Extern.Bytes.bytesOf (.slice a ks.length c)).run Try.prog w = .ok ⟨ks.toArray⟩ w := by
  cases a with
  | none =>
    have := (h.nil rfl).1
    have e : ks = [] := by simpa using this
    subst e
    rfl
  | some x =>
    by_cases hp : 0 < ks.length
    · obtain rfl := Option.some.inj (h.at' hp)
      have hl := Lib.run_loadBytesX (P := Try.prog) w (ks.map fun k => ((k.toNat : Nat) : Int)) ⟨b, off, none⟩ .empty (fun j x hj => by
        have hjl : j < ks.length := by simpa using (List.getElem?_eq_some_iff.1 hj).1
        rw [Addr.add_lit, h.cell j hjl]
        rw [List.getElem?_map, List.getElem?_eq_getElem hjl] at hj
        simp at hj
        simp [List.getD, hjl, hj])
      rw [bytesOf_nat, List.length_map] at hl
      show Sem.run Try.prog (Extern.Bytes.loadBytes ⟨b, off, none⟩ ks.length .empty) w = _
      rw [hl]
      congr 1
      apply ByteArray.ext
      show (#[] : Array UInt8) ++ ks.toArray = ks.toArray
      simp
    · have e : ks = [] := by simpa using hp
      subst e
      rfl

theorem run_compareSlices {w : World} {a a' : Option Addr} {c b off c' b' off' : Nat} {ks ls : List UInt8} (h : Bs w a c b off ks) (h' : Bs w a' c' b' off' ls) :
    (Extern.BytealgCompare.compare #[.slice a ks.length c, .slice a' ls.length c']).run Try.prog w = .ok (.int .i64 (cmpB ks ls)) w := by
  change Sem.run Try.prog (do pure (goInt (Extern.BytealgCompare.cmp (← Extern.Bytes.bytesOf (.slice a ks.length c)) (← Extern.Bytes.bytesOf (.slice a' ls.length c'))))) w = _
  simp only [Sem.run_bind, Sem.run_pure, run_bytesOf h, run_bytesOf h', Result.andThen]
  rw [Lib.cmp_eq]
  rfl

theorem compare_any (w : World) (a a' : Option Addr) (c b off c' b' off' : Nat) (ks ls : List UInt8) (h : Bs w a c b off ks) (h' : Bs w a' c' b' off' ls) :
    Calls Try.prog 46 #[.slice a ks.length c, .slice a' ls.length c'] w fun e w' => e = .returned (.int .i64 (cmpB ks ls)) ∧ w' = w := by
  go_enter Try.func46, Try.ntmps46
  go_wp2
  rw [run_callFunc_extern Try.func48 (by kernel_rfl) (by kernel_rfl) (by kernel_rfl) (e := Extern.BytealgCompare.compare) (by kernel_rfl), run_compareSlices h h']
  simp only [Result.andThen]
  rw [Oper.upon_value]
  go_wp2
  go_ret
  exact ⟨rfl, rfl⟩

/-! ### ordB1Cmp -/
theorem eqs_next {a b : List UInt8} {k : Nat} (h : Hid (∀ j, j < k → a.getD j 0 = b.getD j 0)) (hk : a.getD k 0 = b.getD k 0) : Hid (∀ j, j < k + 1 → a.getD j 0 = b.getD j 0) := fun j hj => by
  by_cases e : j = k
  · subst e; exact hk
  · exact h.out j (by omega)

theorem u8_ne {x y : UInt8} (h : x ≠ y) : ¬(((x.toNat : Nat) : Int) = ((y.toNat : Nat) : Int)) := fun e => h (UInt8.toNat_inj.1 (by omega))
theorem u8_lt {x y : UInt8} : x < y ↔ ((x.toNat : Nat) : Int) < ((y.toNat : Nat) : Int) := by rw [UInt8.lt_iff_toNat_lt]; omega

theorem cmp_any (w : World) (a a' : Option Addr) (c b off c' b' off' : Nat) (ks ls : List UInt8) (h : Bs w a c b off ks) (h' : Bs w a' c' b' off' ls) (hm : ks.length ≤ 1048576) (hm' : ls.length ≤ 1048576) :
    Calls Try.prog 27 #[.slice a ks.length c, .slice a' ls.length c'] w fun e w' => e = .returned (.int .i64 (cmpB ks ls)) ∧ Below w.heap.size w w' := by
  obtain ⟨n, hn⟩ : ∃ n, ks.length = n := ⟨_, rfl⟩
  obtain ⟨n', hn'⟩ : ∃ n, ls.length = n := ⟨_, rfl⟩
  have HN : Hid (ks.length = n ∧ ls.length = n') := ⟨hn, hn'⟩
  rw [hn] at hm
  rw [hn'] at hm'
  rw [hn, hn']
  have t_hat : 0 < n → a = some ⟨b, off, none⟩ := fun hp => h.at' (by omega)
  have t_hat' : 0 < n' → a' = some ⟨b', off', none⟩ := fun hp => h'.at' (by omega)
  have t_hc : ∀ i, i < n → w.cell? ⟨b, off + i, none⟩ = some (.int .u8 ((ks.getD i 0).toNat : Nat)) := fun i hi => h.cell i (by omega)
  have t_hc' : ∀ i, i < n' → w.cell? ⟨b', off' + i, none⟩ = some (.int .u8 ((ls.getD i 0).toNat : Nat)) := fun i hi => h'.cell i (by omega)
  have hat : Hid (0 < n → a = some ⟨b, off, none⟩) := t_hat
  have hat' : Hid (0 < n' → a' = some ⟨b', off', none⟩) := t_hat'
  have hc : Hid (∀ i, i < n → w.cell? ⟨b, off + i, none⟩ = some (.int .u8 ((ks.getD i 0).toNat : Nat))) := t_hc
  have hc' : Hid (∀ i, i < n' → w.cell? ⟨b', off' + i, none⟩ = some (.int .u8 ((ls.getD i 0).toNat : Nat))) := t_hc'
  clear h h' hn hn' t_hat t_hat' t_hc t_hc'
  by_cases hlen : n' < n
  · go_enter Try.func27, Try.ntmps27
    go_wp2
    go_loopw [6] (fun i wr => ∃ k : Nat, k ≤ n' ∧ i = .int .i64 k ∧ Below w.heap.size w wr ∧ Hid (∀ j, j < k → ks.getD j 0 = ls.getD j 0)) (fun i _ => n' - (intOf i).toNat)
    case atStart => exact ⟨0, Nat.zero_le _, rfl, Below.refl _ _, fun j hj => by omega⟩
    case round =>
      obtain ⟨k, hk, rfl, hbr, heq⟩ := hrel
      by_cases hlt : k < n'
      · obtain rfl := hat.out (by omega)
        obtain rfl := hat'.out (by omega)
        have g0 := cellOf (hc.out k (by omega)) hbr
        have g1 := cellOf (hc'.out k (by omega)) hbr
        have j0 : (0 : Int) ≤ (k : Int) := by omega
        have j1 : (k : Int) < (n : Int) := by omega
        have j2 : (k : Int) < (n' : Int) := by omega
        obtain ⟨x, hx⟩ : ∃ x, ks.getD k 0 = x := ⟨_, rfl⟩
        obtain ⟨y, hy⟩ : ∃ y, ls.getD k 0 = y := ⟨_, rfl⟩
        have HXY : Hid (ks.getD k 0 = x ∧ ls.getD k 0 = y) := ⟨hx, hy⟩
        rw [hx] at g0
        rw [hy] at g1
        clear hx hy
        by_cases e : x = y
        · subst e
          go_upto_region 7 with fail
          go_quiet (fail)
          go_wp2
          go_roundw
          case rel => exact ⟨k + 1, by omega, by go_num, below_drewN hbr _, eqs_next heq (HXY.out.1.trans HXY.out.2.symm)⟩
          case measure => simp [intOf]; omega
        · have hne := u8_ne e
          have hcm := cmp_ne (i := k) (a := ks) (b := ls) (by have := HN.out; omega) (by have := HN.out; omega) heq.out (by rw [HXY.out.1, HXY.out.2]; exact e)
          rw [HXY.out.1, HXY.out.2] at hcm
          by_cases hl : x < y
          · rw [if_pos hl] at hcm
            have hl' := u8_lt.1 hl
            have HCM : Hid _ := hcm
            clear hcm
            go_upto_region 7 with fail
            go_quiet (fail)
            go_upto_region 8 with fail
            go_quiet (fail)
            go_wp2
            go_ret
            exact ⟨by rw [HCM.out] <;> rfl, below_drewN hbr _⟩
          · rw [if_neg hl] at hcm
            have hl' : ¬ _ := fun h => hl (u8_lt.2 h)
            have HCM : Hid _ := hcm
            clear hcm
            go_upto_region 7 with fail
            go_quiet (fail)
            go_upto_region 8 with fail
            go_quiet (fail)
            go_wp2
            go_ret
            exact ⟨by rw [HCM.out] <;> rfl, below_drewN hbr _⟩
      · have hcm := cmp_end (a := ks) (b := ls) (fun j hj => heq.out j (by have := HN.out; omega))
        rw [HN.out.1, HN.out.2] at hcm
        rw [if_neg (by omega), if_pos hlen] at hcm
        have HCM : Hid _ := hcm
        clear hcm
        go_wp2
        go_ret
        exact ⟨by rw [HCM.out] <;> rfl, hbr⟩
  · go_enter Try.func27, Try.ntmps27
    go_wp2
    go_loopw [6] (fun i wr => ∃ k : Nat, k ≤ n ∧ i = .int .i64 k ∧ Below w.heap.size w wr ∧ Hid (∀ j, j < k → ks.getD j 0 = ls.getD j 0)) (fun i _ => n - (intOf i).toNat)
    case atStart => exact ⟨0, Nat.zero_le _, rfl, Below.refl _ _, fun j hj => by omega⟩
    case round =>
      obtain ⟨k, hk, rfl, hbr, heq⟩ := hrel
      by_cases hlt : k < n
      · obtain rfl := hat.out (by omega)
        obtain rfl := hat'.out (by omega)
        have g0 := cellOf (hc.out k (by omega)) hbr
        have g1 := cellOf (hc'.out k (by omega)) hbr
        have j0 : (0 : Int) ≤ (k : Int) := by omega
        have j1 : (k : Int) < (n : Int) := by omega
        have j2 : (k : Int) < (n' : Int) := by omega
        obtain ⟨x, hx⟩ : ∃ x, ks.getD k 0 = x := ⟨_, rfl⟩
        obtain ⟨y, hy⟩ : ∃ y, ls.getD k 0 = y := ⟨_, rfl⟩
        have HXY : Hid (ks.getD k 0 = x ∧ ls.getD k 0 = y) := ⟨hx, hy⟩
        rw [hx] at g0
        rw [hy] at g1
        clear hx hy
        by_cases e : x = y
        · subst e
          go_upto_region 7 with fail
          go_quiet (fail)
          go_wp2
          go_roundw
          case rel => exact ⟨k + 1, by omega, by go_num, below_drewN hbr _, eqs_next heq (HXY.out.1.trans HXY.out.2.symm)⟩
          case measure => simp [intOf]; omega
        · have hne := u8_ne e
          have hcm := cmp_ne (i := k) (a := ks) (b := ls) (by have := HN.out; omega) (by have := HN.out; omega) heq.out (by rw [HXY.out.1, HXY.out.2]; exact e)
          rw [HXY.out.1, HXY.out.2] at hcm
          by_cases hl : x < y
          · rw [if_pos hl] at hcm
            have hl' := u8_lt.1 hl
            have HCM : Hid _ := hcm
            clear hcm
            go_upto_region 7 with fail
            go_quiet (fail)
            go_upto_region 8 with fail
            go_quiet (fail)
            go_wp2
            go_ret
            exact ⟨by rw [HCM.out] <;> rfl, below_drewN hbr _⟩
          · rw [if_neg hl] at hcm
            have hl' : ¬ _ := fun h => hl (u8_lt.2 h)
            have HCM : Hid _ := hcm
            clear hcm
            go_upto_region 7 with fail
            go_quiet (fail)
            go_upto_region 8 with fail
            go_quiet (fail)
            go_wp2
            go_ret
            exact ⟨by rw [HCM.out] <;> rfl, below_drewN hbr _⟩
      · have hcm := cmp_end (a := ks) (b := ls) (fun j hj => heq.out j (by have := HN.out; omega))
        rw [HN.out.1, HN.out.2] at hcm
        by_cases hl2 : n < n'
        · rw [if_pos hl2] at hcm
          have HCM : Hid _ := hcm
          clear hcm
          go_wp2
          go_ret
          exact ⟨by rw [HCM.out] <;> rfl, hbr⟩
        · rw [if_neg hl2, if_neg hlen] at hcm
          have HCM : Hid _ := hcm
          clear hcm
          go_wp2
          go_ret
          exact ⟨by rw [HCM.out] <;> rfl, hbr⟩

end Go.Proofs.Qxb6604003a
