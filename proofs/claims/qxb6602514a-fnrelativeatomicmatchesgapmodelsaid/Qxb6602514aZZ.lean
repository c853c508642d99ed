import Derived.Test.Qxb6602514aAtomic
set_option linter.unusedVariables false
namespace Go.Proofs.Qxb6602514a
open Go.RowKit

theorem info96 : (Try.prog.info? 96).map (fun i => (i.zero, i.size, i.bytes)) = some (some (.slice none 0 0), 1, 24) := by kernel_rfl
theorem info98 : (Try.prog.info? 98).map (fun i => (i.zero, i.size, i.bytes)) = some (some (.agg #[.int .i64 0, .slice none 0 0]), 2, 32) := by kernel_rfl

/-- The first k of L cuts lie in block b. -/
def CutRow (w : World) (b L k : Nat) (os : List Int) (kv : Nat → Value) : Prop :=
  ∃ vs : List Value, Row w b 98 vs ∧ vs.length = L * 2 ∧ ∀ i, i < k → vs[i * 2]? = some (.int .i64 (os.getD i 0)) ∧ vs[i * 2 + 1]? = some (kv i)

theorem CutRow.below {B' : Nat} {w w' : World} {b L k : Nat} {os : List Int} {kv : Nat → Value} (h : CutRow w b L k os kv) (hb : Below B' w w') (hlt : b < B') : CutRow w' b L k os kv := by
  obtain ⟨vs, h1, h2, h3⟩ := h
  exact ⟨vs, h1.below hb hlt, h2, h3⟩
theorem CutRow.set_ne {w : World} {b L k : Nat} {os : List Int} {kv : Nat → Value} (h : CutRow w b L k os kv) {a : Addr} (hne : b ≠ a.block) (v : Value) : CutRow (w.setCell a v) b L k os kv := by
  obtain ⟨vs, h1, h2, h3⟩ := h
  exact ⟨vs, h1.set_ne hne v, h2, h3⟩
theorem CutRow.step {w : World} {b L k : Nat} {os : List Int} {kv : Nat → Value} (h : CutRow w b L k os kv) (hk : k < L) (o : Int) (v : Value) (ho : os.getD k 0 = o) (hv : kv k = v) :
    CutRow ((w.setCell ⟨b, k * 2, none⟩ (.int .i64 o)).setCell ⟨b, k * 2 + 1, none⟩ v) b L (k + 1) os kv := by
  obtain ⟨vs, h1, h2, h3⟩ := h
  refine ⟨_, (h1.set _ _).set _ _, by simpa using h2, fun i hi => ?_⟩
  by_cases e : i = k
  · subst e
    have l0 : i * 2 < vs.length := by omega
    have l1 : i * 2 + 1 < vs.length := by omega
    simp only [List.getElem?_set, List.length_set, l0, l1, if_true, show ¬ i * 2 + 1 = i * 2 by omega, if_false, ho, hv]
    exact ⟨trivial, trivial⟩
  · have := h3 i (by omega)
    simp only [List.getElem?_set, show ¬ k * 2 + 1 = i * 2 by omega, show ¬ k * 2 = i * 2 by omega, show ¬ k * 2 + 1 = i * 2 + 1 by omega, show ¬ k * 2 = i * 2 + 1 by omega, if_false]
    exact this

/-- The cuts of the first t transactions lie ready. -/
def CutsOk (w wr : World) (m t : Nat) (os : Nat → List Int) (kv : Nat → Nat → Value) (cv : List Value) : Prop :=
  cv.length = m ∧ Row wr w.heap.size 96 cv ∧ ∀ t', t' < t → cv[t']? = some (.slice (some ⟨w.heap.size + 1 + t', 0, none⟩) (os t').length (os t').length) ∧ CutRow wr (w.heap.size + 1 + t') (os t').length (os t').length (os t') (kv t')

/-- The rest of what atomic reads. -/
structure HistIn (w : World) (HB nb pb sb SB TB n m : Nat) (ids nx pv : List Int) (f : Nat → List Int) : Prop where
  h0 : w.cell? ⟨HB, 0, none⟩ = some (.slice (some ⟨TB, 0, none⟩) m m)
  h2 : w.cell? ⟨HB, 2, none⟩ = some (.slice (some ⟨SB, 0, none⟩) n n)
  s0 : ∀ i, i < n → w.cell? ⟨SB, i * 4, none⟩ = some (.int .i64 (ids.getD i 0))
  s1 : ∀ i, i < n → w.cell? ⟨SB, i * 4 + 1, none⟩ = some (.string { data := #[114] })
  s2 : ∀ i, i < n → w.cell? ⟨SB, i * 4 + 2, none⟩ = some (.int .i64 0)
  s3 : ∀ i, i < n → w.cell? ⟨SB, i * 4 + 3, none⟩ = some (.int .i64 ((i : Int) + 1))
  nx : IRow .i64 w nb 3 nx
  pv : IRow .i64 w pb 3 pv
  stp : ∀ t, t < m → ∃ v, w.cell? ⟨sb, t, none⟩ = some v ∧ RdInts w v (f t)

theorem cell_set2 {w : World} {a b c : Addr} {u v x : Value} (h : w.cell? c = some x) (h1 : c.block ≠ a.block) (h2 : c.block ≠ b.block) : ((w.setCell a u).setCell b v).drew.cell? c = some x := by
  have e1 : ((w.setCell a u).setCell b v).drew.cell? c = (w.setCell a u).cell? c := World.cell?_of_block (w := w.setCell a u) (Below.heap_setCell _ _ _ _ h2)
  rw [e1, World.cell?_of_block (w := w) (Below.heap_setCell _ _ _ _ h1)]; exact h

/-- What ZZRelativeAtomic is handed, as a reader sees it. -/
structure ObsIn (w : World) (ob ab m : Nat) (os : Nat → List Int) (ks : Nat → Nat → List Int) (kv : Nat → Nat → Value) : Prop where
  ob : ∀ t, t < m → ∃ v, w.cell? ⟨ob, t, none⟩ = some v ∧ RdInts w v (os t)
  ab : ∀ t, t < m → ∃ oa cap g, w.cell? ⟨ab, t, none⟩ = some (.slice oa (os t).length cap) ∧ (0 < (os t).length → oa = some ⟨g, 0, none⟩) ∧ ∀ i, i < (os t).length → w.cell? ⟨g, i, none⟩ = some (kv t i)
  kv : ∀ t, t < m → ∀ i, i < (os t).length → RdInts w (kv t i) (ks t i)

set_option maxRecDepth 100000 in
set_option maxHeartbeats 2000000 in
theorem zz_any (w : World) (HB nb pb sb SB TB ob ab n m : Nat) (ids nx pv : List Int) (f os : Nat → List Int) (ks : Nat → Nat → List Int) (kv : Nat → Nat → Value)
    (hpl : AtomPlain n m ids nx pv f os ks) (hin : ObsIn w ob ab m os ks kv) (hst : HistIn w HB nb pb sb SB TB n m ids nx pv f) :
    Calls Try.prog 46 #[.pointer (some ⟨HB, 0, none⟩), .slice (some ⟨nb, 0, none⟩) n n, .slice (some ⟨pb, 0, none⟩) n n, .slice (some ⟨sb, 0, none⟩) m m, .slice (some ⟨ob, 0, none⟩) m m, .slice (some ⟨ab, 0, none⟩) m m] w fun e w' =>
      ∃ r : Bool, e = .returned (.bool r) ∧ (r = true ↔ OkAll ids nx (Eof (evT f os ks m))) ∧ Below w.heap.size w w' := by
  have hn := hpl.hn
  have hm := hpl.hm
  go_enter Try.func46, Try.ntmps46
  go_wp2_with (at_make; refine wpList_make_row _ rfl (.tmp 18) (.tmp 18) 95 rfl 96 (.slice none 0 0) 1 24 Try.underlying95 info96 _ _ _ _ m rfl rfl rfl rfl (by omega) (by unfold maxLen; omega) _ (made_one _ rfl m) w.heap.size rfl ?_; intro w1 hrow1 hsz1 hbel1)
  go_loopw [22] (fun i wr => ∃ t : Nat, t ≤ m ∧ i = .int .i64 t ∧ Below w.heap.size w wr ∧ wr.heap.size = w.heap.size + 1 + t ∧ ∃ cv, CutsOk w wr m t os kv cv) (fun i _ => m - (intOf i).toNat)
  case atStart => exact ⟨0, Nat.zero_le _, rfl, hbel1, by simpa using hsz1, _, by simp, hrow1, fun t' h => by omega⟩
  case round =>
    clear hrow1 hsz1 hbel1
    obtain ⟨t, ht, rfl, hb, hsz, cv, hcl, hcr, hcc⟩ := hrel
    by_cases hlt : t < m
    · obtain ⟨v1, x1, oa1, cap1, g1, rfl, x2, x3⟩ := hin.ob t hlt
      obtain ⟨oa2, cap2, g2, y1, y2, y3⟩ := hin.ab t hlt
      have hol := hpl.osl t hlt
      have x1' := cellOf x1 hb
      have hobl : ob < w.heap.size := World.block_lt_of_cell? w _ x1
      have habl : ab < w.heap.size := World.block_lt_of_cell? w _ y1
      go_wp2_with (at_make; refine wpList_make_row _ rfl (.tmp 31) (.tmp 31) 96 rfl 98 (.agg #[.int .i64 0, .slice none 0 0]) 2 32 Try.underlying96 info98 _ _ _ _ (os t).length rfl rfl rfl rfl (by omega) (by unfold maxLen; omega) _ rfl (w.heap.size + 1 + t) hsz ?_; intro w2 hrow2 hsz2 hbel2; have hcr2 := hcr.below hbel2 (by omega); have c2 : w2.cell? ⟨w.heap.size, t, none⟩ = some (cv[t]'(by omega)) := (hcr2.cell t).trans (List.getElem?_eq_getElem _); have f2 := hcr2.frozen t; have x1'' := cellOf x1 (hb.trans (hbel2.mono (by omega))))
      have hml : (madeCells (Value.agg #[.int .i64 0, .slice none 0 0]).cells ((os t).length * 2)).toList.length = (os t).length * 2 := by rw [Array.length_toList, size_madeCells]
      have hC0 : CutRow (w2.setCell ⟨w.heap.size, t, none⟩ (.slice (some ⟨w.heap.size + 1 + t, 0, none⟩) (os t).length (os t).length)) (w.heap.size + 1 + t) (os t).length 0 (os t) (kv t) := ⟨_, hrow2.set_ne (by simp; omega) _, hml, fun i hi => by omega⟩
      have hb0 : Below w.heap.size w (w2.setCell ⟨w.heap.size, t, none⟩ (.slice (some ⟨w.heap.size + 1 + t, 0, none⟩) (os t).length (os t).length)) := (hb.trans (hbel2.mono (by omega))).setCell (by simp) _
      have hO0 : CutsOk w (w2.setCell ⟨w.heap.size, t, none⟩ (.slice (some ⟨w.heap.size + 1 + t, 0, none⟩) (os t).length (os t).length)) m t os kv (cv.set t (.slice (some ⟨w.heap.size + 1 + t, 0, none⟩) (os t).length (os t).length)) := by
        refine ⟨by simpa using hcl, hcr2.set t _, fun t' ht' => ⟨?_, (((hcc t' ht').2).below hbel2 (by omega)).set_ne (by simp; omega) _⟩⟩
        rw [List.getElem?_set, if_neg (by omega)]; exact (hcc t' ht').1
      have hcv : (cv.set t (.slice (some ⟨w.heap.size + 1 + t, 0, none⟩) (os t).length (os t).length))[t]? = some (.slice (some ⟨w.heap.size + 1 + t, 0, none⟩) (os t).length (os t).length) := by simp [hcl, hlt]
      obtain ⟨cv', hcv'⟩ : ∃ cv', cv.set t (.slice (some ⟨w.heap.size + 1 + t, 0, none⟩) (os t).length (os t).length) = cv' := ⟨_, rfl⟩
      rw [hcv'] at hO0 hcv
      clear hcv'
      -- the inner loop
      go_loopw [39] (fun j wr => ∃ i : Nat, i ≤ (os t).length ∧ j = .int .i64 i ∧ Below w.heap.size w wr ∧ wr.heap.size = w.heap.size + 2 + t ∧ CutsOk w wr m t os kv cv' ∧ CutRow wr (w.heap.size + 1 + t) (os t).length i (os t) (kv t)) (fun j _ => (os t).length - (intOf j).toNat)
      case atStart => exact ⟨0, Nat.zero_le _, rfl, hb0, by simp [hsz2]; omega, hO0, hC0⟩
      case round =>
        clear hC0 hb0 hO0 hml x1'' f2 c2 hcr2 hrow2 hsz2 hbel2 hb hsz hcl hcr hcc x1'
        obtain ⟨i, hi, rfl, hb, hsz, hO, hC⟩ := hrel
        by_cases hlti : i < (os t).length
        · obtain rfl := x2 (by omega)
          obtain rfl := y2 (by omega)
          have a1 := cellOf x1 hb
          have a2 := cellOf (x3 i hlti) hb
          have a3 := cellOf y1 hb
          have a4 := cellOf (y3 i hlti) hb
          have a5 : wr.cell? ⟨w.heap.size, t, none⟩ = some (.slice (some ⟨w.heap.size + 1 + t, 0, none⟩) (os t).length (os t).length) := by rw [hO.2.1.cell]; exact hcv
          obtain ⟨vs, c1, c2, c3⟩ := hC
          have a6 : wr.cell? ⟨w.heap.size + 1 + t, i * 2, none⟩ = some (vs[i * 2]'(by omega)) := by rw [c1.cell, List.getElem?_eq_getElem]
          have a7 : wr.cell? ⟨w.heap.size + 1 + t, i * 2 + 1, none⟩ = some (vs[i * 2 + 1]'(by omega)) := by rw [c1.cell, List.getElem?_eq_getElem]
          have fr := c1.frozen
          obtain ⟨o, ho⟩ : ∃ o, (os t).getD i 0 = o := ⟨_, rfl⟩
          obtain ⟨oa3, cap3, g3, hv, _, _⟩ := hin.kv t hlt i hlti
          obtain ⟨n3, hn3⟩ : ∃ n3, (ks t i).length = n3 := ⟨_, rfl⟩
          rw [hn3] at hv
          clear hn3
          have hC' : CutRow ((wr.setCell ⟨w.heap.size + 1 + t, i * 2, none⟩ (.int .i64 o)).setCell ⟨w.heap.size + 1 + t, i * 2 + 1, none⟩ (.slice oa3 n3 cap3)) (w.heap.size + 1 + t) (os t).length (i + 1) (os t) (kv t) := CutRow.step ⟨vs, c1, c2, c3⟩ hlti o _ ho hv
          rw [ho] at a2
          rw [hv] at a4
          clear ho hv
          have hg1 : g1 < w.heap.size := World.block_lt_of_cell? w _ (x3 i hlti)
          have hg2 : g2 < w.heap.size := World.block_lt_of_cell? w _ (y3 i hlti)
          have i0 : (0 : Int) ≤ (i : Int) := by omega
          have i1 : (i : Int) < ((os t).length : Int) := by omega
          have t0 : (0 : Int) ≤ (t : Int) := by omega
          have t1 : (t : Int) < (m : Int) := by omega
          have HK : Hid (((wr.setCell ⟨w.heap.size + 1 + t, i * 2, none⟩ (.int .i64 o)).setCell ⟨w.heap.size + 1 + t, i * 2 + 1, none⟩ (.slice oa3 n3 cap3)).drew.cell? ⟨ob, t, none⟩ = some (.slice (some ⟨g1, 0, none⟩) (os t).length cap1) ∧ ((wr.setCell ⟨w.heap.size + 1 + t, i * 2, none⟩ (.int .i64 o)).setCell ⟨w.heap.size + 1 + t, i * 2 + 1, none⟩ (.slice oa3 n3 cap3)).drew.cell? ⟨g1, i, none⟩ = some (.int .i64 o) ∧ ((wr.setCell ⟨w.heap.size + 1 + t, i * 2, none⟩ (.int .i64 o)).setCell ⟨w.heap.size + 1 + t, i * 2 + 1, none⟩ (.slice oa3 n3 cap3)).drew.cell? ⟨ab, t, none⟩ = some (.slice (some ⟨g2, 0, none⟩) (os t).length cap2) ∧ ((wr.setCell ⟨w.heap.size + 1 + t, i * 2, none⟩ (.int .i64 o)).setCell ⟨w.heap.size + 1 + t, i * 2 + 1, none⟩ (.slice oa3 n3 cap3)).drew.cell? ⟨g2, i, none⟩ = some (.slice oa3 n3 cap3) ∧ ((wr.setCell ⟨w.heap.size + 1 + t, i * 2, none⟩ (.int .i64 o)).setCell ⟨w.heap.size + 1 + t, i * 2 + 1, none⟩ (.slice oa3 n3 cap3)).drew.cell? ⟨w.heap.size, t, none⟩ = some (.slice (some ⟨w.heap.size + 1 + t, 0, none⟩) (os t).length (os t).length)) := ⟨cell_set2 a1 (by simp; omega) (by simp; omega), cell_set2 a2 (by simp; omega) (by simp; omega), cell_set2 a3 (by simp; omega) (by simp; omega), cell_set2 a4 (by simp; omega) (by simp; omega), cell_set2 a5 (by simp; omega) (by simp; omega)⟩
          go_wp2
          go_region_held3 (fun w' => w'.cell? ⟨ob, t, none⟩ = some (.slice (some ⟨g1, 0, none⟩) (os t).length cap1) ∧ w'.cell? ⟨g1, i, none⟩ = some (.int .i64 o) ∧ w'.cell? ⟨ab, t, none⟩ = some (.slice (some ⟨g2, 0, none⟩) (os t).length cap2) ∧ w'.cell? ⟨g2, i, none⟩ = some (.slice oa3 n3 cap3) ∧ w'.cell? ⟨w.heap.size, t, none⟩ = some (.slice (some ⟨w.heap.size + 1 + t, 0, none⟩) (os t).length (os t).length)) (first | exact HK.out | go_keep) (fail)
          go_wp2
          go_roundw
          case rel =>
            refine ⟨i + 1, by omega, by go_num, ((hb.setCell (by simp; omega) _).setCell (by simp; omega) _).drew, by simpa using hsz, ?_, hC'⟩
            obtain ⟨d1, d2, d3⟩ := hO
            exact ⟨d1, (d2.set_ne (by simp; omega) _).set_ne (by simp; omega) _, fun t' ht' => ⟨(d3 t' ht').1, (((d3 t' ht').2).set_ne (by simp; omega) _).set_ne (by simp; omega) _⟩⟩
          case measure => simp [intOf]; omega
        · have hin' : i = (os t).length := by omega
          go_wp2
          go_roundw
          case rel =>
            refine ⟨t + 1, by omega, by go_num, hb, by omega, cv', hO.1, hO.2.1, fun t' ht' => ?_⟩
            by_cases e : t' = t
            · subst e; rw [hin'] at hC; exact ⟨hcv, hC⟩
            · exact hO.2.2 t' (by omega)
          case measure => simp [intOf]; omega
    · have htm : m = t := by omega
      subst htm
      obtain ⟨wE, hwE⟩ : ∃ wE : World, wE = wr := ⟨_, rfl⟩
      subst hwE
      have hAI : AtomIn (wE.alloc (.cells #[.pointer (some ⟨HB, 0, none⟩), .slice (some ⟨nb, 0, none⟩) n n, .slice (some ⟨pb, 0, none⟩) n n, .slice none 0 0, .slice none 0 0, .pointer none, .slice (some ⟨sb, 0, none⟩) m m, .slice none 0 0, .slice (some ⟨w.heap.size, 0, none⟩) m m, .slice none 0 0, .int .i64 0, .slice none 0 0, .slice none 0 0, .slice none 0 0, .slice none 0 0, .slice none 0 0] 108)) (w.heap.size + 1 + m) HB nb pb sb w.heap.size SB TB n m ids nx pv f os ks := by
        have hr := Row.alloc_new' (e := 108) (cs := #[.pointer (some ⟨HB, 0, none⟩), .slice (some ⟨nb, 0, none⟩) n n, .slice (some ⟨pb, 0, none⟩) n n, .slice none 0 0, .slice none 0 0, .pointer none, .slice (some ⟨sb, 0, none⟩) m m, .slice none 0 0, .slice (some ⟨w.heap.size, 0, none⟩) m m, .slice none 0 0, .int .i64 0, .slice none 0 0, .slice none 0 0, .slice none 0 0, .slice none 0 0, .slice none 0 0]) hsz.symm
        have hbA : Below w.heap.size w (wE.alloc (.cells #[.pointer (some ⟨HB, 0, none⟩), .slice (some ⟨nb, 0, none⟩) n n, .slice (some ⟨pb, 0, none⟩) n n, .slice none 0 0, .slice none 0 0, .pointer none, .slice (some ⟨sb, 0, none⟩) m m, .slice none 0 0, .slice (some ⟨w.heap.size, 0, none⟩) m m, .slice none 0 0, .int .i64 0, .slice none 0 0, .slice none 0 0, .slice none 0 0, .slice none 0 0, .slice none 0 0] 108)) := hb.alloc (by omega) _
        have hcA := hcr.alloc (.cells #[.pointer (some ⟨HB, 0, none⟩), .slice (some ⟨nb, 0, none⟩) n n, .slice (some ⟨pb, 0, none⟩) n n, .slice none 0 0, .slice none 0 0, .pointer none, .slice (some ⟨sb, 0, none⟩) m m, .slice none 0 0, .slice (some ⟨w.heap.size, 0, none⟩) m m, .slice none 0 0, .int .i64 0, .slice none 0 0, .slice none 0 0, .slice none 0 0, .slice none 0 0, .slice none 0 0] 108)
        refine ⟨hr.cell 0, hr.cell 1, hr.cell 2, hr.cell 6, hr.cell 8, cellOf hst.h0 hbA, cellOf hst.h2 hbA, fun i hi => cellOf (hst.s0 i hi) hbA, fun i hi => cellOf (hst.s1 i hi) hbA, fun i hi => cellOf (hst.s2 i hi) hbA, fun i hi => cellOf (hst.s3 i hi) hbA,
          Row.below hst.nx hbA (Row.lt hst.nx), Row.below hst.pv hbA (Row.lt hst.pv), ?_, ?_⟩
        · intro t ht
          obtain ⟨v, h1, h2⟩ := hst.stp t ht
          exact ⟨v, cellOf h1 hbA, h2.below hbA⟩
        · intro t ht
          obtain ⟨h1, vs, h2, h3, h4⟩ := hcc t ht
          refine ⟨_, _, _, (hcA.cell t).trans h1, fun _ => rfl, fun i hi => ⟨((h2.alloc _).cell _).trans (h4 i hi).1, kv t i, ((h2.alloc _).cell _).trans (h4 i hi).2, (hin.kv t ht i hi).below hbA⟩⟩
      have hbA : Below w.heap.size w (wE.alloc (.cells #[.pointer (some ⟨HB, 0, none⟩), .slice (some ⟨nb, 0, none⟩) n n, .slice (some ⟨pb, 0, none⟩) n n, .slice none 0 0, .slice none 0 0, .pointer none, .slice (some ⟨sb, 0, none⟩) m m, .slice none 0 0, .slice (some ⟨w.heap.size, 0, none⟩) m m, .slice none 0 0, .int .i64 0, .slice none 0 0, .slice none 0 0, .slice none 0 0, .slice none 0 0, .slice none 0 0] 108)) := hb.alloc (by omega) _
      go_wp2_with fail
      refine (atomic_any _ _ _ _ _ _ _ _ _ _ _ _ _ _ f os ks hAI hpl).mono ?_
      rintro e w5 ⟨r, rfl, hr, hb5⟩
      go_wp2
      go_ret
      exact ⟨r, rfl, hr, hbA.trans (hb5.mono (by simp; omega))⟩

end Go.Proofs.Qxb6602514a
