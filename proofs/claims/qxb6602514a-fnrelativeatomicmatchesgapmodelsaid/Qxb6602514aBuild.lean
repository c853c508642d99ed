import Derived.Test.Qxb6602514aSerial
import Derived.Test.Qxb6602514aRel
import Derived.Deep.RegionHeld3
import Derived.Deep.RegionLaw
import Derived.Deep.DeepCutAuto
import Derived.Deep.DrawnRows
namespace Go.Proofs.Qxb6602514a
open Go.RowKit

theorem info3 : (Try.prog.info? 3).map (fun i => (i.zero, i.size, i.bytes)) = some (some (.int .i64 0), 1, 8) := by kernel_rfl
theorem info29 : (Try.prog.info? 29).map (fun i => (i.zero, i.size, i.bytes)) = some (some (.slice none 0 0), 1, 24) := by kernel_rfl

theorem zero64 : Try.zeroCells64.toList = (List.replicate 256 (0 : Int)).map (Value.int .i64) := by kernel_rfl

/-- The cells of a zzRel. -/
def relCells (n : Int) (t s x p u : Value) : List Value := [.int .i64 n, t, s, x, p, u]
def nilS : Value := .slice none 0 0
def slc (b n : Nat) : Value := .slice (some ⟨b, 0, none⟩) n n

/-- The blocks of zzBuildRel: the result, idOf, r, r.txn, r.steps, r.next, r.prev, last. -/
def L8 (B n m : Nat) (u : Value) (ds ids : List Int) (st : List Value) (nx pv lst : List Int) : List (TypeId × List Value) :=
  [(32, relCells 0 nilS nilS nilS nilS nilS), (64, ds.map (Value.int .i64)), (32, relCells m (slc (B + 3) n) (slc (B + 4) m) (slc (B + 5) n) (slc (B + 6) n) u), (3, ids.map (Value.int .i64)), (29, st), (3, nx.map (Value.int .i64)), (3, pv.map (Value.int .i64)), (3, lst.map (Value.int .i64))]

/-- m slices of integers, each in memory of the call's own, no two of them in one block. -/
structure Slices (w : World) (base m : Nat) (st : List Value) (f : Nat → List Int) : Prop where
  len : st.length = m
  own : ∀ t, t < m → w.ownsRow base 3 1 (st.getD t nilS) (f t).length ((f t).map (Value.int .i64))
  apart : ∀ t t', t < m → t' < m → t ≠ t' → ∀ g, (st.getD t nilS).ownBlock = some g → (st.getD t' nilS).ownBlock ≠ some g

theorem Slices.nils (w : World) (base m : Nat) : Slices w base m (List.replicate m (.slice none 0 0)) (fun _ => []) := by
  have h : ∀ t, t < m → (List.replicate m (Value.slice none 0 0)).getD t nilS = .slice none 0 0 := by intro t ht; simp [List.getD, ht]
  refine ⟨by simp, fun t ht => by rw [h t ht]; exact World.ownsRow_nil _ _ _ _, fun t t' ht ht' _ g hg => by rw [h t ht] at hg; simp [Value.ownBlock] at hg⟩

theorem Slices.below {w : World} {base m : Nat} {st : List Value} {f : Nat → List Int} (h : Slices w base m st f) {a : Addr} (ha : a.block < base) (v : Value) : Slices (w.setCell a v) base m st f :=
  ⟨h.len, fun t ht => ownsRow_setCell_below (h.own t ht) ha v, h.apart⟩
theorem Slices.drew {w : World} {base m : Nat} {st : List Value} {f : Nat → List Int} (h : Slices w base m st f) : Slices w.drew base m st f := ⟨h.len, h.own, h.apart⟩
theorem Slices.congr {w : World} {base m : Nat} {st : List Value} {f f' : Nat → List Int} (h : Slices w base m st f) (e : ∀ t, t < m → f t = f' t) : Slices w base m st f' :=
  ⟨h.len, fun t ht => by rw [← e t ht]; exact h.own t ht, h.apart⟩
theorem Slices.grown {w w' : World} {base m : Nat} {st : List Value} {f : Nat → List Int} (h : Slices w base m st f) {row : Option Nat} (hg : w.grownBy w' row) (hr : ∀ t, t < m → ∀ g, (st.getD t nilS).ownBlock = some g → row ≠ some g) : Slices w' base m st f :=
  ⟨h.len, fun t ht => (h.own t ht).kept hg (by cases e : (st.getD t nilS).ownBlock with | none => exact .inl rfl | some g => exact .inr (fun e' => hr t ht g e e'.symm)), h.apart⟩

/-- One of them is appended to. -/
theorem Slices.append {w w' : World} {base m t : Nat} {st : List Value} {f f' : Nat → List Int} (h : Slices w base m st f) (ht : t < m) {v' : Value} {g : Nat} (hv' : v'.ownBlock = some g)
    (hg : w.grownBy w' (st.getD t nilS).ownBlock) (hown : w'.ownsRow base 3 1 v' (f' t).length ((f' t).map (Value.int .i64))) (hat : (st.getD t nilS).ownBlock = some g ∨ w.heap.size ≤ g) (hf : ∀ t', t' < m → t' ≠ t → f' t' = f t') :
    Slices w' base m (st.set t v') f' := by
  have hsame : (st.set t v').getD t nilS = v' := by simp [List.getD, h.len, ht]
  have hne : ∀ t', t ≠ t' → (st.set t v').getD t' nilS = st.getD t' nilS := fun t' e => by simp [List.getD, e]
  -- another's block is not g
  have hng : ∀ t', t' < m → t ≠ t' → (st.getD t' nilS).ownBlock ≠ some g := by
    intro t' ht' e hh
    rcases hat with h1 | h1
    · exact h.apart t t' ht ht' e g h1 hh
    · have := ((h.own t' ht').lt g hh).2; omega
  refine ⟨by simpa using h.len, ?_, ?_⟩
  · intro t' ht'
    by_cases e : t = t'
    · subst e; rw [hsame]; exact hown
    · rw [hne t' e, hf t' ht' (Ne.symm e)]
      refine (h.own t' ht').kept hg ?_
      cases e1 : (st.getD t' nilS).ownBlock with
      | none => exact .inl rfl
      | some g' =>
        right
        intro e2
        exact h.apart t t' ht ht' e g' e2.symm e1
  · intro t1 t2 h1 h2 hn g' hg1 hg2
    by_cases e1 : t = t1
    · subst e1
      rw [hsame, hv'] at hg1
      rw [hne t2 hn] at hg2
      rw [← hg1] at hg2
      exact hng t2 h2 hn hg2
    · rw [hne t1 e1] at hg1
      by_cases e2 : t = t2
      · subst e2
        rw [hsame, hv'] at hg2
        rw [← hg2] at hg1
        exact hng t1 h1 e1 hg1
      · rw [hne t2 e2] at hg2
        exact h.apart t1 t2 h1 h2 hn g' hg1 hg2

/-- What zzBuildRel leaves: the numbers of the steps' transactions, the next and the previous step of each, each transaction's steps, which units entry counts for a pair. -/
structure RelOk (w : World) (B n m U nu : Nat) (zs ids nx pv us : List Int) (st : List Value) : Prop where
  hids : ∃ ds, Ids zs n ids ds m
  links : ∃ lst, Links ids n m nx pv lst
  steps : Slices w (B + 8) m st (fun t => pos ids t n)
  stepsU : ∀ t, t < m → ∀ g, (st.getD t nilS).ownBlock = some g → g < U
  seg : Seg w (B + 3) [(3, ids.map (Value.int .i64)), (29, st), (3, nx.map (Value.int .i64)), (3, pv.map (Value.int .i64))]
  units : IRow .i64 w U 3 us
  ulen : us.length = m * m
  urng : ∀ j, j < m * m → us.getD j 0 = -1 ∨ (0 ≤ us.getD j 0 ∧ us.getD j 0 < (nu : Int))
  BU : B + 8 ≤ U
  Ult : U < w.heap.size

theorem Slices.keep {U : Nat} {w w' : World} {base m : Nat} {st : List Value} {f : Nat → List Int} (h : Slices w base m st f) (hb : Below U w w') (hU : ∀ t, t < m → ∀ g, (st.getD t nilS).ownBlock = some g → g < U) : Slices w' base m st f := by
  refine ⟨h.len, fun t ht => ?_, h.apart⟩
  obtain ⟨h1, h2⟩ := h.own t ht
  refine ⟨h1, ?_⟩
  rcases h2 with h2 | ⟨g, cap, cur, hv, hg, hh, r⟩
  · exact .inl h2
  · refine .inr ⟨g, cap, cur, hv, hg, ?_, r⟩
    rw [hb.block g (hU t ht g (by rw [hv]; rfl))]; exact hh

theorem RelOk.lo {w : World} {B n m U nu : Nat} {zs ids nx pv us : List Int} {st : List Value} (h : RelOk w B n m U nu zs ids nx pv us st) {a : Addr} (ha : a.block < B + 3) (v : Value) : RelOk (w.setCell a v) B n m U nu zs ids nx pv us st := by
  have := h.BU
  exact ⟨h.hids, h.links, h.steps.below (by omega) v, h.stepsU, h.seg.lo ha v, Row.set_ne h.units (by omega) v, h.ulen, h.urng, h.BU, by simpa using h.Ult⟩

theorem sq_bd (m : Nat) (h : m ≤ 65536) : m * m ≤ 4294967296 := by
  have := Nat.mul_le_mul h h; omega
theorem idx_bd (t o m : Nat) (ht : t < m) (ho : o < m) : t * m + o < m * m := by
  have h1 : t * m + m ≤ m * m := by
    have := Nat.mul_le_mul_right m (show t + 1 ≤ m by omega)
    rw [Nat.add_mul, Nat.one_mul] at this; exact this
  omega

/-- 'r.steps[t] = append(r.steps[t], k)'. -/
theorem app_step {w wr w1 : World} {n m k t gg cap : Nat} {u : Value} {ds ids nx pv lst : List Int} {st : List Value} (hbr : Below w.heap.size w wr) (hsr : w.heap.size + 8 ≤ wr.heap.size)
    (hS : Slices wr (w.heap.size + 8) m st (fun t => pos ids t k)) (hsg : Seg wr w.heap.size (L8 w.heap.size n m u ds ids st nx pv lst)) (ht : ids.getD k 0 = t) (htm : t < m)
    (hgrow : ((wr.alloc (.cells #[.int .i64 k] 3)).drew).grownBy w1 (st.getD t nilS).ownBlock)
    (hown1 : w1.ownsRow (w.heap.size + 8) 3 1 (.slice (some ⟨gg, 0, none⟩) ((pos ids t k).length + 1) cap) ((pos ids t k).length + 1) ((pos ids t k).map (Value.int .i64) ++ [.int .i64 k]))
    (hat : (st.getD t nilS).ownBlock = some gg ∨ gg = wr.heap.size + 1) :
    Below w.heap.size w (w1.setCell ⟨w.heap.size + 4, t, none⟩ (.slice (some ⟨gg, 0, none⟩) ((pos ids t k).length + 1) cap)) ∧ w.heap.size + 8 ≤ (w1.setCell ⟨w.heap.size + 4, t, none⟩ (.slice (some ⟨gg, 0, none⟩) ((pos ids t k).length + 1) cap)).heap.size ∧
    ∃ st', Slices (w1.setCell ⟨w.heap.size + 4, t, none⟩ (.slice (some ⟨gg, 0, none⟩) ((pos ids t k).length + 1) cap)) (w.heap.size + 8) m st' (fun t => pos ids t (k + 1)) ∧
      Seg (w1.setCell ⟨w.heap.size + 4, t, none⟩ (.slice (some ⟨gg, 0, none⟩) ((pos ids t k).length + 1) cap)) w.heap.size (L8 w.heap.size n m u ds ids st' nx pv lst) := by
  have hvb : ∀ g, (st.getD t nilS).ownBlock = some g → w.heap.size + 8 ≤ g := fun g hg => ((hS.own t htm).lt g hg).1
  have hpos : pos ids t (k + 1) = pos ids t k ++ [(k : Int)] := by simp only [pos]; rw [if_pos ht]
  have hsz := hgrow.size
  simp at hsz
  refine ⟨?_, by simp; omega, st.set t (.slice (some ⟨gg, 0, none⟩) ((pos ids t k).length + 1) cap), ?_, ?_⟩
  · exact (((hbr.alloc (by omega) _).drew).grown hgrow (by simp; omega) (fun g hg => by have := hvb g hg; omega)).setCell (by simp) _
  · refine Slices.below ?_ (by simp) _
    have hS' : Slices ((wr.alloc (.cells #[.int .i64 k] 3)).drew) (w.heap.size + 8) m st (fun t => pos ids t k) := (hS.grown (World.grownBy_alloc _ _ none) (fun _ _ _ _ => by simp)).drew
    refine hS'.append htm (g := gg) rfl hgrow ?_ (hat.imp_right (fun h => by simp; omega)) ?_
    · rw [hpos]; simpa using hown1
    · intro t' _ hne
      simp only [pos]; rw [if_neg (by omega)]
  · have hsgA : Seg w1 w.heap.size (L8 w.heap.size n m u ds ids st nx pv lst) := ((hsg.alloc _).drew).grown hgrow (fun g hg => by have := hvb g hg; simp [L8]; omega)
    exact hsgA.set 4 rfl t _

set_option maxRecDepth 100000 in
set_option maxHeartbeats 1000000 in
theorem build_any (a : Option Addr) (b n c : Nat) (zs : List Int) (a1 a2 : Option Addr) (b1 b2 n1 n2 c1 c2 nu : Nat) (z1 z2 : List Int) (w : World) (hn : n ≤ 65536) (hl : zs.length = n)
    (ha : 0 < n → a = some ⟨b, 0, none⟩ ∧ IRow .u8 w b 5 zs) (hz : ∀ j, j < n → 0 ≤ zs.getD j 0 ∧ zs.getD j 0 < 256)
    (hnu : nu ≤ 65536) (hn1 : nu ≤ n1) (hn2 : nu ≤ n2) (hl1 : nu ≤ z1.length) (hl2 : nu ≤ z2.length) (ha1 : 0 < nu → a1 = some ⟨b1, 0, none⟩ ∧ IRow .u8 w b1 5 z1) (ha2 : 0 < nu → a2 = some ⟨b2, 0, none⟩ ∧ IRow .u8 w b2 5 z2)
    (hz1 : ∀ j, j < nu → 0 ≤ z1.getD j 0 ∧ z1.getD j 0 < 256) (hz2 : ∀ j, j < nu → 0 ≤ z2.getD j 0 ∧ z2.getD j 0 < 256) :
    Calls Try.prog 16 #[.slice a n c, .slice a1 n1 c1, .slice a2 n2 c2, .int .i64 nu] w fun e w' => ∃ (m U : Nat) (ids nx pv us : List Int) (st : List Value),
      e = .returned (.agg #[.int .i64 m, slc (w.heap.size + 3) n, slc (w.heap.size + 4) m, slc (w.heap.size + 5) n, slc (w.heap.size + 6) n, slc U (m * m)]) ∧ Below w.heap.size w w' ∧ RelOk w' w.heap.size n m U nu zs ids nx pv us st := by
  go_enter Try.func16, Try.ntmps16
  go_wp2
  -- loop 1
  go_loopw [10] (fun i wr => ∃ k : Nat, k ≤ 256 ∧ i = .int .i64 k ∧ Below w.heap.size w wr ∧ wr.heap.size = w.heap.size + 2 ∧
      ∃ ds : List Int, ds.length = 256 ∧ (∀ j, j < k → ds.getD j 0 = -1) ∧ Seg wr w.heap.size [(32, relCells 0 nilS nilS nilS nilS nilS), (64, ds.map (Value.int .i64))]) (fun i _ => 256 - (intOf i).toNat)
  case atStart =>
    refine ⟨0, Nat.zero_le _, rfl, ((Below.refl _ _).alloc (Nat.le_refl _) _).alloc (by simp) _, by simp, List.replicate 256 0, by simp, fun j hj => by omega, ?_⟩
    rw [← zero64]
    exact (((Seg.nil w _).pushAlloc (by simp) 32 _).pushAlloc (by simp) 64 _)
  case round =>
    obtain ⟨k, hk, rfl, hbr, hsr, ds, hdl, hd, hsg⟩ := hrel
    by_cases hlt : k < 256
    · have g1 := hsg.icell 1 rfl k (by omega)
      have f1 := hsg.frozen 1 (by simp)
      go_wp2
      go_roundw
      case rel =>
        refine ⟨k + 1, by omega, by go_num, hbr.setCell (by simp) _, by simpa using hsr, ds.set k (-1), by simpa using hdl, ?_, ?_⟩
        · intro j hj
          by_cases e : k = j
          · subst e; rw [getD_set_same _ _ _ (by omega)]
          · rw [getD_set_ne _ _ _ _ e]; exact hd j (by omega)
        · exact hsg.iset 1 rfl k (-1)
      case measure => simp [intOf]; omega
    · have hds : ∀ j, j < 256 → ds.getD j 0 = -1 := fun j hj => hd j (by omega)
      clear hd hk
      go_wp2_with (at_make; refine wpList_make_row _ rfl (.tmp 29) (.tmp 29) 29 rfl 3 (.int .i64 0) 1 8 Try.underlying29 info3 _ _ _ _ n rfl rfl rfl rfl (by omega) (by unfold maxLen; omega) _ (made_one _ rfl n) (w.heap.size + 3) (by simp [hsr]) ?_; intro w1 hrow1 hsz1 hbel1; have hsg1 : Seg w1 w.heap.size [(32, relCells 0 nilS nilS nilS nilS nilS), (64, ds.map (Value.int .i64)), (32, relCells 0 nilS nilS nilS nilS nilS), (3, List.replicate n (.int .i64 0))] := ((hsg.pushAlloc (by simp [hsr]) 32 _).push (by simp) hbel1 hrow1); have g1 : w1.cell? ⟨w.heap.size + 2, 1, none⟩ = some (.slice none 0 0) := hsg1.cell 2 rfl 1; have f1 := hsg1.frozen 2 (by simp) 1)
      have hsg2 : Seg (w1.setCell ⟨w.heap.size + 2, 1, none⟩ (slc (w.heap.size + 3) n)) w.heap.size [(32, relCells 0 nilS nilS nilS nilS nilS), (64, ds.map (Value.int .i64)), (32, relCells 0 (slc (w.heap.size + 3) n) nilS nilS nilS nilS), (3, (List.replicate n (0 : Int)).map (.int .i64))] := by
        have := hsg1.set 2 rfl 1 (slc (w.heap.size + 3) n)
        rw [List.map_replicate]; exact this
      have hbel2 : Below w.heap.size w (w1.setCell ⟨w.heap.size + 2, 1, none⟩ (slc (w.heap.size + 3) n)) := ((hbr.alloc (by omega) _).trans (hbel1.mono (by omega))).setCell (by simp) _
      -- loop 2
      go_loopw [12] (fun i wr => ∃ k : Nat, k ≤ n ∧ i = .int .i64 k ∧ Below w.heap.size w wr ∧ wr.heap.size = w.heap.size + 4 ∧
        ∃ (ds ids : List Int) (m : Nat), Ids zs k ids ds m ∧ Seg wr w.heap.size [(32, relCells 0 nilS nilS nilS nilS nilS), (64, ds.map (Value.int .i64)), (32, relCells m (slc (w.heap.size + 3) n) nilS nilS nilS nilS), (3, ids.map (.int .i64))]) (fun i _ => n - (intOf i).toNat)
      case atStart => exact ⟨0, Nat.zero_le _, rfl, hbel2, by simpa using hsz1, ds, List.replicate n 0, 0, Ids.start hdl (by simpa using hl.symm) hds, hsg2⟩
      case round =>
        clear hbr hsr hsg hlt hds hrow1 hsz1 hbel1 hsg1 g1 f1 hsg2 hbel2 hdl
        obtain ⟨k, hk, rfl, hbr, hsr, ds, ids, m, hI, hsg⟩ := hrel
        by_cases hlt : k < n
        · obtain ⟨rfl, hb⟩ := ha (by omega)
          have hblt := Row.lt hb
          obtain ⟨x, hx⟩ : ∃ x : Nat, zs.getD k 0 = x := ⟨(zs.getD k 0).toNat, by have := hz k hlt; omega⟩
          have hx2 : x < 256 := by have := hz k hlt; omega
          have g0 : wr.cell? ⟨b, k, none⟩ = some (.int .u8 x) := by rw [← hx]; exact (hbr.cell (by exact hblt)).trans (hb.cell k (by omega))
          have HX : Hid (zs.getD k 0 = x) := hx
          clear hx
          have hlo := hI.lenOf
          have hli := hI.lenI
          have hmk := hI.mle
          have g1 := hsg.icell 1 rfl x (by omega)
          have f1 := hsg.frozen 1 (by simp) x
          have g2 : wr.cell? ⟨w.heap.size + 2, 0, none⟩ = some (.int .i64 m) := hsg.cell 2 rfl 0
          have f2 := hsg.frozen 2 (by simp) 0
          have g3 : wr.cell? ⟨w.heap.size + 2, 1, none⟩ = some (.slice (some ⟨w.heap.size + 3, 0, none⟩) n n) := hsg.cell 2 rfl 1
          have g4 := hsg.icell 3 rfl k (by omega)
          have f4 := hsg.frozen 3 (by simp) k
          obtain ⟨y, hy⟩ : ∃ y, ds.getD x 0 = y := ⟨_, rfl⟩
          rw [hy] at g1
          have HY : Hid (ds.getD x 0 = y) := hy
          clear hy
          by_cases hneg : y < 0
          · go_wp2
            go_region
            go_wp2
            go_roundw
            case rel => exact ⟨k + 1, by omega, by go_num, (((hbr.setCell (by simp) _).setCell (by simp) _).setCell (by simp) _).drew, by simpa using hsr, ds.set x m, ids.set k m, m + 1, hI.miss (by omega) hx2 HX.out (by rw [HY.out]; exact hneg), (((hsg.iset 1 rfl x m).set 2 rfl 0 (.int .i64 (m + 1))).iset 3 rfl k m).drew⟩
            case measure => simp [intOf]; omega
          · go_wp2
            go_region
            go_wp2
            go_roundw
            case rel => exact ⟨k + 1, by omega, by go_num, (hbr.setCell (by simp) _).drew, by simpa using hsr, ds, ids.set k y, m, by rw [← HY.out]; exact hI.hit (by omega) HX.out (by rw [HY.out]; omega), (hsg.iset 3 rfl k y).drew⟩
            case measure => simp [intOf]; omega
        · have hkn : k = n := by omega
          have hIn : Ids zs n ids ds m := by rw [← hkn]; exact hI
          clear hI hk
          have hmk := hIn.mle
          have c1 : wr.cell? ⟨w.heap.size + 2, 0, none⟩ = some (.int .i64 m) := hsg.cell 2 rfl 0
          go_wp2_with (first | (at_make; refine wpList_make_row _ rfl (.tmp 62) (.tmp 62) 30 rfl 29 (.slice none 0 0) 1 24 Try.underlying30 info29 _ _ _ _ m rfl rfl rfl rfl (by omega) (by unfold maxLen; omega) _ (made_one _ rfl m) (w.heap.size + 4) (by simp [hsr]) ?_; intro w2 hrow2 hsz2 hbel2; have hsg2 : Seg w2 w.heap.size [(32, relCells 0 nilS nilS nilS nilS nilS), (64, ds.map (Value.int .i64)), (32, relCells m (slc (w.heap.size + 3) n) nilS nilS nilS nilS), (3, ids.map (.int .i64)), (29, List.replicate m (.slice none 0 0))] := (hsg).push (by simp) hbel2 hrow2; have g2 : w2.cell? ⟨w.heap.size + 2, 2, none⟩ = some (.slice none 0 0) := hsg2.cell 2 rfl 2; have f2 := hsg2.frozen 2 (by simp) 2; have c2 : w2.cell? ⟨w.heap.size + 2, 0, none⟩ = some (.int .i64 m) := hsg2.cell 2 rfl 0) | (at_make; refine wpList_make_row _ rfl (.tmp 66) (.tmp 66) 29 rfl 3 (.int .i64 0) 1 8 Try.underlying29 info3 _ _ _ _ n rfl rfl rfl rfl (by omega) (by unfold maxLen; omega) _ (made_one _ rfl n) (w.heap.size + 5) (by simp [hsz2]) ?_; intro w3 hrow3 hsz3 hbel3; have hsg3 : Seg w3 w.heap.size [(32, relCells 0 nilS nilS nilS nilS nilS), (64, ds.map (Value.int .i64)), (32, relCells m (slc (w.heap.size + 3) n) (slc (w.heap.size + 4) m) nilS nilS nilS), (3, ids.map (.int .i64)), (29, List.replicate m (.slice none 0 0)), (3, List.replicate n (.int .i64 0))] := (hsg2.set 2 rfl 2 (slc (w.heap.size + 4) m)).push (by simp) hbel3 hrow3; have g3 : w3.cell? ⟨w.heap.size + 2, 3, none⟩ = some (.slice none 0 0) := hsg3.cell 2 rfl 3; have f3 := hsg3.frozen 2 (by simp) 3; have c3 : w3.cell? ⟨w.heap.size + 2, 0, none⟩ = some (.int .i64 m) := hsg3.cell 2 rfl 0) | (at_make; refine wpList_make_row _ rfl (.tmp 70) (.tmp 70) 29 rfl 3 (.int .i64 0) 1 8 Try.underlying29 info3 _ _ _ _ n rfl rfl rfl rfl (by omega) (by unfold maxLen; omega) _ (made_one _ rfl n) (w.heap.size + 6) (by simp [hsz3]) ?_; intro w4 hrow4 hsz4 hbel4; have hsg4 : Seg w4 w.heap.size [(32, relCells 0 nilS nilS nilS nilS nilS), (64, ds.map (Value.int .i64)), (32, relCells m (slc (w.heap.size + 3) n) (slc (w.heap.size + 4) m) (slc (w.heap.size + 5) n) nilS nilS), (3, ids.map (.int .i64)), (29, List.replicate m (.slice none 0 0)), (3, List.replicate n (.int .i64 0)), (3, List.replicate n (.int .i64 0))] := (hsg3.set 2 rfl 3 (slc (w.heap.size + 5) n)).push (by simp) hbel4 hrow4; have g4 : w4.cell? ⟨w.heap.size + 2, 4, none⟩ = some (.slice none 0 0) := hsg4.cell 2 rfl 4; have f4 := hsg4.frozen 2 (by simp) 4; have c4 : w4.cell? ⟨w.heap.size + 2, 0, none⟩ = some (.int .i64 m) := hsg4.cell 2 rfl 0) | (at_make; refine wpList_make_row _ rfl (.tmp 74) (.tmp 74) 29 rfl 3 (.int .i64 0) 1 8 Try.underlying29 info3 _ _ _ _ m rfl rfl rfl rfl (by omega) (by unfold maxLen; omega) _ (made_one _ rfl m) (w.heap.size + 7) (by simp [hsz4]) ?_; intro w5 hrow5 hsz5 hbel5; have hsg5 : Seg w5 w.heap.size [(32, relCells 0 nilS nilS nilS nilS nilS), (64, ds.map (Value.int .i64)), (32, relCells m (slc (w.heap.size + 3) n) (slc (w.heap.size + 4) m) (slc (w.heap.size + 5) n) (slc (w.heap.size + 6) n) nilS), (3, ids.map (.int .i64)), (29, List.replicate m (.slice none 0 0)), (3, List.replicate n (.int .i64 0)), (3, List.replicate n (.int .i64 0)), (3, List.replicate m (.int .i64 0))] := (hsg4.set 2 rfl 4 (slc (w.heap.size + 6) n)).push (by simp) hbel5 hrow5; have c5 : w5.cell? ⟨w.heap.size + 2, 0, none⟩ = some (.int .i64 m) := hsg5.cell 2 rfl 0))
          have hbw : Below w.heap.size w w5 := ((((((hbr.trans (hbel2.mono (by omega))).setCell (by simp) (slc (w.heap.size + 4) m)).trans (hbel3.mono (by omega))).setCell (by simp) (slc (w.heap.size + 5) n)).trans (hbel4.mono (by omega))).setCell (by simp) (slc (w.heap.size + 6) n)).trans (hbel5.mono (by omega))
          clear hbr hsr hsg c1 hrow2 hsz2 hbel2 hsg2 g2 f2 c2 hrow3 hsz3 hbel3 hsg3 g3 f3 c3 hrow4 hsz4 hbel4 hsg4 g4 f4 c4 hrow5 hbel5 c5 hlt hkn
          -- loop 3
          go_loopw [15] (fun i wr => ∃ k : Nat, k ≤ m ∧ i = .int .i64 k ∧ Below w.heap.size w wr ∧ wr.heap.size = w.heap.size + 8 ∧
            ∃ lst : List Int, lst.length = m ∧ (∀ j, j < k → lst.getD j 0 = -1) ∧ Seg wr w.heap.size (L8 w.heap.size n m nilS ds ids (List.replicate m (.slice none 0 0)) (List.replicate n 0) (List.replicate n 0) lst)) (fun i _ => m - (intOf i).toNat)
          case atStart => exact ⟨0, Nat.zero_le _, rfl, hbw, by simpa using hsz5, List.replicate m 0, by simp, fun j hj => by omega, by unfold L8; simp only [List.map_replicate]; exact hsg5⟩
          case round =>
            clear hbw hsz5 hsg5
            obtain ⟨k, hk, rfl, hbr, hsr, lst, hll, hlm, hsg⟩ := hrel
            have c1 : wr.cell? ⟨w.heap.size + 2, 0, none⟩ = some (.int .i64 m) := hsg.cell 2 rfl 0
            by_cases hlt : k < m
            · have g1 := hsg.icell 7 rfl k (by omega)
              have f1 := hsg.frozen 7 (by simp [L8]) k
              go_wp2
              go_roundw
              case rel =>
                refine ⟨k + 1, by omega, by go_num, hbr.setCell (by simp) _, by simpa using hsr, lst.set k (-1), by simpa using hll, ?_, hsg.iset 7 rfl k (-1)⟩
                intro j hj
                by_cases e : k = j
                · subst e; rw [getD_set_same _ _ _ (by omega)]
                · rw [getD_set_ne _ _ _ _ e]; exact hlm j (by omega)
              case measure => simp [intOf]; omega
            · have hlm' : ∀ t, t < m → lst.getD t 0 = -1 := fun t ht => hlm t (by omega)
              clear hlm hk
              go_wp2
              -- loop 4
              go_loopw [16] (fun i wr => ∃ k : Nat, k ≤ n ∧ i = .int .i64 k ∧ Below w.heap.size w wr ∧ w.heap.size + 8 ≤ wr.heap.size ∧
                ∃ (nx pv lst : List Int) (st : List Value), Links ids k m nx pv lst ∧ Slices wr (w.heap.size + 8) m st (fun t => pos ids t k) ∧ Seg wr w.heap.size (L8 w.heap.size n m nilS ds ids st nx pv lst)) (fun i _ => n - (intOf i).toNat)
              case atStart => exact ⟨0, Nat.zero_le _, rfl, hbr, by omega, List.replicate n 0, List.replicate n 0, lst, List.replicate m (.slice none 0 0), Links.start (by have := hIn.lenI; simp; omega) (by have := hIn.lenI; simp; omega) hll hlm', Slices.nils _ _ _, hsg⟩
              case round =>
                clear hbr hsr hsg c1 hlm' hll hlt
                obtain ⟨k, hk, rfl, hbr, hsr, nx, pv, lst, st, hL, hS, hsg⟩ := hrel
                by_cases hlt : k < n
                · obtain ⟨t, ht, htm⟩ : ∃ t : Nat, ids.getD k 0 = t ∧ t < m := by
                    have := hIn.bd (by rw [hl]; exact hz) (by omega) hlt
                    exact ⟨(ids.getD k 0).toNat, by omega, by omega⟩
                  have hli := hIn.lenI
                  have l1 := hL.lnx
                  have l2 := hL.lpv
                  have l3 := hL.llst
                  have l4 := hS.len
                  have e1 : wr.cell? ⟨w.heap.size + 2, 1, none⟩ = some (.slice (some ⟨w.heap.size + 3, 0, none⟩) n n) := hsg.cell 2 rfl 1
                  have e2 : wr.cell? ⟨w.heap.size + 3, k, none⟩ = some (.int .i64 t) := by rw [← ht]; exact hsg.icell 3 rfl k (by omega)
                  have e3 : wr.cell? ⟨w.heap.size + 2, 2, none⟩ = some (.slice (some ⟨w.heap.size + 4, 0, none⟩) m m) := hsg.cell 2 rfl 2
                  obtain ⟨v, hv⟩ : ∃ v, st.getD t nilS = v := ⟨_, rfl⟩
                  have e4 : wr.cell? ⟨w.heap.size + 4, t, none⟩ = some v := by
                    rw [← hv, hsg.cell 4 rfl t]
                    simp [List.getD, l4, htm]
                  have f4 := hsg.frozen 4 (by simp [L8]) t
                  have hown := hS.own t htm
                  rw [hv] at hown
                  have hp := pos_le ids t k
                  have HT : Hid (ids.getD k 0 = t) := ht
                  have HV : Hid (st.getD t nilS = v) := hv
                  clear ht hv
                  have ht0 : (0 : Int) ≤ (t : Int) := Int.natCast_nonneg _
                  have ht1 : (t : Int) < (m : Int) := by omega
                  obtain ⟨i0, hi0, hz0, hz1, hz2⟩ := info_parts info3
                  have hvb : ∀ g, v.ownBlock = some g → w.heap.size + 8 ≤ g := fun g hg => (hown.lt g hg).1
                  have q2 : some (w.heap.size + 2) ≠ v.ownBlock := fun e => by have := hvb _ e.symm; omega
                  have q4 : some (w.heap.size + 4) ≠ v.ownBlock := fun e => by have := hvb _ e.symm; omega
                  go_upto_region 28 with fail
                  have h2lt : w.heap.size + 2 < wr.heap.size := by omega
                  have h4lt : w.heap.size + 4 < wr.heap.size := by omega
                  go_cut [] from 85 to 136 (fun wc => Below w.heap.size w wc ∧ w.heap.size + 8 ≤ wc.heap.size ∧ ∃ st', Slices wc (w.heap.size + 8) m st' (fun t => pos ids t (k + 1)) ∧ Seg wc w.heap.size (L8 w.heap.size n m nilS ds ids st' nx pv lst))
                  case first =>
                    go_region_law (((refine step_append_lies _ (by rfl) _ _ _ (by rfl) (w.heap.size + 8) 3 i0 _ 1 8 Try.underlying29 hi0 hz0 hz1 hz2 rfl (by omega) v (pos ids t k).length _ (by rfl) ((hown.alloc _).drew) ⟨wr.heap.size, 0, none⟩ 1 1 [.int .i64 k] (by rfl) (by rfl) (World.news_of_block (cs := #[.int .i64 k]) (t := 3) (fr := (0, 0)) (heap_alloc_new wr _)) (by simp [Value.oneCell']) (by omega) (by unfold maxLen; omega) (by omega) (by simp; omega) (wr.heap.size + 1) (by simp) ?_; intro gg cap w1 hown1 hgrow hat hlt1; have hsgA : Seg w1 w.heap.size (L8 w.heap.size n m nilS ds ids st nx pv lst) := ((hsg.alloc _).drew).grown hgrow (fun g hg => by have := hvb g hg; simp [L8]; omega); have fz := hsgA.frozen 4 (by simp [L8]) t; have e3' : w1.cell? ⟨w.heap.size + 2, 2, none⟩ = some (.slice (some ⟨w.heap.size + 4, 0, none⟩) m m) := hsgA.cell 2 rfl 2; have e4' : w1.cell? ⟨w.heap.size + 4, t, none⟩ = some v := by (rw [← HV.out, hsgA.cell 4 rfl t]; simp [List.getD, l4, htm]))))
                    all_goals go_wp2_with fail
                    all_goals go_meet
                    all_goals (rw [← HV.out] at hgrow hat; exact app_step hbr hsr hS hsg HT.out htm hgrow hown1 hat)
                  case rest =>
                    clear hbr hsr hS hsg e1 e2 e3 e4 f4 hown hvb q2 q4 h2lt h4lt l4 HV
                    obtain ⟨hbr, hsr, st', hS, hsg⟩ := hcut
                    have e1 : wc.cell? ⟨w.heap.size + 2, 4, none⟩ = some (.slice (some ⟨w.heap.size + 6, 0, none⟩) n n) := hsg.cell 2 rfl 4
                    have e2 : wc.cell? ⟨w.heap.size + 2, 3, none⟩ = some (.slice (some ⟨w.heap.size + 5, 0, none⟩) n n) := hsg.cell 2 rfl 3
                    have e3 := hsg.icell 6 rfl k (by omega)
                    have f3 := hsg.frozen 6 (by simp [L8])
                    have e4 := hsg.icell 5 rfl k (by omega)
                    have f4 := hsg.frozen 5 (by simp [L8])
                    have e5 := hsg.icell 7 rfl t (by omega)
                    have f5 := hsg.frozen 7 (by simp [L8])
                    have hstep := hL.step (by omega) htm HT.out
                    rcases hL.lastAt htm with hy | ⟨q, hy, hqk⟩
                    · rw [hy] at e5
                      have hL' := hstep.1 hy
                      rw [hy] at hL'
                      clear hstep hy hL
                      go_wp2
                      go_region
                      go_wp2
                      go_roundw
                      case rel => exact ⟨k + 1, by omega, by go_num, (((hbr.setCell (by simp) _).setCell (by simp) _).setCell (by simp) _).drew, by simpa using hsr, _, _, _, st', hL', ((((hS.below (by simp) _).below (by simp) _).below (by simp) _)).drew, ((((hsg.iset 6 rfl k (-1)).iset 5 rfl k (-1)).iset 7 rfl t k)).drew⟩
                      case measure => simp [intOf]; omega
                    · rw [hy] at e5
                      have hL' := hstep.2 q hy
                      rw [hy] at hL'
                      clear hstep hy hL
                      have e6 := hsg.icell 5 rfl q (by omega)
                      go_wp2
                      go_region
                      go_wp2
                      go_region
                      go_wp2
                      go_roundw
                      case rel => exact ⟨k + 1, by omega, by go_num, ((((hbr.setCell (by simp) _).setCell (by simp) _).setCell (by simp) _).setCell (by simp) _).drew.drew, by simpa using hsr, _, _, _, st', hL', ((((hS.below (by simp) _).below (by simp) _).below (by simp) _).below (by simp) _).drew.drew, (((((hsg.iset 6 rfl k q).iset 5 rfl k (-1)).iset 5 rfl q k).iset 7 rfl t k)).drew.drew⟩
                      case measure => simp [intOf]; omega
                · have hkn : n = k := by omega
                  subst hkn
                  have hU : ∀ t, t < m → ∀ g, (st.getD t nilS).ownBlock = some g → g < wr.heap.size := fun t ht g hg => ((hS.own t ht).lt g hg).2
                  have c1 : wr.cell? ⟨w.heap.size + 2, 0, none⟩ = some (.int .i64 m) := hsg.cell 2 rfl 0
                  have sq := sq_bd m (by omega)
                  have sqi : ((m * m : Nat) : Int) = (m : Int) * (m : Int) := Int.natCast_mul m m
                  have sq1 : (m : Int) * (m : Int) ≤ 4294967296 := by omega
                  have sq0 : (0 : Int) ≤ (m : Int) * (m : Int) := by omega
                  have SQ : Hid (((m * m : Nat) : Int) = (m : Int) * (m : Int)) := sqi
                  clear sqi
                  go_wp2_with (at_make; refine wpList_make_row _ rfl (.tmp 141) (.tmp 141) 29 rfl 3 (.int .i64 0) 1 8 Try.underlying29 info3 _ _ _ _ (m * m) rfl rfl SQ.out.symm SQ.out.symm (by omega) (by unfold maxLen; omega) _ (made_one _ rfl (m * m)) wr.heap.size rfl ?_; intro w6 hrow6 hsz6 hbel6; have g6 : w6.cell? ⟨w.heap.size + 2, 5, none⟩ = some (.slice none 0 0) := (hsg.below hbel6 (by simp [L8]; omega)).cell 2 rfl 5; have f6 := (hsg.below hbel6 (by simp [L8]; omega)).frozen 2 (by simp [L8]) 5)
                  have hsg7 : Seg (w6.setCell ⟨w.heap.size + 2, 5, none⟩ (slc wr.heap.size (m * m))) w.heap.size (L8 w.heap.size n m (slc wr.heap.size (m * m)) ds ids st nx pv lst) := (hsg.below hbel6 (by simp [L8]; omega)).set 2 rfl 5 _
                  have hS7 : Slices (w6.setCell ⟨w.heap.size + 2, 5, none⟩ (slc wr.heap.size (m * m))) (w.heap.size + 8) m st (fun t => pos ids t n) := (hS.keep hbel6 hU).below (by simp) _
                  have hb7 : Below w.heap.size w (w6.setCell ⟨w.heap.size + 2, 5, none⟩ (slc wr.heap.size (m * m))) := (hbr.trans (hbel6.mono (by omega))).setCell (by simp) _
                  have hr7 : Row (w6.setCell ⟨w.heap.size + 2, 5, none⟩ (slc wr.heap.size (m * m))) wr.heap.size 3 ((List.replicate (m * m) (0 : Int)).map (Value.int .i64)) := by
                    rw [List.map_replicate]; exact hrow6.set_ne (by simp; omega) _
                  have hz7 : (w6.setCell ⟨w.heap.size + 2, 5, none⟩ (slc wr.heap.size (m * m))).heap.size = wr.heap.size + 1 := by simpa using hsz6
                  obtain ⟨w7, hw7⟩ : ∃ w7, w6.setCell ⟨w.heap.size + 2, 5, none⟩ (slc wr.heap.size (m * m)) = w7 := ⟨_, rfl⟩
                  have hw7' : w6.setCell ⟨w.heap.size + 2, 5, none⟩ (.slice (some ⟨wr.heap.size, 0, none⟩) (m * m) (m * m)) = w7 := hw7
                  rw [hw7] at hsg7 hS7 hb7 hr7 hz7
                  rw [hw7']
                  clear hw7 hw7' hsg hbr hrow6 hsz6 hbel6 g6 f6 c1 hS hlt
                  obtain ⟨U, hUe⟩ : ∃ U, wr.heap.size = U := ⟨_, rfl⟩
                  rw [hUe] at hsg7 hr7 hz7 hU hsr
                  simp only [hUe]
                  clear hUe
                  -- loop 5
                  go_loopw [18] (fun i wr => ∃ k : Nat, k ≤ m * m ∧ i = .int .i64 k ∧ wr.heap.size = U + 1 ∧ Below U w7 wr ∧ ∃ us : List Int, us.length = m * m ∧ IRow .i64 wr U 3 us ∧ ∀ j, j < k → us.getD j 0 = -1) (fun i _ => m * m - (intOf i).toNat)
                  case atStart => exact ⟨0, Nat.zero_le _, rfl, hz7, Below.refl _ _, List.replicate (m * m) 0, by simp, hr7, fun j hj => by omega⟩
                  case round =>
                    obtain ⟨k, hk, rfl, hsr2, hbr, us, hul, hur, hum⟩ := hrel
                    have hsgr := hsg7.below hbr (by simp [L8]; omega)
                    have c1 : wr.cell? ⟨w.heap.size + 2, 5, none⟩ = some (.slice (some ⟨U, 0, none⟩) (m * m) (m * m)) := hsgr.cell 2 rfl 5
                    by_cases hlt : k < m * m
                    · have g1 := hur.cell k (by omega)
                      have f1 := Row.frozen hur k
                      have hlt' : (k : Int) < ((m * m : Nat) : Int) := by omega
                      go_wp2
                      go_roundw
                      case rel =>
                        refine ⟨k + 1, by omega, by go_num, by simpa using hsr2, hbr.setCell (by simp) _, us.set k (-1), by simpa using hul, hur.set k (-1), ?_⟩
                        intro j hj
                        by_cases e : k = j
                        · subst e; rw [getD_set_same _ _ _ (by omega)]
                        · rw [getD_set_ne _ _ _ _ e]; exact hum j (by omega)
                      case measure => simp [intOf]; omega
                    · have hlt' : ¬ (k : Int) < ((m * m : Nat) : Int) := by omega
                      go_wp2
                      have hum' : ∀ j, j < m * m → us.getD j 0 = -1 := fun j hj => hum j (by omega)
                      clear hum hk
                      -- loop 6
                      go_loopw [19] (fun i wr => ∃ k : Nat, k ≤ nu ∧ i = .int .i64 k ∧ wr.heap.size = U + 1 ∧ Below U w7 wr ∧ ∃ us : List Int, us.length = m * m ∧ IRow .i64 wr U 3 us ∧ ∀ j, j < m * m → us.getD j 0 = -1 ∨ (0 ≤ us.getD j 0 ∧ us.getD j 0 < (nu : Int))) (fun i _ => nu - (intOf i).toNat)
                      case atStart => exact ⟨0, Nat.zero_le _, rfl, hsr2, hbr, us, hul, hur, fun j hj => .inl (hum' j hj)⟩
                      case round =>
                        clear hsr2 hbr hul hur hum' hsgr c1 hlt hlt'
                        obtain ⟨k, hk, rfl, hsr2, hbr, us, hul, hur, hum⟩ := hrel
                        have hsgr := hsg7.below hbr (by simp [L8]; omega)
                        by_cases hlt : k < nu
                        · obtain ⟨rfl, hb1⟩ := ha1 (by omega)
                          obtain ⟨rfl, hb2⟩ := ha2 (by omega)
                          have hblt1 := Row.lt hb1
                          have hblt2 := Row.lt hb2
                          have hbwr : Below w.heap.size w wr := hb7.trans (hbr.mono (by omega))
                          obtain ⟨x, hx⟩ : ∃ x : Nat, z1.getD k 0 = x := ⟨(z1.getD k 0).toNat, by have := hz1 k hlt; omega⟩
                          have hx2 : x < 256 := by have := hz1 k hlt; omega
                          obtain ⟨y, hy⟩ : ∃ y : Nat, z2.getD k 0 = y := ⟨(z2.getD k 0).toNat, by have := hz2 k hlt; omega⟩
                          have hy2 : y < 256 := by have := hz2 k hlt; omega
                          have g1 : wr.cell? ⟨b1, k, none⟩ = some (.int .u8 x) := by rw [← hx]; exact (hbwr.cell (by exact hblt1)).trans (hb1.cell k (by omega))
                          have g2 : wr.cell? ⟨b2, k, none⟩ = some (.int .u8 y) := by rw [← hy]; exact (hbwr.cell (by exact hblt2)).trans (hb2.cell k (by omega))
                          clear hx hy
                          have hlo := hIn.lenOf
                          have hT := hIn.rng x hx2
                          have hO := hIn.rng y hy2
                          have g3 := hsgr.icell 1 rfl x (by omega)
                          have g4 := hsgr.icell 1 rfl y (by omega)
                          have c5 : wr.cell? ⟨w.heap.size + 2, 5, none⟩ = some (.slice (some ⟨U, 0, none⟩) (m * m) (m * m)) := hsgr.cell 2 rfl 5
                          have c0 : wr.cell? ⟨w.heap.size + 2, 0, none⟩ = some (.int .i64 m) := hsgr.cell 2 rfl 0
                          have hn1' : (k : Int) < (n1 : Int) := by omega
                          have hn2' : (k : Int) < (n2 : Int) := by omega
                          obtain ⟨T, hTe⟩ : ∃ T, ds.getD x 0 = T := ⟨_, rfl⟩
                          obtain ⟨O, hOe⟩ : ∃ O, ds.getD y 0 = O := ⟨_, rfl⟩
                          rw [hTe] at hT g3
                          rw [hOe] at hO g4
                          clear hTe hOe
                          have fin : ∀ wf : World, wf = wr → wf.heap.size = U + 1 ∧ Below U w7 wf ∧ ∃ us : List Int, us.length = m * m ∧ IRow .i64 wf U 3 us ∧ ∀ j, j < m * m → us.getD j 0 = -1 ∨ (0 ≤ us.getD j 0 ∧ us.getD j 0 < (nu : Int)) := by
                            intro wf e; subst e; exact ⟨hsr2, hbr, us, hul, hur, hum⟩
                          have FIN : Hid (∀ wf : World, wf = wr → wf.heap.size = U + 1 ∧ Below U w7 wf ∧ ∃ us : List Int, us.length = m * m ∧ IRow .i64 wf U 3 us ∧ ∀ j, j < m * m → us.getD j 0 = -1 ∨ (0 ≤ us.getD j 0 ∧ us.getD j 0 < (nu : Int))) := fin
                          clear fin
                          by_cases hT0 : T < 0
                          · go_wp2
                            go_roundw
                            case rel => exact ⟨k + 1, by omega, by go_num, FIN.out _ rfl⟩
                            case measure => simp [intOf]; omega
                          · by_cases hO0 : O < 0
                            · go_wp2
                              go_roundw
                              case rel => exact ⟨k + 1, by omega, by go_num, FIN.out _ rfl⟩
                              case measure => simp [intOf]; omega
                            · obtain ⟨t, rfl⟩ : ∃ t : Nat, T = t := ⟨T.toNat, by omega⟩
                              obtain ⟨o, rfl⟩ : ∃ o : Nat, O = o := ⟨O.toNat, by omega⟩
                              have htm : t < m := by omega
                              have hom : o < m := by omega
                              by_cases hto : t = o
                              · subst hto
                                go_wp2
                                go_roundw
                                case rel => exact ⟨k + 1, by omega, by go_num, FIN.out _ rfl⟩
                                case measure => simp [intOf]; omega
                              · have hix := idx_bd t o m htm hom
                                have hixi : ((t * m + o : Nat) : Int) = (t : Int) * (m : Int) + (o : Int) := by simp
                                have i0 : (0 : Int) ≤ (t : Int) * (m : Int) := by omega
                                have i1 : (t : Int) * (m : Int) + (o : Int) < (m : Int) * (m : Int) := by have := SQ.out; omega
                                have g5 := hur.cell (t * m + o) (by omega)
                                have f5 := Row.frozen hur (t * m + o)
                                clear hixi
                                obtain ⟨r, hr⟩ : ∃ r, us.getD (t * m + o) 0 = r := ⟨_, rfl⟩
                                rw [hr] at g5
                                clear hr
                                by_cases hr0 : r < 0
                                · go_wp2
                                  go_roundw
                                  case rel =>
                                    refine ⟨k + 1, by omega, by go_num, by simpa using hsr2, hbr.setCell (by simp) _, us.set (t * m + o) k, by simpa using hul, hur.set (t * m + o) k, ?_⟩
                                    intro j hj
                                    by_cases e : t * m + o = j
                                    · subst e; rw [getD_set_same _ _ _ (by omega)]; right; omega
                                    · rw [getD_set_ne _ _ _ _ e]; exact hum j hj
                                  case measure => simp [intOf]; omega
                                · go_wp2
                                  go_roundw
                                  case rel => exact ⟨k + 1, by omega, by go_num, FIN.out _ rfl⟩
                                  case measure => simp [intOf]; omega
                        · have c0 : wr.cell? ⟨w.heap.size + 2, 0, none⟩ = some (.int .i64 m) := hsgr.cell 2 rfl 0
                          have c1 : wr.cell? ⟨w.heap.size + 2, 1, none⟩ = some (.slice (some ⟨w.heap.size + 3, 0, none⟩) n n) := hsgr.cell 2 rfl 1
                          have c2 : wr.cell? ⟨w.heap.size + 2, 2, none⟩ = some (.slice (some ⟨w.heap.size + 4, 0, none⟩) m m) := hsgr.cell 2 rfl 2
                          have c3 : wr.cell? ⟨w.heap.size + 2, 3, none⟩ = some (.slice (some ⟨w.heap.size + 5, 0, none⟩) n n) := hsgr.cell 2 rfl 3
                          have c4 : wr.cell? ⟨w.heap.size + 2, 4, none⟩ = some (.slice (some ⟨w.heap.size + 6, 0, none⟩) n n) := hsgr.cell 2 rfl 4
                          have c5 : wr.cell? ⟨w.heap.size + 2, 5, none⟩ = some (.slice (some ⟨U, 0, none⟩) (m * m) (m * m)) := hsgr.cell 2 rfl 5
                          have d0 : wr.cell? ⟨w.heap.size, 0, none⟩ = some (.int .i64 0) := hsgr.cell 0 rfl 0
                          have d1 : wr.cell? ⟨w.heap.size, 1, none⟩ = some (.slice none 0 0) := hsgr.cell 0 rfl 1
                          have d2 : wr.cell? ⟨w.heap.size, 2, none⟩ = some (.slice none 0 0) := hsgr.cell 0 rfl 2
                          have d3 : wr.cell? ⟨w.heap.size, 3, none⟩ = some (.slice none 0 0) := hsgr.cell 0 rfl 3
                          have d4 : wr.cell? ⟨w.heap.size, 4, none⟩ = some (.slice none 0 0) := hsgr.cell 0 rfl 4
                          have d5 : wr.cell? ⟨w.heap.size, 5, none⟩ = some (.slice none 0 0) := hsgr.cell 0 rfl 5
                          have fr : ∀ j, wr.frozen? ⟨w.heap.size, j, none⟩ = false := hsgr.frozen 0 (by simp [L8])
                          have hR : RelOk wr w.heap.size n m U nu zs ids nx pv us st := ⟨⟨ds, hIn⟩, ⟨lst, hL⟩, hS7.keep hbr hU, hU, Seg.left (M := [(3, lst.map (Value.int .i64))]) (hsgr.drop 3), hur, hul, hum, hsr, by omega⟩
                          have hbwr : Below w.heap.size w wr := hb7.trans (hbr.mono (by omega))
                          go_wp2
                          refine bodyPost_ret (v := .agg #[.int .i64 m, slc (w.heap.size + 3) n, slc (w.heap.size + 4) m, slc (w.heap.size + 5) n, slc (w.heap.size + 6) n, slc U (m * m)]) (by simp [results, Try.results16, go_sem, slc, d0, d1, d2, d3, d4, d5]) rfl ⟨m, U, ids, nx, pv, us, st, rfl, ?_, ?_⟩
                          · exact (((((hbwr.setCell (by simp) _).setCell (by simp) _).setCell (by simp) _).setCell (by simp) _).setCell (by simp) _).setCell (by simp) _
                          · exact (((((hR.lo (by simp) _).lo (by simp) _).lo (by simp) _).lo (by simp) _).lo (by simp) _).lo (by simp) _

end Go.Proofs.Qxb6602514a
