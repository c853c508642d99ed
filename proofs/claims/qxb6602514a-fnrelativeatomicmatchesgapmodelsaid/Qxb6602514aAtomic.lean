import Derived.Test.Qxb6602514aAdmit
set_option linter.unusedVariables false
namespace Go.Proofs.Qxb6602514a
open Go.RowKit

theorem cellOf {w wr : World} {a : Addr} {v : Value} (h : w.cell? a = some v) (hb : Below w.heap.size w wr) : wr.cell? a = some v := (hb.cell (World.block_lt_of_cell? w a h)).trans h

/-- A slice of integers as a reader sees it. -/
def RdInts (w : World) (v : Value) (xs : List Int) : Prop := ∃ oa cap g, v = .slice oa xs.length cap ∧ (0 < xs.length → oa = some ⟨g, 0, none⟩) ∧ ∀ j, j < xs.length → w.cell? ⟨g, j, none⟩ = some (.int .i64 (xs.getD j 0))

theorem RdInts.of_own {w : World} {base : Nat} {v : Value} {xs : List Int} (h : w.ownsRow base 3 1 v xs.length (xs.map (Value.int .i64))) : RdInts w v xs := by
  obtain ⟨oa, cap, g, rfl, hr⟩ := own_read h
  refine ⟨oa, cap, g, rfl, fun hp => (hr hp).1, fun j hj => ?_⟩
  rw [(hr (by omega)).2.2.2.2 j hj]; simp [List.getD, hj]
theorem RdInts.below {w wr : World} {v : Value} {xs : List Int} (h : RdInts w v xs) (hb : Below w.heap.size w wr) : RdInts wr v xs := by
  obtain ⟨oa, cap, g, h1, h2, h3⟩ := h
  exact ⟨oa, cap, g, h1, h2, fun j hj => cellOf (h3 j hj) hb⟩

/-- What atomic is handed. -/
structure AtomIn (w : World) (RB HB nb pb sb cb SB TB n m : Nat) (ids nx pv : List Int) (f os : Nat → List Int) (ks : Nat → Nat → List Int) : Prop where
  r0 : w.cell? ⟨RB, 0, none⟩ = some (.pointer (some ⟨HB, 0, none⟩))
  r1 : w.cell? ⟨RB, 1, none⟩ = some (.slice (some ⟨nb, 0, none⟩) n n)
  r2 : w.cell? ⟨RB, 2, none⟩ = some (.slice (some ⟨pb, 0, none⟩) n n)
  r6 : w.cell? ⟨RB, 6, none⟩ = some (.slice (some ⟨sb, 0, none⟩) m m)
  r8 : w.cell? ⟨RB, 8, none⟩ = some (.slice (some ⟨cb, 0, none⟩) m m)
  h0 : w.cell? ⟨HB, 0, none⟩ = some (.slice (some ⟨TB, 0, none⟩) m m)
  h2 : w.cell? ⟨HB, 2, none⟩ = some (.slice (some ⟨SB, 0, none⟩) n n)
  s0 : ∀ i, i < n → w.cell? ⟨SB, i * 4, none⟩ = some (.int .i64 (ids.getD i 0))
  s1 : ∀ i, i < n → w.cell? ⟨SB, i * 4 + 1, none⟩ = some (.string { data := #[114] })
  s2 : ∀ i, i < n → w.cell? ⟨SB, i * 4 + 2, none⟩ = some (.int .i64 0)
  s3 : ∀ i, i < n → w.cell? ⟨SB, i * 4 + 3, none⟩ = some (.int .i64 ((i : Int) + 1))
  nx : IRow .i64 w nb 3 nx
  pv : IRow .i64 w pb 3 pv
  stp : ∀ t, t < m → ∃ v, w.cell? ⟨sb, t, none⟩ = some v ∧ RdInts w v (f t)
  cut : ∀ t, t < m → ∃ oa cap g, w.cell? ⟨cb, t, none⟩ = some (.slice oa (os t).length cap) ∧ (0 < (os t).length → oa = some ⟨g, 0, none⟩) ∧
    ∀ i, i < (os t).length → w.cell? ⟨g, i * 2, none⟩ = some (.int .i64 ((os t).getD i 0)) ∧ ∃ v, w.cell? ⟨g, i * 2 + 1, none⟩ = some v ∧ RdInts w v (ks t i)

/-- The plain conditions. -/
structure AtomPlain (n m : Nat) (ids nx pv : List Int) (f os : Nat → List Int) (ks : Nat → Nat → List Int) : Prop where
  hn : n ≤ 65536
  hm : m ≤ 65536
  links : ∃ lst, Links ids n m nx pv lst
  idl : ids.length = n
  idr : ∀ i, i < n → 0 ≤ ids.getD i 0 ∧ ids.getD i 0 < (m : Int)
  fr : ∀ t, t < m → ∀ j, j < (f t).length → 0 ≤ (f t).getD j 0 ∧ (f t).getD j 0 < (n : Int)
  fl : ∀ t, t < m → (f t).length ≤ 65536
  osr : ∀ t, t < m → ∀ o ∈ os t, 0 ≤ o ∧ o < (m : Int)
  osl : ∀ t, t < m → (os t).length ≤ 65536
  ksr : ∀ t, t < m → ∀ i, i < (os t).length → ∀ j, j < (ks t i).length → 1 ≤ (ks t i).getD j 0 ∧ (ks t i).getD j 0 ≤ ((f t).length : Int)
  ksl : ∀ t, t < m → ∀ i, i < (os t).length → (ks t i).length ≤ 65536
  one : ∀ p, p < n → ∀ u, cnt (Eof (evT f os ks m) p) u ≤ 1
  el : ∀ p, p < n → (Eof (evT f os ks m) p).length ≤ 65536

/-- 'ends' as it stands behind the events ev. -/
def EndsOk (w wr : World) (n : Nat) (ev : List (Int × Int)) : Prop :=
  Below w.heap.size w wr ∧ w.heap.size + 2 ≤ wr.heap.size ∧ ∃ es, Slices wr (w.heap.size + 2) n es (Eof ev) ∧ Seg wr w.heap.size [(29, es), (30, [.slice (some ⟨w.heap.size, 0, none⟩) n n])]
/-- .. with the cut in hand, in block cB, of observer o. -/
def EndsOkC (w wr : World) (n : Nat) (ev : List (Int × Int)) (cB : Nat) (o : Int) : Prop :=
  Below w.heap.size w wr ∧ w.heap.size + 2 ≤ wr.heap.size ∧ (∃ es, Slices wr (w.heap.size + 2) n es (Eof ev) ∧ Seg wr w.heap.size [(29, es), (30, [.slice (some ⟨w.heap.size, 0, none⟩) n n])] ∧ ∀ p, p < n → (es.getD p nilS).ownBlock ≠ some cB) ∧
  w.heap.size + 2 ≤ cB ∧ wr.cell? ⟨cB, 0, none⟩ = some (.int .i64 o)

theorem EndsOkC.out {w wr : World} {n : Nat} {ev : List (Int × Int)} {cB : Nat} {o : Int} (h : EndsOkC w wr n ev cB o) : EndsOk w wr n ev := by
  obtain ⟨h1, h2, ⟨es, h3, h4, _⟩, _⟩ := h
  exact ⟨h1, h2, es, h3, h4⟩

theorem EndsOk.enter {w wr : World} {n : Nat} {ev : List (Int × Int)} {o : Int} {v : Value} (h : EndsOk w wr n ev) : EndsOkC w (wr.alloc (.cells #[.int .i64 o, v] 98)) n ev wr.heap.size o := by
  obtain ⟨h1, h2, es, h3, h4⟩ := h
  refine ⟨h1.alloc (by omega) _, by simp; omega, ⟨es, h3.grown (World.grownBy_alloc _ _ none) (fun _ _ _ _ => by simp), h4.alloc _, fun p hp e => ?_⟩, h2, ?_⟩
  · have := ((h3.own p hp).lt _ e).2; omega
  · rw [World.cell?_alloc_at _ _ _ _ rfl]; rfl

/-- 'ends[p] = append(ends[p], c.observer)'. -/
theorem ends_step {w wr w1 : World} {n p gg cap cB : Nat} {o : Int} {ev : List (Int × Int)} {es : List Value} (hbr : Below w.heap.size w wr) (hsr : w.heap.size + 2 ≤ wr.heap.size)
    (hS : Slices wr (w.heap.size + 2) n es (Eof ev)) (hsg : Seg wr w.heap.size [(29, es), (30, [.slice (some ⟨w.heap.size, 0, none⟩) n n])]) (hcs : ∀ p, p < n → (es.getD p nilS).ownBlock ≠ some cB) (hcB : w.heap.size + 2 ≤ cB) (hco : wr.cell? ⟨cB, 0, none⟩ = some (.int .i64 o)) (hp : p < n)
    (hgrow : ((wr.alloc (.cells #[.int .i64 o] 3)).drew).grownBy w1 (es.getD p nilS).ownBlock)
    (hown1 : w1.ownsRow (w.heap.size + 2) 3 1 (.slice (some ⟨gg, 0, none⟩) ((Eof ev p).length + 1) cap) ((Eof ev p).length + 1) ((Eof ev p).map (Value.int .i64) ++ [.int .i64 o]))
    (hat : (es.getD p nilS).ownBlock = some gg ∨ gg = wr.heap.size + 1) :
    EndsOkC w (w1.setCell ⟨w.heap.size, p, none⟩ (.slice (some ⟨gg, 0, none⟩) ((Eof ev p).length + 1) cap)) n (ev ++ [((p : Int), o)]) cB o := by
  have hvb : ∀ g, (es.getD p nilS).ownBlock = some g → w.heap.size + 2 ≤ g := fun g hg => ((hS.own p hp).lt g hg).1
  have hcl := World.block_lt_of_cell? wr _ hco
  simp at hcl
  have hsz := hgrow.size
  simp at hsz
  refine ⟨?_, by simp; omega, ⟨es.set p (.slice (some ⟨gg, 0, none⟩) ((Eof ev p).length + 1) cap), ?_, ?_, ?_⟩, hcB, ?_⟩
  · exact (((hbr.alloc (by omega) _).drew).grown hgrow (by simp; omega) (fun g hg => by have := hvb g hg; omega)).setCell (by simp) _
  · refine Slices.below ?_ (by simp) _
    have hS' : Slices ((wr.alloc (.cells #[.int .i64 o] 3)).drew) (w.heap.size + 2) n es (Eof ev) := (hS.grown (World.grownBy_alloc _ _ none) (fun _ _ _ _ => by simp)).drew
    refine hS'.append hp (g := gg) rfl hgrow ?_ (hat.imp_right (fun h => by simp; omega)) ?_
    · rw [Eof_snoc, if_pos rfl]; simpa using hown1
    · intro p' _ hne
      rw [Eof_snoc, if_neg (by omega)]
  · exact (((hsg.alloc _).drew).grown hgrow (fun g hg => by have := hvb g hg; simpa using this)).set 0 rfl p _
  · intro p' hp' e
    by_cases e' : p = p'
    · subst e'
      simp [List.getD, hS.len, hp, Value.ownBlock] at e
      subst e
      rcases hat with h | h
      · exact hcs p hp h
      · omega
    · simp [List.getD, e'] at e
      exact hcs p' hp' (by simpa [List.getD] using e)
  · have h1 : ((wr.alloc (.cells #[.int .i64 o] 3)).drew).cell? ⟨cB, 0, none⟩ = some (.int .i64 o) := (World.cell?_alloc_past _ _ _ hcl).trans hco
    have h2 := hgrow.cell h1 (fun e => hcs p hp e.symm)
    rw [World.cell?_of_block (w := w1) (by exact Below.heap_setCell _ _ _ _ (by simp; omega))]; exact h2

theorem Eof_rng {m : Nat} {f os : Nat → List Int} {ks : Nat → Nat → List Int} (hos : ∀ t, t < m → ∀ o ∈ os t, 0 ≤ o ∧ o < (m : Int)) {p : Nat} {o : Int} (h : o ∈ Eof (evT f os ks m) p) : 0 ≤ o ∧ o < (m : Int) := by
  rw [Eof_mem] at h
  have key : ∀ t, t ≤ m → ((p : Int), o) ∈ evT f os ks t → 0 ≤ o ∧ o < (m : Int) := by
    intro t
    induction t with
    | zero => intro _ h; simp [evT] at h
    | succ t ih =>
      intro ht h
      simp only [evT, List.mem_append] at h
      rcases h with h | h
      · exact ih (by omega) h
      · have key2 : ∀ i, i ≤ (os t).length → ((p : Int), o) ∈ evI f os ks t i → 0 ≤ o ∧ o < (m : Int) := by
          intro i
          induction i with
          | zero => intro _ h; simp [evI] at h
          | succ i ih2 =>
            intro hi h
            simp only [evI, List.mem_append] at h
            rcases h with h | h
            · exact ih2 (by omega) h
            · unfold evK at h
              rw [List.mem_map] at h
              obtain ⟨k, _, hk⟩ := h
              simp only [Prod.mk.injEq] at hk
              rw [← hk.2]
              refine hos t (by omega) _ ?_
              rw [show (os t).getD i 0 = (os t)[i]'(by omega) by simp [List.getD, show i < (os t).length by omega]]
              exact List.getElem_mem _
        exact key2 _ (Nat.le_refl _) h
  exact key m (Nat.le_refl _) h

/-- 'admitted', behind the blocks of wE: its row says g. -/
def AdSt (wE wc : World) (m : Nat) (g : Nat → Int) : Prop :=
  Below wE.heap.size wE wc ∧ wE.heap.size + 2 ≤ wc.heap.size ∧ wc.cell? ⟨wE.heap.size + 1, 0, none⟩ = some (.slice (some ⟨wE.heap.size, 0, none⟩) m m) ∧
  ∃ ad : List Int, ad.length = m ∧ IRow .i64 wc wE.heap.size 3 ad ∧ ∀ u, u < m → ad.getD u 0 = g u

theorem AdSt.congr {wE wc : World} {m : Nat} {g g' : Nat → Int} (h : AdSt wE wc m g) (e : ∀ u, u < m → g u = g' u) : AdSt wE wc m g' := by
  obtain ⟨h1, h2, h3, ad, h4, h5, h6⟩ := h
  exact ⟨h1, h2, h3, ad, h4, h5, fun u hu => (h6 u hu).trans (e u hu)⟩

theorem AdSt.alloc {wE wc : World} {m : Nat} {g : Nat → Int} (h : AdSt wE wc m g) (o : Obj) : AdSt wE (wc.alloc o) m g := by
  obtain ⟨h1, h2, h3, ad, h4, h5, h6⟩ := h
  exact ⟨h1.alloc (by omega) o, by simp; omega, (World.cell?_alloc_past o _ _ (by omega)).trans h3, ad, h4, Row.alloc h5 o, h6⟩

theorem admit_st {w wE wc : World} {n m : Nat} {g : Nat → Int} {es : List Value} {E : Nat → List Int} (p : Nat) (d : Int) (hst : AdSt wE wc m g) (hs1 : w.heap.size + 2 ≤ wE.heap.size)
    (hS : Slices wE (w.heap.size + 2) n es E) (hsg : Seg wE w.heap.size [(29, es), (30, [.slice (some ⟨w.heap.size, 0, none⟩) n n])]) (hp : p < n) (hd1 : -1 ≤ d) (hd2 : d ≤ 1)
    (hel : (E p).length ≤ 65536) (hErng : ∀ o ∈ E p, 0 ≤ o ∧ o < (m : Int)) (hg : ∀ u, u < m → -65536 ≤ g u ∧ g u ≤ 65536) :
    Calls Try.prog 59 #[.int .i64 p, .int .i64 d, .pointer (some ⟨w.heap.size + 1, 0, none⟩), .pointer (some ⟨wE.heap.size + 1, 0, none⟩)] wc fun e w' =>
      e = .returned (.tuple #[]) ∧ AdSt wE w' m (fun u => g u + d * cnt (E p) u) ∧ ∀ X v, wE.heap.size + 2 ≤ X → wc.cell? ⟨X, 0, none⟩ = some v → w'.cell? ⟨X, 0, none⟩ = some v := by
  obtain ⟨h1, h2, h3, ad, h4, h5, h6⟩ := hst
  have hSc := hS.keep h1 (fun t ht g hg => ((hS.own t ht).lt g hg).2)
  have hsgc := hsg.below h1 (by simpa using hs1)
  have hlt := fun g hg => ((hS.own p hp).lt g hg).2
  have hev : wc.cell? ⟨w.heap.size, p, none⟩ = some (es.getD p nilS) := by
    have := hsgc.cell 0 rfl p
    rw [Nat.add_zero] at this
    rw [this]; simp [List.getD, hS.len, hp]
  refine (admit_any wc p (w.heap.size + 2) (w.heap.size + 1) (wE.heap.size + 1) w.heap.size wE.heap.size n m 65536 d (es.getD p nilS) (E p) ad hd1 hd2 (hsgc.cell 1 rfl 0) h3 hp hev (hSc.own p hp) h5 h4 hErng
    (fun u hu => by rw [h6 u hu]; exact hg u hu) (by omega) (by omega) (by omega) (fun e => by have := hlt _ e; omega)).mono ?_
  rintro e w' ⟨he, hi, hgr, hsz⟩
  refine ⟨he, ⟨?_, by omega, hgr.cell h3 (by simp), addAll ad (E p) d, by rw [addAll_len]; exact h4, hi, fun u hu => ?_⟩, fun X v hX hc => hgr.cell hc (by simp; omega)⟩
  · exact h1.grown hgr (by omega) (fun k hk => by simp at hk; omega)
  · rw [addAll_get d _ _ (fun o ho => by rw [h4]; exact hErng o ho) u (by omega), h6 u hu]

set_option maxRecDepth 100000 in
set_option maxHeartbeats 2000000 in
theorem atomic_any (w : World) (RB HB nb pb sb cb SB TB n m : Nat) (ids nx pv : List Int) (f os : Nat → List Int) (ks : Nat → Nat → List Int)
    (hin : AtomIn w RB HB nb pb sb cb SB TB n m ids nx pv f os ks) (hpl : AtomPlain n m ids nx pv f os ks) :
    Calls Try.prog 54 #[.pointer (some ⟨RB, 0, none⟩)] w fun e w' => ∃ r : Bool, e = .returned (.bool r) ∧ (r = true ↔ OkAll ids nx (Eof (evT f os ks m))) ∧ Below w.heap.size w w' := by
  have hn := hpl.hn
  have hm := hpl.hm
  have r0 := hin.r0
  have r8 := hin.r8
  have h2 := hin.h2
  go_enter Try.func54, Try.ntmps54
  go_wp2_with (at_make; refine wpList_make_row _ rfl (.tmp 25) (.tmp 25) 30 rfl 29 (.slice none 0 0) 1 24 Try.underlying30 info29 _ _ _ _ n rfl rfl rfl rfl (by omega) (by unfold maxLen; omega) _ (made_one _ rfl n) w.heap.size rfl ?_; intro w1 hrow1 hsz1 hbel1; have r0' := cellOf r0 (hbel1.alloc (o := .cells #[.slice (some ⟨w.heap.size, 0, none⟩) n n] 30) (by omega)); have r8' := cellOf r8 (hbel1.alloc (o := .cells #[.slice (some ⟨w.heap.size, 0, none⟩) n n] 30) (by omega)))
  have hE0 : EndsOk w (w1.alloc (.cells #[.slice (some ⟨w.heap.size, 0, none⟩) n n] 30)) n [] := by
    refine ⟨hbel1.alloc (by omega) _, by simp [hsz1], List.replicate n (.slice none 0 0), (Slices.nils _ _ _).congr (fun _ _ => rfl), ?_⟩
    exact ((Seg.nil w _).push rfl hbel1 hrow1).pushAlloc (by simpa using hsz1) 30 _
  clear hrow1 hsz1 hbel1 r0' r8'
  -- loop 1
  go_loopw [32] (fun i wr => ∃ t : Nat, t ≤ m ∧ i = .int .i64 t ∧ EndsOk w wr n (evT f os ks t)) (fun i _ => m - (intOf i).toNat)
  case atStart => exact ⟨0, Nat.zero_le _, rfl, hE0⟩
  case round =>
    clear hE0
    obtain ⟨t, ht, rfl, hE⟩ := hrel
    by_cases hlt : t < m
    · obtain ⟨oa, cap, g, k1, k2, k3⟩ := hin.cut t hlt
      have k1' := cellOf k1 hE.1
      have hol := hpl.osl t hlt
      go_wp2
      -- loop 2
      go_loopw [39] (fun i wr => ∃ j : Nat, j ≤ (os t).length ∧ i = .int .i64 j ∧ EndsOk w wr n (evT f os ks t ++ evI f os ks t j)) (fun i _ => (os t).length - (intOf i).toNat)
      case atStart => exact ⟨0, Nat.zero_le _, rfl, by simpa [evI] using hE⟩
      case round =>
        clear hE k1'
        obtain ⟨i, hi, rfl, hE⟩ := hrel
        by_cases hlti : i < (os t).length
        · obtain rfl := k2 (by omega)
          obtain ⟨q1, v, q2, oa', cap', g', rfl, q4, q5⟩ := k3 i hlti
          obtain ⟨o, hoe⟩ : ∃ o, (os t).getD i 0 = o := ⟨_, rfl⟩
          rw [hoe] at q1
          have HOE : Hid ((os t).getD i 0 = o) := hoe
          clear hoe
          have q1' := cellOf q1 hE.1
          have q2' := cellOf q2 hE.1
          have hkl := hpl.ksl t hlt i hlti
          have hE1 := hE.enter (o := o) (v := .slice oa' (ks t i).length cap')
          go_wp2
          -- loop 3
          obtain ⟨cB, hcBe⟩ : ∃ cB, wr.heap.size = cB := ⟨_, rfl⟩
          rw [hcBe] at hE1
          simp only [hcBe]
          clear hcBe
          go_loopw [46] (fun j' wr => ∃ j : Nat, j ≤ (ks t i).length ∧ j' = .int .i64 j ∧ EndsOkC w wr n (evT f os ks t ++ evI f os ks t i ++ evK f os ks t i j) cB o) (fun j' _ => (ks t i).length - (intOf j').toNat)
          case atStart => exact ⟨0, Nat.zero_le _, rfl, by simpa [evK] using hE1⟩
          case round =>
            clear hE1 hE q1' q2'
            obtain ⟨j, hj, rfl, hC⟩ := hrel
            by_cases hltj : j < (ks t i).length
            · obtain rfl := q4 (by omega)
              have x1 := cellOf (q5 j hltj) hC.1
              have hkr := hpl.ksr t hlt i hlti j hltj
              have hfl := hpl.fl t hlt
              obtain ⟨kk, hkk⟩ : ∃ kk : Nat, (ks t i).getD j 0 = (kk : Int) + 1 := ⟨((ks t i).getD j 0 - 1).toNat, by omega⟩
              rw [hkk] at x1 hkr
              have hkkl : kk < (f t).length := by omega
              obtain ⟨v6, y1, oa6, cap6, g6, rfl, y4, y5⟩ := hin.stp t hlt
              obtain rfl := y4 (by omega)
              have hpr := hpl.fr t hlt kk hkkl
              obtain ⟨p, hpe⟩ : ∃ p : Nat, (f t).getD kk 0 = p := ⟨((f t).getD kk 0).toNat, by omega⟩
              have hpn : p < n := by omega
              have x2 := cellOf hin.r6 hC.1
              have x3 := cellOf y1 hC.1
              have x4 := cellOf (y5 kk hkkl) hC.1
              rw [hpe] at x4
              have hev := evK_succ (f := f) (os := os) (ks := ks) hltj
              have hpf := Eof_prefix (ev_prefix (f := f) (os := os) (ks := ks) (j := j) hlt hlti) p
              have hel := hpl.el p hpn
              rw [hkk, show ((kk : Int) + 1 - 1).toNat = kk by omega, hpe] at hev
              have HEV : Hid (evK f os ks t i (j + 1) = evK f os ks t i j ++ [((p : Int), (os t).getD i 0)]) := hev
              rw [HOE.out] at HEV
              clear hkk hpe hev hkr
              obtain ⟨ev, heve⟩ : ∃ ev, evT f os ks t ++ evI f os ks t i ++ evK f os ks t i j = ev := ⟨_, rfl⟩
              rw [heve] at hC hpf
              obtain ⟨hbr, hsr, ⟨es, hS, hsg, hcs⟩, hcB, hco⟩ := hC
              have hcl := World.block_lt_of_cell? wr _ hco
              simp at hcl
              have HEE : Hid (evT f os ks t ++ evI f os ks t i ++ evK f os ks t i j = ev) := heve
              clear heve
              obtain ⟨v, hv⟩ : ∃ v, es.getD p nilS = v := ⟨_, rfl⟩
              have l4 := hS.len
              have e4 : wr.cell? ⟨w.heap.size, p, none⟩ = some v := by
                rw [← hv]; have := hsg.cell 0 rfl p; rw [Nat.add_zero] at this; rw [this]
                simp [List.getD, l4, hpn]
              have e3 : wr.cell? ⟨w.heap.size + 1, 0, none⟩ = some (.slice (some ⟨w.heap.size, 0, none⟩) n n) := hsg.cell 1 rfl 0
              have hown := hS.own p hpn
              rw [hv] at hown
              have HV : Hid (es.getD p nilS = v) := hv
              clear hv
              have hp0 : (0 : Int) ≤ (p : Int) := Int.natCast_nonneg _
              have hp1 : (p : Int) < (n : Int) := by omega
              obtain ⟨i0, hi0, hz0, hz1, hz2⟩ := info_parts info3
              have hvb : ∀ g, v.ownBlock = some g → w.heap.size + 2 ≤ g := fun g hg => (hown.lt g hg).1
              have hwlt : w.heap.size < wr.heap.size := by omega
              have hwlt1 : w.heap.size + 1 < wr.heap.size := by omega
              have hkk1 : (1 : Int) ≤ (kk : Int) + 1 := by omega
              have hkk2 : (kk : Int) < ((f t).length : Int) := by omega
              have hvc : some cB ≠ v.ownBlock := fun e => hcs p hpn (by rw [HV.out]; exact e.symm)
              go_upto_region 12 with fail
              go_region_law (((refine step_append_lies _ (by rfl) _ _ _ (by rfl) (w.heap.size + 2) 3 i0 _ 1 8 Try.underlying29 hi0 hz0 hz1 hz2 rfl (by omega) v (Eof ev p).length _ (by rfl) ((hown.alloc _).drew) ⟨wr.heap.size, 0, none⟩ 1 1 [.int .i64 o] (by rfl) (by rfl) (World.news_of_block (cs := #[.int .i64 o]) (t := 3) (fr := (0, 0)) (heap_alloc_new wr _)) (by simp [Value.oneCell']) (by omega) (by unfold maxLen; omega) (by omega) (by simp; omega) (wr.heap.size + 1) (by simp) ?_; intro gg cap w1 hown1 hgrow hat hlt1; have hsgA : Seg w1 w.heap.size [(29, es), (30, [.slice (some ⟨w.heap.size, 0, none⟩) n n])] := ((hsg.alloc _).drew).grown hgrow (fun g hg => by have := hvb g hg; simpa using this); have fz : w1.frozen? ⟨w.heap.size, p, none⟩ = false := hsgA.frozen 0 (by simp) p; have e3' : w1.cell? ⟨w.heap.size + 1, 0, none⟩ = some (.slice (some ⟨w.heap.size, 0, none⟩) n n) := hsgA.cell 1 rfl 0; have e4' : w1.cell? ⟨w.heap.size, p, none⟩ = some v := by (rw [← HV.out]; have := hsgA.cell 0 rfl p; rw [Nat.add_zero] at this; rw [this]; simp [List.getD, l4, hpn]))))
              all_goals
                rw [← HV.out] at hgrow hat
                have hcut := ends_step hbr hsr hS hsg hcs hcB hco hpn hgrow hown1 hat
                clear hgrow hat hown1 hsgA e3' e4' fz hlt1
                go_wp2
                go_roundw
                case rel => exact ⟨j + 1, by omega, by go_num, by rw [HEV.out, ← List.append_assoc, HEE.out]; exact hcut⟩
                case measure => simp [intOf]; omega
            · have hjn : j = (ks t i).length := by omega
              have hE1 : EndsOk w wr n (evT f os ks t ++ evI f os ks t (i + 1)) := by simp only [evI]; rw [← hjn, ← List.append_assoc]; exact hC.out
              go_wp2
              go_roundw
              case rel => exact ⟨i + 1, by omega, by go_num, hE1⟩
              case measure => simp [intOf]; omega
        · have hjn : i = (os t).length := by omega
          have hE1 : EndsOk w wr n (evT f os ks (t + 1)) := by simp only [evT]; rw [← hjn]; exact hE
          go_wp2
          go_roundw
          case rel => exact ⟨t + 1, by omega, by go_num, hE1⟩
          case measure => simp [intOf]; omega
    · have htm : m = t := by omega
      subst htm
      obtain ⟨wE, hwE⟩ : ∃ wE : World, wE = wr := ⟨_, rfl⟩
      subst hwE
      obtain ⟨hb1, hs1, es, hS, hsg⟩ := hE
      have x0 := cellOf hin.r0 hb1
      have x1 := cellOf hin.h0 hb1
      go_wp2_with (at_make; refine wpList_make_row _ rfl (.tmp 83) (.tmp 83) 29 rfl 3 (.int .i64 0) 1 8 Try.underlying29 info3 _ _ _ _ m rfl rfl rfl rfl (by omega) (by unfold maxLen; omega) _ (made_one _ rfl m) wE.heap.size rfl ?_; intro w2 hrow2 hsz2 hbel2; have r0' := cellOf hin.r0 (hb1.trans ((hbel2.mono (by omega)).alloc (o := .cells #[.slice (some ⟨wE.heap.size, 0, none⟩) m m] 29) (by omega))); have h2' := cellOf hin.h2 (hb1.trans ((hbel2.mono (by omega)).alloc (o := .cells #[.slice (some ⟨wE.heap.size, 0, none⟩) m m] 29) (by omega))))
      obtain ⟨lst, hL⟩ := hpl.links
      have hidl := hpl.idl
      have hLn : Links ids ids.length m nx pv lst := by rw [hidl]; exact hL
      obtain ⟨E, hE⟩ : ∃ E, Eof (evT f os ks m) = E := ⟨_, rfl⟩
      have hone := hpl.one
      have hel := hpl.el
      have hErng : ∀ p, ∀ o ∈ Eof (evT f os ks m) p, 0 ≤ o ∧ o < (m : Int) := fun p o ho => Eof_rng hpl.osr ho
      rw [hE] at hS hone hel hErng
      have HE : Hid (Eof (evT f os ks m) = E) := hE
      have hA0 : AdSt wE (w2.alloc (.cells #[.slice (some ⟨wE.heap.size, 0, none⟩) m m] 29)) m (fun u => sumG nx E u 0 0) := by
        refine ⟨hbel2.alloc (by omega) _, by simp [hsz2], by rw [World.cell?_alloc_at _ _ _ _ hsz2.symm]; rfl, List.replicate m 0, by simp, ?_, fun u hu => by simp [List.getD, hu, sumG]⟩
        unfold IRow; rw [List.map_replicate]; exact hrow2.alloc _
      clear r0' h2' hrow2 hbel2 hE x0 x1 hsz2
      -- loop 4
      go_loopw [95, 11] (fun idx op wr => ∃ i : Nat, i ≤ n ∧ idx = .int .i64 i ∧ op = .int .i64 (cntG nx i i) ∧ AdSt wE wr m (fun u => sumG nx E u i i) ∧ ∀ i', i' < i → OkAt ids nx E i') (fun idx _ _ => n - (intOf idx).toNat)
      case atStart => exact ⟨0, Nat.zero_le _, rfl, rfl, hA0, fun i' h => by omega⟩
      case round =>
        clear hA0
        obtain ⟨i, hi, rfl, rfl, hA, hok⟩ := hrel
        have hb4 := hA.1
        have hs4 := hA.2.1
        have hb4w : Below w.heap.size w wr := hb1.trans (hb4.mono (by omega))
        by_cases hlti : i < n
        · have y0 := cellOf (hin.s0 i hlti) hb4w
          have y1 := cellOf (hin.s1 i hlti) hb4w
          have y2 := cellOf (hin.s2 i hlti) hb4w
          have y3 := cellOf (hin.s3 i hlti) hb4w
          have hidr := hpl.idr i hlti
          obtain ⟨u, hu⟩ : ∃ u : Nat, ids.getD i 0 = u := ⟨(ids.getD i 0).toNat, by omega⟩
          have hum : u < m := by omega
          rw [hu] at y0
          have HU : Hid (ids.getD i 0 = u) := hu
          clear hu
          have hnxl := hL.lnx
          have hpvl := hL.lpv
          have z0 := cellOf hin.r2 (hb4w.alloc (o := .cells #[.int .i64 u, .string { data := #[114] }, .int .i64 0, .int .i64 ((i : Int) + 1)] 111) (by omega))
          have z1 := cellOf (hin.pv.cell i (by omega)) (hb4w.alloc (o := .cells #[.int .i64 u, .string { data := #[114] }, .int .i64 0, .int .i64 ((i : Int) + 1)] 111) (by omega))
          have hAb := hA.alloc (.cells #[.int .i64 u, .string { data := #[114] }, .int .i64 0, .int .i64 ((i : Int) + 1)] 111)
          have hbx : (wr.alloc (.cells #[.int .i64 u, .string { data := #[114] }, .int .i64 0, .int .i64 ((i : Int) + 1)] 111)).cell? ⟨wr.heap.size, 0, none⟩ = some (.int .i64 u) := by rw [World.cell?_alloc_at _ _ _ _ rfl]; rfl
          have hc1 := cntG_bd nx i i
          have hc2 := cntG_bd nx (i + 1) i
          obtain ⟨pi, hpi⟩ : ∃ pi, pv.getD i 0 = pi := ⟨_, rfl⟩
          rw [hpi] at z1
          have HPI : Hid (pv.getD i 0 = pi) := hpi
          clear hpi
          have hLp := hLn.prev_next (show i < ids.length by omega)
          rw [HPI.out] at hLp
          have hcb : ∀ j, j < i → ∀ u, cnt (E j) u ≤ 1 := fun j hj u => hone j (by omega) u
          obtain ⟨X, hX⟩ : ∃ X, wr.heap.size = X := ⟨_, rfl⟩
          rw [hX] at hbx
          have hXH : wE.heap.size + 2 ≤ X := by omega
          have HX : Hid (wr.heap.size = X) := hX
          obtain ⟨wb, hwb⟩ : ∃ wb, wr.alloc (.cells #[.int .i64 u, .string { data := #[114] }, .int .i64 0, .int .i64 ((i : Int) + 1)] 111) = wb := ⟨_, rfl⟩
          rw [hwb] at hAb hbx z0 z1
          go_upto_if 109 with fail
          clear hX hwb y0 y1 y2 y3 hA
          go_cut [11] (fun op wc => op = .int .i64 (cntG nx (i + 1) i) ∧ AdSt wE wc m (fun u => sumG nx E u (i + 1) i) ∧ wc.cell? ⟨X, 0, none⟩ = some (.int .i64 u))
          case first =>
            rcases hLp with ⟨rfl, hno⟩ | ⟨j0, rfl, hj0, hnx0, huq⟩
            · have hG := fun u => G_none nx E u i i hno
              go_wp2_with fail
              go_meet
              case rel => exact ⟨by rw [(hG 0).1], hAb.congr (fun u _ => (hG u).2), hbx⟩
            · have hG := fun u => G_one nx E u i j0 i hj0 hnx0 huq
              have HG0 : Hid (cntG nx i i = cntG nx (i + 1) i + 1) := (hG 0).1
              have HG : Hid (∀ u, cntG nx i i = cntG nx (i + 1) i + 1 ∧ sumG nx E u i i = sumG nx E u (i + 1) i + cnt (E j0) u) := hG
              clear hG hnx0 huq
              go_wp2_with fail
              refine (admit_st (w := w) j0 (-1) hAb hs1 hS hsg (by omega) (by omega) (by omega) (hel j0 (by omega)) (hErng j0) (fun u hu => by have h1 := sumG_bd nx E u i i (fun j hj => hcb j hj u); omega)).mono ?_
              rintro e w5 ⟨rfl, hA5, hk5⟩
              have hb5 := hk5 X _ hXH hbx
              clear hk5
              go_wp2_with fail
              go_meet
              case rel => exact ⟨by have := HG0.out; go_num, hA5.congr (fun u _ => by have := (HG.out u).2; omega), hb5⟩
          case rest =>
            obtain ⟨rfl, hAc, hbc⟩ := hcut
            obtain ⟨k1, k2, k3, ad, k4, k5, k6⟩ := hAc
            have c1 := k5.cell u (by omega)
            rw [k6 u hum] at c1
            have hbcw : Below w.heap.size w wc := hb1.trans (k1.mono (by omega))
            have z2 := cellOf hin.r1 hbcw
            have z3 := cellOf (hin.nx.cell i (by omega)) hbcw
            have hck := G_check nx E u (i + 1) i (fun j hj => hcb j hj u)
            have hnp := hLn.next_pos (show i < ids.length by omega)
            have hsu := sumG_bd nx E u (i + 1) i (fun j hj => hcb j hj u)
            have hsall : ∀ u, u < m → -65536 ≤ sumG nx E u (i + 1) i ∧ sumG nx E u (i + 1) i ≤ 65536 := fun u hu => by have h1 := sumG_bd nx E u (i + 1) i (fun j hj => hcb j hj u); omega
            have HCK : Hid (sumG nx E u (i + 1) i < cntG nx (i + 1) i ↔ ¬ ∀ j, j < i → (i : Int) + 1 ≤ nx.getD j 0 → (u : Int) ∈ E j) := hck
            have HNP : Hid (0 ≤ nx.getD i 0 ↔ (i : Int) + 1 ≤ nx.getD i 0) := hnp
            clear hck hnp
            obtain ⟨ni, hni⟩ : ∃ ni, nx.getD i 0 = ni := ⟨_, rfl⟩
            rw [hni] at z3
            have HNI : Hid (nx.getD i 0 = ni) := hni
            clear hni
            have hAc : AdSt wE wc m (fun u => sumG nx E u (i + 1) i) := ⟨k1, k2, k3, ad, k4, k5, k6⟩
            clear hAb hbx hLp HPI z0 z1
            by_cases hlt2 : sumG nx E u (i + 1) i < cntG nx (i + 1) i
            · go_wp2
              go_ret
              refine Or.inl ⟨rfl, ?_, hbcw⟩
              rw [HE.out]
              intro hall
              refine (HCK.out.1 hlt2) ?_
              have := hall i (by omega)
              unfold OkAt at this
              rw [HU.out] at this
              exact this
            · have hoki : OkAt ids nx E i := by
                unfold OkAt
                rw [HU.out]
                exact Classical.byContradiction fun h => hlt2 (HCK.out.2 h)
              have hok' : ∀ i', i' < i + 1 → OkAt ids nx E i' := by
                intro i' hi'
                by_cases e : i' = i
                · subst e; exact hoki
                · exact hok i' (by omega)
              by_cases hn0 : 0 ≤ ni
              · have hn1 : (i : Int) + 1 ≤ nx.getD i 0 := HNP.out.1 (by rw [HNI.out]; exact hn0)
                have e1 : cntG nx ((i + 1 : Nat) : Int) (i + 1) = cntG nx (i + 1) i + 1 := by simp only [cntG]; rw [if_pos (by omega)]; simp
                have e2 : ∀ u, sumG nx E u ((i + 1 : Nat) : Int) (i + 1) = sumG nx E u (i + 1) i + cnt (E i) u := by intro u; simp only [sumG]; rw [if_pos (by omega)]; simp
                have E1 : Hid (cntG nx ((i + 1 : Nat) : Int) (i + 1) = cntG nx (i + 1) i + 1) := e1
                have E2 : Hid (∀ u, sumG nx E u ((i + 1 : Nat) : Int) (i + 1) = sumG nx E u (i + 1) i + cnt (E i) u) := e2
                clear e1 e2 hn1
                go_wp2_with fail
                refine (admit_st (w := w) i 1 hAc hs1 hS hsg (by omega) (by omega) (by omega) (hel i (by omega)) (hErng i) hsall).mono ?_
                rintro e w5 ⟨rfl, hA5, _⟩
                go_wp2
                go_roundw
                case rel => exact ⟨i + 1, by omega, by go_num, by rw [E1.out], hA5.congr (fun u _ => by rw [E2.out]; omega), hok'⟩
                case measure => simp [intOf]; omega
              · have hn1 : ¬ (i : Int) + 1 ≤ nx.getD i 0 := fun h => hn0 (by rw [← HNI.out]; exact HNP.out.2 h)
                have e1 : cntG nx ((i + 1 : Nat) : Int) (i + 1) = cntG nx (i + 1) i := by simp only [cntG]; rw [if_neg (by omega)]; simp
                have e2 : ∀ u, sumG nx E u ((i + 1 : Nat) : Int) (i + 1) = sumG nx E u (i + 1) i := by intro u; simp only [sumG]; rw [if_neg (by omega)]; simp
                have E1 : Hid (cntG nx ((i + 1 : Nat) : Int) (i + 1) = cntG nx (i + 1) i) := e1
                have E2 : Hid (∀ u, sumG nx E u ((i + 1 : Nat) : Int) (i + 1) = sumG nx E u (i + 1) i) := e2
                clear e1 e2 hn1
                go_wp2
                go_roundw
                case rel => exact ⟨i + 1, by omega, by go_num, by rw [E1.out], hAc.congr (fun u _ => by rw [E2.out]), hok'⟩
                case measure => simp [intOf]; omega
        · go_wp2
          go_ret
          refine ⟨true, rfl, ?_, hb4w⟩
          simp only [true_iff]
          rw [HE.out]
          intro i' hi'
          exact hok i' (by omega)

end Go.Proofs.Qxb6602514a
