import Derived.Test.Qxb6602514aFam
set_option linter.unusedVariables false
namespace Go.Proofs.Qxb6602514a
open Go.RowKit

theorem info30 : (Try.prog.info? 30).map (fun i => (i.zero, i.size, i.bytes)) = some (some (.slice none 0 0), 1, 24) := by kernel_rfl

/-- Memory while zzAtomic's loops go. -/
def ZW (w wr : World) (m : Nat) (rc : List Value) (V : FV) : Prop :=
  Below w.heap.size w wr ∧ w.heap.size + 3 ≤ wr.heap.size ∧ Fam wr (w.heap.size + 3) V ∧ Seg wr w.heap.size [(32, rc), (29, famRow V 0 m), (30, famRow V 1 m)]

theorem ZW.app {w wr w1 : World} {m : Nat} {rc : List Value} {V : FV} (h : ZW w wr m rc V) (c : Tag) (o : Obj) {gg cap n : Nat} {e : TypeId} {cells : List Value} (hl : cells.length = n)
    (hgrow : (wr.alloc o).grownBy w1 (V c).1.ownBlock) (hown : w1.ownsRow (w.heap.size + 3) e 1 (.slice (some ⟨gg, 0, none⟩) n cap) n cells) (hat : (V c).1.ownBlock = some gg ∨ gg = wr.heap.size + 1) :
    Below w.heap.size w w1 ∧ w.heap.size + 3 ≤ w1.heap.size ∧ Fam w1 (w.heap.size + 3) (upd V c (.slice (some ⟨gg, 0, none⟩) n cap, e, cells)) ∧ Seg w1 w.heap.size [(32, rc), (29, famRow V 0 m), (30, famRow V 1 m)] := by
  obtain ⟨h1, h2, h3, h4⟩ := h
  have hb := h3.blk c
  have hsz := hgrow.size
  simp at hsz
  subst hl
  refine ⟨(h1.alloc (by omega) o).grown hgrow (by simp; omega) (fun g hg => by have := (hb g hg).1; omega), by omega, (h3.alloc o).update c hgrow hown rfl (hat.imp_right (fun e => by simp; omega)), ?_⟩
  exact (h4.alloc o).grown hgrow (fun g hg => by have := (hb g hg).1; simpa using this)

theorem ZW.app3 {w wr w1 : World} {m : Nat} {rc : List Value} {V : FV} (h : ZW w wr m rc V) (o : Obj) {gg cap n : Nat} {e : TypeId} {cells : List Value} (hl : cells.length = n)
    (hgrow : (wr.alloc o).grownBy w1 (V (3, 0, 0)).1.ownBlock) (hown : w1.ownsRow (w.heap.size + 3) e 1 (.slice (some ⟨gg, 0, none⟩) n cap) n cells) (hat : (V (3, 0, 0)).1.ownBlock = some gg ∨ gg = wr.heap.size + 1) :
    ZW w w1 m rc (upd V (3, 0, 0) (.slice (some ⟨gg, 0, none⟩) n cap, e, cells)) := by
  obtain ⟨h1, h2, h3, h4⟩ := h.app _ o hl hgrow hown hat
  exact ⟨h1, h2, h3, by rw [famRow_ne _ _ _ _ _ (by simp), famRow_ne _ _ _ _ _ (by simp)]; exact h4⟩
theorem ZW.app0 {w wr w1 : World} {m t : Nat} {rc : List Value} {V : FV} (h : ZW w wr m rc V) (ht : t < m) (o : Obj) {gg cap n : Nat} {e : TypeId} {cells : List Value} (hl : cells.length = n)
    (hgrow : (wr.alloc o).grownBy w1 (V (0, t, 0)).1.ownBlock) (hown : w1.ownsRow (w.heap.size + 3) e 1 (.slice (some ⟨gg, 0, none⟩) n cap) n cells) (hat : (V (0, t, 0)).1.ownBlock = some gg ∨ gg = wr.heap.size + 1) :
    ZW w (w1.setCell ⟨w.heap.size + 1, t, none⟩ (.slice (some ⟨gg, 0, none⟩) n cap)) m rc (upd V (0, t, 0) (.slice (some ⟨gg, 0, none⟩) n cap, e, cells)) := by
  obtain ⟨h1, h2, h3, h4⟩ := h.app _ o hl hgrow hown hat
  refine ⟨h1.setCell (by simp) _, by simpa using h2, h3.below (by simp) _, ?_⟩
  rw [famRow_ne _ 1 _ _ _ (by simp), ← famRow_set V 0 m t (.slice (some ⟨gg, 0, none⟩) n cap, e, cells) ht]
  exact h4.set 1 rfl t _
theorem ZW.app1 {w wr w1 : World} {m t : Nat} {rc : List Value} {V : FV} (h : ZW w wr m rc V) (ht : t < m) (o : Obj) {gg cap n : Nat} {e : TypeId} {cells : List Value} (hl : cells.length = n)
    (hgrow : (wr.alloc o).grownBy w1 (V (1, t, 0)).1.ownBlock) (hown : w1.ownsRow (w.heap.size + 3) e 1 (.slice (some ⟨gg, 0, none⟩) n cap) n cells) (hat : (V (1, t, 0)).1.ownBlock = some gg ∨ gg = wr.heap.size + 1) :
    ZW w (w1.setCell ⟨w.heap.size + 2, t, none⟩ (.slice (some ⟨gg, 0, none⟩) n cap)) m rc (upd V (1, t, 0) (.slice (some ⟨gg, 0, none⟩) n cap, e, cells)) := by
  obtain ⟨h1, h2, h3, h4⟩ := h.app _ o hl hgrow hown hat
  refine ⟨h1.setCell (by simp) _, by simpa using h2, h3.below (by simp) _, ?_⟩
  rw [famRow_ne _ 0 _ _ _ (by simp), ← famRow_set V 1 m t (.slice (some ⟨gg, 0, none⟩) n cap, e, cells) ht]
  exact h4.set 2 rfl t _
theorem ZW.move {w wr : World} {m : Nat} {rc : List Value} {V : FV} (h : ZW w wr m rc V) (t j : Nat) (hn : (V (2, t, j)).1 = .slice none 0 0) : ZW w wr m rc (upd (upd V (2, t, j) (V (3, 0, 0))) (3, 0, 0) (.slice none 0 0, 3, [])) := by
  obtain ⟨h1, h2, h3, h4⟩ := h
  refine ⟨h1, h2, h3.move _ _ (by simp) (by rw [hn]; rfl), ?_⟩
  rw [famRow_ne _ _ _ _ _ (by simp), famRow_ne _ _ _ _ _ (by simp), famRow_ne _ _ _ _ _ (by simp), famRow_ne _ _ _ _ _ (by simp)]; exact h4

theorem ZW.drop3 {w wr : World} {m : Nat} {rc : List Value} {V : FV} {x : Value × TypeId × List Value} (h : ZW w wr m rc (upd V (3, 0, 0) x)) (hn : V (3, 0, 0) = (.slice none 0 0, 3, [])) : ZW w wr m rc V := by
  obtain ⟨h1, h2, ⟨own, h3⟩, h4⟩ := h
  refine ⟨h1, h2, ⟨own, fun c => ?_⟩, ?_⟩
  · by_cases e : c = (3, 0, 0)
    · subst e; rw [hn]; exact ⟨World.ownsRow_nil _ _ _ _, fun g hg => by simp [Value.ownBlock] at hg⟩
    · have := h3 c; rw [upd_ne _ _ _ _ e] at this; exact this
  · rw [famRow_ne _ _ _ _ _ (by simp), famRow_ne _ _ _ _ _ (by simp)] at h4; exact h4

/-- How many steps t has; which they are; who sees ends in t; which. -/
def sl (ids : List Int) (n : Nat) (t : Nat) : Nat := (pos ids t n).length
def Fz (ids : List Int) (n : Nat) (t : Nat) : List Int := pos ids t n
def Os (m : Nat) (us ids : List Int) (n : Nat) (ua : Nat → List Bool) (t : Nat) : List Int := obsL m us (sl ids n) ua t m
def Ks (m : Nat) (us ids : List Int) (n : Nat) (ua : Nat → List Bool) (t i : Nat) : List Int := kf m us (sl ids n) ua t ((Os m us ids n ua t).getD i 0).toNat
/-- The observers that see a unit end at each step. -/
def Ez (m : Nat) (us ids : List Int) (n : Nat) (ua : Nat → List Bool) : Nat → List Int := Eof (evT (Fz ids n) (Os m us ids n ua) (Ks m us ids n ua) m)

/-- The masks, as a reader sees them. -/
structure MaskIn (w : World) (a0 : Option Addr) (lu ub nu : Nat) (ua : Nat → List Bool) : Prop where
  le : nu ≤ lu
  a0 : 0 < nu → a0 = some ⟨ub, 0, none⟩
  row : ∀ i, i < nu → ∃ oa cap g, w.cell? ⟨ub, i, none⟩ = some (.slice oa (ua i).length cap) ∧ (0 < (ua i).length → oa = some ⟨g, 0, none⟩) ∧ ∀ j, j < (ua i).length → w.cell? ⟨g, j, none⟩ = some (.bool ((ua i).getD j false))
  len : ∀ i, i < nu → (ua i).length ≤ 1048576

theorem bel_drew {B : Nat} {w w' : World} (h : Below B w.drew w') : Below B w w' := ⟨h.os, h.tape, h.output, h.size, h.block⟩

theorem hist_in {w wr w5 : World} {R n m U nu : Nat} {zs ids nx pv us : List Int} {st vs : List Value} (hbw : Below w.heap.size w wr) (hR : RelOk w R n m U nu zs ids nx pv us st) (hb5 : Below wr.heap.size wr w5)
    (hs5 : Seg w5 (wr.heap.size + 1) (histSeg wr.heap.size m n vs)) (hv5 : StepCells ids n n vs) : HistIn w5 (wr.heap.size + 3) (R + 5) (R + 6) (R + 4) (wr.heap.size + 1) (wr.heap.size + 2) n m ids nx pv (Fz ids n) := by
  have hb : Below w.heap.size w w5 := hbw.trans (hb5.mono hbw.size)
  have r0 : Row w5 (wr.heap.size + 1) 111 vs := hs5.row 0 rfl
  have r2 : Row w5 (wr.heap.size + 3) 116 _ := hs5.row 2 rfl
  refine ⟨r2.cell 0, r2.cell 2, fun i hi => (r0.cell _).trans (hv5.c0 i hi), fun i hi => (r0.cell _).trans (hv5.c1 i hi), fun i hi => (r0.cell _).trans (hv5.c2 i hi), fun i hi => (r0.cell _).trans (hv5.c3 i hi), ?_, ?_, ?_⟩
  · exact Row.below (hR.seg.row 2 rfl) hb (Row.lt (hR.seg.row 2 rfl))
  · exact Row.below (hR.seg.row 3 rfl) hb (Row.lt (hR.seg.row 3 rfl))
  · intro t ht
    have h2 : st[t]? = some (st.getD t nilS) := by simp [List.getD, hR.steps.len, ht]
    exact ⟨_, cellOf ((hR.seg.cell 1 rfl t).trans h2) hb, (RdInts.of_own (hR.steps.own t ht)).below hb⟩

theorem ObsIn.below {w w' : World} {ob ab m : Nat} {os : Nat → List Int} {ks : Nat → Nat → List Int} {kv : Nat → Nat → Value} (h : ObsIn w ob ab m os ks kv) (hb : Below w.heap.size w w') : ObsIn w' ob ab m os ks kv := by
  refine ⟨fun t ht => ?_, fun t ht => ?_, fun t ht i hi => (h.kv t ht i hi).below hb⟩
  · obtain ⟨v, h1, h2⟩ := h.ob t ht
    exact ⟨v, cellOf h1 hb, h2.below hb⟩
  · obtain ⟨oa, cap, g, h1, h2, h3⟩ := h.ab t ht
    exact ⟨oa, cap, g, cellOf h1 hb, h2, fun i hi => cellOf (h3 i hi) hb⟩

theorem obs_in {w wr : World} {m n : Nat} {rc : List Value} {V : FV} {us ids : List Int} {ua : Nat → List Bool} (hW : ZW w wr m rc V) (hZ : ZSt m us (sl ids n) ua m 0 V) :
    ObsIn wr (w.heap.size + 1) (w.heap.size + 2) m (Os m us ids n ua) (Ks m us ids n ua) (fun t i => (V (2, t, i)).1) := by
  have hlim : ∀ t, t < m → lim m m 0 t = m := by intro t ht; unfold lim; rw [if_pos ht]
  obtain ⟨h1, h2, h3, h4⟩ := hW
  refine ⟨fun t ht => ?_, fun t ht => ?_, fun t ht i hi => ?_⟩
  · refine ⟨(V (0, t, 0)).1, (h4.cell 1 rfl t).trans (famRow_get _ _ _ _ ht), ?_⟩
    have ho := h3.own (0, t, 0)
    have hc := hZ.c0 t
    rw [hlim t ht] at hc
    rw [hc] at ho
    simp only [List.length_map] at ho
    exact RdInts.of_own ho
  · have ho := h3.own (1, t, 0)
    have hl := hZ.c1l t
    rw [hlim t ht] at hl
    rw [hl] at ho
    obtain ⟨oa, cap, g, hv, hr⟩ := own_read ho
    refine ⟨oa, cap, g, ?_, fun hp => (hr hp).1, fun i hi => ?_⟩
    · rw [← show (V (1, t, 0)).1 = .slice oa (Os m us ids n ua t).length cap from hv]
      exact (h4.cell 2 rfl t).trans (famRow_get _ _ _ _ ht)
    · have hi' : i < (obsL m us (sl ids n) ua t m).length := hi
      rw [(hr (by omega)).2.2.2.2 i hi']
      exact hZ.c1 t i (by rw [hlim t ht]; exact hi')
  · have ho := h3.own (2, t, i)
    have hc := hZ.c2 t i (by rw [hlim t ht]; exact hi)
    rw [hlim t ht] at hc
    rw [hc] at ho
    simp only [List.length_map] at ho
    exact RdInts.of_own ho

theorem atom_plain {w : World} {R n m U nu : Nat} {zs ids nx pv us : List Int} {st : List Value} (ua : Nat → List Bool) (hn : n ≤ 65536) (hmn : m ≤ n) (hzl : zs.length = n) (hz : ∀ j, j < n → 0 ≤ zs.getD j 0 ∧ zs.getD j 0 < 256) (hR : RelOk w R n m U nu zs ids nx pv us st) :
    AtomPlain n m ids nx pv (Fz ids n) (Os m us ids n ua) (Ks m us ids n ua) := by
  obtain ⟨ds, hI⟩ := hR.hids
  have hidl : ids.length = n := by have := hI.lenI; omega
  have hidr : ∀ i, i < n → 0 ≤ ids.getD i 0 ∧ ids.getD i 0 < (m : Int) := fun i hi => hI.bd (by rw [hzl]; exact hz) (by omega) hi
  have hfl : ∀ t, (Fz ids n t).length ≤ n := fun t => pos_le ids t n
  have hosr : ∀ t, t < m → ∀ o ∈ Os m us ids n ua t, 0 ≤ o ∧ o < (m : Int) := by
    intro t _ o ho
    obtain ⟨j, h1, h2, _⟩ := (obsL_mem t m o).1 ho
    omega
  have hksr : ∀ t, t < m → ∀ i, i < (Os m us ids n ua t).length → ∀ k ∈ Ks m us ids n ua t i, 1 ≤ k ∧ k ≤ ((Fz ids n t).length : Int) := by
    intro t _ i _ k hk
    have := kf_rng (m := m) (us := us) (slen := sl ids n) (ua := ua) t _ k hk
    have e : (Fz ids n t).length = sl ids n t := rfl
    rw [e]; omega
  have hnd : (evT (Fz ids n) (Os m us ids n ua) (Ks m us ids n ua) m).Nodup := by
    refine evT_nodup (fun t _ => pos_nodup ids t n) ?_ (fun t _ => obsL_nodup t m) (fun t _ i _ => kf_nodup t _) hksr
    intro t t' x _ _ h1 h2
    obtain ⟨j, a1, a2, a3⟩ := (pos_mem ids t n x).1 h1
    obtain ⟨j', b1, b2, b3⟩ := (pos_mem ids t' n x).1 h2
    have : j = j' := by omega
    subst this
    omega
  refine ⟨hn, by omega, hR.links, hidl, hidr, ?_, fun t _ => by have := hfl t; omega, hosr, fun t _ => by have := obsL_len (m := m) (us := us) (slen := sl ids n) (ua := ua) t m; unfold Os; omega, ?_, ?_, ?_, ?_⟩
  · intro t _ j hj
    obtain ⟨q, a1, a2, _⟩ := (pos_mem ids t n _).1 (getD_mem hj)
    have e : (Fz ids n t).getD j 0 = q := a2
    omega
  · intro t ht i hi j hj
    exact hksr t ht i hi _ (getD_mem hj)
  · intro t _ i _
    have h1 := kf_len (m := m) (us := us) (slen := sl ids n) (ua := ua) t ((Os m us ids n ua t).getD i 0).toNat
    have h2 := hfl t
    have e : (Fz ids n t).length = sl ids n t := rfl
    unfold Ks; omega
  · intro p _ u
    exact cnt_nodup (Eof_nodup hnd p) u
  · intro p _
    have := length_le_of_nodup (Eof_nodup hnd p) (m := m) (fun x hx => Eof_rng hosr hx)
    omega

set_option maxRecDepth 100000 in
set_option maxHeartbeats 2000000 in
theorem zzAtomic_any (w : World) (R n m U nu lu cu ub : Nat) (a0 : Option Addr) (zs ids nx pv us : List Int) (st : List Value) (ua : Nat → List Bool) (hn : n ≤ 65536) (hmn : m ≤ n) (hnu : nu ≤ 65536) (hlu : lu ≤ 1048576)
    (hzl : zs.length = n) (hz : ∀ j, j < n → 0 ≤ zs.getD j 0 ∧ zs.getD j 0 < 256) (hR : RelOk w R n m U nu zs ids nx pv us st) (hM : MaskIn w a0 lu ub nu ua) :
    Calls Try.prog 17 #[.agg #[.int .i64 m, .slice (some ⟨R + 3, 0, none⟩) n n, .slice (some ⟨R + 4, 0, none⟩) m m, .slice (some ⟨R + 5, 0, none⟩) n n, .slice (some ⟨R + 6, 0, none⟩) n n, .slice (some ⟨U, 0, none⟩) (m * m) (m * m)], .slice a0 lu cu] w fun e w' =>
      ∃ r : Bool, e = .returned (.bool r) ∧ (r = true ↔ OkAll ids nx (Ez m us ids n ua)) ∧ Below w.heap.size w w' := by
  have hm : m ≤ 65536 := by omega
  obtain ⟨slen, hsl⟩ : ∃ slen : Nat → Nat, sl ids n = slen := ⟨_, rfl⟩
  have hslb : ∀ t, slen t ≤ n := fun t => by rw [← hsl]; exact pos_le ids t n
  obtain ⟨rc, hrc⟩ : ∃ rc : List Value, [Value.int .i64 m, .slice (some ⟨R + 3, 0, none⟩) n n, .slice (some ⟨R + 4, 0, none⟩) m m, .slice (some ⟨R + 5, 0, none⟩) n n, .slice (some ⟨R + 6, 0, none⟩) n n, .slice (some ⟨U, 0, none⟩) (m * m) (m * m)] = rc := ⟨_, rfl⟩
  have HSL : Hid (sl ids n = slen) := hsl
  have HRC : Hid ([Value.int .i64 m, .slice (some ⟨R + 3, 0, none⟩) n n, .slice (some ⟨R + 4, 0, none⟩) m m, .slice (some ⟨R + 5, 0, none⟩) n n, .slice (some ⟨R + 6, 0, none⟩) n n, .slice (some ⟨U, 0, none⟩) (m * m) (m * m)] = rc) := hrc
  clear hsl hrc
  go_enter Try.func17, Try.ntmps17
  go_wp2_with (first | (at_make; refine wpList_make_row _ rfl (.tmp 13) (.tmp 13) 30 rfl 29 (.slice none 0 0) 1 24 Try.underlying30 info29 _ _ _ _ m rfl rfl rfl rfl (by omega) (by unfold maxLen; omega) _ (made_one _ rfl m) (w.heap.size + 1) (by simp) ?_; intro w1 hrow1 hsz1 hbel1; have hsg1 : Seg w1 w.heap.size [(32, rc), (29, List.replicate m (.slice none 0 0))] := (by rw [← HRC.out]; exact ((Seg.nil w _).pushAlloc (by simp) 32 _).push (by simp) hbel1 hrow1); have c1 : w1.cell? ⟨w.heap.size, 0, none⟩ = some (.int .i64 m) := (by have := hsg1.cell 0 rfl 0; rw [← HRC.out] at this; exact this)) | (at_make; refine wpList_make_row _ rfl (.tmp 16) (.tmp 16) 65 rfl 30 (.slice none 0 0) 1 24 Try.underlying65 info30 _ _ _ _ m rfl rfl rfl rfl (by omega) (by unfold maxLen; omega) _ (made_one _ rfl m) (w.heap.size + 2) (by simp [hsz1]) ?_; intro w2 hrow2 hsz2 hbel2; have hsg2 : Seg w2 w.heap.size [(32, rc), (29, List.replicate m (.slice none 0 0)), (30, List.replicate m (.slice none 0 0))] := hsg1.push (by simp) hbel2 hrow2))
  have hb2 : Below w.heap.size w w2 := (((Below.refl _ _).alloc (Nat.le_refl _) _).trans (hbel1.mono (by omega))).trans (hbel2.mono (by omega))
  have hV0 : ZW w w2 m rc (fun c => (.slice none 0 0, if c.1 = 1 then 29 else 3, [])) := by
    refine ⟨hb2, by omega, Fam.nils _ _ _ (fun c => ⟨rfl, rfl⟩), ?_⟩
    have e : ∀ k, famRow (fun c => (Value.slice none 0 0, if c.1 = 1 then 29 else 3, [])) k m = List.replicate m (.slice none 0 0) := by
      intro k; unfold famRow; rw [List.map_const', List.length_range]
    rw [e, e]; exact hsg2
  clear hrow1 hsz1 hbel1 hsg1 c1 hrow2 hsz2 hbel2 hsg2 hb2
  -- loop 1
  go_loopw [7] (fun i wr => ∃ t : Nat, t ≤ m ∧ i = .int .i64 t ∧ ∃ V, ZW w wr m rc V ∧ ZSt m us slen ua t 0 V) (fun i _ => m - (intOf i).toNat)
  case atStart => exact ⟨0, Nat.zero_le _, rfl, _, hV0, ZSt.start _ (fun c => ⟨rfl, rfl⟩) (fun c => rfl)⟩
  case round =>
    clear hV0
    obtain ⟨t, ht, rfl, V, hW, hZ⟩ := hrel
    have c0 : wr.cell? ⟨w.heap.size, 0, none⟩ = some (.int .i64 m) := by have := hW.2.2.2.cell 0 rfl 0; rw [← HRC.out] at this; exact this
    by_cases hlt : t < m
    · go_wp2
      -- loop 2
      go_loopw [8] (fun i wr => ∃ o : Nat, o ≤ m ∧ i = .int .i64 o ∧ ∃ V, ZW w wr m rc V ∧ ZSt m us slen ua t o V) (fun i _ => m - (intOf i).toNat)
      case atStart => exact ⟨0, Nat.zero_le _, rfl, V, hW, hZ⟩
      case round =>
        clear c0 hW hZ
        obtain ⟨o, ho, rfl, V, hW, hZ⟩ := hrel
        have hbw := hW.1
        have c0 : wr.cell? ⟨w.heap.size, 0, none⟩ = some (.int .i64 m) := by have := hW.2.2.2.cell 0 rfl 0; rw [← HRC.out] at this; exact this
        by_cases hlto : o < m
        · have c5 : wr.cell? ⟨w.heap.size, 5, none⟩ = some (.slice (some ⟨U, 0, none⟩) (m * m) (m * m)) := by have := hW.2.2.2.cell 0 rfl 5; rw [← HRC.out] at this; exact this
          have hix := idx_bd t o m hlt hlto
          have sq := sq_bd m hm
          have sqi : ((m * m : Nat) : Int) = (m : Int) * (m : Int) := Int.natCast_mul m m
          have hixi : ((t * m + o : Nat) : Int) = (t : Int) * (m : Int) + (o : Int) := by simp
          have i0 : (0 : Int) ≤ (t : Int) * (m : Int) := by omega
          have i1 : (t : Int) * (m : Int) + (o : Int) < (m : Int) * (m : Int) := by omega
          have i2 : (m : Int) * (m : Int) ≤ 4294967296 := by omega
          clear sqi hixi
          have cu1 := cellOf (hR.units.cell (t * m + o) (by rw [hR.ulen]; exact hix)) hbw
          have hur := hR.urng (t * m + o) hix
          obtain ⟨u, hu⟩ : ∃ u, us.getD (t * m + o) 0 = u := ⟨_, rfl⟩
          rw [hu] at cu1 hur
          have HU : Hid (us.getD (t * m + o) 0 = u) := hu
          clear hu
          by_cases hu0 : u < 0
          · have hk : kf m us slen ua t o = [] := by unfold kf; rw [if_pos (by rw [HU.out]; exact hu0)]
            have hZ' := hZ.skip hk
            clear hk
            go_wp2
            go_roundw
            case rel => exact ⟨o + 1, by omega, by go_num, V, hW, hZ'⟩
            case measure => simp [intOf]; omega
          · obtain ⟨ui, rfl⟩ : ∃ ui : Nat, u = ui := ⟨u.toNat, by omega⟩
            have hun : ui < nu := by omega
            obtain rfl := hM.a0 (by omega)
            have hle := hM.le
            obtain ⟨oa, cap, g, m1, m2, m3⟩ := hM.row ui hun
            have hml := hM.len ui hun
            obtain ⟨mask, hmask⟩ : ∃ mask, ua ui = mask := ⟨_, rfl⟩
            rw [hmask] at m1 m2 m3 hml
            have hkf : kf m us slen ua t o = kUp mask (min (slen t - 1) mask.length) := by
              unfold kf; rw [HU.out, if_neg (by omega)]; simp [hmask]
            have HK : Hid (kf m us slen ua t o = kUp mask (min (slen t - 1) mask.length)) := hkf
            have HMK : Hid (ua ui = mask) := hmask
            clear hkf hmask hur
            obtain ⟨Q, hQ⟩ : ∃ Q, min (slen t - 1) mask.length = Q := ⟨_, rfl⟩
            rw [hQ] at HK
            have hQ1 : Q ≤ slen t - 1 := by omega
            have hQ2 : Q ≤ mask.length := by omega
            have hQ3 : Q = slen t - 1 ∨ Q = mask.length := by omega
            clear hQ
            have hsb := hslb t
            obtain ⟨oas, caps, gs, hsv, _⟩ := own_read (hR.steps.own t hlt)
            have hstv : w.cell? ⟨R + 4, t, none⟩ = some (.slice oas (slen t) caps) := by
              have h1 := hR.seg.cell 1 rfl t
              have h2 : st[t]? = some (st.getD t nilS) := by simp [List.getD, hR.steps.len, hlt]
              rw [h2, hsv] at h1
              rw [← HSL.out]
              exact h1
            have hV3 : upd V (3, 0, 0) (.slice none 0 0, 3, []) = V := by
              funext c; unfold upd; split
              · rename_i e; rw [e, hZ.c3]
              · rfl
            go_wp2
            -- loop 3
            go_loopw [10, 11] (fun ks k wr => ∃ q : Nat, q ≤ Q ∧ k = .int .i64 ((q : Int) + 1) ∧ ∃ oa cap, ks = .slice oa (kUp mask q).length cap ∧ ZW w wr m rc (upd V (3, 0, 0) (.slice oa (kUp mask q).length cap, 3, (kUp mask q).map (Value.int .i64)))) (fun _ k _ => Q + 1 - (intOf k).toNat)
            case atStart => exact ⟨0, Nat.zero_le _, rfl, none, 0, rfl, by rw [show (List.map (Value.int .i64) (kUp mask 0)) = [] from rfl, show (kUp mask 0).length = 0 from rfl, hV3]; exact hW⟩
            case round =>
              clear hV3 hW hbw c0 c5 cu1
              obtain ⟨q, hq, rfl, oa3, cap3, rfl, hW⟩ := hrel
              have hbw := hW.1
              have c0 : wr.cell? ⟨w.heap.size, 0, none⟩ = some (.int .i64 m) := by have := hW.2.2.2.cell 0 rfl 0; rw [← HRC.out] at this; exact this
              have c2 : wr.cell? ⟨w.heap.size, 2, none⟩ = some (.slice (some ⟨R + 4, 0, none⟩) m m) := by have := hW.2.2.2.cell 0 rfl 2; rw [← HRC.out] at this; exact this
              have s1 := cellOf hstv hbw
              have s2 := cellOf m1 hbw
              have hul : (ui : Int) < (lu : Int) := by omega
              have hkl := kUp_len mask q
              by_cases hltq : q < Q
              · have hA : (q : Int) + 1 < (slen t : Int) := by omega
                have hB : (q : Int) + 1 ≤ (mask.length : Int) := by omega
                obtain rfl := m2 (by omega)
                have s3 := cellOf (m3 q (by omega)) hbw
                have hown := hW.2.2.1.own (3, 0, 0)
                rw [upd_same] at hown
                simp only [List.length_map] at hown
                have hq1 : (1 : Int) ≤ (q : Int) + 1 := by omega
                have hq2 : (q : Int) < (mask.length : Int) := by omega
                obtain ⟨i0, hi0, hz0, hz1, hz2⟩ := info_parts info3
                by_cases hbt : mask.getD q false = true
                · rw [hbt] at s3
                  have hks : kUp mask (q + 1) = kUp mask q ++ [(q : Int) + 1] := by simp only [kUp]; rw [if_pos hbt]
                  have HKS : Hid (kUp mask (q + 1) = kUp mask q ++ [(q : Int) + 1]) := hks
                  clear hks hbt
                  go_wp2_with (at_builtin; refine wpList_append_lies _ rfl (.tmp 69) (.tmp 71) 29 rfl (w.heap.size + 3) 3 i0 _ 1 8 Try.underlying29 hi0 hz0 hz1 hz2 rfl (by omega) _ (kUp mask q).length _ (by rfl) (hown.alloc _) ⟨wr.heap.size, 0, none⟩ 1 1 [.int .i64 ((q : Int) + 1)] (by rfl) (by rfl) (World.news_of_block (cs := #[.int .i64 ((q : Int) + 1)]) (t := 3) (fr := (0, 0)) (heap_alloc_new wr _)) (by simp [Value.oneCell']) (by omega) (by unfold maxLen; omega) (by omega) (by have := hW.2.1; simp; omega) (wr.heap.size + 1) (by simp) ?_; intro gg cap w1 hown1 hgrow hat hlt1)
                  have hWn := hW.app3 (o := .cells #[.int .i64 ((q : Int) + 1)] 3) (n := (kUp mask q).length + 1) (by simp) (by rw [upd_same]; exact hgrow) hown1 (by rw [upd_same]; exact hat)
                  clear hgrow hown1 hat hlt1 hown
                  go_roundw
                  case rel =>
                    refine ⟨q + 1, by omega, by go_num, some ⟨gg, 0, none⟩, cap, by rw [HKS.out]; simp, ?_⟩
                    rw [HKS.out]
                    have e : ∀ x y, upd (upd V (3, 0, 0) x) (3, 0, 0) y = upd V (3, 0, 0) y := by intro x y; funext c; unfold upd; split <;> rfl
                    rw [e] at hWn
                    simpa using hWn
                  case measure => simp [intOf]; omega
                · have hbf : mask.getD q false = false := by simpa using hbt
                  rw [hbf] at s3
                  have hks : kUp mask (q + 1) = kUp mask q := by simp only [kUp]; rw [if_neg hbt]
                  have HKS : Hid (kUp mask (q + 1) = kUp mask q) := hks
                  clear hks hbt hbf hown
                  go_wp2
                  go_roundw
                  case rel => exact ⟨q + 1, by omega, by go_num, oa3, cap3, by rw [HKS.out], by rw [HKS.out]; exact hW⟩
                  case measure => simp [intOf]; omega
              · have hqQ : Q = q := by omega
                subst hqQ
                have hown := hW.2.2.1.own (3, 0, 0)
                rw [upd_same] at hown
                simp only [List.length_map] at hown
                by_cases hnil : (kUp mask Q).length = 0
                · have hk0 : kUp mask Q = [] := List.eq_nil_of_length_eq_zero hnil
                  have hZ' := hZ.skip (by rw [HK.out]; exact hk0)
                  have hWd := hW.drop3 hZ.c3
                  by_cases hS : (Q : Int) + 1 < (slen t : Int)
                  · have hB : ¬ (Q : Int) + 1 ≤ (mask.length : Int) := by omega
                    go_wp2
                    go_roundw
                    case rel => exact ⟨o + 1, by omega, by go_num, _, hWd, hZ'⟩
                    case measure => simp [intOf]; omega
                  · go_wp2
                    go_roundw
                    case rel => exact ⟨o + 1, by omega, by go_num, _, hWd, hZ'⟩
                    case measure => simp [intOf]; omega
                · have hk0 : kUp mask Q ≠ [] := fun e => hnil (by rw [e]; rfl)
                  have hkf0 : kf m us slen ua t o ≠ [] := by rw [HK.out]; exact hk0
                  have hlim : lim m t o t = o := by unfold lim; rw [if_neg (by omega), if_pos rfl]
                  have hz0' := hZ.c0 t
                  have hz1e := hZ.c1e t
                  have hz1l := hZ.c1l t
                  have hz2n := hZ.c2n t (obsL m us slen ua t o).length (by rw [hlim]; exact Nat.le_refl _)
                  rw [hlim] at hz0' hz1l
                  have hLo := obsL_len (m := m) (us := us) (slen := slen) (ua := ua) t o
                  have HADD : Hid (∀ (V3 : FV) (v0 v1 kv : Value), _ → ZSt m us slen ua t (o + 1) V3) := fun V3 v0 v1 kv hV => hZ.add hkf0 (V3 := V3) v0 v1 kv hV
                  obtain ⟨OL, hOL⟩ : ∃ OL, obsL m us slen ua t o = OL := ⟨_, rfl⟩
                  rw [hOL] at hz0' hz1l hz2n hLo HADD
                  obtain ⟨L, hL⟩ : ∃ L, OL.length = L := ⟨_, rfl⟩
                  rw [hL] at hz1l hz2n hLo HADD
                  obtain ⟨v0, hv0⟩ : ∃ v0, (V (0, t, 0)).1 = v0 := ⟨_, rfl⟩
                  obtain ⟨v1, hv1⟩ : ∃ v1, (V (1, t, 0)).1 = v1 := ⟨_, rfl⟩
                  have hown0 := hW.2.2.1.own (0, t, 0)
                  rw [upd_ne _ _ _ _ (by simp), hz0', hv0] at hown0
                  simp only [List.length_map, hL] at hown0
                  have hr0 : (famRow (upd V (3, 0, 0) (.slice oa3 (kUp mask Q).length cap3, 3, (kUp mask Q).map (Value.int .i64))) 0 m)[t]? = some v0 := by
                    rw [famRow_get _ _ _ _ hlt, upd_ne _ _ _ _ (by simp), hv0]
                  have hr1 : (famRow (upd V (3, 0, 0) (.slice oa3 (kUp mask Q).length cap3, 3, (kUp mask Q).map (Value.int .i64))) 1 m)[t]? = some v1 := by
                    rw [famRow_get _ _ _ _ hlt, upd_ne _ _ _ _ (by simp), hv1]
                  have d0 : wr.cell? ⟨w.heap.size + 1, t, none⟩ = some v0 := (hW.2.2.2.cell 1 rfl t).trans hr0
                  have hlc1 : (OL.map (Value.int .i64) ++ [Value.int .i64 o]).length = L + 1 := by simp [hL]
                  have hlc2 : ((V (1, t, 0)).2.2 ++ [Value.slice oa3 (kUp mask Q).length cap3]).length = L + 1 := by simp [hz1l]
                  have HV0 : Hid ((upd V (3, 0, 0) (.slice oa3 (kUp mask Q).length cap3, 3, (kUp mask Q).map (Value.int .i64)) (0, t, 0)).1 = v0) := by unfold Hid; rw [upd_ne _ _ _ _ (by simp), hv0]
                  have HV1 : Hid ((V (1, t, 0)).1 = v1) := hv1
                  have HV1e : Hid ((V (1, t, 0)).2.1 = 29) := hz1e
                  have HV1l : Hid ((V (1, t, 0)).2.2.length = L) := hz1l
                  have HR : Hid ((famRow (upd V (3, 0, 0) (.slice oa3 (kUp mask Q).length cap3, 3, (kUp mask Q).map (Value.int .i64))) 1 m)[t]? = some v1) := hr1
                  have HN2 : Hid ((V (2, t, L)).1 = .slice none 0 0) := hz2n
                  obtain ⟨i0, hi0, hz0, hz1, hz2⟩ := info_parts info3
                  obtain ⟨j0, hj0, hy0, hy1, hy2⟩ := info_parts info29
                  have hwsz := hW.2.1
                  clear hz0' hz1e hz1l hz2n hv0 hv1 hL hOL hk0 hkf0 hlim hown
                  by_cases hS : (Q : Int) + 1 < (slen t : Int)
                  · have hB : ¬ (Q : Int) + 1 ≤ (mask.length : Int) := by omega
                    go_wp2_with (first | (at_builtin; refine wpList_append_lies _ rfl (.tmp 81) (.tmp 83) 29 rfl (w.heap.size + 3) 3 i0 _ 1 8 Try.underlying29 hi0 hz0 hz1 hz2 rfl (by omega) v0 L _ (by rfl) (hown0.alloc _) ⟨wr.heap.size, 0, none⟩ 1 1 [.int .i64 o] (by rfl) (by rfl) (World.news_of_block (cs := #[.int .i64 o]) (t := 3) (fr := (0, 0)) (heap_alloc_new wr _)) (by simp [Value.oneCell']) (by omega) (by unfold maxLen; omega) (by omega) (by simp; omega) (wr.heap.size + 1) (by simp) ?_; intro g0 k0 w1 hown1 hgrow1 hat1 hlt1; have hW1 := hW.app0 hlt (o := .cells #[.int .i64 o] 3) (n := L + 1) (hlc1) (by rw [HV0.out]; exact hgrow1) hown1 (by rw [HV0.out]; exact hat1); have hsgA := (hW.app (0, t, 0) (.cells #[.int .i64 o] 3) (n := L + 1) (hlc1) (by rw [HV0.out]; exact hgrow1) hown1 (by rw [HV0.out]; exact hat1)).2.2.2; have d1 : w1.cell? ⟨w.heap.size + 1, t, none⟩ = some v0 := (hsgA.cell 1 rfl t).trans hr0; have d2 : w1.cell? ⟨w.heap.size + 2, t, none⟩ = some v1 := (hsgA.cell 2 rfl t).trans hr1; have fd1 := hsgA.frozen 1 (by simp) t; have hown1' := hW1.2.2.1.own (1, t, 0); rw [upd_ne _ _ _ _ (by simp), upd_ne _ _ _ _ (by simp), HV1.out, HV1e.out, HV1l.out] at hown1'; have hwl1 := hW1.2.1) | (at_builtin; refine wpList_append_lies _ rfl (.tmp 91) (.tmp 93) 30 rfl (w.heap.size + 3) 29 j0 _ 1 24 Try.underlying30 hj0 hy0 hy1 hy2 rfl (by omega) v1 L _ (by rfl) (hown1'.alloc _) ⟨w1.heap.size, 0, none⟩ 1 1 [.slice oa3 (kUp mask Q).length cap3] (by rfl) (by rfl) (World.news_of_block (cs := #[.slice oa3 (kUp mask Q).length cap3]) (t := 29) (fr := (0, 0)) (by rw [show w1.heap.size = (w1.setCell ⟨w.heap.size + 1, t, none⟩ (.slice (some ⟨g0, 0, none⟩) (L + 1) k0)).heap.size from (by simp)]; exact heap_alloc_new _ _)) (by simp [Value.oneCell']) (by omega) (by unfold maxLen; omega) (by omega) (by simp at hwl1 ⊢; omega) (w1.heap.size + 1) (by simp) ?_; intro g1' k1' w2 hown2 hgrow2 hat2 hlt2; have hW2 := hW1.app1 hlt (o := .cells #[.slice oa3 (kUp mask Q).length cap3] 29) (n := L + 1) (hlc2) (by rw [upd_ne _ _ _ _ (by simp), upd_ne _ _ _ _ (by simp), HV1.out]; exact hgrow2) hown2 (by rw [upd_ne _ _ _ _ (by simp), upd_ne _ _ _ _ (by simp), HV1.out]; simpa using hat2); have hsgB := (hW1.app (1, t, 0) (.cells #[.slice oa3 (kUp mask Q).length cap3] 29) (n := L + 1) (hlc2) (by rw [upd_ne _ _ _ _ (by simp), upd_ne _ _ _ _ (by simp), HV1.out]; exact hgrow2) hown2 (by rw [upd_ne _ _ _ _ (by simp), upd_ne _ _ _ _ (by simp), HV1.out]; simpa using hat2)).2.2.2; have d3 : w2.cell? ⟨w.heap.size + 2, t, none⟩ = some v1 := (hsgB.cell 2 rfl t).trans (by rw [famRow_ne _ 1 _ _ _ (by simp)]; exact HR.out); have fd3 := hsgB.frozen 2 (by simp) t))
                    have e3 : ∀ x y z, upd (upd (upd V (3, 0, 0) x) (0, t, 0) y) (1, t, 0) z (3, 0, 0) = x := by intro x y z; rw [upd_ne _ _ _ _ (by simp), upd_ne _ _ _ _ (by simp), upd_same]
                    have hWm := hW2.move t L (by rw [upd_ne _ _ _ _ (by simp), upd_ne _ _ _ _ (by simp), upd_ne _ _ _ _ (by simp)]; exact HN2.out)
                    rw [e3] at hWm
                    clear hgrow1 hgrow2 hown1 hown2 hat1 hat2 hsgA hsgB hW1 hW2 hown1' d1 d2 d3
                    go_roundw
                    case rel => exact ⟨o + 1, by omega, by go_num, _, hWm, HADD.out _ _ _ _ (by rw [HK.out])⟩
                    case measure => simp [intOf]; omega
                  · go_wp2_with (first | (at_builtin; refine wpList_append_lies _ rfl (.tmp 81) (.tmp 83) 29 rfl (w.heap.size + 3) 3 i0 _ 1 8 Try.underlying29 hi0 hz0 hz1 hz2 rfl (by omega) v0 L _ (by rfl) (hown0.alloc _) ⟨wr.heap.size, 0, none⟩ 1 1 [.int .i64 o] (by rfl) (by rfl) (World.news_of_block (cs := #[.int .i64 o]) (t := 3) (fr := (0, 0)) (heap_alloc_new wr _)) (by simp [Value.oneCell']) (by omega) (by unfold maxLen; omega) (by omega) (by simp; omega) (wr.heap.size + 1) (by simp) ?_; intro g0 k0 w1 hown1 hgrow1 hat1 hlt1; have hW1 := hW.app0 hlt (o := .cells #[.int .i64 o] 3) (n := L + 1) (hlc1) (by rw [HV0.out]; exact hgrow1) hown1 (by rw [HV0.out]; exact hat1); have hsgA := (hW.app (0, t, 0) (.cells #[.int .i64 o] 3) (n := L + 1) (hlc1) (by rw [HV0.out]; exact hgrow1) hown1 (by rw [HV0.out]; exact hat1)).2.2.2; have d1 : w1.cell? ⟨w.heap.size + 1, t, none⟩ = some v0 := (hsgA.cell 1 rfl t).trans hr0; have d2 : w1.cell? ⟨w.heap.size + 2, t, none⟩ = some v1 := (hsgA.cell 2 rfl t).trans hr1; have fd1 := hsgA.frozen 1 (by simp) t; have hown1' := hW1.2.2.1.own (1, t, 0); rw [upd_ne _ _ _ _ (by simp), upd_ne _ _ _ _ (by simp), HV1.out, HV1e.out, HV1l.out] at hown1'; have hwl1 := hW1.2.1) | (at_builtin; refine wpList_append_lies _ rfl (.tmp 91) (.tmp 93) 30 rfl (w.heap.size + 3) 29 j0 _ 1 24 Try.underlying30 hj0 hy0 hy1 hy2 rfl (by omega) v1 L _ (by rfl) (hown1'.alloc _) ⟨w1.heap.size, 0, none⟩ 1 1 [.slice oa3 (kUp mask Q).length cap3] (by rfl) (by rfl) (World.news_of_block (cs := #[.slice oa3 (kUp mask Q).length cap3]) (t := 29) (fr := (0, 0)) (by rw [show w1.heap.size = (w1.setCell ⟨w.heap.size + 1, t, none⟩ (.slice (some ⟨g0, 0, none⟩) (L + 1) k0)).heap.size from (by simp)]; exact heap_alloc_new _ _)) (by simp [Value.oneCell']) (by omega) (by unfold maxLen; omega) (by omega) (by simp at hwl1 ⊢; omega) (w1.heap.size + 1) (by simp) ?_; intro g1' k1' w2 hown2 hgrow2 hat2 hlt2; have hW2 := hW1.app1 hlt (o := .cells #[.slice oa3 (kUp mask Q).length cap3] 29) (n := L + 1) (hlc2) (by rw [upd_ne _ _ _ _ (by simp), upd_ne _ _ _ _ (by simp), HV1.out]; exact hgrow2) hown2 (by rw [upd_ne _ _ _ _ (by simp), upd_ne _ _ _ _ (by simp), HV1.out]; simpa using hat2); have hsgB := (hW1.app (1, t, 0) (.cells #[.slice oa3 (kUp mask Q).length cap3] 29) (n := L + 1) (hlc2) (by rw [upd_ne _ _ _ _ (by simp), upd_ne _ _ _ _ (by simp), HV1.out]; exact hgrow2) hown2 (by rw [upd_ne _ _ _ _ (by simp), upd_ne _ _ _ _ (by simp), HV1.out]; simpa using hat2)).2.2.2; have d3 : w2.cell? ⟨w.heap.size + 2, t, none⟩ = some v1 := (hsgB.cell 2 rfl t).trans (by rw [famRow_ne _ 1 _ _ _ (by simp)]; exact HR.out); have fd3 := hsgB.frozen 2 (by simp) t))
                    have e3 : ∀ x y z, upd (upd (upd V (3, 0, 0) x) (0, t, 0) y) (1, t, 0) z (3, 0, 0) = x := by intro x y z; rw [upd_ne _ _ _ _ (by simp), upd_ne _ _ _ _ (by simp), upd_same]
                    have hWm := hW2.move t L (by rw [upd_ne _ _ _ _ (by simp), upd_ne _ _ _ _ (by simp), upd_ne _ _ _ _ (by simp)]; exact HN2.out)
                    rw [e3] at hWm
                    clear hgrow1 hgrow2 hown1 hown2 hat1 hat2 hsgA hsgB hW1 hW2 hown1' d1 d2 d3
                    go_roundw
                    case rel => exact ⟨o + 1, by omega, by go_num, _, hWm, HADD.out _ _ _ _ (by rw [HK.out])⟩
                    case measure => simp [intOf]; omega
        · have hom : o = m := by omega
          rw [hom] at hZ
          have hZ' := hZ.next
          go_wp2
          go_roundw
          case rel => exact ⟨t + 1, by omega, by go_num, V, hW, hZ'⟩
          case measure => simp [intOf]; omega
    · have htm : m = t := by omega
      subst htm
      have hpl := atom_plain ua hn hmn hzl hz hR
      have hob := obs_in (ids := ids) (n := n) hW (by rw [HSL.out]; exact hZ)
      have hidl := hpl.idl
      have hbw := hW.1
      have hit : IRow .i64 wr (R + 3) 3 ids := Row.below (hR.seg.row 0 rfl) hbw (Row.lt (hR.seg.row 0 rfl))
      have c1 : wr.cell? ⟨w.heap.size, 1, none⟩ = some (.slice (some ⟨R + 3, 0, none⟩) n n) := by have := hW.2.2.2.cell 0 rfl 1; rw [← HRC.out] at this; exact this
      have c2 : wr.cell? ⟨w.heap.size, 2, none⟩ = some (.slice (some ⟨R + 4, 0, none⟩) m m) := by have := hW.2.2.2.cell 0 rfl 2; rw [← HRC.out] at this; exact this
      have c3 : wr.cell? ⟨w.heap.size, 3, none⟩ = some (.slice (some ⟨R + 5, 0, none⟩) n n) := by have := hW.2.2.2.cell 0 rfl 3; rw [← HRC.out] at this; exact this
      have c4 : wr.cell? ⟨w.heap.size, 4, none⟩ = some (.slice (some ⟨R + 6, 0, none⟩) n n) := by have := hW.2.2.2.cell 0 rfl 4; rw [← HRC.out] at this; exact this
      have c5 : wr.cell? ⟨w.heap.size, 5, none⟩ = some (.slice (some ⟨U, 0, none⟩) (m * m) (m * m)) := by have := hW.2.2.2.cell 0 rfl 5; rw [← HRC.out] at this; exact this
      have HS : Hid (∀ w5 : World, Below wr.heap.size wr w5 → w5.cell? ⟨w.heap.size, 0, none⟩ = some (.int .i64 m) ∧ w5.cell? ⟨w.heap.size, 1, none⟩ = some (.slice (some ⟨R + 3, 0, none⟩) n n) ∧ w5.cell? ⟨w.heap.size, 2, none⟩ = some (.slice (some ⟨R + 4, 0, none⟩) m m) ∧ w5.cell? ⟨w.heap.size, 3, none⟩ = some (.slice (some ⟨R + 5, 0, none⟩) n n) ∧ w5.cell? ⟨w.heap.size, 4, none⟩ = some (.slice (some ⟨R + 6, 0, none⟩) n n) ∧ w5.cell? ⟨w.heap.size, 5, none⟩ = some (.slice (some ⟨U, 0, none⟩) (m * m) (m * m))) := fun w5 hb5 => ⟨cellOf c0 hb5, cellOf c1 hb5, cellOf c2 hb5, cellOf c3 hb5, cellOf c4 hb5, cellOf c5 hb5⟩
      have HST : Hid (∀ (w5 : World) (vs : List Value), Below wr.heap.size wr w5 → Seg w5 (wr.heap.size + 1) (histSeg wr.heap.size m n vs) → StepCells ids n n vs → HistIn w5 (wr.heap.size + 3) (R + 5) (R + 6) (R + 4) (wr.heap.size + 1) (wr.heap.size + 2) n m ids nx pv (Fz ids n)) := fun w5 vs hb5 hs5 hv5 => hist_in hbw hR hb5 hs5 hv5
      clear hW hZ
      go_wp2_with fail
      go_region_held3 (fun w' => w'.cell? ⟨w.heap.size, 0, none⟩ = some (.int .i64 m) ∧ w'.cell? ⟨w.heap.size, 1, none⟩ = some (.slice (some ⟨R + 3, 0, none⟩) n n) ∧ w'.cell? ⟨w.heap.size, 2, none⟩ = some (.slice (some ⟨R + 4, 0, none⟩) m m) ∧ w'.cell? ⟨w.heap.size, 3, none⟩ = some (.slice (some ⟨R + 5, 0, none⟩) n n) ∧ w'.cell? ⟨w.heap.size, 4, none⟩ = some (.slice (some ⟨R + 6, 0, none⟩) n n) ∧ w'.cell? ⟨w.heap.size, 5, none⟩ = some (.slice (some ⟨U, 0, none⟩) (m * m) (m * m))) (first | exact HS.out _ (hb5'.trans (hb6.mono hb5'.size)) | exact HS.out _ hb5' | go_keep) (first | (go_at_call 47; refine (history_any _ m n (R + 3) (R + 4) (R + 5) (R + 6) U (m * m) ids hn hm hidl (by exact hit)).mono ?_; rintro e w5 ⟨vs, rfl, hb5, hsz5, hsg5, hst5⟩; have hb5' : Below wr.heap.size wr w5 := bel_drew hb5) | (go_at_call 46; refine (zz_any _ (wr.heap.size + 3) (R + 5) (R + 6) (R + 4) (wr.heap.size + 1) (wr.heap.size + 2) (w.heap.size + 1) (w.heap.size + 2) n m ids nx pv (Fz ids n) (Os m us ids n ua) (Ks m us ids n ua) _ hpl (by exact hob.below hb5') (by exact HST.out _ vs hb5' hsg5 hst5)).mono ?_; rintro e w6 ⟨r, rfl, hr, hb6⟩))
      go_wp2
      go_ret
      exact ⟨r, rfl, hr, hbw.trans ((hb5'.trans (hb6.mono hb5'.size)).mono hbw.size)⟩

end Go.Proofs.Qxb6602514a
