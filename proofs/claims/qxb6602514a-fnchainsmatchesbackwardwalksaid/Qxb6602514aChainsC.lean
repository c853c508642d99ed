import Derived.Test.Qxb6602514aChainsP
import Derived.Deep.RegionHeld3
import Derived.Deep.RegionLaw
import Derived.Deep.DeepCutAuto
import Derived.Deep.LoopGhost
import Derived.Deep.OwnRows
import Derived.BigRegion
import Derived.Deep.DrawnRows
set_option linter.unusedVariables false
namespace Go.Proofs.Qxb6602514a.Ch
open Go.RowKit

/-- 'tail': it counts the writes on the path, and answers the last. -/
theorem tail_any (w : World) (CB AB SA nb n k L : Nat) (p : Nat → Nat) (c : Int) (nx : List Int) (hn : n ≤ 4096)
    (hA : w.cell? ⟨AB, 0, none⟩ = some (.pointer (some ⟨SA, 0, none⟩))) (hN : w.cell? ⟨SA, 9, none⟩ = some (.slice (some ⟨nb, 0, none⟩) n n)) (hC : Row w CB 3 [.int .i64 c]) (hx : IRow .i32 w nb 21 nx) (hl : nx.length = n)
    (hp : Path nx n k L p) (hend : nx.getD (p (L - 1)) 0 < 0) (hL : L ≤ n) (hc0 : 0 ≤ c) (hc1 : c ≤ 1099511627776) (s1 : CB ≠ AB) (s2 : CB ≠ SA) (s3 : CB ≠ nb) :
    Calls Try.prog 58 #[.int .i32 k, .pointer (some ⟨CB, 0, none⟩), .pointer (some ⟨AB, 0, none⟩)] w fun e w' =>
      e = .returned (.int .i32 (p (L - 1))) ∧ Row w' CB 3 [.int .i64 (c + L)] ∧ w.grownBy w' (some CB) ∧ w'.heap.size = w.heap.size := by
  obtain ⟨p1, p2, p3, p4⟩ := hp
  have cC : w.cell? ⟨CB, 0, none⟩ = some (.int .i64 c) := hC.cell 0
  have fC := hC.frozen 0
  have hC1 : Row (w.setCell ⟨CB, 0, none⟩ (.int .i64 (c + 1))) CB 3 [.int .i64 (c + 1)] := hC.set 0 _
  have HP2 : Hid (p 0 = k) := p2
  clear p2
  go_enter Try.func58, Try.ntmps58
  go_wp2
  go_loopg [0] L (fun g s wr => ∃ j : Nat, g = L - j ∧ j < L ∧ s = .int .i32 (p j) ∧ Row wr CB 3 [.int .i64 (c + j + 1)] ∧ w.grownBy wr (some CB) ∧ wr.heap.size = w.heap.size)
  case atStart =>
    refine ⟨0, rfl, by omega, by rw [HP2.out], by simpa using hC1, ⟨rfl, rfl, rfl, by simp, fun q hq hne => Below.heap_setCell _ _ _ _ (by intro e; apply hne; simp [e])⟩, by simp⟩
  case round =>
    obtain ⟨j, rfl, hj, rfl, hrC, hgr, hsz⟩ := hrel
    clear cC fC hC1
    have a1 := hgr.cell hA (by simp; omega)
    have a2 := hgr.cell hN (by simp; omega)
    have a3 : wr.cell? ⟨nb, p j, none⟩ = some (.int .i32 (nx.getD (p j) 0)) := hgr.cell (hx.cell (p j) (by have := p3 j hj; omega)) (by simp; omega)
    have cC : wr.cell? ⟨CB, 0, none⟩ = some (.int .i64 (c + j + 1)) := hrC.cell 0
    have fC := hrC.frozen 0
    have hpj := p3 j hj
    by_cases hlast : j + 1 < L
    · have hnext := p4 j hlast
      rw [hnext] at a3
      have hR : Row (wr.setCell ⟨CB, 0, none⟩ (.int .i64 (c + j + 1 + 1))) CB 3 [.int .i64 (c + j + 1 + 1)] := hrC.set 0 _
      have hG : w.grownBy (wr.setCell ⟨CB, 0, none⟩ (.int .i64 (c + j + 1 + 1))) (some CB) := ⟨hgr.os, hgr.tape, hgr.output, by simp; omega, fun q hq hne => by rw [Below.heap_setCell _ _ _ _ (by intro e; apply hne; simp [e])]; exact hgr.block q hq hne⟩
      clear hnext
      go_wp2
      go_roundg (L - (j + 1))
      case measure => omega
      case rel => exact ⟨j + 1, rfl, hlast, rfl, by simpa [Int.add_assoc] using hR, hG, by simpa using hsz⟩
    · have hjl : j = L - 1 := by omega
      have hneg : nx.getD (p j) 0 < 0 := by rw [hjl]; exact hend
      obtain ⟨x, hxx⟩ : ∃ x, nx.getD (p j) 0 = x := ⟨_, rfl⟩
      rw [hxx] at a3 hneg
      have HJL : Hid (j = L - 1) := hjl
      clear hxx hjl
      go_wp2
      go_ret
      have hjl := HJL.out
      refine ⟨by rw [← hjl]; rfl, ?_, hgr, hsz⟩
      have : c + (L : Int) = c + j + 1 := by omega
      rw [this]; exact hrC

/-- The cells of the sessionAnalysis. -/
def sa (B n N : Nat) (nv fv : Value) : List Value := [.pointer none, .slice none 0 0, .slice none 0 0, .slice (some ⟨B, 0, none⟩) n n, .slice none 0 0, .slice none 0 0, .slice none 0 0, .slice none 0 0, .slice (some ⟨B + 1, 0, none⟩) N N, nv, fv]

/-- Memory while chains goes on: the writes, open, the analysis, the variable a, next and first, blinds and blindHead. -/
structure CM (w wc : World) (B n N nb fb : Nat) (ws : List Value) (opn : List Bool) (nx fi bl bh : List Int) : Prop where
  bel : Below B w wc
  seg : Seg wc B [(86, ws), (4, opn.map Value.bool), (93, sa B n N (.slice (some ⟨nb, 0, none⟩) n n) (.slice (some ⟨fb, 0, none⟩) N N)), (87, [.pointer (some ⟨B + 2, 0, none⟩)])]
  nxr : IRow .i32 wc nb 21 nx
  fir : IRow .i32 wc fb 21 fi
  blr : IRow .i32 wc (B + 6) 21 bl
  bhr : IRow .i32 wc (B + 7) 21 bh
  two : (nb = B + 4 ∧ fb = B + 5) ∨ (nb = B + 5 ∧ fb = B + 4)
  size : B + 8 ≤ wc.heap.size
  lo : opn.length = N
  lnx : nx.length = n
  lfi : fi.length = N
  lbl : bl.length = N
  lbh : bh.length = N

section
variable {w wc : World} {B n N nb fb : Nat} {ws : List Value} {opn : List Bool} {nx fi bl bh : List Int}
theorem CM.alloc (h : CM w wc B n N nb fb ws opn nx fi bl bh) (o : Obj) : CM w (wc.alloc o) B n N nb fb ws opn nx fi bl bh :=
  ⟨h.bel.alloc (by have := h.size; omega) o, h.seg.alloc o, Row.alloc h.nxr o, Row.alloc h.fir o, Row.alloc h.blr o, Row.alloc h.bhr o, h.two, by have := h.size; simp; omega, h.lo, h.lnx, h.lfi, h.lbl, h.lbh⟩
theorem CM.drew (h : CM w wc B n N nb fb ws opn nx fi bl bh) : CM w wc.drew B n N nb fb ws opn nx fi bl bh :=
  ⟨h.bel.drew, h.seg, h.nxr, h.fir, h.blr, h.bhr, h.two, h.size, h.lo, h.lnx, h.lfi, h.lbl, h.lbh⟩
theorem CM.grown {w' : World} {CB : Nat} (h : CM w wc B n N nb fb ws opn nx fi bl bh) (hg : wc.grownBy w' (some CB)) (hC : B + 8 ≤ CB) : CM w w' B n N nb fb ws opn nx fi bl bh := by
  have := h.two
  have hs := h.size
  have hz := hg.size
  exact ⟨h.bel.grown hg (by omega) (fun k hk => by simp at hk; omega), h.seg.grown hg (fun k hk => by simp at hk ⊢; omega), Row.grown h.nxr hg (by simp; omega), Row.grown h.fir hg (by simp; omega), Row.grown h.blr hg (by simp; omega), Row.grown h.bhr hg (by simp; omega), h.two, by omega, h.lo, h.lnx, h.lfi, h.lbl, h.lbh⟩
theorem CM.setNx (h : CM w wc B n N nb fb ws opn nx fi bl bh) (q : Nat) (v : Int) : CM w (wc.setCell ⟨nb, q, none⟩ (.int .i32 v)) B n N nb fb ws opn (nx.set q v) fi bl bh := by
  have := h.two
  exact ⟨h.bel.setCell (by simp; omega) _, h.seg.far (by simp; omega) _, h.nxr.set q v, Row.set_ne h.fir (by simp; omega) _, Row.set_ne h.blr (by simp; omega) _, Row.set_ne h.bhr (by simp; omega) _, h.two, by simpa using h.size, h.lo, by simpa using h.lnx, h.lfi, h.lbl, h.lbh⟩
theorem CM.setFi (h : CM w wc B n N nb fb ws opn nx fi bl bh) (q : Nat) (v : Int) : CM w (wc.setCell ⟨fb, q, none⟩ (.int .i32 v)) B n N nb fb ws opn nx (fi.set q v) bl bh := by
  have := h.two
  exact ⟨h.bel.setCell (by simp; omega) _, h.seg.far (by simp; omega) _, Row.set_ne h.nxr (by simp; omega) _, h.fir.set q v, Row.set_ne h.blr (by simp; omega) _, Row.set_ne h.bhr (by simp; omega) _, h.two, by simpa using h.size, h.lo, h.lnx, by simpa using h.lfi, h.lbl, h.lbh⟩
theorem CM.setBl (h : CM w wc B n N nb fb ws opn nx fi bl bh) (q : Nat) (v : Int) : CM w (wc.setCell ⟨B + 6, q, none⟩ (.int .i32 v)) B n N nb fb ws opn nx fi (bl.set q v) bh := by
  have := h.two
  exact ⟨h.bel.setCell (by simp) _, h.seg.far (by simp) _, Row.set_ne h.nxr (by simp; omega) _, Row.set_ne h.fir (by simp; omega) _, h.blr.set q v, Row.set_ne h.bhr (by simp) _, h.two, by simpa using h.size, h.lo, h.lnx, h.lfi, by simpa using h.lbl, h.lbh⟩
theorem CM.setBh (h : CM w wc B n N nb fb ws opn nx fi bl bh) (q : Nat) (v : Int) : CM w (wc.setCell ⟨B + 7, q, none⟩ (.int .i32 v)) B n N nb fb ws opn nx fi bl (bh.set q v) := by
  have := h.two
  exact ⟨h.bel.setCell (by simp) _, h.seg.far (by simp) _, Row.set_ne h.nxr (by simp; omega) _, Row.set_ne h.fir (by simp; omega) _, Row.set_ne h.blr (by simp) _, h.bhr.set q v, h.two, by simpa using h.size, h.lo, h.lnx, h.lfi, h.lbl, by simpa using h.lbh⟩
theorem CM.setOpn (h : CM w wc B n N nb fb ws opn nx fi bl bh) (q : Nat) (v : Bool) : CM w (wc.setCell ⟨B + 1, q, none⟩ (.bool v)) B n N nb fb ws (opn.set q v) nx fi bl bh := by
  have := h.two
  have hs := h.seg.set 1 rfl q (.bool v)
  rw [← List.map_set] at hs
  exact ⟨h.bel.setCell (by simp) _, hs, Row.set_ne h.nxr (by simp; omega) _, Row.set_ne h.fir (by simp; omega) _, Row.set_ne h.blr (by simp) _, Row.set_ne h.bhr (by simp) _, h.two, by simpa using h.size, by simpa using h.lo, h.lnx, h.lfi, h.lbl, h.lbh⟩
theorem CM.cA (h : CM w wc B n N nb fb ws opn nx fi bl bh) : wc.cell? ⟨B + 3, 0, none⟩ = some (.pointer (some ⟨B + 2, 0, none⟩)) := h.seg.cell 3 rfl 0
theorem CM.c3 (h : CM w wc B n N nb fb ws opn nx fi bl bh) : wc.cell? ⟨B + 2, 3, none⟩ = some (.slice (some ⟨B, 0, none⟩) n n) := h.seg.cell 2 rfl 3
theorem CM.c8 (h : CM w wc B n N nb fb ws opn nx fi bl bh) : wc.cell? ⟨B + 2, 8, none⟩ = some (.slice (some ⟨B + 1, 0, none⟩) N N) := h.seg.cell 2 rfl 8
theorem CM.c9 (h : CM w wc B n N nb fb ws opn nx fi bl bh) : wc.cell? ⟨B + 2, 9, none⟩ = some (.slice (some ⟨nb, 0, none⟩) n n) := h.seg.cell 2 rfl 9
theorem CM.c10 (h : CM w wc B n N nb fb ws opn nx fi bl bh) : wc.cell? ⟨B + 2, 10, none⟩ = some (.slice (some ⟨fb, 0, none⟩) N N) := h.seg.cell 2 rfl 10
end

/-- The cells of the first k of n writes. -/
structure WCells (es fs : List Int) (k n : Nat) (ws : List Value) : Prop where
  len : ws.length = n * 3
  c0 : ∀ i, i < k → ws[i * 3]? = some (.int .i32 0)
  c1 : ∀ i, i < k → ws[i * 3 + 1]? = some (.int .i32 (es.getD i 0))
  c2 : ∀ i, i < k → ws[i * 3 + 2]? = some (.int .i32 (fs.getD i 0))

section
variable {es fs nx fi : List Int} {n N k : Nat}
theorem NxOk.start (h : ∀ j, j < n → nx.getD j 0 = -1) : NxOk fs n 0 nx := fun q hq => .inl ⟨h q hq, fun k hk => by omega⟩
theorem FiOk.start (h : ∀ j, j < N → fi.getD j 0 = -1) : FiOk es fs N 0 fi := fun q hq => .inl ⟨h q hq, fun k hk => by omega⟩
theorem NxOk.skip (h : NxOk fs n k nx) (hf : fs.getD k 0 < 0) : NxOk fs n (k + 1) nx := by
  intro q hq
  rcases h q hq with ⟨h1, h2⟩ | ⟨j, h1, h2, h3⟩
  · refine .inl ⟨h1, fun j hj => ?_⟩
    by_cases e : j = k
    · subst e; omega
    · exact h2 j (by omega)
  · exact .inr ⟨j, by omega, h2, h3⟩
theorem NxOk.put (h : NxOk fs n k nx) (hl : nx.length = n) {q : Nat} (hf : fs.getD k 0 = q) : NxOk fs n (k + 1) (nx.set q k) := by
  intro r hr
  by_cases e : q = r
  · subst e; exact .inr ⟨k, by omega, by rw [set_same _ _ _ (by omega)], hf⟩
  · rw [set_ne _ _ _ _ e]
    rcases h r hr with ⟨h1, h2⟩ | ⟨j, h1, h2, h3⟩
    · refine .inl ⟨h1, fun j hj => ?_⟩
      by_cases e : j = k
      · subst e; omega
      · exact h2 j (by omega)
    · exact .inr ⟨j, by omega, h2, h3⟩
theorem FiOk.skip (h : FiOk es fs N k fi) (hf : fs.getD k 0 ≠ -1) : FiOk es fs N (k + 1) fi := by
  intro q hq
  rcases h q hq with ⟨h1, h2⟩ | ⟨j, h1, h2, h3⟩
  · refine .inl ⟨h1, fun j hj => ?_⟩
    by_cases e : j = k
    · subst e; exact fun x => hf x.1
    · exact h2 j (by omega)
  · exact .inr ⟨j, by omega, h2, h3⟩
theorem FiOk.put (h : FiOk es fs N k fi) (hl : fi.length = N) {e : Nat} (heN : e < N) (hf : fs.getD k 0 = -1) (he : es.getD k 0 = e) : FiOk es fs N (k + 1) (fi.set e k) := by
  intro r hr
  by_cases ee : e = r
  · subst ee; exact .inr ⟨k, by omega, by rw [set_same _ _ _ (by omega)], hf, he⟩
  · rw [set_ne _ _ _ _ ee]
    rcases h r hr with ⟨h1, h2⟩ | ⟨j, h1, h2, h3⟩
    · refine .inl ⟨h1, fun j hj => ?_⟩
      by_cases e' : j = k
      · subst e'; omega
      · exact h2 j (by omega)
    · exact .inr ⟨j, by omega, h2, h3⟩
theorem FiOk.rng (h : FiOk es fs N n fi) {e : Nat} (he : e < N) : fi.getD e 0 = -1 ∨ ∃ k : Nat, k < n ∧ fi.getD e 0 = k ∧ fs.getD k 0 = -1 ∧ es.getD k 0 = (e : Int) := by
  rcases h e he with ⟨h1, h2⟩ | h1
  · exact .inl h1
  · exact .inr h1
end

section
variable {es fs nx fi nxm : List Int} {n N k : Nat}
theorem TotA.skip {T : Int} (h : TotA fs nx n k T) (hf : fs.getD k 0 ≠ -2) : TotA fs nx n (k + 1) T := by
  unfold TotA at h ⊢
  simp only [sm]; rw [if_neg hf, ← h]; omega
theorem TotA.add {T : Int} {L : Nat} {p : Nat → Nat} (h : TotA fs nx n k T) (hnx : NxOk fs n n nx) (hf : fs.getD k 0 = -2) (hp : Path nx n k L p) (hend : nx.getD (p (L - 1)) 0 < 0) : TotA fs nx n (k + 1) (T + L) := by
  unfold TotA at h ⊢
  simp only [sm]; rw [if_pos hf, ← h, cH_eq hnx (by omega) hp hend]
theorem TotB.skip {T : Int} (h : TotB fi nx n k T) (hf : fi.getD k 0 < 0) : TotB fi nx n (k + 1) T := by
  unfold TotB at h ⊢
  simp only [sm]; rw [if_neg (by omega), ← h]; omega
theorem TotB.add {T : Int} {L q : Nat} {p : Nat → Nat} (h : TotB fi nx n k T) (hnx : NxOk fs n n nx) (hf : fi.getD k 0 = q) (hfq : fs.getD q 0 < 0) (hp : Path nx n q L p) (hend : nx.getD (p (L - 1)) 0 < 0) : TotB fi nx n (k + 1) (T + L) := by
  unfold TotB at h ⊢
  simp only [sm]; rw [if_pos (by omega), ← h, hf, Int.toNat_natCast, cH_eq hnx hfq hp hend]

/-- Which of 'next' have been turned: only those on the chains of the entities that have been done. -/
def ModOk (nx fi nxm : List Int) (n e : Nat) : Prop := ∀ q, q < n → nxm.getD q 0 = nx.getD q 0 ∨ ∃ e', e' < e ∧ 0 ≤ fi.getD e' 0 ∧ On nx n (fi.getD e' 0).toNat q
theorem ModOk.next {e : Nat} (h : ModOk nx fi nxm n e) : ModOk nx fi nxm n (e + 1) := fun q hq => by
  rcases h q hq with h1 | ⟨e', h1, h2, h3⟩
  · exact .inl h1
  · exact .inr ⟨e', by omega, h2, h3⟩
theorem ModOk.put {e t : Nat} (h : ModOk nx fi nxm n e) (v : Int) (hf : 0 ≤ fi.getD e 0) (ho : On nx n (fi.getD e 0).toNat t) : ModOk nx fi (nxm.set t v) n (e + 1) := fun q hq => by
  by_cases ee : t = q
  · subst ee; exact .inr ⟨e, by omega, hf, ho⟩
  · rw [set_ne _ _ _ _ ee]; exact h.next q hq
/-- The path from an entity's first write that has not been done is as it was. -/
theorem ModOk.path {e h L : Nat} {p : Nat → Nat} (hm : ModOk nx fi nxm n e) (hnx : NxOk fs n n nx) (hfi : FiOk es fs N n fi) (heN : e < N) (hf : fi.getD e 0 = h) (hp : Path nx n h L p) (hend : nx.getD (p (L - 1)) 0 < 0) :
    Path nxm n h L p ∧ nxm.getD (p (L - 1)) 0 < 0 := by
  have key : ∀ i, i < L → nxm.getD (p i) 0 = nx.getD (p i) 0 := by
    intro i hi
    rcases hm (p i) (hp.2.2.1 i hi) with h1 | ⟨e', h1, h2, ⟨j, h3⟩⟩
    · exact h1
    · exfalso
      rcases hfi e heN with ⟨a1, _⟩ | ⟨k, a1, a2, a3, a4⟩
      · omega
      rcases hfi e' (by omega) with ⟨b1, _⟩ | ⟨k', b1, b2, b3, b4⟩
      · omega
      have e1 : k = h := by omega
      subst e1
      rw [b2, Int.toNat_natCast] at h3
      have := (At.same hnx (by omega) (by omega) (hp.at i hi) h3).1
      subst this
      omega
  have hL := hp.1
  refine ⟨⟨hp.1, hp.2.1, hp.2.2.1, fun i hi => ?_⟩, ?_⟩
  · rw [key i (by omega)]; exact hp.2.2.2 i hi
  · rw [key (L - 1) (by omega)]; exact hend
end

theorem made_ints (n : Nat) : (madeCells #[Value.int .i32 0] n).toList = (List.replicate n (0 : Int)).map (Value.int .i32) := by
  rw [toList_madeCells_one, List.map_replicate]

theorem two_ways {w wa : World} {B n N x y p q : Nat} {ws : List Value} (hba : Below B w wa) (hsa : wa.heap.size = B + 4)
    (hsga : Seg wa B [(86, ws), (4, (List.replicate N false).map Value.bool), (93, sa B n N (.slice none 0 0) (.slice none 0 0)), (87, [.pointer (some ⟨B + 2, 0, none⟩)])]) :
    Below B w ((((wa.setCell ⟨B + 2, 9, none⟩ (.slice (some ⟨x, 0, none⟩) n n)).setCell ⟨B + 2, 10, none⟩ (.slice (some ⟨y, 0, none⟩) N N)).alloc (.cells (madeCells #[.int .i32 0] p) 21)).alloc (.cells (madeCells #[.int .i32 0] q) 21)).drew ∧
    ((((wa.setCell ⟨B + 2, 9, none⟩ (.slice (some ⟨x, 0, none⟩) n n)).setCell ⟨B + 2, 10, none⟩ (.slice (some ⟨y, 0, none⟩) N N)).alloc (.cells (madeCells #[.int .i32 0] p) 21)).alloc (.cells (madeCells #[.int .i32 0] q) 21)).drew.heap.size = B + 6 ∧
    Seg ((((wa.setCell ⟨B + 2, 9, none⟩ (.slice (some ⟨x, 0, none⟩) n n)).setCell ⟨B + 2, 10, none⟩ (.slice (some ⟨y, 0, none⟩) N N)).alloc (.cells (madeCells #[.int .i32 0] p) 21)).alloc (.cells (madeCells #[.int .i32 0] q) 21)).drew B [(86, ws), (4, (List.replicate N false).map Value.bool), (93, sa B n N (.slice (some ⟨x, 0, none⟩) n n) (.slice (some ⟨y, 0, none⟩) N N)), (87, [.pointer (some ⟨B + 2, 0, none⟩)])] ∧
    IRow .i32 ((((wa.setCell ⟨B + 2, 9, none⟩ (.slice (some ⟨x, 0, none⟩) n n)).setCell ⟨B + 2, 10, none⟩ (.slice (some ⟨y, 0, none⟩) N N)).alloc (.cells (madeCells #[.int .i32 0] p) 21)).alloc (.cells (madeCells #[.int .i32 0] q) 21)).drew (B + 4) 21 (List.replicate p 0) ∧
    IRow .i32 ((((wa.setCell ⟨B + 2, 9, none⟩ (.slice (some ⟨x, 0, none⟩) n n)).setCell ⟨B + 2, 10, none⟩ (.slice (some ⟨y, 0, none⟩) N N)).alloc (.cells (madeCells #[.int .i32 0] p) 21)).alloc (.cells (madeCells #[.int .i32 0] q) 21)).drew (B + 5) 21 (List.replicate q 0) := by
  refine ⟨((((hba.setCell (by simp) _).setCell (by simp) _).alloc (by simp; omega) _).alloc (by simp; omega) _).drew, by simp [hsa], ?_, ?_, ?_⟩
  · exact (((hsga.set 2 rfl 9 _).set 2 rfl 10 _).alloc _).alloc _
  · unfold IRow; rw [← made_ints]; exact (Row.alloc_new' (by simp [hsa])).alloc _
  · unfold IRow; rw [← made_ints]; exact Row.alloc_new' (by simp [hsa])

set_option maxRecDepth 100000 in
set_option maxHeartbeats 2000000 in
theorem chains_any (w : World) (B n N : Nat) (ws : List Value) (es fs : List Int) (hn : n ≤ 4096) (hN : N ≤ 65536) (hd : DomP es fs n N) (hws : WCells es fs n n ws)
    (hB : w.heap.size = B + 3) (hsg : Seg w B [(86, ws), (4, (List.replicate N false).map Value.bool), (93, sa B n N (.slice none 0 0) (.slice none 0 0))]) :
    Calls Try.prog 53 #[.pointer (some ⟨B + 2, 0, none⟩)] w fun e w' => RetB (ModelP es fs n N) e ∧ Below B w w' ∧ ∃ nb fb, w'.cell? ⟨B + 2, 8, none⟩ = some (.slice (some ⟨B + 1, 0, none⟩) N N) ∧ w'.cell? ⟨B + 2, 9, none⟩ = some (.slice (some ⟨nb, 0, none⟩) n n) ∧ w'.cell? ⟨B + 2, 10, none⟩ = some (.slice (some ⟨fb, 0, none⟩) N N) := by
  have hmk1 := fun wx : World => run_make_row' (P := Try.prog) 56 21 (.int .i32 0) 4 Try.underlying56 info21 rfl .i64 .i64 n (by omega) (by omega) wx
  have hmk2 := fun wx : World => run_make_row' (P := Try.prog) 56 21 (.int .i32 0) 4 Try.underlying56 info21 rfl .i64 .i64 N (by omega) (by omega) wx
  go_enter Try.func53, Try.ntmps53
  go_wp2
  obtain ⟨wa, hwa⟩ : ∃ wa, w.alloc (.cells #[.pointer (some ⟨B + 2, 0, none⟩)] 87) = wa := ⟨_, rfl⟩
  have hsga : Seg wa B [(86, ws), (4, (List.replicate N false).map Value.bool), (93, sa B n N (.slice none 0 0) (.slice none 0 0)), (87, [.pointer (some ⟨B + 2, 0, none⟩)])] := by
    rw [← hwa]; exact hsg.pushAlloc (by simp [hB]) 87 _
  have hba : Below B w wa := by rw [← hwa]; exact (Below.refl _ _).alloc (by omega) _
  have hsa : wa.heap.size = B + 4 := by rw [← hwa]; simp [hB]
  rw [hwa]
  clear hwa hsg
  have cA : wa.cell? ⟨B + 3, 0, none⟩ = some (.pointer (some ⟨B + 2, 0, none⟩)) := hsga.cell 3 rfl 0
  have c3 : wa.cell? ⟨B + 2, 3, none⟩ = some (.slice (some ⟨B, 0, none⟩) n n) := hsga.cell 2 rfl 3
  have c8 : wa.cell? ⟨B + 2, 8, none⟩ = some (.slice (some ⟨B + 1, 0, none⟩) N N) := hsga.cell 2 rfl 8
  have c9 : wa.cell? ⟨B + 2, 9, none⟩ = some (.slice none 0 0) := hsga.cell 2 rfl 9
  have c10 : wa.cell? ⟨B + 2, 10, none⟩ = some (.slice none 0 0) := hsga.cell 2 rfl 10
  have f9 := hsga.frozen 2 (by simp) 9
  have f10 := hsga.frozen 2 (by simp) 10
  go_cut [] from 15 to 32 (fun wc => Below B w wc ∧ wc.heap.size = B + 6 ∧ ∃ nb fb, ((nb = B + 4 ∧ fb = B + 5) ∨ (nb = B + 5 ∧ fb = B + 4)) ∧ Seg wc B [(86, ws), (4, (List.replicate N false).map Value.bool), (93, sa B n N (.slice (some ⟨nb, 0, none⟩) n n) (.slice (some ⟨fb, 0, none⟩) N N)), (87, [.pointer (some ⟨B + 2, 0, none⟩)])] ∧ IRow .i32 wc nb 21 (List.replicate n 0) ∧ IRow .i32 wc fb 21 (List.replicate N 0))
  case first =>
    go_region
    all_goals go_wp2_with fail
    all_goals go_meet
    · obtain ⟨h1, h2, h3, h4, h5⟩ := two_ways (p := n) (q := N) (x := B + 4) (y := B + 5) hba hsa hsga
      exact ⟨h1, h2, B + 4, B + 5, .inl ⟨rfl, rfl⟩, h3, h4, h5⟩
    · obtain ⟨h1, h2, h3, h4, h5⟩ := two_ways (p := N) (q := n) (x := B + 5) (y := B + 4) hba hsa hsga
      exact ⟨h1, h2, B + 5, B + 4, .inr ⟨rfl, rfl⟩, h3, h5, h4⟩
  case rest =>
    clear hmk1 hmk2 cA c3 c8 c9 c10 f9 f10 hsga hba hsa hB
    obtain ⟨hb, hsz, nb, fb, htw, hsg, hnx, hfi⟩ := hcut
    have cA : wc.cell? ⟨B + 3, 0, none⟩ = some (.pointer (some ⟨B + 2, 0, none⟩)) := hsg.cell 3 rfl 0
    have c9 : wc.cell? ⟨B + 2, 9, none⟩ = some (.slice (some ⟨nb, 0, none⟩) n n) := hsg.cell 2 rfl 9
    go_wp2
    -- loop 1
    go_loopw [38] (fun i wr => ∃ k : Nat, k ≤ n ∧ i = .int .i64 k ∧ Below B w wr ∧ wr.heap.size = B + 6 ∧ Seg wr B [(86, ws), (4, (List.replicate N false).map Value.bool), (93, sa B n N (.slice (some ⟨nb, 0, none⟩) n n) (.slice (some ⟨fb, 0, none⟩) N N)), (87, [.pointer (some ⟨B + 2, 0, none⟩)])] ∧ IRow .i32 wr fb 21 (List.replicate N 0) ∧
      ∃ nx : List Int, nx.length = n ∧ IRow .i32 wr nb 21 nx ∧ ∀ j, j < k → nx.getD j 0 = -1) (fun i _ => n - (intOf i).toNat)
    case atStart => exact ⟨0, Nat.zero_le _, rfl, hb, hsz, hsg, hfi, _, by simp, hnx, fun j hj => by omega⟩
    case round =>
      clear hb hsz hsg hnx hfi cA c9
      obtain ⟨k, hk, rfl, hb, hsz, hsg, hfi, nx, hnl, hnx, hnm⟩ := hrel
      have cA : wr.cell? ⟨B + 3, 0, none⟩ = some (.pointer (some ⟨B + 2, 0, none⟩)) := hsg.cell 3 rfl 0
      have c9 : wr.cell? ⟨B + 2, 9, none⟩ = some (.slice (some ⟨nb, 0, none⟩) n n) := hsg.cell 2 rfl 9
      have c10 : wr.cell? ⟨B + 2, 10, none⟩ = some (.slice (some ⟨fb, 0, none⟩) N N) := hsg.cell 2 rfl 10
      have hne : nb ≠ fb := by omega
      by_cases hlt : k < n
      · have g1 := hnx.cell k (by omega)
        have f1 := Row.frozen hnx k
        go_wp2
        go_roundw
        case rel =>
          refine ⟨k + 1, by omega, by go_num, hb.setCell (by simp; omega) _, by simpa using hsz, hsg.far (by simp; omega) _, Row.set_ne hfi (by simp; omega) _, nx.set k (-1), by simpa using hnl, hnx.set k (-1), ?_⟩
          intro j hj
          by_cases e : k = j
          · subst e; rw [set_same _ _ _ (by omega)]
          · rw [set_ne _ _ _ _ e]; exact hnm j (by omega)
        case measure => simp [intOf]; omega
      · have hnm' : ∀ j, j < n → nx.getD j 0 = -1 := fun j hj => hnm j (by omega)
        clear hnm hk
        go_wp2
        -- loop 2
        go_loopw [53] (fun i wr => ∃ k : Nat, k ≤ N ∧ i = .int .i64 k ∧ Below B w wr ∧ wr.heap.size = B + 6 ∧ Seg wr B [(86, ws), (4, (List.replicate N false).map Value.bool), (93, sa B n N (.slice (some ⟨nb, 0, none⟩) n n) (.slice (some ⟨fb, 0, none⟩) N N)), (87, [.pointer (some ⟨B + 2, 0, none⟩)])] ∧ IRow .i32 wr nb 21 nx ∧
          ∃ fi : List Int, fi.length = N ∧ IRow .i32 wr fb 21 fi ∧ ∀ j, j < k → fi.getD j 0 = -1) (fun i _ => N - (intOf i).toNat)
        case atStart => exact ⟨0, Nat.zero_le _, rfl, hb, hsz, hsg, hnx, _, by simp, hfi, fun j hj => by omega⟩
        case round =>
          clear hb hsz hsg hnx hfi cA c9 c10 hlt
          obtain ⟨k, hk, rfl, hb, hsz, hsg, hnx, fi, hfl, hfi, hfm⟩ := hrel
          have cA : wr.cell? ⟨B + 3, 0, none⟩ = some (.pointer (some ⟨B + 2, 0, none⟩)) := hsg.cell 3 rfl 0
          have c10 : wr.cell? ⟨B + 2, 10, none⟩ = some (.slice (some ⟨fb, 0, none⟩) N N) := hsg.cell 2 rfl 10
          by_cases hlt : k < N
          · have g1 := hfi.cell k (by omega)
            have f1 := Row.frozen hfi k
            go_wp2
            go_roundw
            case rel =>
              refine ⟨k + 1, by omega, by go_num, hb.setCell (by simp; omega) _, by simpa using hsz, hsg.far (by simp; omega) _, Row.set_ne hnx (by simp; omega) _, fi.set k (-1), by simpa using hfl, hfi.set k (-1), ?_⟩
              intro j hj
              by_cases e : k = j
              · subst e; rw [set_same _ _ _ (by omega)]
              · rw [set_ne _ _ _ _ e]; exact hfm j (by omega)
            case measure => simp [intOf]; omega
          · have hfm' : ∀ j, j < N → fi.getD j 0 = -1 := fun j hj => hfm j (by omega)
            clear hfm hk
            have c8 : wr.cell? ⟨B + 2, 8, none⟩ = some (.slice (some ⟨B + 1, 0, none⟩) N N) := hsg.cell 2 rfl 8
            go_wp2_with (first | (at_make; refine wpList_make_row _ rfl (.tmp 67) (.tmp 67) 56 rfl 21 (.int .i32 0) 1 4 Try.underlying56 info21 _ _ _ _ N rfl rfl rfl rfl (by omega) (by unfold maxLen; omega) _ (made_one _ rfl N) (B + 6) (by simp [hsz]) ?_; intro w1 hrow1 hsz1 hbel1; have hsg1 := hsg.below hbel1 (by simp); have cA1 : w1.cell? ⟨B + 3, 0, none⟩ = some (.pointer (some ⟨B + 2, 0, none⟩)) := hsg1.cell 3 rfl 0; have c81 : w1.cell? ⟨B + 2, 8, none⟩ = some (.slice (some ⟨B + 1, 0, none⟩) N N) := hsg1.cell 2 rfl 8) | (at_make; refine wpList_make_row _ rfl (.tmp 73) (.tmp 73) 56 rfl 21 (.int .i32 0) 1 4 Try.underlying56 info21 _ _ _ _ N rfl rfl rfl rfl (by omega) (by unfold maxLen; omega) _ (made_one _ rfl N) (B + 7) (by simp [hsz1]) ?_; intro w2 hrow2 hsz2 hbel2; have hsg2 := hsg1.below hbel2 (by simp); have cA2 : w2.cell? ⟨B + 3, 0, none⟩ = some (.pointer (some ⟨B + 2, 0, none⟩)) := hsg2.cell 3 rfl 0; have c32 : w2.cell? ⟨B + 2, 3, none⟩ = some (.slice (some ⟨B, 0, none⟩) n n) := hsg2.cell 2 rfl 3))
            have hM0 : CM w w2 B n N nb fb ws (List.replicate N false) nx fi (List.replicate N 0) (List.replicate N 0) := by
              have hb2 : Below (B + 6) wr w2 := hbel1.trans (hbel2.mono (by omega))
              refine ⟨hb.trans (hb2.mono (by omega)), hsg2, Row.below hnx hb2 (by omega), Row.below hfi hb2 (by omega), ?_, ?_, htw, by omega, by simp, hnl, hfl, by simp, by simp⟩
              · unfold IRow; rw [List.map_replicate]; exact hrow1.below hbel2 (by omega)
              · unfold IRow; rw [List.map_replicate]; exact hrow2
            clear hrow1 hsz1 hbel1 hsg1 cA1 c81 hrow2 hsz2 hbel2 hsg2 cA2 c32 cA c10 c8 hb hsz hsg hnx hfi hlt
            -- loop 3
            go_loopw [80] (fun i wr => ∃ k : Nat, k ≤ n ∧ i = .int .i64 k ∧ ∃ nx fi bl bh, CM w wr B n N nb fb ws (List.replicate N false) nx fi bl bh ∧ NxOk fs n k nx ∧ FiOk es fs N k fi ∧ ∀ e, e < N → 0 ≤ bl.getD e 0 ∧ bl.getD e 0 ≤ k) (fun i _ => n - (intOf i).toNat)
            case atStart => exact ⟨0, Nat.zero_le _, rfl, nx, fi, _, _, hM0, NxOk.start hnm', FiOk.start hfm', fun e he => by simp [List.getD, he]⟩
            case round =>
              clear hM0 hnm' hfm' hnl hfl
              obtain ⟨k, hk, rfl, nx, fi, bl, bh, hM, hX, hF, hbl⟩ := hrel
              have cA := hM.cA
              have c9 := hM.c9
              have c10 := hM.c10
              have hs8 := hM.size
              have l0 : B + 1 < wr.heap.size := by omega
              have l2 : B + 2 < wr.heap.size := by omega
              have l3 : B + 3 < wr.heap.size := by omega
              have l6 : B + 6 < wr.heap.size := by omega
              have l7 : B + 7 < wr.heap.size := by omega
              have ln : nb < wr.heap.size := by omega
              have lf : fb < wr.heap.size := by omega
              by_cases hlt : k < n
              · have w0 : wr.cell? ⟨B, k * 3, none⟩ = some (.int .i32 0) := (hM.seg.cell 0 rfl (k * 3)).trans (hws.c0 k hlt)
                have w1' : wr.cell? ⟨B, k * 3 + 1, none⟩ = some (.int .i32 (es.getD k 0)) := (hM.seg.cell 0 rfl (k * 3 + 1)).trans (hws.c1 k hlt)
                have w2' : wr.cell? ⟨B, k * 3 + 2, none⟩ = some (.int .i32 (fs.getD k 0)) := (hM.seg.cell 0 rfl (k * 3 + 2)).trans (hws.c2 k hlt)
                have hdk := hd k hlt
                obtain ⟨e, he⟩ : ∃ e : Nat, es.getD k 0 = e := ⟨(es.getD k 0).toNat, by omega⟩
                obtain ⟨f, hf⟩ : ∃ f, fs.getD k 0 = f := ⟨_, rfl⟩
                rw [he] at w1' hdk
                rw [hf] at w2' hdk
                have heN : e < N := by omega
                have b1 := hM.lbl
                have b2 := hM.lbh
                have b3 := hM.lnx
                have b4 := hM.lfi
                rcases (show f = -2 ∨ f = -1 ∨ 0 ≤ f by omega) with rfl | rfl | hf0
                · have hX' := hX.skip (show fs.getD k 0 < 0 by omega)
                  have hF' := hF.skip (show fs.getD k 0 ≠ -1 by omega)
                  have g1 := hM.blr.cell e (by omega)
                  have g2 := hM.bhr.cell e (by omega)
                  have f1 := Row.frozen hM.blr e
                  have f2 := Row.frozen hM.bhr e
                  have hbe := hbl e heN
                  obtain ⟨x, hx⟩ : ∃ x, bl.getD e 0 = x := ⟨_, rfl⟩
                  rw [hx] at g1 hbe
                  clear hX hF he hf hx hdk
                  go_wp2
                  go_roundw
                  case rel =>
                    refine ⟨k + 1, by omega, by go_num, nx, fi, bl.set e (x + 1), bh.set e k, ((hM.setBl e (x + 1)).setBh e k).alloc _, hX', hF', fun e' he' => ?_⟩
                    by_cases ee : e = e'
                    · subst ee; rw [set_same _ _ _ (by omega)]; omega
                    · rw [set_ne _ _ _ _ ee]; have := hbl e' he'; omega
                  case measure => simp [intOf]; omega
                · have hX' := hX.skip (show fs.getD k 0 < 0 by omega)
                  have hF' := hF.put b4 heN hf he
                  have g1 := hM.fir.cell e (by omega)
                  have f1 := Row.frozen hM.fir e
                  clear hX hF he hf hdk
                  have e0 : (0 : Int) ≤ (e : Int) := by omega
                  have e1 : (e : Int) < (N : Int) := by omega
                  go_wp2
                  go_region
                  go_wp2
                  go_roundw
                  case rel => exact ⟨k + 1, by omega, by go_num, nx, fi.set e k, bl, bh, ((hM.setFi e k).alloc _).drew, hX', hF', fun e' he' => by have := hbl e' he'; omega⟩
                  case measure => simp [intOf]; omega
                · obtain ⟨q, rfl⟩ : ∃ q : Nat, f = q := ⟨f.toNat, by omega⟩
                  have hqn : q < n := by omega
                  have hX' := hX.put b3 hf
                  have hF' := hF.skip (show fs.getD k 0 ≠ -1 by omega)
                  have g1 := hM.nxr.cell q (by omega)
                  have f1 := Row.frozen hM.nxr q
                  clear hX hF he hf hdk
                  have e0 : (0 : Int) ≤ (q : Int) := by omega
                  have e1 : (q : Int) < (n : Int) := by omega
                  go_wp2
                  go_region
                  go_wp2
                  go_roundw
                  case rel => exact ⟨k + 1, by omega, by go_num, nx.set q k, fi, bl, bh, ((hM.setNx q k).alloc _).drew, hX', hF', fun e' he' => by have := hbl e' he'; omega⟩
                  case measure => simp [intOf]; omega
              · have hkn : n = k := by omega
                subst hkn
                obtain ⟨wE, hwE⟩ : ∃ wE : World, wE = wr := ⟨_, rfl⟩
                subst hwE
                obtain ⟨CB, hCB⟩ : ∃ CB, wE.heap.size = CB := ⟨_, rfl⟩
                have hCB8 : B + 8 ≤ CB := by omega
                have c3 := hM.c3
                have hM4 := hM.alloc (.cells #[.int .i64 0] 3)
                have hR4 : Row (wE.alloc (.cells #[.int .i64 0] 3)) CB 3 [.int .i64 0] := Row.alloc_new' hCB.symm
                rw [hCB] at l0 l2 l3 l6 l7 ln lf hs8
                go_wp2
                clear hCB
                -- loop 4
                go_loopw [131] (fun i wr => ∃ k : Nat, k ≤ n ∧ i = .int .i64 k ∧ CM w wr B n N nb fb ws (List.replicate N false) nx fi bl bh ∧ ∃ T : Int, Row wr CB 3 [.int .i64 T] ∧ TotA fs nx n k T ∧ 0 ≤ T ∧ T ≤ (k : Int) * 4096) (fun i _ => n - (intOf i).toNat)
                case atStart => exact ⟨0, Nat.zero_le _, rfl, hM4, 0, hR4, rfl, by omega, by omega⟩
                case round =>
                  clear hM4 hR4 hM cA c9 c10 c3 hs8 l0 l2 l3 l6 l7 ln lf hlt hk
                  obtain ⟨k, hk, rfl, hM, T, hR, hT, hT0, hT1⟩ := hrel
                  have hs8 := hM.size
                  have l2 : B + 2 < wr.heap.size := by omega
                  have l3 : B + 3 < wr.heap.size := by omega
                  have lC := hR.lt
                  by_cases hlt : k < n
                  · have w0 : wr.cell? ⟨B, k * 3, none⟩ = some (.int .i32 0) := (hM.seg.cell 0 rfl (k * 3)).trans (hws.c0 k hlt)
                    have w1' : wr.cell? ⟨B, k * 3 + 1, none⟩ = some (.int .i32 (es.getD k 0)) := (hM.seg.cell 0 rfl (k * 3 + 1)).trans (hws.c1 k hlt)
                    have w2' : wr.cell? ⟨B, k * 3 + 2, none⟩ = some (.int .i32 (fs.getD k 0)) := (hM.seg.cell 0 rfl (k * 3 + 2)).trans (hws.c2 k hlt)
                    obtain ⟨e, he⟩ : ∃ e, es.getD k 0 = e := ⟨_, rfl⟩
                    obtain ⟨f, hf⟩ : ∃ f, fs.getD k 0 = f := ⟨_, rfl⟩
                    rw [he] at w1'
                    rw [hf] at w2'
                    by_cases hf2 : f = -2
                    · subst hf2
                      obtain ⟨L, p, hp, hend⟩ := path_full hX hlt (show fs.getD k 0 < 0 by omega)
                      have hLn := hp.le hX (show fs.getD k 0 < 0 by omega)
                      have hT' := hT.add hX hf hp hend
                      have hMb := hM.alloc (.cells #[.int .i32 0, .int .i32 e, .int .i32 (-2)] 86)
                      have hRb := hR.alloc (.cells #[.int .i32 0, .int .i32 e, .int .i32 (-2)] 86)
                      clear he hf
                      go_wp2_with fail
                      refine (tail_any _ CB (B + 3) (B + 2) nb n k L p T nx hn hMb.cA hMb.c9 hRb hMb.nxr hMb.lnx hp hend hLn hT0 (by omega) (by omega) (by omega) (by omega)).mono ?_
                      rintro e' w5 ⟨rfl, hR5, hg5, hz5⟩
                      have hM5 := hMb.grown hg5 hCB8
                      clear hMb hRb hg5
                      go_wp2
                      go_roundw
                      case rel => exact ⟨k + 1, by omega, by go_num, hM5, T + L, hR5, hT', by omega, by omega⟩
                      case measure => simp [intOf]; omega
                    · have hT' := hT.skip (show fs.getD k 0 ≠ -2 by omega)
                      clear he hf
                      go_wp2
                      go_roundw
                      case rel => exact ⟨k + 1, by omega, by go_num, hM.alloc _, T, hR.alloc _, hT', by omega, by omega⟩
                      case measure => simp [intOf]; omega
                  · have hkn : n = k := by omega
                    subst hkn
                    have cA := hM.cA
                    have c10 := hM.c10
                    go_wp2
                    have HA : Hid (TotA fs nx n n T) := hT
                    clear hT cA c10
                    -- loop 5
                    go_loopw [149] (fun i wr => ∃ e : Nat, e ≤ N ∧ i = .int .i64 e ∧ ∃ (opn : List Bool) (nxm fim : List Int) (S : Int), CM w wr B n N nb fb ws opn nxm fim bl bh ∧ Row wr CB 3 [.int .i64 (T + S)] ∧ TotB fi nx n e S ∧ 0 ≤ S ∧ S ≤ (e : Int) * 4096 ∧ ModOk nx fi nxm n e ∧ ∀ e', e ≤ e' → fim.getD e' 0 = fi.getD e' 0) (fun i _ => N - (intOf i).toNat)
                    case atStart => exact ⟨0, Nat.zero_le _, rfl, _, nx, fi, 0, hM, by simpa using hR, rfl, by omega, by omega, fun q hq => .inl rfl, fun e' _ => rfl⟩
                    case round =>
                      clear hM hR hs8 l2 l3 lC hlt hk
                      obtain ⟨e, he, rfl, opn, nxm, fim, S, hM, hR, hS, hS0, hS1, hmod, hfim⟩ := hrel
                      have hs8 := hM.size
                      have cA := hM.cA
                      have c3 := hM.c3
                      by_cases hlt : e < N
                      · have b1 := hM.lbl
                        have b2 := hM.lbh
                        have b3 := hM.lnx
                        have b4 := hM.lfi
                        have b5 := hM.lo
                        have c8 := hM.c8
                        have g1 := hM.fir.cell e (by omega)
                        rw [hfim e (Nat.le_refl _)] at g1
                        have g2 := hM.blr.cell e (by omega)
                        have g3 : wr.cell? ⟨B + 1, e, none⟩ = some (.bool (opn[e]'(by omega))) := (hM.seg.cell 1 rfl e).trans (by simp [b5, hlt])
                        have f3 := hM.seg.frozen 1 (by simp) e
                        have hbe := hbl e hlt
                        obtain ⟨f, hf⟩ : ∃ f, fi.getD e 0 = f := ⟨_, rfl⟩
                        obtain ⟨x, hx⟩ : ∃ x, bl.getD e 0 = x := ⟨_, rfl⟩
                        rw [hf] at g1
                        rw [hx] at g2 hbe
                        have HF0 : Hid (fi.getD e 0 = f) := hf
                        have HX0 : Hid (bl.getD e 0 = x) := hx
                        clear hf hx
                        have e0 : (0 : Int) ≤ (e : Int) := by omega
                        have e1 : (e : Int) < (N : Int) := by omega
                        go_upto_region 35 with fail
                        go_cut [] (fun wc => ∃ opn : List Bool, CM w wc B n N nb fb ws opn nxm fim bl bh ∧ Row wc CB 3 [.int .i64 (T + S)])
                        case first =>
                          go_region
                          go_wp2_with fail
                          go_meet
                          case rel => exact ⟨_, (hM.setOpn e _).drew, (hR.set_ne (by simp; omega) _).drew⟩
                        case rest =>
                          clear hM hR cA c8 c3 g1 g2 g3 f3 hs8
                          obtain ⟨opn', hM, hR⟩ := hcut
                          have hs8 := hM.size
                          have g2 := hM.blr.cell e (by omega)
                          rw [HX0.out] at g2
                          have g4 := hM.bhr.cell e (by omega)
                          obtain ⟨y, hy⟩ : ∃ y, bh.getD e 0 = y := ⟨_, rfl⟩
                          rw [hy] at g4
                          clear hy
                          have cA := hM.cA
                          have c9 := hM.c9
                          have c10 := hM.c10
                          by_cases hf0 : 0 ≤ f
                          · obtain ⟨h, rfl⟩ : ∃ h : Nat, f = h := ⟨f.toNat, by omega⟩
                            obtain ⟨hhn, hfh⟩ : h < n ∧ fs.getD h 0 < 0 := by
                              rcases hF.rng hlt with h1 | ⟨k, h1, h2, h3, h4⟩
                              · have := HF0.out; omega
                              · have := HF0.out
                                have : k = h := by omega
                                subst this; exact ⟨h1, by omega⟩
                            obtain ⟨L, p, hp, hend⟩ := path_full hX hhn hfh
                            have hLn := hp.le hX hfh
                            have hS' := hS.add hX HF0.out hfh hp hend
                            obtain ⟨hpm, hendm⟩ := hmod.path hX hF hlt HF0.out hp hend
                            have hL1 := hp.1
                            have htl : p (L - 1) < n := hp.2.2.1 (L - 1) (by omega)
                            have hOn : On nx n (fi.getD e 0).toNat (p (L - 1)) := by rw [HF0.out, Int.toNat_natCast]; exact ⟨L - 1, hp.at (L - 1) (by omega)⟩
                            have hfi0 : 0 ≤ fi.getD e 0 := by rw [HF0.out]; omega
                            have hfim' : ∀ e', e + 1 ≤ e' → fim.getD e' 0 = fi.getD e' 0 := fun e' h' => hfim e' (by omega)
                            by_cases hx1 : x = 1
                            · obtain ⟨t, ht⟩ : ∃ t, p (L - 1) = t := ⟨_, rfl⟩
                              rw [ht] at htl hOn
                              have ht0 : (0 : Int) ≤ (t : Int) := by omega
                              have ht1 : (t : Int) < (n : Int) := by omega
                              have HKc : Hid (∀ w5 : World, wc.drew.grownBy w5 (some CB) → w5.cell? ⟨B + 3, 0, none⟩ = some (.pointer (some ⟨B + 2, 0, none⟩)) ∧ w5.cell? ⟨B + 2, 9, none⟩ = some (.slice (some ⟨nb, 0, none⟩) n n) ∧ w5.cell? ⟨B + 7, e, none⟩ = some (.int .i32 y)) := fun w5 hg => ⟨hg.cell (show wc.drew.cell? _ = _ from cA) (by simp; omega), hg.cell (show wc.drew.cell? _ = _ from c9) (by simp; omega), hg.cell (show wc.drew.cell? _ = _ from g4) (by simp; omega)⟩
                              have HKs : Hid (∀ w5 : World, wc.drew.grownBy w5 (some CB) → ∀ t v, (w5.setCell ⟨nb, t, none⟩ v).cell? ⟨B + 3, 0, none⟩ = some (.pointer (some ⟨B + 2, 0, none⟩)) ∧ (w5.setCell ⟨nb, t, none⟩ v).cell? ⟨B + 2, 9, none⟩ = some (.slice (some ⟨nb, 0, none⟩) n n) ∧ (w5.setCell ⟨nb, t, none⟩ v).cell? ⟨B + 7, e, none⟩ = some (.int .i32 y)) := by
                                intro w5 hg t v
                                have htw' := hM.two
                                obtain ⟨k1, k2, k3⟩ := HKc.out w5 hg
                                exact ⟨by rw [World.cell?_of_block (w := w5) (Below.heap_setCell _ _ _ _ (by simp; omega))]; exact k1, by rw [World.cell?_of_block (w := w5) (Below.heap_setCell _ _ _ _ (by simp; omega))]; exact k2, by rw [World.cell?_of_block (w := w5) (Below.heap_setCell _ _ _ _ (by simp; omega))]; exact k3⟩
                              have HCMs : Hid (∀ w5 : World, wc.drew.grownBy w5 (some CB) → CM w w5 B n N nb fb ws opn' nxm fim bl bh) := fun w5 hg => hM.drew.grown hg hCB8
                              subst hx1
                              go_upto_region 37 with fail
                              go_region_held3 (fun w' => w'.cell? ⟨B + 3, 0, none⟩ = some (.pointer (some ⟨B + 2, 0, none⟩)) ∧ w'.cell? ⟨B + 2, 9, none⟩ = some (.slice (some ⟨nb, 0, none⟩) n n) ∧ w'.cell? ⟨B + 7, e, none⟩ = some (.int .i32 y)) (first | exact HKs.out _ hg5 _ _ | exact HKc.out _ hg5 | go_keep) (first | (go_at_call 58; refine (tail_any _ CB (B + 3) (B + 2) nb n h L p (T + S) nxm hn (by exact cA) (by exact c9) (by exact hR) (by exact hM.nxr) b3 hpm hendm hLn (by omega) (by omega) (by omega) (by omega) (by omega)).mono ?_; rintro e' w5 ⟨rfl, hR5, hg5, hz5⟩; have hM5 := HCMs.out w5 hg5; have k5 := hM5.nxr.cell t (by have := hM5.lnx; omega); have fk5 := Row.frozen hM5.nxr t))
                              have hM6 := hM5.setNx t y
                              have hR6 : Row (w5.setCell ⟨nb, t, none⟩ (.int .i32 y)) CB 3 [.int .i64 (T + S + L)] := hR5.set_ne (by simp; omega) _
                              have hmod6 := hmod.put y hfi0 hOn
                              rw [Int.add_assoc] at hR6
                              clear hM5 hR5 hg5 k5 fk5
                              go_wp2
                              go_roundw
                              case rel => exact ⟨e + 1, by omega, by go_num, opn', _, fim, S + L, hM6, hR6, hS', by omega, by omega, hmod6, hfim'⟩
                              case measure => simp [intOf]; omega
                            · have hx1' : ((x : Int) == 1) = false := by simpa using hx1
                              go_wp2_with fail
                              refine (tail_any _ CB (B + 3) (B + 2) nb n h L p (T + S) nxm hn (by exact cA) (by exact c9) (by exact hR) (by exact hM.nxr) b3 hpm hendm hLn (by omega) (by omega) (by omega) (by omega) (by omega)).mono ?_
                              rintro e' w5 ⟨rfl, hR5, hg5, hz5⟩
                              have hM5 := hM.grown hg5 hCB8
                              rw [Int.add_assoc] at hR5
                              clear hg5
                              go_wp2
                              go_roundw
                              case rel => exact ⟨e + 1, by omega, by go_num, opn', nxm, fim, S + L, hM5, hR5, hS', by omega, by omega, hmod.next, hfim'⟩
                              case measure => simp [intOf]; omega
                          · have hS' := hS.skip (show fi.getD e 0 < 0 by rw [HF0.out]; omega)
                            by_cases hx1 : x = 1
                            · subst hx1
                              have g5 := hM.fir.cell e (by omega)
                              have f5 := Row.frozen hM.fir e
                              go_wp2
                              go_region
                              go_wp2
                              go_roundw
                              case rel =>
                                refine ⟨e + 1, by omega, by go_num, opn', nxm, fim.set e y, S, (hM.setFi e y).drew, (hR.set_ne (by simp; omega) _).drew, hS', by omega, by omega, hmod.next, fun e' h' => ?_⟩
                                rw [set_ne _ _ _ _ (by omega)]; exact hfim e' (by omega)
                              case measure => simp [intOf]; omega
                            · have hx1' : ((x : Int) == 1) = false := by simpa using hx1
                              go_wp2
                              go_roundw
                              case rel => exact ⟨e + 1, by omega, by go_num, opn', nxm, fim, S, hM, hR, hS', by omega, by omega, hmod.next, fun e' h' => hfim e' (by omega)⟩
                              case measure => simp [intOf]; omega
                      · have heN : N = e := by omega
                        subst heN
                        have cC : wr.cell? ⟨CB, 0, none⟩ = some (.int .i64 (T + S)) := hR.cell 0
                        have hfin : T + S = n ↔ ModelP es fs n N := (total_full hX hF HA.out hS).trans (counted_model hd hX hF)
                        have HFIN : Hid (T + S = n ↔ ModelP es fs n N) := hfin
                        clear hfin
                        go_wp2
                        go_quiet (fail)
                        go_wp2
                        go_ret
                        refine ⟨⟨(T + S == (n : Int)), rfl, ?_⟩, below_drewN hM.bel _, nb, fb, hM.c8, hM.c9, hM.c10⟩
                        rw [← HFIN.out]; simp

end Go.Proofs.Qxb6602514a.Ch
