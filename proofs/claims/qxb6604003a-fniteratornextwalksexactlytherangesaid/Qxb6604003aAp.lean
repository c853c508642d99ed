import Derived.Test.Qxb6604003aMd
import Derived.Deep.RegionHeld3
import Derived.Deep.RegionLaw
import Derived.Deep.LoopGhost
import Derived.Deep.CutBlock
set_option linter.unusedVariables false
namespace Go.Proofs.Qxb6604003a
open Go.RowKit

theorem info72 : (Try.prog.info? 72).map (fun i => (i.zero, i.size, i.bytes)) = some (some (.agg #[.slice none 0 0, .slice none 0 0]), 2, 48) := by kernel_rfl
theorem info61 : (Try.prog.info? 61).map (fun i => (i.zero, i.size, i.bytes)) = some (some (.agg #[.slice none 0 0, .pointer none]), 2, 32) := by kernel_rfl
theorem info32 : (Try.prog.info? 32).map (fun i => (i.zero, i.size, i.bytes)) = some (some (.pointer none), 1, 8) := by kernel_rfl

theorem own_form {w : World} {base : Nat} {e : TypeId} {size : Nat} {v : Value} {n : Nat} {xs : List Value} (h : w.ownsRow base e size v n xs) : ∃ oa cap, v = .slice oa n cap := by
  rcases h.2 with ⟨rfl, rfl⟩ | ⟨g, cap, cur, rfl, _⟩
  · exact ⟨none, 0, rfl⟩
  · exact ⟨_, cap, rfl⟩

/-- What append leaves. -/
def AppPost (K V : Nat → Value) (kb : Nat → List UInt8) (w0 : World) (base B n : Nat) (e : Ending) (w' : World) : Prop := e = .returned (.tuple #[]) ∧ ∃ d h low, TS w0 w' base B d ∧ Rest K V kb d h low n

theorem own_cap {w : World} {base : Nat} {e : TypeId} {size g cap n : Nat} {xs : List Value} (h : w.ownsRow base e size (.slice (some ⟨g, 0, none⟩) n cap) n xs) : n ≤ cap ∧ cap ≤ maxLen := by
  rcases h.2 with ⟨h', _⟩ | ⟨g', cap', cur, h', _, _, h1, h2, _⟩
  · cases h'
  · injection h' with _ _ e; subst e; exact ⟨h1, h2⟩

theorem own_take {w : World} {base : Nat} {e : TypeId} {size g cap n : Nat} {xs : List Value} (h : w.ownsRow base e size (.slice (some ⟨g, 0, none⟩) n cap) n xs) (k : Nat) (hk : k ≤ n) : w.ownsRow base e size (.slice (some ⟨g, 0, none⟩) k cap) k (xs.take (k * size)) := by
  have hle : k * size ≤ n * size := Nat.mul_le_mul_right _ hk
  refine ⟨by rw [List.length_take, h.1]; omega, ?_⟩
  rcases h.2 with ⟨h', _⟩ | ⟨g', cap', cur, h', hb, hg, h1, h2, h3, h4⟩
  · cases h'
  · injection h' with e1 e2 e3
    injection e1 with e1
    injection e1 with e1
    subst e1
    subst e3
    refine .inr ⟨g, cap, cur, rfl, hb, hg, by omega, h2, h3, ?_⟩
    rw [← h4, List.take_take, show min (k * size) (n * size) = k * size by omega]

theorem Tch.grown {w w' : World} (t : Tch w w' fun k => w.heap.size ≤ k) : w.grownBy w' none := ⟨t.os, t.tape, t.output, t.size, fun k hk _ => t.block k hk (by omega)⟩

def z72 : Array Value := madeCells #[.slice none 0 0, .slice none 0 0] (16 * 2)
def z61 : Array Value := madeCells #[.slice none 0 0, .pointer none] (16 * 2)
theorem z72_size : z72.size = 16 * 2 := by unfold z72; rw [size_madeCells]
theorem z61_size : z61.size = 16 * 2 := by unfold z61; rw [size_madeCells]

theorem run_make56 (w : World) : (Instr.makeSlice 56 (.int .i64 0) (.int .i64 16)).run Try.prog w = .ok (.slice (some ⟨w.heap.size, 0, none⟩) 0 16) (w.alloc (.cells z72 72)) := by
  obtain ⟨i, hi, hz, hs, hb⟩ := info_parts info72
  have hr := run_make (P := Try.prog) w 56 72 i _ Try.underlying56 hi hz .i64 .i64 0 16 (by omega) (by omega) (by rw [hb]; omega) (by omega)
  rw [hs] at hr
  unfold z72
  simpa [Value.cells] using hr
theorem run_make57 (w : World) : (Instr.makeSlice 57 (.int .i64 0) (.int .i64 16)).run Try.prog w = .ok (.slice (some ⟨w.heap.size, 0, none⟩) 0 16) (w.alloc (.cells z61 61)) := by
  obtain ⟨i, hi, hz, hs, hb⟩ := info_parts info61
  have hr := run_make (P := Try.prog) w 57 61 i _ Try.underlying57 hi hz .i64 .i64 0 16 (by omega) (by omega) (by rw [hb]; omega) (by omega)
  rw [hs] at hr
  unfold z61
  simpa [Value.cells] using hr

theorem z61_0 : z61[0]? = some (.slice none 0 0) := by simp [z61, madeCells]
theorem z61_1 : (z61.setIfInBounds 0 (.slice none 0 0))[1]? = some (.pointer none) := by simp [z61, madeCells]

theorem own_z61 (w : World) (base R : Nat) (hb : base ≤ w.heap.size) : (w.alloc (.cells ((z61.setIfInBounds 0 (.slice none 0 0)).setIfInBounds 1 (.pointer (some ⟨R, 0, none⟩))) 61)).ownsRow base 61 2 (.slice (some ⟨w.heap.size, 0, none⟩) 1 16) 1 [.slice none 0 0, .pointer (some ⟨R, 0, none⟩)] :=
  ⟨rfl, .inr ⟨w.heap.size, 16, _, rfl, hb, heap_alloc_new w _, by omega, by unfold maxLen; omega, by simp [z61_size], by simp [z61, madeCells]; rfl⟩⟩

theorem TS.root9 {w0 w w1 : World} {base B : Nat} {d : D} (h : TS w0 w base B d) (t : Tch w w1 fun _ => False) (l g R : Nat) (hl : l ≠ 0) (hg : w.heap.size ≤ g) (hown : w1.ownsRow base 61 2 (.slice (some ⟨g, 0, none⟩) 1 16) 1 [.slice none 0 0, .pointer (some ⟨R, 0, none⟩)]) :
    ∃ col9, TS w0 ((w1.alloc (.cells #[.slice none 0 0, .slice (some ⟨g, 0, none⟩) 1 16, .int .u64 1] 59)).setCell ⟨B, 0, none⟩ (.pointer (some ⟨w1.heap.size, 0, none⟩))).drew base B { d with nd := upd1 d.nd l (d.nd l + 1), adr := upd2 d.adr l (d.nd l) w1.heap.size, slv := upd2 d.slv l (d.nd l) (.slice (some ⟨g, 0, none⟩) 1 16), it := upd2 d.it l (d.nd l) [.slice none 0 0, ptr R], root := ptr w1.heap.size, len := d.len, spv := d.spv, sp := d.sp, col := col9 } := by
  have e1 : ety l = 61 := by simp [ety, hl]
  have e2 : (nrow l (.slice (some ⟨g, 0, none⟩) 1 16)).toArray = #[.slice none 0 0, .slice (some ⟨g, 0, none⟩) 1 16, .int .u64 1] := by simp [nrow, hl]
  have h1 := h.newNodeV t l (g := g) (n := 1) (cap := 16) (xs := [.slice none 0 0, .pointer (some ⟨R, 0, none⟩)]) (by simp) (by rw [e1]; exact hown) hg
  rw [e2] at h1
  have h2 := h1.setB (ptr w1.heap.size) d.len d.spv d.sp 0 (.pointer (some ⟨w1.heap.size, 0, none⟩)) (by simp [ptr]) h1.spo h1.cS
  exact ⟨_, h2.drew⟩

theorem Tch.grown1 {w w' : World} {g : Nat} (t : Tch w w' fun k => k = g) : w.grownBy w' (some g) := ⟨t.os, t.tape, t.output, t.size, fun k hk hne => t.block k hk fun e => hne (by rw [e])⟩

theorem own_one {w : World} {base g cap n : Nat} {xs : List Value} (h : w.ownsRow base 32 1 (.slice (some ⟨g, 0, none⟩) n cap) n xs) (hn : 1 ≤ n) (p : Value) (o : Obj) : ((w.setCell ⟨g, 0, none⟩ p).alloc o).ownsRow base 32 1 (.slice (some ⟨g, 0, none⟩) 1 cap) 1 [p] := by
  have h1 := (own_take h 1 hn).stored 0 p
  have hl : xs.length = n * 1 := h.1
  have e : (xs.take (1 * 1)).set 0 p = [p] := by
    cases xs with
    | nil => simp at hl; omega
    | cons x xs => simp
  rw [e] at h1
  exact h1.1.alloc o

set_option maxRecDepth 100000 in
set_option maxHeartbeats 4000000 in
theorem append_any (K V : Nat → Value) (kb : Nat → List UInt8) (w0 w : World) (base B n h : Nat) (d : D) (low : Nat → Nat → Value) (ka va : Option Addr) (kl kc vl vc kbk kof : Nat)
    (hbase : w0.heap.size = base) (hT : TS w0 w base B d) (hR : Rest K V kb d h low n) (hn : n ≤ 30000)
    (hK : K n = .slice ka kl kc) (hV : V n = .slice va vl vc) (hkl : (kb n).length = kl) (hkb : Bs w0 ka kc kbk kof (kb n)) (hk1 : kl ≤ 1048576) (hk0 : 0 < n → 0 < kl) :
    Calls Try.prog 45 #[.pointer (some ⟨B, 0, none⟩), .slice ka kl kc, .slice va vl vc] w fun e w' => AppPost K V kb w0 base B (n + 1) e w' := by
  have HK : Hid (K n = .slice ka kl kc ∧ V n = .slice va vl vc ∧ (kb n).length = kl ∧ w0.heap.size = base) := ⟨hK, hV, hkl, hbase⟩
  clear hK hV hkl hbase
  have hh1 := hR.pt.h1
  have hnd0 : d.nd 0 = dv (n - 1) 1 + 1 := hR.nd 0 (by omega)
  have hcl := cnt_len hR
  obtain ⟨q, hq⟩ : ∃ q, dv (n - 1) 1 = q := ⟨_, rfl⟩
  have hq16 : q = (n - 1) / 16 := by rw [← hq, dv_succ, dv_zero]
  rw [hq] at hcl hnd0
  have HQ : Hid (dv (n - 1) 1 = q ∧ d.nd 0 = q + 1) := ⟨hq, hnd0⟩
  obtain ⟨m, hm⟩ : ∃ m, n - 16 * q = m := ⟨_, rfl⟩
  rw [hm] at hcl
  have hslen : d.sp.length = h := by rw [hR.sp, spl_len]
  -- region 0
  have b1 : w.cell? ⟨B, 1, none⟩ = some (.int .i64 (d.len : Nat)) := hT.bld.cell 1
  rw [hR.len] at b1
  have f1 := hT.bld.frozen 1
  have hT1 := hT.setB d.root (n + 1) d.spv d.sp 1 (.int .i64 ((n + 1 : Nat) : Int)) (by simp) hT.spo hT.cS
  have hP1 : PT K V kb { d with root := d.root, len := n + 1, spv := d.spv, sp := d.sp } h _ low := hR.pt.bld d.root (n + 1) d.spv d.sp d.col
  rw [show ((n + 1 : Nat) : Int) = (n : Int) + 1 by omega] at hT1
  obtain ⟨w1, hw1⟩ : ∃ w1, w.setCell ⟨B, 1, none⟩ (.int .i64 ((n : Int) + 1)) = w1 := ⟨_, rfl⟩
  rw [hw1] at hT1
  have HP1 : Hid (PT K V kb { d with root := d.root, len := n + 1, spv := d.spv, sp := d.sp } h _ low) := hP1
  have HR : Hid (Rest K V kb d h low n) := hR
  obtain ⟨sg, scap, hsv, -, -⟩ := hT.spo.form (by rw [hslen]; omega)
  rw [hslen] at hsv
  have hspo := hT1.spo
  have e3 : w1.cell? ⟨B, 3, none⟩ = some d.spv := hT1.bld.cell 3
  rw [hsv] at e3
  have hsc : w1.cell? ⟨sg, h - 1, none⟩ = some (ptr (d.adr 0 q)) := by
    have h2 : w1.ownsRow base 32 1 d.spv d.sp.length d.sp := hT1.spo
    rw [hsv, hslen] at h2
    rw [h2.cellAt (h - 1) (by omega), hR.sp, spl_at _ _ _ _ _ (by omega), show h - 1 - (h - 1) = 0 by omega, hnd0, Nat.add_sub_cancel]
  have hlrow : Row w1 (d.adr 0 q) 59 (nrow 0 (d.slv 0 q)) := hT1.node 0 q (show q < d.nd 0 by omega)
  have hlown : w1.ownsRow base 72 2 (d.slv 0 q) ((d.it 0 q).length / 2) (d.it 0 q) := hT1.own 0 q (show q < d.nd 0 by omega)
  rw [hcl] at hlown
  obtain ⟨la, lcap, hlv⟩ := own_form hlown
  obtain ⟨L, hL⟩ : ∃ L, d.adr 0 q = L := ⟨_, rfl⟩
  rw [hL] at hsc hlrow
  have l0 : w1.cell? ⟨L, 0, none⟩ = some (d.slv 0 q) := hlrow.cell 0
  have lf := hlrow.frozen 0
  rw [hlv] at l0
  unfold ptr at hsc
  have i1 : (0 : Int) ≤ (h : Int) - 1 := by omega
  have i2 : (h : Int) - 1 < (h : Int) := by omega
  have i3 : ((h : Int) - 1).toNat = h - 1 := by omega
  have HX : Hid (d.spv = .slice (some ⟨sg, 0, none⟩) h scap ∧ d.adr 0 q = L ∧ d.slv 0 q = .slice la m lcap) := ⟨hsv, hL, hlv⟩
  have hh60 : h ≤ 60 := by have := hR.h4 hn; omega
  have HM : Hid (n - 16 * q = m) := hm
  clear hsv hL hlv hP1 hR hT hspo hq hnd0 hm
  go_enter Try.func45, Try.ntmps45
  go_upto_region 1 with fail
  go_quiet (fail)
  by_cases hm16 : m < 16
  · obtain ⟨i0, hi0, hz0, hz1, hz2⟩ := info_parts info72
    have hTa := (hT1.drewN nq).alloc (.cells #[.slice ka kl kc, .slice va vl vc] 72)
    have hlownA : ((w1.drewN nq).alloc (.cells #[.slice ka kl kc, .slice va vl vc] 72)).ownsRow base 72 2 (.slice la m lcap) m (d.it 0 q) := by
      have h2 : (w1.drewN nq).ownsRow base 72 2 (d.slv 0 q) m (d.it 0 q) := hlown
      rw [HX.out.2.2] at h2
      exact h2.alloc _
    have hlrA : Row ((w1.drewN nq).alloc (.cells #[.slice ka kl kc, .slice va vl vc] 72)) L 59 [.slice la m lcap, .slice none 0 0, .int .u64 1] := by
      have h2 : Row (w1.drewN nq) L 59 (nrow 0 (d.slv 0 q)) := hlrow
      rw [HX.out.2.2] at h2
      exact h2.alloc _
    have hneA : some L ≠ (Value.slice la m lcap).ownBlock := fun e => by
      have c1 := hT1.cA 0 q (show q < d.nd 0 by have := HQ.out; omega) L (by rw [show d.slv 0 q = _ from HX.out.2.2]; exact e.symm)
      have c2 := hT1.cN 0 q (show q < d.nd 0 by have := HQ.out; omega)
      rw [show d.adr 0 q = L from HX.out.2.1] at c2
      rw [c2] at c1
      simp at c1
    have hszA := hTa.lo
    go_wp2_with (at_builtin; refine wpList_append_lies _ rfl (.tmp 41) (.tmp 45) 56 rfl base 72 i0 _ 2 48 Try.underlying56 hi0 hz0 hz1 hz2 rfl (by omega) _ m _ (by rfl) hlownA ⟨w1.heap.size, 0, none⟩ 1 1 [.slice ka kl kc, .slice va vl vc] (by rfl) (by rfl) (World.news_of_block (cs := #[.slice ka kl kc, .slice va vl vc]) (t := 72) (fr := (0, 0)) (heap_alloc_new (w1.drewN nq) _)) (by simp [Value.oneCell']) (by omega) (by unfold maxLen; omega) (by omega) hszA (w1.heap.size + 1) (by simp) ?_; intro gg cap w2 hown2 hgrow hat hlt2; have lr2 := Row.grown hlrA hgrow hneA; have l2 : w2.cell? ⟨L, 0, none⟩ = some (.slice la m lcap) := lr2.cell 0; have f2 := lr2.frozen 0)
    go_end0
    have hKV := HK.out
    have hit : d.it 0 q ++ [K n, V n] = d.it 0 q ++ [.slice ka kl kc, .slice va vl vc] := by rw [hKV.1, hKV.2.1]
    have hTb := hTa.put (l := 0) (q := q) (show q < d.nd 0 by have := HQ.out; omega) (by rw [show d.slv 0 q = _ from HX.out.2.2]; exact hgrow) (g := gg) (n := m + 1) (cap := cap) (xs := d.it 0 q ++ [K n, V n]) (by simp; omega) (by rw [hit]; exact hown2) (by rw [show d.slv 0 q = _ from HX.out.2.2]; rcases hat with h2 | h2; exact .inl h2; right; simp; omega) hlt2
    have e : foff 0 = 0 := rfl
    rw [e, show ({ d with root := d.root, len := n + 1, spv := d.spv, sp := d.sp } : D).adr 0 q = L from HX.out.2.1] at hTb
    exact ⟨rfl, _, h, low, hTb, HR.out.key q hq16 (by rw [HM.out]; exact hm16) gg (m + 1) cap _⟩
  · have hmm : n - 16 * q = m := HM.out
    have hn0 : 0 < n := by omega
    have hf1 : Full n 1 := fun l hl => by
      have e : l = 0 := by omega
      rw [e, dv_zero]; omega
    have HF1 : Hid (0 < n ∧ Full n 1) := ⟨hn0, hf1⟩
    clear hmm hf1
    have hspc : Hid (∀ t, t < h → (w1.drewN nq).cell? ⟨sg, h - 1 - t, none⟩ = some (.pointer (some ⟨d.adr t (dv (n - 1) (t + 1)), 0, none⟩))) := fun t ht => by
      have h2 : (w1.drewN nq).ownsRow base 32 1 d.spv d.sp.length d.sp := hT1.spo
      rw [HX.out.1, hslen] at h2
      rw [h2.cellAt (h - 1 - t) (by omega), HR.out.sp, spl_at _ _ _ _ _ (by omega), show h - 1 - (h - 1 - t) = t by omega, HR.out.nd t ht, Nat.add_sub_cancel]
      rfl
    have hchl : Hid (∀ t, 1 ≤ t → t < h → Full n t → ∃ g cap, (w1.drewN nq).cell? ⟨d.adr t (dv (n - 1) (t + 1)), 1, none⟩ = some (.slice (some ⟨g, 0, none⟩) (dv n t - 16 * ((dv n t - 1) / 16)) cap)) := fun t ht1 ht hf => by
      have hnd := HR.out.nd t ht
      have hp := hf.pos HF1.out.1
      have hr : Row (w1.drewN nq) (d.adr t (dv (n - 1) (t + 1))) 59 (nrow t (d.slv t (dv (n - 1) (t + 1)))) := hT1.node t _ (show _ < d.nd t by omega)
      have ho : (w1.drewN nq).ownsRow base (ety t) 2 (d.slv t (dv (n - 1) (t + 1))) ((d.it t (dv (n - 1) (t + 1))).length / 2) (d.it t (dv (n - 1) (t + 1))) := hT1.own t _ (show _ < d.nd t by omega)
      obtain ⟨g, k, cap, hs⟩ := HR.out.pt.some' t (dv (n - 1) (t + 1)) ht1 (show _ < dv (n - 1) (t + 1) + 1 by omega) ht
      obtain ⟨oa, cap', hs'⟩ := own_form ho
      have e : (d.it t (dv (n - 1) (t + 1))).length / 2 = dv n t - 16 * ((dv n t - 1) / 16) := by
        obtain ⟨t', rfl⟩ : ∃ t', t = t' + 1 := ⟨t - 1, by omega⟩
        rw [HR.out.pt.inn t' _ (by omega), its_len]
        show 2 * min 16 (dv (n - 1) (t' + 1) + 1 - 16 * dv (n - 1) (t' + 1 + 1)) / 2 = _
        rw [dv_succ (n - 1) (t' + 1), hf.pred HF1.out.1]
        omega
      rw [e] at hs'
      rw [hs] at hs'
      have hs2 : g = g ∧ k = dv n t - 16 * ((dv n t - 1) / 16) := ⟨rfl, by injection hs'⟩
      refine ⟨g, cap, ?_⟩
      rw [hr.cell 1, hs, hs2.2]
      unfold nrow
      rw [if_neg (by omega)]
      rfl
    go_upto_block 0 with fail
    go_cut [7] (fun i wr => wr = w1.drewN nq ∧ ∃ k : Nat, 1 ≤ k ∧ k ≤ h ∧ i = .int .i64 ((h : Int) - 1 - k) ∧ Hid (Full n k ∧ (k < h → dv n k % 16 ≠ 0)))
    case first =>
      go_wp2_with fail
      go_loop [7] (fun i => ∃ t : Nat, t + 1 ≤ h ∧ i = .int .i64 ((h : Int) - 2 - t) ∧ Hid (Full n (t + 1))) (fun i => (intOf i + 1).toNat)
      case atStart => exact ⟨0, by omega, by simp, HF1.out.2⟩
      case round =>
        obtain ⟨t, ht, rfl, hf⟩ := hrel
        by_cases hlt : t + 1 < h
        · have g0 := hspc.out (t + 1) hlt
          obtain ⟨cg, ccap, g1⟩ := hchl.out (t + 1) (by omega) hlt hf.out
          obtain ⟨A, hA⟩ : ∃ A, d.adr (t + 1) (dv (n - 1) (t + 1 + 1)) = A := ⟨_, rfl⟩
          obtain ⟨x, hx⟩ : ∃ x, dv n (t + 1) = x := ⟨_, rfl⟩
          have hxp := hf.out.pos HF1.out.1
          rw [hA] at g0 g1
          rw [hx] at g1 hxp
          have HX2 : Hid (dv n (t + 1) = x) := hx
          clear hA hx
          obtain ⟨y, hy⟩ : ∃ y, x - 16 * ((x - 1) / 16) = y := ⟨_, rfl⟩
          rw [hy] at g1
          have j1 : (0 : Int) ≤ (h : Int) - 2 - t := by omega
          have j2 : (h : Int) - 2 - t < (h : Int) := by omega
          have j3 : ((h : Int) - 2 - t).toNat = h - 1 - (t + 1) := by omega
          by_cases hy16 : y = 16
          · have hf2 : Hid (Full n (t + 1 + 1)) := fun l hl => by
              by_cases e : l = t + 1
              · subst e; rw [HX2.out]; omega
              · exact hf.out l (by omega)
            subst hy16
            clear hy
            go_wp2
            go_round
            case rel => exact ⟨t + 1, by omega, by go_num, hf2⟩
            case measure => simp [intOf]; omega
          · have hy2 : ¬((y : Int) = 16) := by omega
            have hy3 : ((y : Int) == 16) = false := by simpa using hy2
            have hd2 : Hid (dv n (t + 1) % 16 ≠ 0) := by rw [HX2.out]; show x % 16 ≠ 0; omega
            clear hy
            go_wp2
            go_meet
            case rel => exact ⟨rfl, t + 1, by omega, by omega, by go_num, hf.out, fun _ => hd2.out⟩
        · have j1 : ¬((0 : Int) ≤ (h : Int) - 2 - t) := by omega
          go_wp2
          go_meet
          case rel =>
            have e : t + 1 = h := by omega
            have hf' := hf.out
            rw [e] at hf'
            exact ⟨rfl, h, by omega, by omega, by go_num, hf', fun h2 => by omega⟩
    case rest =>
      obtain ⟨rfl, k, hk1, hkh, rfl, hfk⟩ := hcut
      clear hsc l0 lf hlrow hlown hspc hchl i1 i2 i3
      have hTd := hT1.drewN nq
      have e3' : (w1.drewN nq).cell? ⟨B, 3, none⟩ = some (.slice (some ⟨sg, 0, none⟩) h scap) := e3
      obtain ⟨w3, hw3⟩ : ∃ w3, w1.drewN nq = w3 := ⟨_, rfl⟩
      rw [hw3] at hTd e3'
      rw [hw3]
      clear e3 hw1 hT1
      go_upto_if 79 with fail
      go_cut [7, 8] (fun i ht wr => ∃ (H k : Nat) (d' : D) (low' : Nat → Nat → Value) (m' : Nat), i = .int .i64 ((H : Int) - 1 - k) ∧ ht = .int .i64 H ∧ H ≤ 60 ∧ 1 ≤ k ∧ k < H ∧ H - k ≤ m' ∧ TS w0 wr base B d' ∧ Hid (Mid K V kb d' H k m' low' n))
      case first =>
        by_cases hkk : k = h
        · subst hkk
          have hR := HR.out
          have rB := hTd.bld
          rw [show ({ d with root := d.root, len := n + 1, spv := d.spv, sp := d.sp } : D).root = ptr (d.adr (k - 1) 0) from hR.root, show ({ d with root := d.root, len := n + 1, spv := d.spv, sp := d.sp } : D).spv = .slice (some ⟨sg, 0, none⟩) k scap from HX.out.1] at rB
          obtain ⟨R, hRR⟩ : ∃ R, d.adr (k - 1) 0 = R := ⟨_, rfl⟩
          rw [hRR] at rB
          have HRR : Hid (d.adr (k - 1) 0 = R) := hRR
          clear hRR
          have hBlt := rB.lt
          have b0 : w3.cell? ⟨B, 0, none⟩ = some (.pointer (some ⟨R, 0, none⟩)) := rB.cell 0
          have b2 : w3.cell? ⟨B, 2, none⟩ = some (.int .u64 1) := rB.cell 2
          have j1 : (k : Int) - 1 - k < 0 := by omega
          have mk57 := run_make57
          have hbase := hTd.lo
          have y0 := z61_0
          have y1 := z61_1
          have fB : w3.frozen? ⟨B, 0, none⟩ = false := rB.frozen 0
          have q1 : ∀ o1 o2 o3, (((w3.alloc o1).alloc o2).alloc o3).cell? ⟨B, 0, none⟩ = some (.pointer (some ⟨R, 0, none⟩)) := fun o1 o2 o3 => (((rB.alloc o1).alloc o2).alloc o3).cell 0
          have q2 : ∀ o1 o2 o3, (((w3.alloc o1).alloc o2).alloc o3).frozen? ⟨B, 0, none⟩ = false := fun o1 o2 o3 => (((rB.alloc o1).alloc o2).alloc o3).frozen 0
          go_upto_region 9 with fail
          go_cut [] (fun wx => ∃ (H9 g cap : Nat) (col9 : Nat → Option (Nat × Nat × Nat)), TS w0 wx base B { d with nd := upd1 d.nd k (d.nd k + 1), adr := upd2 d.adr k (d.nd k) H9, slv := upd2 d.slv k (d.nd k) (.slice (some ⟨g, 0, none⟩) 1 cap), it := upd2 d.it k (d.nd k) [.slice none 0 0, ptr R], root := ptr H9, len := n + 1, spv := d.spv, sp := d.sp, col := col9 })
          case first =>
            go_region
            all_goals go_wp2_with fail
            · go_meet
              case rel =>
                have ho := (own_z61 w3 base R hbase).alloc (.cells #[.slice none 0 0, .pointer (some ⟨R, 0, none⟩)] 61)
                obtain ⟨col9, h9⟩ := hTd.root9 ((tch_alloc w3 _ _).trans (tch_alloc _ _ _)) k w3.heap.size R (by omega) (Nat.le_refl _) ho
                simp only [World.size_alloc] at h9
                exact ⟨_, _, _, col9, h9⟩
            · go_meet
              case rel =>
                have ho := own_z61 (w3.alloc (.cells #[.slice none 0 0, .pointer (some ⟨R, 0, none⟩)] 61)) base R (by simp; omega)
                rw [show (w3.alloc (.cells #[.slice none 0 0, .pointer (some ⟨R, 0, none⟩)] 61)).heap.size = w3.heap.size + 1 by simp] at ho
                obtain ⟨col9, h9⟩ := hTd.root9 ((tch_alloc w3 _ _).trans (tch_alloc _ _ _)) k (w3.heap.size + 1) R (by omega) (by omega) ho
                simp only [World.size_alloc] at h9
                exact ⟨_, _, _, col9, h9⟩
          case rest =>
            clear q1 q2 b0 b2 rB hTd e3' fB hBlt hbase y0 y1 mk57
            obtain ⟨H9, g9, cap9, col9, hT9⟩ := hcut
            have rB := hT9.bld
            have c0 : wc.cell? ⟨B, 0, none⟩ = some (.pointer (some ⟨H9, 0, none⟩)) := rB.cell 0
            have c3 : wc.cell? ⟨B, 3, none⟩ = some (.slice (some ⟨sg, 0, none⟩) k scap) := by rw [← HX.out.1]; exact rB.cell 3
            have hso := hT9.spo
            rw [show ({ d with nd := upd1 d.nd k (d.nd k + 1), adr := upd2 d.adr k (d.nd k) H9, slv := upd2 d.slv k (d.nd k) (.slice (some ⟨g9, 0, none⟩) 1 cap9), it := upd2 d.it k (d.nd k) [.slice none 0 0, ptr R], root := ptr H9, len := n + 1, spv := d.spv, sp := d.sp, col := col9 } : D).spv = .slice (some ⟨sg, 0, none⟩) k scap from HX.out.1, show ({ d with nd := upd1 d.nd k (d.nd k + 1), adr := upd2 d.adr k (d.nd k) H9, slv := upd2 d.slv k (d.nd k) (.slice (some ⟨g9, 0, none⟩) 1 cap9), it := upd2 d.it k (d.nd k) [.slice none 0 0, ptr R], root := ptr H9, len := n + 1, spv := d.spv, sp := d.sp, col := col9 } : D).sp.length = k from hslen] at hso
            have hcap := own_cap hso
            have hc1 : 1 ≤ scap := by omega
            have hc2 : (0 : Int) ≤ (scap : Int) := by omega
            obtain ⟨v0, hv0⟩ : ∃ v0, wc.cell? ⟨sg, 0, none⟩ = some v0 := ⟨d.sp[0]'(by omega), by rw [hso.cellAt 0 (by omega)]; exact List.getElem?_eq_getElem _⟩
            have hf0 := hso.frozenAt 0
            have hsgl := hso.lt sg rfl
            have hnB : B ≠ sg := fun e => by
              have x1 := hT9.cS sg (by rw [show ({ d with nd := upd1 d.nd k (d.nd k + 1), adr := upd2 d.adr k (d.nd k) H9, slv := upd2 d.slv k (d.nd k) (.slice (some ⟨g9, 0, none⟩) 1 cap9), it := upd2 d.it k (d.nd k) [.slice none 0 0, ptr R], root := ptr H9, len := n + 1, spv := d.spv, sp := d.sp, col := col9 } : D).spv = .slice (some ⟨sg, 0, none⟩) k scap from HX.out.1]; rfl)
              rw [← e, hT9.cB] at x1
              simp at x1
            have q0 : ∀ o, (wc.alloc o).cell? ⟨B, 0, none⟩ = some (.pointer (some ⟨H9, 0, none⟩)) := fun o => (rB.alloc o).cell 0
            have q3 : ∀ o, (wc.alloc o).cell? ⟨B, 3, none⟩ = some (.slice (some ⟨sg, 0, none⟩) k scap) := fun o => by rw [← HX.out.1]; exact (rB.alloc o).cell 3
            have q4 : ∀ o v, ((wc.setCell ⟨sg, 0, none⟩ v).alloc o).cell? ⟨B, 3, none⟩ = some (.slice (some ⟨sg, 0, none⟩) k scap) := fun o v => by rw [← HX.out.1]; exact ((rB.set_ne hnB v).alloc o).cell 3
            have q5 : ∀ o v, ((wc.setCell ⟨sg, 0, none⟩ v).alloc o).frozen? ⟨B, 3, none⟩ = false := fun o v => ((rB.set_ne hnB v).alloc o).frozen 3
            have q6 : ∀ o v, ((wc.alloc o).setCell ⟨sg, 0, none⟩ v).cell? ⟨B, 3, none⟩ = some (.slice (some ⟨sg, 0, none⟩) k scap) := fun o v => by rw [← HX.out.1]; exact ((rB.alloc o).set_ne hnB v).cell 3
            have q7 : ∀ o v, ((wc.alloc o).setCell ⟨sg, 0, none⟩ v).frozen? ⟨B, 3, none⟩ = false := fun o v => ((rB.alloc o).set_ne hnB v).frozen 3
            go_upto_region 10 with fail
            go_region
            go_wp2_with fail
            go_meet
            case rel =>
              have hT10 := (hT9.spine (w1 := (wc.setCell ⟨sg, 0, none⟩ (.pointer (some ⟨H9, 0, none⟩))).alloc (.cells #[.pointer (some ⟨H9, 0, none⟩)] 32)) (row := some sg) (((tch_set wc ⟨sg, 0, none⟩ _ (S := fun k => k = sg) rfl).trans (tch_alloc _ _ _)).grown1) (fun g hg => hT9.cS g (by rw [show ({ d with nd := upd1 d.nd k (d.nd k + 1), adr := upd2 d.adr k (d.nd k) H9, slv := upd2 d.slv k (d.nd k) (.slice (some ⟨g9, 0, none⟩) 1 cap9), it := upd2 d.it k (d.nd k) [.slice none 0 0, ptr R], root := ptr H9, len := n + 1, spv := d.spv, sp := d.sp, col := col9 } : D).spv = .slice (some ⟨sg, 0, none⟩) k scap from HX.out.1]; exact hg)) (g := sg) (n := 1) (cap := scap) (sp := [.pointer (some ⟨H9, 0, none⟩)]) rfl (own_one hso hk1 _ _) (.inl rfl) (by simp; omega)).drew
              have hmid := hR.midRoot hn0 hfk.out.1 H9 g9 1 cap9 (.slice (some ⟨sg, 0, none⟩) 1 scap) (ptr H9) (fun k' => if k' = sg then some (8, 0, 0) else col9 k') rfl
              rw [HRR.out] at hmid
              have h4 := hR.h4 hn
              exact ⟨k + 1, k, _, low, 1, by go_num, by go_num, by omega, hk1, by omega, by omega, hT10, hmid⟩
        · have j1 : ¬((h : Int) - 1 - k < 0) := by omega
          go_wp2
          go_meet
          case rel => exact ⟨h, k, _, low, h, rfl, rfl, by omega, hk1, by omega, by omega, hTd, HR.out.mid hn0 hk1 (by omega) hfk.out.1 (hfk.out.2 (by omega))⟩
      case rest =>
        clear hTd e3' hw3 hfk hkh hk1 HX
        obtain ⟨H, k, d', low', m', rfl, rfl, hH60, hk1, hkH, hkm, hTS, hM⟩ := hcut
        have hsl : d'.sp.length = m' := by rw [hM.out.sp, spl_len]
        obtain ⟨sg', scap', hsv', -, -⟩ := hTS.spo.form (by rw [hsl]; omega)
        rw [hsl] at hsv'
        have hso := hTS.spo
        rw [hsl, hsv'] at hso
        have hcap := own_cap hso
        have c3 : wc.cell? ⟨B, 3, none⟩ = some (.slice (some ⟨sg', 0, none⟩) m' scap') := by rw [← hsv']; exact hTS.bld.cell 3
        have cf := hTS.bld.frozen 3
        have hTS2 := hTS.setB d'.root d'.len (.slice (some ⟨sg', 0, none⟩) (H - k) scap') (d'.sp.take ((H - k) * 1)) 3 (.slice (some ⟨sg', 0, none⟩) (H - k) scap') (by simp) (by rw [List.length_take, hsl, show min ((H - k) * 1) m' = H - k by omega]; exact own_take hso (H - k) hkm) (fun g hg => hTS.cS g (by rw [hsv']; exact hg))
        have hM2 : Hid (Mid K V kb _ H k (H - k) low' n) := hM.out.cut (.slice (some ⟨sg', 0, none⟩) (H - k) scap') (d'.sp.take ((H - k) * 1)) (H - k) (by rw [hM.out.sp, Nat.mul_one, spl_take _ _ _ _ _ hkm])
        have j1 : (0 : Int) ≤ (H : Int) - k := by omega
        have j2 : (H : Int) - k ≤ (scap' : Int) := by omega
        have j3 : ((H : Int) - k).toNat = H - k := by omega
        have j4 : (H : Int) - 1 - k + 1 = (H : Int) - k := by omega
        have hcm := hcap.2
        unfold maxLen at hcm
        go_wp2
        clear c3 cf hso hcap hsv' hsl hTS hM hcm j1 j2 j3 j4 hkm b1 f1 hslen hcl HM HQ hq16 hm16 HP1 HR HF1 hh1 hh60
        go_loopg [] k (fun r wr => ∃ (d : D) (low : Nat → Nat → Value), TS w0 wr base B d ∧ Hid (Mid K V kb d H r (H - r) low n))
        case atStart => exact ⟨_, low', hTS2, hM2⟩
        case round =>
          clear hTS2 hM2 hkH hk1
          obtain ⟨d, low, hT, hM⟩ := hrel
          have hrH := hM.out.rh
          have hsl : d.sp.length = H - gk := by rw [hM.out.sp, spl_len]
          obtain ⟨sg, scap, hsv, -, -⟩ := hT.spo.form (by rw [hsl]; omega)
          rw [hsl] at hsv
          have hso := hT.spo
          rw [hsl, hsv] at hso
          have c3 : wr.cell? ⟨B, 3, none⟩ = some (.slice (some ⟨sg, 0, none⟩) (H - gk) scap) := by rw [← hsv]; exact hT.bld.cell 3
          have c2 : wr.cell? ⟨B, 2, none⟩ = some (.int .u64 1) := hT.bld.cell 2
          have hHr : ((H - gk : Nat) : Int) = (H : Int) - gk := by omega
          cases gk with
          | zero =>
            have j1 : ¬(((H - 0 : Nat) : Int) < (H : Int)) := by omega
            go_wp2
            go_end0
            exact ⟨rfl, d, H, low, hT, hM.out.rest⟩
          | succ r =>
            have j1 : ((H - (r + 1) : Nat) : Int) < (H : Int) := by omega
            have hTn := hT.newNode r
            have hMx : Hid (Mx K V kb _ H r (cm n (r + 1)) low n (dv n (r + 1)) wr.heap.size) := hM.out.new hn0 wr.heap.size (fun k => if k = wr.heap.size then some (0, r, d.nd r) else d.col k)
            obtain ⟨m1, m2, m3, m4, m5⟩ := hM.out.nums hn0
            obtain ⟨q, hq⟩ : ∃ q, dv n (r + 1) = q := ⟨_, rfl⟩
            rw [hq] at hMx m1 m2 m3 m4 m5
            rw [m1] at hTn hMx
            have hit : Hid (upd2 d.it r q [] r q = []) := upd2_same _ _ _ _
            obtain ⟨A, hA⟩ : ∃ A, wr.heap.size = A := ⟨_, rfl⟩
            obtain ⟨d1, hd1⟩ : ∃ d1 : D, { d with nd := upd1 d.nd r (q + 1), adr := upd2 d.adr r q wr.heap.size, slv := upd2 d.slv r q (.slice none 0 0), it := upd2 d.it r q [], col := fun k => if k = wr.heap.size then some (0, r, q) else d.col k } = d1 := ⟨_, rfl⟩
            rw [hd1] at hTn hMx
            have hsp1 : d1.spv = .slice (some ⟨sg, 0, none⟩) (H - (r + 1)) scap := by rw [← hd1]; exact hsv
            have hit1 : d1.it r q = [] := by rw [← hd1]; exact hit.out
            have hsl1 : d1.slv r q = .slice none 0 0 := by rw [← hd1]; exact upd2_same _ _ _ _
            rw [hA] at hMx
            obtain ⟨wn, hwn⟩ : ∃ wn, wr.alloc (.cells #[.slice none 0 0, .slice none 0 0, .int .u64 1] 59) = wn := ⟨_, rfl⟩
            rw [hwn] at hTn
            have HD : Hid (dv n (r + 1) = q ∧ cm n (r + 1) (r + 1) = q ∧ cm n (r + 1) r = 16 * q ∧ 0 < q) := ⟨hq, m3, m4, m5⟩
            clear hd1 hit hsv hso hT hM m1 m2 m3 m4 hq hsl m5
            have k3 : wn.cell? ⟨B, 3, none⟩ = some (.slice (some ⟨sg, 0, none⟩) (H - (r + 1)) scap) := by rw [← hsp1]; exact hTn.bld.cell 3
            have k4 : wn.heap.size = A + 1 := by rw [← hwn, ← hA]; simp
            have hqr : q < d1.nd r := by rw [hMx.out.ndr]; omega
            have hrowA : Row wn A 59 (nrow r (.slice none 0 0)) := by
              have h2 := hTn.node r q hqr
              rw [hMx.out.adr, hsl1] at h2
              exact h2
            have hbase := hTn.lo
            have mk56 := run_make56
            have mk57 := run_make57
            go_upto_if 143 with fail
            go_cut [9] (fun p wx => p = .pointer (some ⟨A, 0, none⟩) ∧ ∃ (d2 : D) (c : Nat → Nat), TS w0 wx base B d2 ∧ d2.spv = .slice (some ⟨sg, 0, none⟩) (H - (r + 1)) scap ∧ Hid (Mx K V kb d2 H r c low n q A ∧ c (r + 1) = q ∧ (∀ l, cm n r l = upd1 c (r + 1) (q + 1) l) ∧ (1 ≤ r → ∃ g n cap, d2.slv r q = .slice (some ⟨g, 0, none⟩) n cap)))
            case first =>
              clear c2 c3 hwn
              cases r with
              | zero =>
                have jj : ((H - (0 + 1) : Nat) : Int) = (H : Int) - 1 := by omega
                have a0 : wn.cell? ⟨A, 0, none⟩ = some (.slice none 0 0) := hrowA.cell 0
                obtain ⟨i0, hi0, hz0, hz1, hz2⟩ := info_parts info72
                have howA : ((wn.alloc (.cells z72 72)).alloc (.cells #[.slice ka kl kc, .slice va vl vc] 72)).ownsRow base 72 2 (.slice (some ⟨A + 1, 0, none⟩) 0 16) 0 [] := by
                  have h2 := World.ownsRow_made (base := base) (e := 72) (size := 2) wn z72 16 hbase (by unfold maxLen; omega) z72_size
                  rw [k4] at h2
                  exact h2.alloc _
                have hrA2 := (hrowA.alloc (.cells z72 72)).alloc (.cells #[.slice ka kl kc, .slice va vl vc] 72)
                go_wp2_with (at_builtin; refine wpList_append_lies _ rfl (.tmp 145) (.tmp 149) 56 rfl base 72 i0 _ 2 48 Try.underlying56 hi0 hz0 hz1 hz2 rfl (by omega) _ 0 _ (by rfl) howA ⟨A + 2, 0, none⟩ 1 1 [.slice ka kl kc, .slice va vl vc] (by rfl) (by rfl) (World.news_of_block (cs := #[.slice ka kl kc, .slice va vl vc]) (t := 72) (fr := (0, 0)) (by have := heap_alloc_new (wn.alloc (.cells z72 72)) (.cells #[.slice ka kl kc, .slice va vl vc] 72); simpa [k4] using this)) (by simp [Value.oneCell']) (by omega) (by unfold maxLen; omega) (by omega) (by simp; omega) (A + 3) (by simp [k4]) ?_; intro gg cap w5 hown5 hgrow hat hlt5; have lr5 := Row.grown hrA2 hgrow (by simp [Value.ownBlock]); have a5 : w5.cell? ⟨A, 0, none⟩ = some (.slice none 0 0) := lr5.cell 0; have f5 := lr5.frozen 0)
                go_meet
                case rel =>
                  have hKV := HK.out
                  have tg : Tch wn w5 fun k => wn.heap.size ≤ k := ((tch_alloc _ _ _).trans (tch_alloc _ _ _)).trans (tch_grown hgrow (fun k hk => by cases hk; rw [k4]; exact Nat.le_refl _))
                  have hTp := hTn.put (l := 0) (q := q) hqr (by rw [hsl1]; exact tg.grown) (g := gg) (n := 1) (cap := cap) (xs := d1.it 0 q ++ [K n, V n]) (by simp [hit1]) (by rw [hit1, hKV.1, hKV.2.1]; exact hown5) (by right; rcases hat with h2 | h2; cases h2; rw [k4]; exact Nat.le_refl _; omega) hlt5
                  rw [hMx.out.adr] at hTp
                  have hpk := hMx.out.pt.key q gg 1 cap (fun k => if k = gg then some (1, 0, q) else d1.col k) hMx.out.ndr (by rw [HD.out.2.2.1]; exact Nat.le_refl _) (by rw [HD.out.2.2.1]; omega)
                  have hmx2 := hMx.out.put (lows := d1.lows) hpk
                  refine ⟨rfl, _, _, hTp, hsp1, hmx2, ?_, ?_, fun h => by omega⟩
                  · rw [upd1_ne _ _ _ (by omega)]; exact HD.out.2.1
                  · intro l
                    have := cm_leaf hMx.out.full hn0 l
                    rw [HD.out.2.1] at this
                    exact this
              | succ r =>
                have jj : ¬(((H - (r + 1 + 1) : Nat) : Int) = (H : Int) - 1) := by omega
                have jj2 : (((H - (r + 1 + 1) : Nat) : Int) == (H : Int) - 1) = false := by simpa using jj
                have hrA2 := hrowA.alloc (.cells z61 61)
                have a0 : (wn.alloc (.cells z61 61)).cell? ⟨A, 1, none⟩ = some (.slice none 0 0) := hrA2.cell 1
                have f0 := hrA2.frozen 1
                go_wp2
                go_meet
                case rel =>
                  have how := World.ownsRow_made (base := base) (e := 61) (size := 2) wn z61 16 hbase (by unfold maxLen; omega) z61_size
                  have hTp := hTn.put (l := r + 1) (q := q) hqr (by rw [hsl1]; exact World.grownBy_alloc wn _ none) (g := wn.heap.size) (n := 0) (cap := 16) (xs := []) rfl how (.inr (Nat.le_refl _)) (by simp)
                  rw [hMx.out.adr, k4, show foff (r + 1) = 1 from rfl, World.setCell_alloc_past _ _ _ _ (by rw [k4]; omega)] at hTp
                  have hpk := hMx.out.pt.empty (r + 1) q (A + 1) 0 16 (fun k => if k = A + 1 then some (1, r + 1, q) else d1.col k) hit1
                  have hmx2 := hMx.out.put (lows := d1.lows) hpk
                  refine ⟨rfl, _, _, hTp, hsp1, hmx2, HD.out.2.1, ?_, fun h => ⟨A + 1, 0, 16, upd2_same _ _ _ _⟩⟩
                  intro l
                  have := cm_next (by omega) hMx.out.full hn0 l
                  rw [HD.out.2.1] at this
                  exact this
            case rest =>
              clear hrowA hbase mk56 mk57 hTn hMx hsp1 hit1 hsl1 k3 k4 hqr hwn c2 c3 hA
              obtain ⟨rfl, d2, c, hT2, hsv2, hMx⟩ := hcut
              have hM2 := hMx.out.1
              have hrh := hM2.rh
              have hnp : d2.nd (r + 1) = q / 16 + 1 := by
                rw [hM2.nd (r + 1) (by omega) (by omega)]
                show (if r + 1 < r + 1 then dv (n - 1) (r + 1 + 1) + 1 else dv n (r + 1 + 1) + 1) = _
                rw [if_neg (by omega), dv_succ, HD.out.1]
              obtain ⟨qp, hqp⟩ : ∃ qp, q / 16 = qp := ⟨_, rfl⟩
              rw [hqp] at hnp
              have hslen2 : d2.sp.length = H - (r + 1) := by rw [hM2.sp, spl_len]
              have hso2 := hT2.spo
              rw [hslen2, hsv2] at hso2
              have c3 : wc.cell? ⟨B, 3, none⟩ = some (.slice (some ⟨sg, 0, none⟩) (H - (r + 1)) scap) := by rw [← hsv2]; exact hT2.bld.cell 3
              obtain ⟨F, hF⟩ : ∃ F, d2.adr (r + 1) qp = F := ⟨_, rfl⟩
              have csp : wc.cell? ⟨sg, H - (r + 1) - 1, none⟩ = some (.pointer (some ⟨F, 0, none⟩)) := by
                rw [hso2.cellAt (H - (r + 1) - 1) (by omega), hM2.sp, spl_at _ _ _ _ _ (by omega), show H - 1 - (H - (r + 1) - 1) = r + 1 by omega, hnp, Nat.add_sub_cancel, hF]
                rfl
              have hqp1 : qp < d2.nd (r + 1) := by omega
              have hrF : Row wc F 59 (nrow (r + 1) (d2.slv (r + 1) qp)) := by rw [← hF]; exact hT2.node (r + 1) qp hqp1
              have hoF := hT2.own (r + 1) qp hqp1
              have hlenF : (d2.it (r + 1) qp).length / 2 = q % 16 := by
                rw [hM2.pt.inn r qp hqp1, its_len, hMx.out.2.1]; omega
              rw [hlenF] at hoF
              obtain ⟨fa, fcap, hfv⟩ := own_form hoF
              have cF : wc.cell? ⟨F, 1, none⟩ = some (.slice fa (q % 16) fcap) := by rw [← hfv]; exact hrF.cell 1
              have j5 : (0 : Int) ≤ (H : Int) - ((r : Int) + 1) - 1 := by omega
              have j6 : (H : Int) - ((r : Int) + 1) - 1 < (H : Int) - ((r : Int) + 1) := by omega
              have j7 : ((H : Int) - ((r : Int) + 1) - 1).toNat = H - (r + 1) - 1 := by omega
              have j8 : ((H - (r + 1) : Nat) : Int) = (H : Int) - ((r : Int) + 1) := by omega
              obtain ⟨y, hy⟩ : ∃ y, q % 16 = y := ⟨_, rfl⟩
              have hy16 : y < 16 := by omega
              rw [hy] at cF hoF hfv
              have HY : Hid (q % 16 = y) := hy
              clear hy hlenF
              go_upto_region 17 with fail
              go_quiet (fail)
              have hT3 := hT2.drewN nq
              go_upto_if 174 with fail
              go_cut [11] (fun lv wx => ∃ (la : Option Addr) (ll lc : Nat) (lows : List (Value × List UInt8)), lv = .slice la ll lc ∧ TS w0 wx base B { d2 with lows := lows } ∧ Hid (PT K V kb { d2 with lows := lows } H c low ∧ (q % 16 = 0 → Value.slice la ll lc = .slice none 0 0) ∧ (q % 16 ≠ 0 → (Value.slice la ll lc, kb (q * 16 ^ (r + 1))) ∈ lows)))
              case first =>
                by_cases hy0 : y = 0
                · have jy : ¬((0 : Int) < (y : Int)) := by omega
                  go_wp2
                  go_meet
                  case rel => exact ⟨none, 0, 0, d2.lows, rfl, hT3, hM2.pt, fun _ => rfl, fun h => absurd (HY.out.trans hy0) h⟩
                · have jy : (0 : Int) < (y : Int) := by omega
                  have hlc : Calls Try.prog 47 #[.slice ka kl kc] (wc.drewN nq) (fun e w' => LibCloned (wc.drewN nq) (kb n) e w') := by
                    have hkk := HK.out
                    rw [← hkk.2.2.1]
                    refine libClone_any ka kc kbk kof (kb n) (wc.drewN nq) (by rw [hkk.2.2.1]; exact hk0 hn0) (by rw [hkk.2.2.1]; exact hk1) (hkb.below ?_)
                    have := hT3.bel
                    rw [← hkk.2.2.2] at this
                    exact this
                  go_wp2_with fail
                  refine hlc.mono ?_
                  rintro e wl ⟨lg, lcap, rfl, hlb, hlg, hlg2, hbl⟩
                  go_wp2
                  go_meet
                  case rel =>
                    refine ⟨some ⟨lg, 0, none⟩, (kb n).length, lcap, (.slice (some ⟨lg, 0, none⟩) (kb n).length lcap, kb n) :: d2.lows, rfl, ?_, ?_⟩
                    · exact (hT3.below hbl).addLow ⟨lg, lcap, rfl, hlb, hT3.cnew lg hlg, hlg2⟩
                    · refine ⟨hM2.pt.lows _, fun h => absurd (HY.out.symm.trans h) hy0, fun _ => ?_⟩
                      have e := hM2.full.mul
                      rw [HD.out.1] at e
                      rw [e]
                      exact List.mem_cons_self
              case rest =>
                clear hT3 c3 csp cF hrF hoF hso2 j5 j6 j7
                obtain ⟨la, ll, lc, lows, rfl, hT4, hPL⟩ := hcut
                have hrF : Row wc F 59 (nrow (r + 1) (d2.slv (r + 1) qp)) := by rw [← hF]; exact hT4.node (r + 1) qp hqp1
                have hoF : wc.ownsRow base 61 2 (d2.slv (r + 1) qp) ((d2.it (r + 1) qp).length / 2) (d2.it (r + 1) qp) := hT4.own (r + 1) qp hqp1
                have hlenF : (d2.it (r + 1) qp).length / 2 = y := by
                  rw [hM2.pt.inn r qp hqp1, its_len, hMx.out.2.1]
                  have := HY.out
                  omega
                rw [hlenF, hfv] at hoF
                rw [hfv] at hrF
                have cF : wc.cell? ⟨F, 1, none⟩ = some (.slice fa y fcap) := hrF.cell 1
                obtain ⟨i0, hi0, hz0, hz1, hz2⟩ := info_parts info61
                have hoFA := hoF.alloc (.cells #[.slice la ll lc, .pointer (some ⟨A, 0, none⟩)] 61)
                have hrFA := hrF.alloc (.cells #[.slice la ll lc, .pointer (some ⟨A, 0, none⟩)] 61)
                have hneF : some F ≠ (Value.slice fa y fcap).ownBlock := fun e => by
                  have x1 := hT4.cA (r + 1) qp hqp1 F (by rw [show d2.slv (r + 1) qp = _ from hfv]; exact e.symm)
                  have x2 := hT4.cN (r + 1) qp hqp1
                  rw [show d2.adr (r + 1) qp = F from hF] at x2
                  rw [x2] at x1
                  simp at x1
                have hT4A := hT4.alloc (.cells #[.slice la ll lc, .pointer (some ⟨A, 0, none⟩)] 61)
                have hszA := hT4A.lo
                go_upto_region 22 with (at_builtin; refine wpList_append_lies _ rfl (.tmp 181) (.tmp 185) 57 rfl base 61 i0 _ 2 32 Try.underlying57 hi0 hz0 hz1 hz2 rfl (by omega) _ y _ (by rfl) hoFA ⟨wc.heap.size, 0, none⟩ 1 1 [.slice la ll lc, .pointer (some ⟨A, 0, none⟩)] (by rfl) (by rfl) (World.news_of_block (cs := #[.slice la ll lc, .pointer (some ⟨A, 0, none⟩)]) (t := 61) (fr := (0, 0)) (heap_alloc_new wc _)) (by simp [Value.oneCell']) (by omega) (by unfold maxLen; omega) (by omega) hszA (wc.heap.size + 1) (by simp) ?_; intro gg cap w6 hown6 hgrow6 hat6 hlt6; have lr6 := Row.grown hrFA hgrow6 hneF; have a6 : w6.cell? ⟨F, 1, none⟩ = some (.slice fa y fcap) := lr6.cell 1; have f6 := lr6.frozen 1)
                have hTp := hT4A.put (l := r + 1) (q := qp) hqp1 (by rw [show d2.slv (r + 1) qp = _ from hfv]; exact hgrow6) (g := gg) (n := y + 1) (cap := cap) (xs := d2.it (r + 1) qp ++ [.slice la ll lc, .pointer (some ⟨A, 0, none⟩)]) (by simp; omega) hown6 (by rw [show d2.slv (r + 1) qp = _ from hfv]; rcases hat6 with h2 | h2; exact .inl h2; right; simp; omega) hlt6
                rw [show ({ d2 with lows := lows } : D).adr (r + 1) qp = F from hF, show foff (r + 1) = 1 from rfl] at hTp
                have hmx3 : Hid (Mx K V kb { d2 with slv := upd2 d2.slv (r + 1) qp (.slice (some ⟨gg, 0, none⟩) (y + 1) cap), it := upd2 d2.it (r + 1) qp (d2.it (r + 1) qp ++ [.slice la ll lc, .pointer (some ⟨A, 0, none⟩)]), col := fun k => if k = gg then some (1, r + 1, qp) else d2.col k, lows := lows } H r (upd1 c (r + 1) (q + 1)) (upd2 low r q (.slice la ll lc)) n q A) := hM2.child lows hPL.out.1 hMx.out.2.1 hMx.out.2.2.2 (.slice la ll lc) hPL.out.2.1 hPL.out.2.2 gg (y + 1) cap _ qp hnp hqp
                have HC2 : Hid (∀ l, cm n r l = upd1 c (r + 1) (q + 1) l) := hMx.out.2.2.1
                obtain ⟨w7, hw7⟩ : ∃ w7, w6.setCell ⟨F, 1, none⟩ (.slice (some ⟨gg, 0, none⟩) (y + 1) cap) = w7 := ⟨_, rfl⟩
                rw [hw7] at hTp
                rw [hw7]
                obtain ⟨d5, hd5⟩ : ∃ d5 : D, { d2 with slv := upd2 d2.slv (r + 1) qp (.slice (some ⟨gg, 0, none⟩) (y + 1) cap), it := upd2 d2.it (r + 1) qp (d2.it (r + 1) qp ++ [.slice la ll lc, .pointer (some ⟨A, 0, none⟩)]), col := fun k => if k = gg then some (1, r + 1, qp) else d2.col k, lows := lows } = d5 := ⟨_, rfl⟩
                have hTp' : TS w0 w7 base B d5 := by rw [← hd5]; exact hTp
                have hmx3' : Hid (Mx K V kb d5 H r (upd1 c (r + 1) (q + 1)) (upd2 low r q (.slice la ll lc)) n q A) := by rw [← hd5]; exact hmx3.out
                have hsv5 : d5.spv = .slice (some ⟨sg, 0, none⟩) (H - (r + 1)) scap := by rw [← hd5]; exact hsv2
                have hsl5 : d5.sp.length = H - (r + 1) := by rw [← hd5]; exact hslen2
                clear hd5 hTp hmx3 hw7 lr6 a6 f6 hown6 hgrow6 hat6 hlt6 hT4A hszA hneF hrFA hoFA hi0 hz0 hz1 hz2 cF hlenF hoF hrF hT4 hPL hfv HY hqp1 hF hslen2 hqp hnp hMx hM2 hsv2 hT2 HD
                have hso5 := hTp'.spo
                rw [hsl5, hsv5] at hso5
                have c3 : w7.cell? ⟨B, 3, none⟩ = some (.slice (some ⟨sg, 0, none⟩) (H - (r + 1)) scap) := by rw [← hsv5]; exact hTp'.bld.cell 3
                obtain ⟨i0, hi0, hz0, hz1, hz2⟩ := info_parts info32
                have hso5A := hso5.alloc (.cells #[.pointer (some ⟨A, 0, none⟩)] 32)
                have hrB5 : Row (w7.alloc (.cells #[.pointer (some ⟨A, 0, none⟩)] 32)) B 54 [d5.root, .int .i64 (d5.len : Nat), .int .u64 1, .slice (some ⟨sg, 0, none⟩) (H - (r + 1)) scap] := by rw [← hsv5]; exact hTp'.bld.alloc _
                have hneB : some B ≠ (Value.slice (some ⟨sg, 0, none⟩) (H - (r + 1)) scap).ownBlock := fun e => by
                  have x1 := hTp'.cS B (by rw [hsv5]; exact e.symm)
                  rw [hTp'.cB] at x1
                  simp at x1
                have hT5A := hTp'.alloc (.cells #[.pointer (some ⟨A, 0, none⟩)] 32)
                have hszA := hT5A.lo
                go_wp2_with (at_builtin; refine wpList_append_lies _ rfl (.tmp 193) (.tmp 195) 50 rfl base 32 i0 _ 1 8 Try.underlying50 hi0 hz0 hz1 hz2 rfl (by omega) _ (H - (r + 1)) _ (by rfl) hso5A ⟨w7.heap.size, 0, none⟩ 1 1 [.pointer (some ⟨A, 0, none⟩)] (by rfl) (by rfl) (World.news_of_block (cs := #[.pointer (some ⟨A, 0, none⟩)]) (t := 32) (fr := (0, 0)) (heap_alloc_new w7 _)) (by simp [Value.oneCell']) (by omega) (by unfold maxLen; omega) (by omega) hszA (w7.heap.size + 1) (by simp) ?_; intro g8 cap8 w8 hown8 hgrow8 hat8 hlt8; have lr8 := Row.grown hrB5 hgrow8 hneB; have a8 : w8.cell? ⟨B, 3, none⟩ = some (.slice (some ⟨sg, 0, none⟩) (H - (r + 1)) scap) := lr8.cell 3; have f8 := lr8.frozen 3)
                go_roundg r
                case measure => omega
                case rel =>
                  have hTf := hT5A.spine hgrow8 (fun k hk => hTp'.cS k (by rw [hsv5]; exact hk)) (g := g8) (n := H - (r + 1) + 1) (cap := cap8) (sp := d5.sp ++ [.pointer (some ⟨A, 0, none⟩)]) (by rw [List.length_append, hsl5]; rfl) hown8 (by rcases hat8 with h2 | h2; exact .inl h2; right; simp; omega) hlt8
                  exact ⟨_, _, hTf, hmx3'.out.done (fun l _ => HC2.out l) _ _⟩

end Go.Proofs.Qxb6604003a
