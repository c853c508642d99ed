import Derived.Test.Qxb6602514aTbQ
set_option linter.unusedVariables false
namespace Go.Proofs.Qxb6602514a.Tb
open Go.RowKit

theorem rOp_size : rOp.size ≤ maxLen := by decide

theorem turned_size {b : Nat} {w w' : World} (ht : w.mapTurned w' b) : w'.heap.size = w.heap.size := by
  obtain ⟨es, clk, es', clk', h1, rfl⟩ := ht
  simp [ChangeMaps.setBlock]
theorem turned_lt {b : Nat} {w w' : World} (ht : w.mapTurned w' b) : b < w.heap.size := by
  obtain ⟨es, clk, es', clk', h1, rfl⟩ := ht
  exact (Array.getElem?_eq_some_iff.1 h1).1
theorem bel_turned {B b : Nat} {a w w' : World} (h : Below B a w) (ht : w.mapTurned w' b) (hb : B ≤ b) : Below B a w' :=
  h.grown ht.grown (by have := turned_lt ht; omega) (fun j hj => by cases hj; exact hb)
theorem Row.turned {w w' : World} {b m : Nat} {e : TypeId} {vs : List Value} (h : Row w b e vs) (ht : w.mapTurned w' m) (hne : b ≠ m) : Row w' b e vs :=
  Row.grown h ht.grown (by simpa using hne)
theorem wrd_size {w : World} {cb n : Nat} {S0 S1 : Nat → ByteArray} (h : CIn w cb n S0 S1) (k : Nat) (hk : k < 2 * n) : (wrd S0 S1 k).size ≤ maxLen := by
  unfold wrd
  split
  · exact h.m0 _ (by omega)
  · exact h.m1 _ (by omega)

theorem wrd_even (S0 S1 : Nat → ByteArray) (k : Nat) : wrd S0 S1 (2 * k) = S0 k := by simp [wrd]
theorem wrd_odd (S0 S1 : Nat → ByteArray) (k : Nat) : wrd S0 S1 (2 * k + 1) = S1 k := by
  have h1 : (2 * k + 1) % 2 = 1 := by omega
  have h2 : (2 * k + 1) / 2 = k := by omega
  simp [wrd, h1, h2]

theorem stepT {X : Nat → Bool} {b : Nat} (h : X b = true) (j : Nat) : ((decide (j < b) && X j) || j == b) = (decide (j < b + 1) && X j) := by
  by_cases e : j = b
  · subst e; simp [h]
  · have : decide (j < b) = decide (j < b + 1) := by simp; omega
    simp [e, this]
theorem stepF {X : Nat → Bool} {b : Nat} (h : X b = false) (j : Nat) : (decide (j < b) && X j) = (decide (j < b + 1) && X j) := by
  by_cases e : j = b
  · subst e; simp [h]
  · have : decide (j < b) = decide (j < b + 1) := by simp; omega
    rw [this]

theorem info121 : (Try.prog.info? 121).map (fun i => (i.zero, i.size, i.bytes)) = some (some (.agg #[.int .u64 0, .slice none 0 0]), 2, 32) := by kernel_rfl

/-- c empty sets. -/
def zSets (c : Nat) : Array Value := madeCells #[.int .u64 0, .slice none 0 0] (c * 2)

theorem run_make121 (c : Nat) (hc : c ≤ 600) (w : World) : (Instr.makeSlice 74 (.int .i64 (c : Int)) (.int .i64 (c : Int))).run Try.prog w = .ok (.slice (some ⟨w.heap.size, 0, none⟩) c c) (w.alloc (.cells (zSets c) 121)) := by
  obtain ⟨i, hi, hz, hs, hb⟩ := info_parts info121
  have hr := run_make (P := Try.prog) w 74 121 i _ Try.underlying74 hi hz .i64 .i64 c c (by omega) (Int.le_refl _) (by rw [hb]; omega) (by omega)
  rw [hs] at hr
  unfold zSets
  simpa [Value.cells] using hr

/-- The kinds of a line's two words, in the order of the table. -/
def kx (S0 S1 : Nat → ByteArray) (n : Nat) (tn : Bool) : Nat → Int := fun i => ((kst S0 S1 (2 * n)).1 (if tn then S1 i else S0 i)).getD 0
def ky (S0 S1 : Nat → ByteArray) (n : Nat) (tn : Bool) : Nat → Int := fun i => ((kst S0 S1 (2 * n)).1 (if tn then S0 i else S1 i)).getD 0

/-- What newOpTable hands back. -/
def TabNew (w : World) (n : Nat) (tn : Bool) (S0 S1 : Nat → ByteArray) (e : Ending) (w' : World) : Prop := ∃ LB EB, e = .returned (.pointer (some ⟨w.heap.size + 1, 0, none⟩)) ∧ Below w.heap.size w w' ∧ Tab w' (w.heap.size + 1) w.heap.size LB EB (kst S0 S1 (2 * n)).2 (kst S0 S1 (2 * n)).1 (cfl (swp (kx S0 S1 n tn) (ky S0 S1 n tn) n))

theorem NT.tab {w wr : World} {H pb M c nm np LB EB : Nat} {f : ByteArray → Option Int} {g : Int → Int → Bool} {hB : Nat → Nat} (h : NT w wr H pb M c nm np LB EB c f g hB (fun a j => decide (j < c) && cfl g a j) (fun a j => decide (j < c) && cfl g j a)) (hlo : 2 ≤ c) (hhi : c ≤ 520) (hr : ∀ s k, f s = some k → 0 ≤ k ∧ k < (c : Int)) : Tab wr (H + 1) H LB EB c f (cfl g) :=
  ⟨hlo, hhi, h.base.tr.cell 0, h.base.tr.cell 1, h.base.tr.cell 2, h.base.tr.cell 3, ⟨nm, h.base.km⟩, hr, fun a ha => ⟨_, h.sL a ha⟩, fun a ha => ⟨_, h.sE a ha⟩⟩

set_option maxRecDepth 100000 in
set_option maxHeartbeats 8000000 in
theorem newTab_any (w : World) (cb n : Nat) (tn : Bool) (S0 S1 : Nat → ByteArray) (hn : n ≤ 256) (hC : CIn w cb n S0 S1) :
    Calls Try.prog 49 #[.slice (some ⟨cb, 0, none⟩) n n, .bool tn] w fun e w' => TabNew w n tn S0 S1 e w' := by
  have hmm := @run_makeMap Try.prog
  obtain ⟨H, hH⟩ : ∃ H, w.heap.size = H := ⟨_, rfl⟩
  obtain ⟨w1, e1, km1, tr1⟩ := (KM.made w).put (s := rOp) (v := 0) (by unfold maxLen; omega) rOp_size (by decide)
  unfold rOp at e1
  have hw1 : w1.heap.size = H + 1 := by rw [turned_size tr1]; simp [hH]
  have hb1 : Below H w w1 := bel_turned ((Below.refl _ _).alloc (by omega) _) tr1 (by omega)
  rw [hH] at e1 km1
  have hrT : Row (w1.alloc (Obj.cells #[Value.map (some H), Value.int IntKind.i64 2, Value.slice none 0 0, Value.slice none 0 0] 76)) (H + 1) 76 [Value.map (some H), Value.int IntKind.i64 2, Value.slice none 0 0, Value.slice none 0 0] := Row.alloc_new' hw1.symm
  have hcb : 0 < n → cb < H := fun hp => by have := World.block_lt_of_cell? w _ (hC.f 0 hp); simpa [hH] using this
  go_enter Try.func49, Try.ntmps49
  go_wp2
  go_loopw [25] (fun i wr => ∃ k : Nat, k ≤ n ∧ i = .int .i64 k ∧ H + 2 ≤ wr.heap.size ∧ Below H w wr ∧ (∃ nm, nm ≤ 1 + 2 * k ∧ KM wr H nm (kst S0 S1 (2 * k)).1) ∧ Row wr (H + 1) 76 [Value.map (some H), Value.int IntKind.i64 (kst S0 S1 (2 * k)).2, Value.slice none 0 0, Value.slice none 0 0]) (fun i _ => n - (intOf i).toNat)
  case atStart => exact ⟨0, Nat.zero_le _, rfl, by simp; omega, hb1.alloc (by omega) _, ⟨1, by omega, km1.alloc _⟩, hrT⟩
  case round =>
    obtain ⟨k, hk, rfl, hsz, hb, ⟨nm, hnm, hkm⟩, hT⟩ := hrel
    clear hrT km1 hb1 hw1 tr1 e1
    by_cases hlt : k < n
    · have hcl := hcb (by omega)
      have hHb : Below w.heap.size w wr := by rw [hH]; exact hb
      have g0 := cellOf (hC.f k hlt) hHb
      have g1 := cellOf (hC.t k hlt) hHb
      obtain ⟨z, hz⟩ := hC.l k hlt
      have g2 := cellOf hz hHb
      clear hz hHb
      obtain ⟨wE, hwE⟩ : ∃ wE : World, wE = wr := ⟨_, rfl⟩
      subst hwE
      obtain ⟨s0, hs0⟩ : ∃ s, S0 k = s := ⟨_, rfl⟩
      obtain ⟨s1, hs1⟩ : ∃ s, S1 k = s := ⟨_, rfl⟩
      rw [hs0] at g0
      rw [hs1] at g1
      have HS0 : Hid (S0 k = s0) := hs0
      have HS1 : Hid (S1 k = s1) := hs1
      clear hs0 hs1
      have hm0 : s0.size ≤ maxLen := by rw [← HS0.out]; exact hC.m0 k hlt
      have hm1 : s1.size ≤ maxLen := by rw [← HS1.out]; exact hC.m1 k hlt
      have hrS := Row.alloc_new (wE.alloc (Obj.cells #[Value.string s0, Value.string s1, Value.int IntKind.i64 z] 72)) 9 #[Value.string s0, Value.string s1]
      simp only [World.size_alloc] at hrS
      obtain ⟨sb, hsb⟩ : ∃ sb, wE.heap.size = sb := ⟨_, rfl⟩
      go_wp2
      rw [hsb] at hrS
      go_loopw [35] (fun i wr => ∃ q : Nat, q ≤ 2 ∧ i = .int .i64 q ∧ sb + 2 ≤ wr.heap.size ∧ Below H w wr ∧ (∃ nm, nm ≤ 1 + 2 * k + q ∧ KM wr H nm (kst S0 S1 (2 * k + q)).1) ∧ Row wr (H + 1) 76 [Value.map (some H), Value.int IntKind.i64 (kst S0 S1 (2 * k + q)).2, Value.slice none 0 0, Value.slice none 0 0] ∧ Row wr (sb + 1) 9 [Value.string s0, Value.string s1]) (fun i _ => 2 - (intOf i).toNat)
      case atStart => exact ⟨0, by omega, rfl, by simp; omega, (hb.alloc (by omega) _).alloc (by simp; omega) _, ⟨nm, by omega, (hkm.alloc _).alloc _⟩, (hT.alloc _).alloc _, hrS⟩
      case round =>
        have hHsb : H + 2 ≤ sb := by omega
        clear hb hkm hT hrS g0 g1 g2 hnm hsz
        obtain ⟨q, hq, rfl, hsz, hb, ⟨nm2, hnm, hkm⟩, hT, hS⟩ := hrel
        by_cases hlq : q < 2
        · obtain ⟨s, hs, hsm, hsw⟩ : ∃ s, wr.cell? ⟨sb + 1, q, none⟩ = some (.string s) ∧ s.size ≤ maxLen ∧ Hid (wrd S0 S1 (2 * k + q) = s) := by
            have hq01 : q = 0 ∨ q = 1 := by omega
            rcases hq01 with rfl | rfl
            · exact ⟨s0, hS.cell 0, hm0, by rw [← HS0.out]; exact wrd_even S0 S1 k⟩
            · exact ⟨s1, hS.cell 1, hm1, by rw [← HS1.out]; exact wrd_odd S0 S1 k⟩
          have inv := kst_inv S0 S1 (2 * k + q)
          have hstep : Hid (kst S0 S1 (2 * k + (q + 1)) = if ((kst S0 S1 (2 * k + q)).1 s).isSome then kst S0 S1 (2 * k + q) else (fput (kst S0 S1 (2 * k + q)).1 s ((kst S0 S1 (2 * k + q)).2 : Nat), (kst S0 S1 (2 * k + q)).2 + 1)) := by
            show kst S0 S1 (2 * k + q + 1) = _
            rw [kst, hsw.out]
          obtain ⟨fc, hfc⟩ : ∃ fc, kst S0 S1 (2 * k + q) = fc := ⟨_, rfl⟩
          obtain ⟨f, c⟩ := fc
          rw [hfc] at inv hstep hkm hT
          clear hfc
          simp only at inv hstep hkm hT
          have hlo := inv.lo
          have hhi := inv.hi
          clear inv
          have t0 := hT.cell 0
          have t1 := hT.cell 1
          have tf1 := hT.frozen 1
          simp at t0 t1
          have el := hkm.look_ok hsm
          by_cases hso : (f s).isSome = true
          · have hstep' : Hid (kst S0 S1 (2 * k + (q + 1)) = (f, c)) := by
              show kst S0 S1 (2 * k + (q + 1)) = (f, c)
              rw [hstep.out, if_pos hso]
            rw [hso] at el
            obtain ⟨v, hv⟩ : ∃ v, (f s).getD 0 = v := ⟨_, rfl⟩
            rw [hv] at el
            clear hv hso hstep
            go_wp2
            go_roundw
            case rel => exact ⟨q + 1, by omega, by go_num, hsz, hb, ⟨nm2, by omega, by rw [hstep'.out]; exact hkm⟩, by rw [hstep'.out]; exact hT, hS⟩
            case measure => simp [intOf]; omega
          · have hsn : f s = none := by simpa using hso
            have hstep' : Hid (kst S0 S1 (2 * k + (q + 1)) = (fput f s c, c + 1)) := by
              show kst S0 S1 (2 * k + (q + 1)) = (fput f s c, c + 1)
              rw [hstep.out, if_neg hso]
            rw [hsn] at el
            simp at el
            clear hstep hsn
            obtain ⟨w5, eu, km5, tr5⟩ := hkm.drew.put (s := s) (v := (c : Int)) (by unfold maxLen; omega) hsm (WalkArith.wf_i32 (by omega))
            have hT5 := Row.turned (w := wr.drew) hT tr5 (by omega)
            have hS5 := Row.turned (w := wr.drew) hS tr5 (by omega)
            have hb5 := bel_turned (bel_to_drew hb) tr5 (Nat.le_refl _)
            have hz5 : w5.heap.size = wr.heap.size := by have := turned_size tr5; exact this
            have u0 := hT5.cell 0
            have u1 := hT5.cell 1
            have uf1 := hT5.frozen 1
            simp at u0 u1
            clear hso
            have hwc : IntKind.i32.wrap (c : Int) = (c : Int) := by rw [IntKind.wrap_i32]; omega
            go_upto_region 10 with fail
            go_region
            go_wp2
            go_roundw
            case rel =>
              refine ⟨q + 1, by omega, by go_num, by simp; omega, hb5.setCell (by simp) _, ⟨nm2 + 1, by omega, ?_⟩, ?_, ?_⟩
              · rw [hstep'.out]; exact KM.setCell (w := w5) km5 (by simp) _
              · rw [hstep'.out]; exact Row.set (w := w5) hT5 1 _
              · exact Row.set_ne (w := w5) hS5 (by simp; omega) _
            case measure => simp [intOf]; omega
        · have hq2 : q = 2 := by omega
          go_wp2
          go_roundw
          case rel =>
            subst hq2
            exact ⟨k + 1, by omega, by go_num, by omega, hb, ⟨nm2, by omega, hkm⟩, hT⟩
          case measure => simp [intOf]; omega
    · have hkn : n = k := by omega
      subst hkn
      have inv := kst_inv S0 S1 (2 * n)
      obtain ⟨fc, hfc⟩ : ∃ fc, kst S0 S1 (2 * n) = fc := ⟨_, rfl⟩
      obtain ⟨f, c⟩ := fc
      rw [hfc] at inv hkm hT
      simp only at inv hkm hT
      have hlo := inv.lo
      have hhi := inv.hi
      have HFC : Hid (kst S0 S1 (2 * n) = (f, c)) := hfc
      have HINV : Hid (KInv (wrd S0 S1) (2 * n) f c) := inv
      clear hfc inv hlt hk hmm
      obtain ⟨wE, hwE⟩ : ∃ wE : World, wE = wr := ⟨_, rfl⟩
      subst hwE
      have hmh := run_makeMap_hint (P := Try.prog) 117 118 4 Try.underlying117 .i64 n
      obtain ⟨pb, hpb⟩ : ∃ pb, wE.heap.size = pb := ⟨_, rfl⟩
      have pm0 := PM.made wE
      rw [hpb] at pm0
      obtain ⟨X, hX⟩ : ∃ X : Nat → Int, X = fun i => (f (if tn then S1 i else S0 i)).getD 0 := ⟨_, rfl⟩
      obtain ⟨Y, hY⟩ : ∃ Y : Nat → Int, Y = fun i => (f (if tn then S0 i else S1 i)).getD 0 := ⟨_, rfl⟩
      have HX : Hid (X = fun i => (f (if tn then S1 i else S0 i)).getD 0) := hX
      have HY : Hid (Y = fun i => (f (if tn then S0 i else S1 i)).getD 0) := hY
      clear hX hY
      have hpH : H + 2 ≤ pb := by omega
      have hrV : Row ((wE.alloc (Obj.map #[] 0)).alloc (Obj.cells #[Value.map (some pb)] 117)) (pb + 1) 117 [Value.map (some pb)] := Row.alloc_new' (by simp [hpb])
      go_wp2
      go_loopw [74] (fun i wr => ∃ k : Nat, k ≤ n ∧ i = .int .i64 k ∧ pb + 2 ≤ wr.heap.size ∧ Below H w wr ∧ KM wr H nm f ∧ Row wr (H + 1) 76 [Value.map (some H), Value.int IntKind.i64 c, Value.slice none 0 0, Value.slice none 0 0] ∧ Row wr (pb + 1) 117 [Value.map (some pb)] ∧ ∃ np, np ≤ k ∧ PM wr pb np (swp X Y k)) (fun i _ => n - (intOf i).toNat)
      case atStart => exact ⟨0, Nat.zero_le _, rfl, by simp; omega, (hb.alloc (by omega) _).alloc (by simp; omega) _, (hkm.alloc _).alloc _, (hT.alloc _).alloc _, hrV, 0, Nat.le_refl _, pm0.alloc _⟩
      case round =>
        clear hb hkm hT hrV pm0 hsz
        obtain ⟨k, hk, rfl, hsz, hb, hkm, hT, hV, np, hnp, hpm⟩ := hrel
        have t0 := hT.cell 0
        have v0 := hV.cell 0
        simp at t0 v0
        by_cases hlt : k < n
        · have hcl := hcb (by omega)
          have hHb : Below w.heap.size w wr := by rw [hH]; exact hb
          have g0 := cellOf (hC.f k hlt) hHb
          have g1 := cellOf (hC.t k hlt) hHb
          obtain ⟨z, hz⟩ := hC.l k hlt
          have g2 := cellOf hz hHb
          clear hz hHb
          have hm0 := hC.m0 k hlt
          have hm1 := hC.m1 k hlt
          have hXk : X k = (f (if tn then S1 k else S0 k)).getD 0 := by rw [HX.out]
          have hYk : Y k = (f (if tn then S0 k else S1 k)).getD 0 := by rw [HY.out]
          obtain ⟨s0, hs0⟩ : ∃ s, S0 k = s := ⟨_, rfl⟩
          obtain ⟨s1, hs1⟩ : ∃ s, S1 k = s := ⟨_, rfl⟩
          rw [hs0] at g0 hm0
          rw [hs1] at g1 hm1
          rw [hs0, hs1] at hXk hYk
          have HR : Hid (∀ s, 0 ≤ (f s).getD 0 ∧ (f s).getD 0 < 600) := fun s => by
            cases hf : f s with
            | none => simp
            | some v => have := HINV.out.rng s v hf; simp; omega
          have q0 := HR.out s0
          have q1 := HR.out s1
          have l0 := fun (wx : World) (h : KM wx H nm f) => h.look hm0
          have l1 := fun (wx : World) (h : KM wx H nm f) => h.look hm1
          obtain ⟨x0, hx0⟩ : ∃ x, (f s0).getD 0 = x := ⟨_, rfl⟩
          obtain ⟨x1, hx1⟩ : ∃ x, (f s1).getD 0 = x := ⟨_, rfl⟩
          rw [hx0] at q0 l0
          rw [hx1] at q1 l1
          have HXk : Hid (X k = if tn then x1 else x0) := by
            show X k = _
            rw [hXk]; cases tn <;> simp [hx0, hx1]
          have HYk : Hid (Y k = if tn then x0 else x1) := by
            show Y k = _
            rw [hYk]; cases tn <;> simp [hx0, hx1]
          clear hx0 hx1 hXk hYk hs0 hs1
          have L0 : Hid (∀ wx : World, KM wx H nm f → Sem.run Try.prog (Instr.lookup 73 (Value.map (some H)) (Value.string s0) false) wx = Result.ok (Value.int IntKind.i32 x0) wx) := l0
          have L1 : Hid (∀ wx : World, KM wx H nm f → Sem.run Try.prog (Instr.lookup 73 (Value.map (some H)) (Value.string s1) false) wx = Result.ok (Value.int IntKind.i32 x1) wx) := l1
          clear l0 l1
          obtain ⟨sz, hszr⟩ : ∃ sz, wr.heap.size = sz := ⟨_, rfl⟩
          obtain ⟨wB, hwB⟩ : ∃ wB : World, wr.alloc (Obj.cells #[Value.string s0, Value.string s1, Value.int IntKind.i64 z] 72) = wB := ⟨_, rfl⟩
          have rB := Row.alloc_new wr 72 #[Value.string s0, Value.string s1, Value.int IntKind.i64 z]
          have kB := hkm.alloc (Obj.cells #[Value.string s0, Value.string s1, Value.int IntKind.i64 z] 72)
          have tB := hT.alloc (Obj.cells #[Value.string s0, Value.string s1, Value.int IntKind.i64 z] 72)
          have vB := hV.alloc (Obj.cells #[Value.string s0, Value.string s1, Value.int IntKind.i64 z] 72)
          have pB := hpm.alloc (Obj.cells #[Value.string s0, Value.string s1, Value.int IntKind.i64 z] 72)
          have bB : Below H w (wr.alloc (Obj.cells #[Value.string s0, Value.string s1, Value.int IntKind.i64 z] 72)) := hb.alloc (by omega) _
          have zB : (wr.alloc (Obj.cells #[Value.string s0, Value.string s1, Value.int IntKind.i64 z] 72)).heap.size = sz + 1 := by simp [hszr]
          rw [hszr] at rB
          rw [hwB] at rB kB tB vB pB bB zB
          have a0 := rB.cell 0
          have a1 := rB.cell 1
          have a2 := tB.cell 0
          have b0 := (rB.alloc (Obj.cells #[Value.int IntKind.i32 0, Value.int IntKind.i32 0] 118)).cell 0
          have b1 := (rB.alloc (Obj.cells #[Value.int IntKind.i32 0, Value.int IntKind.i32 0] 118)).cell 1
          have b2 := (tB.alloc (Obj.cells #[Value.int IntKind.i32 0, Value.int IntKind.i32 0] 118)).cell 0
          have c1 := L0.out _ kB.drew
          have c2 := L1.out _ kB.drew
          have c3 := L0.out _ (kB.alloc (Obj.cells #[Value.int IntKind.i32 0, Value.int IntKind.i32 0] 118)).drew
          have c4 := L1.out _ (kB.alloc (Obj.cells #[Value.int IntKind.i32 0, Value.int IntKind.i32 0] 118)).drew
          simp at a0 a1 a2 b0 b1 b2
          clear hkm hT hV hpm hb t0 v0
          go_upto_region 18 with fail
          clear hwB g0 g1 g2
          have kC := kB.alloc (Obj.cells #[Value.int IntKind.i32 x0, Value.int IntKind.i32 x1] 118)
          have tC := tB.alloc (Obj.cells #[Value.int IntKind.i32 x0, Value.int IntKind.i32 x1] 118)
          have vC := vB.alloc (Obj.cells #[Value.int IntKind.i32 x0, Value.int IntKind.i32 x1] 118)
          have pC := pB.alloc (Obj.cells #[Value.int IntKind.i32 x0, Value.int IntKind.i32 x1] 118)
          have bC : Below H w (wB.alloc (Obj.cells #[Value.int IntKind.i32 x0, Value.int IntKind.i32 x1] 118)) := bB.alloc (by omega) _
          have rC : Row (wB.alloc (Obj.cells #[Value.int IntKind.i32 x0, Value.int IntKind.i32 x1] 118)) (sz + 1) 118 [Value.int IntKind.i32 x0, Value.int IntKind.i32 x1] := Row.alloc_new' zB.symm
          have zC : (wB.alloc (Obj.cells #[Value.int IntKind.i32 x0, Value.int IntKind.i32 x1] 118)).heap.size = sz + 2 := by simp [zB]
          have wf0 : (Lit.int .i32 x0).wf = true := WalkArith.wf_i32 (by omega)
          have wf1 : (Lit.int .i32 x1).wf = true := WalkArith.wf_i32 (by omega)
          have HQ : Hid (pb + 2 ≤ sz) := by show pb + 2 ≤ sz; omega
          clear L0 L1 HR
          obtain ⟨wC, hwC⟩ : ∃ wC : World, wB.alloc (Obj.cells #[Value.int IntKind.i32 x0, Value.int IntKind.i32 x1] 118) = wC := ⟨_, rfl⟩
          rw [hwC] at kC tC vC pC bC rC zC
          go_cut [15] (fun p wc => p = .pointer (some ⟨sz + 1, 0, none⟩) ∧ wc = wC.drew)
          case first =>
            go_region
            all_goals go_wp2_with fail
            all_goals go_meet
            all_goals exact ⟨rfl, rfl⟩
          case rest =>
            obtain ⟨rfl, rfl⟩ := hcut
            clear a0 a1 a2 b0 b1 b2 c1 c2 c3 c4 rB kB tB vB pB bB zB hwC
            have d0 := rC.cell 0
            have d1 := rC.cell 1
            have df0 := rC.frozen 0
            have df1 := rC.frozen 1
            have d2 := vC.cell 0
            simp at d2
            simp only [List.getElem?_cons_zero, List.getElem?_cons_succ] at d0 d1
            have hHp : H ≠ pb := by omega
            have hH1p : H + 1 ≠ pb := by omega
            cases tn with
            | false =>
              go_wp2_with (at_mapUpdate; refine wpList_PM _ rfl _ _ _ rfl pb np (swp X Y k) rfl (by exact pC) (by unfold maxLen; omega) x0 x1 rfl rfl wf0 wf1 ?_; intro w5 pm5 tr5)
              go_roundw
              case rel =>
                have e1 := HXk.out
                have e2 := HYk.out
                simp at e1 e2
                have hz5 : w5.heap.size = wC.heap.size := by have := turned_size tr5; exact this
                have hsq := HQ.out
                exact ⟨k + 1, by omega, by go_num, by omega, bel_turned (bel_to_drew bC) tr5 (by omega), KM.kept (w := wC.drew) kC tr5.grown (by simpa using hHp), Row.turned (w := wC.drew) tC tr5 hH1p, Row.turned (w := wC.drew) vC tr5 (by omega), np + 1, by omega, by rw [swp, e1, e2]; exact pm5⟩
              case measure => simp [intOf]; omega
            | true =>
              have hsq := HQ.out
              go_wp2_with (at_mapUpdate; refine wpList_PM _ rfl _ _ _ rfl pb np (swp X Y k) rfl (by exact PM.setCell (w := wC.drew.setCell _ _) (PM.setCell (w := wC.drew) pC (by simp; omega) _) (by simp; omega) _) (by unfold maxLen; omega) x1 x0 rfl rfl wf1 wf0 ?_; intro w5 pm5 tr5)
              go_roundw
              case rel =>
                have e1 := HXk.out
                have e2 := HYk.out
                simp at e1 e2
                have hz5 : w5.heap.size = wC.heap.size := by have := turned_size tr5; simpa using this
                exact ⟨k + 1, by omega, by go_num, by omega, bel_turned (((bel_to_drew bC).setCell (by simp; omega) _).setCell (by simp; omega) _) tr5 (by omega), KM.kept ((KM.setCell (w := wC.drew) kC (by simp; omega) _).setCell (by simp; omega) _) tr5.grown (by simpa using hHp), Row.turned ((Row.set_ne (w := wC.drew) tC (by simp; omega) _).set_ne (by simp; omega) _) tr5 hH1p, Row.turned ((Row.set_ne (w := wC.drew) vC (by simp; omega) _).set_ne (by simp; omega) _) tr5 (by omega), np + 1, by omega, by rw [swp, e1, e2]; exact pm5⟩
              case measure => simp [intOf]; omega
        · have hkn : n = k := by omega
          subst hkn
          clear hk hlt hmh
          have hmk := run_make121 c (by omega)
          obtain ⟨g, hg⟩ : ∃ g, swp X Y n = g := ⟨_, rfl⟩
          rw [hg] at hpm
          have HG : Hid (swp X Y n = g) := hg
          clear hg
          obtain ⟨M, hM⟩ : ∃ M, wr.heap.size = M := ⟨_, rfl⟩
          have t1 := hT.cell 1
          have t2 := hT.cell 2
          have t3 := hT.cell 3
          have tf2 := hT.frozen 2
          have tf3 := hT.frozen 3
          simp at t1 t2 t3
          obtain ⟨wa, hwa⟩ : ∃ wa, wr.alloc (.cells (zSets c) 121) = wa := ⟨_, rfl⟩
          obtain ⟨wb, hwb⟩ : ∃ wb, wa.alloc (.cells (zSets c) 121) = wb := ⟨_, rfl⟩
          have za : wa.heap.size = M + 1 := by rw [← hwa]; simp [hM]
          have zb : wb.heap.size = M + 2 := by rw [← hwb]; simp [za]
          have ta : Row wa (H + 1) 76 [Value.map (some H), Value.int IntKind.i64 c, Value.slice none 0 0, Value.slice none 0 0] := by rw [← hwa]; exact hT.alloc _
          have tb : Row wb (H + 1) 76 [Value.map (some H), Value.int IntKind.i64 c, Value.slice none 0 0, Value.slice none 0 0] := by rw [← hwb]; exact ta.alloc _
          have ra : Row wa M 121 (zSets c).toList := by rw [← hwa]; exact Row.alloc_new' hM.symm
          have rb : Row wb M 121 (zSets c).toList := by rw [← hwb]; exact ra.alloc _
          have rc : Row wb (M + 1) 121 (zSets c).toList := by rw [← hwb]; exact Row.alloc_new' za.symm
          have kb : KM wb H nm f := by rw [← hwb, ← hwa]; exact (hkm.alloc _).alloc _
          have pbm : PM wb pb np g := by rw [← hwb, ← hwa]; exact (hpm.alloc _).alloc _
          have vb : Row wb (pb + 1) 117 [Value.map (some pb)] := by rw [← hwb, ← hwa]; exact (hV.alloc _).alloc _
          have bb : Below H w wb := by rw [← hwb, ← hwa]; exact (hb.alloc (by omega) _).alloc (by simp; omega) _
          have ta1 := ta.cell 1
          have ta2 := ta.cell 2
          have ta3 := ta.cell 3
          have taf2 := ta.frozen 2
          have taf3 := ta.frozen 3
          have tb1 := tb.cell 1
          have tb2 := tb.cell 2
          have tb3 := tb.cell 3
          have tbf2 := tb.frozen 2
          have tbf3 := tb.frozen 3
          simp at ta1 ta2 ta3 tb1 tb2 tb3
          obtain ⟨wd, hwd⟩ : ∃ wd, (wa.setCell ⟨H + 1, 2, none⟩ (Value.slice (some ⟨M, 0, none⟩) c c)).alloc (.cells (zSets c) 121) = wd := ⟨_, rfl⟩
          have zd : wd.heap.size = M + 2 := by rw [← hwd]; simp [za]
          have td : Row wd (H + 1) 76 [Value.map (some H), Value.int IntKind.i64 c, Value.slice (some ⟨M, 0, none⟩) c c, Value.slice none 0 0] := by rw [← hwd]; exact (ta.set 2 _).alloc _
          have td1 := td.cell 1
          have td2 := td.cell 2
          have td3 := td.cell 3
          have tdf2 := td.frozen 2
          have tdf3 := td.frozen 3
          simp at td1 td2 td3
          have bd : Below H w wd := by rw [← hwd, ← hwa]; exact ((hb.alloc (by omega) _).setCell (by simp) _).alloc (by simp; omega) _
          have kd : KM wd H nm f := by rw [← hwd, ← hwa]; exact ((hkm.alloc _).setCell (by simp) _).alloc _
          have pd : PM wd pb np g := by rw [← hwd, ← hwa]; exact ((hpm.alloc _).setCell (by simp; omega) _).alloc _
          have vd : Row wd (pb + 1) 117 [Value.map (some pb)] := by rw [← hwd, ← hwa]; exact ((hV.alloc _).set_ne (by simp; omega) _).alloc _
          have rd : Row wd M 121 (zSets c).toList := by rw [← hwd]; exact (ra.set_ne (by simp; omega) _).alloc _
          have rd2 : Row wd (M + 1) 121 (zSets c).toList := by rw [← hwd]; exact Row.alloc_new' (by simp [za])
          have hzl : (zSets c).toList.length = c * 2 := by simp [zSets, size_madeCells]
          have hpM : pb + 2 ≤ M := by omega
          go_upto_region 24 with fail
          go_cut [] (fun wc => ∃ LB EB, N0 w wc H pb M c nm np LB EB f g)
          case first =>
            go_region
            all_goals go_wp2_with fail
            all_goals go_meet
            all_goals
              clear hwa hwb hwd
              first
              | exact ⟨M, M + 1, hpH, hpM, by omega, by omega, by omega, bel_to_drew (bd.setCell (by simp) _), by simp; omega, KM.setCell kd (by simp) _, PM.setCell pd (by simp; omega) _, vd.set_ne (by simp; omega) _, td.set 3 _, ⟨_, hzl, rd.set_ne (by simp; omega) _⟩, ⟨_, hzl, rd2.set_ne (by simp; omega) _⟩⟩
              | exact ⟨M, M + 1, hpH, hpM, by omega, by omega, by omega, bel_to_drew ((bb.setCell (by simp) _).setCell (by simp) _), by simp; omega, (KM.setCell kb (by simp) _).setCell (by simp) _, (PM.setCell pbm (by simp; omega) _).setCell (by simp; omega) _, (vb.set_ne (by simp; omega) _).set_ne (by simp; omega) _, (tb.set 2 _).set 3 _, ⟨_, hzl, (rb.set_ne (by simp; omega) _).set_ne (by simp; omega) _⟩, ⟨_, hzl, (rc.set_ne (by simp; omega) _).set_ne (by simp; omega) _⟩⟩
              | exact ⟨M + 1, M, hpH, hpM, by omega, by omega, by omega, bel_to_drew ((bb.setCell (by simp) _).setCell (by simp) _), by simp; omega, (KM.setCell kb (by simp) _).setCell (by simp) _, (PM.setCell pbm (by simp; omega) _).setCell (by simp; omega) _, (vb.set_ne (by simp; omega) _).set_ne (by simp; omega) _, (tb.set 2 _).set 3 _, ⟨_, hzl, (rc.set_ne (by simp; omega) _).set_ne (by simp; omega) _⟩, ⟨_, hzl, (rb.set_ne (by simp; omega) _).set_ne (by simp; omega) _⟩⟩
          case rest =>
            clear hb hkm hT hV hpm t0 v0 t1 t2 t3 tf2 tf3 hwa hwb za zb ta tb ra rb rc kb pbm vb bb ta1 ta2 ta3 taf2 taf3 tb1 tb2 tb3 tbf2 tbf3 hwd zd td td1 td2 td3 tdf2 tdf3 bd kd pd vd rd rd2 hzl hmk
            obtain ⟨LB, EB, h0⟩ := hcut
            obtain ⟨wE2, hwE2⟩ : ∃ wE : World, wE = wc := ⟨_, rfl⟩
            subst hwE2
            have t1 := h0.tr.cell 1
            simp at t1
            have hwc : IntKind.i32.wrap (c : Int) = (c : Int) := by rw [IntKind.wrap_i32]; omega
            go_wp2
            go_loopw [125] (fun i wr => ∃ a : Nat, a ≤ c ∧ i = .int .i32 a ∧ ∃ hB, NT w wr H pb M c nm np LB EB a f g hB (fun a j => decide (j < c) && cfl g a j) (fun a j => decide (j < c) && cfl g j a)) (fun i _ => c - (intOf i).toNat)
            case atStart => exact ⟨0, Nat.zero_le _, rfl, fun _ => 0, ⟨h0, fun t ht => by omega, fun t t' ht => by omega, fun a ha => by omega, fun a ha => by omega⟩⟩
            case round =>
              clear h0 t1
              obtain ⟨a, ha, rfl, hB, hN⟩ := hrel
              by_cases hlt : a < c
              · have hlb := hN.base.lb
                have heb := hN.base.eb
                have hlne := hN.base.ne
                have hszr := hN.base.sz
                have t1 := hN.base.tr.cell 1
                have t2 := hN.base.tr.cell 2
                have t3 := hN.base.tr.cell 3
                simp at t1 t2 t3
                obtain ⟨vl, l1, l2⟩ := hN.base.lr
                obtain ⟨ve, e1, e2⟩ := hN.base.er
                have n1 : ¬ H + 1 = LB := by omega
                have n2 : ¬ H + 1 = EB := by omega
                have n3 : ¬ LB = EB := hlne
                have n4 : ¬ EB = LB := Ne.symm hlne
                have n5 : ¬ LB = H + 1 := by omega
                have n6 : ¬ EB = H + 1 := by omega
                have i0 : (0 : Int) ≤ (a : Int) := by omega
                have i1 : (a : Int) < (c : Int) := by omega
                have HC : Hid (∀ wx : World, Below wr.heap.size wr wx → (∃ v, wx.cell? ⟨LB, a * 2, none⟩ = some v) ∧ (∃ v, wx.cell? ⟨LB, a * 2 + 1, none⟩ = some v) ∧ (∃ v, wx.cell? ⟨EB, a * 2, none⟩ = some v) ∧ (∃ v, wx.cell? ⟨EB, a * 2 + 1, none⟩ = some v) ∧ wx.frozen? ⟨LB, a * 2, none⟩ = false ∧ wx.frozen? ⟨LB, a * 2 + 1, none⟩ = false ∧ wx.frozen? ⟨EB, a * 2, none⟩ = false ∧ wx.frozen? ⟨EB, a * 2 + 1, none⟩ = false) := fun wx hx => by
                  have r1 := l2.below hx l2.lt
                  have r2 := e2.below hx e2.lt
                  exact ⟨⟨_, (r1.cell _).trans (List.getElem?_eq_getElem (by omega))⟩, ⟨_, (r1.cell _).trans (List.getElem?_eq_getElem (by omega))⟩, ⟨_, (r2.cell _).trans (List.getElem?_eq_getElem (by omega))⟩, ⟨_, (r2.cell _).trans (List.getElem?_eq_getElem (by omega))⟩, r1.frozen _, r1.frozen _, r2.frozen _, r2.frozen _⟩
                have HK : Hid (∀ wx : World, Below wr.heap.size wr wx → wx.cell? ⟨H + 1, 1, none⟩ = some (.int .i64 c) ∧ wx.cell? ⟨H + 1, 2, none⟩ = some (.slice (some ⟨LB, 0, none⟩) c c) ∧ wx.cell? ⟨H + 1, 3, none⟩ = some (.slice (some ⟨EB, 0, none⟩) c c)) := fun wx hx => ⟨cellOf t1 hx, cellOf t2 hx, cellOf t3 hx⟩
                have H56 : Hid (∀ wx : World, Below wr.heap.size wr wx → Calls Try.prog 56 #[.pointer (some ⟨H + 1, 0, none⟩)] wx fun e w' => SetNew wx ((c - 1) / 64) e w') := fun wx hx => newSet_any wx (H + 1) c (HK.out wx hx).1 hlo (by omega)
                have hd : Below wr.heap.size wr wr.drew := bel_to_drew (Below.refl _ _)
                have HN : Hid (NT w wr H pb M c nm np LB EB a f g hB (fun a j => decide (j < c) && cfl g a j) (fun a j => decide (j < c) && cfl g j a)) := hN
                clear hN l2 e2 l1 e1
                go_upto_region 28 with fail
                go_region_held3 (fun w' => w'.cell? ⟨H + 1, 1, none⟩ = some (.int .i64 c) ∧ w'.cell? ⟨H + 1, 2, none⟩ = some (.slice (some ⟨LB, 0, none⟩) c c) ∧ w'.cell? ⟨H + 1, 3, none⟩ = some (.slice (some ⟨EB, 0, none⟩) c c)) (first | exact HK.out _ hd | exact HK.out _ hb1 | exact HK.out _ hb2 | go_keep) (first | (go_at_call 56; refine Calls.mono (H56.out _ hb1) ?_; rintro e w6 ⟨oa2, h2, rfl, r1, r2, r3, hb2'⟩; have hb2 : Below wr.heap.size wr w6 := hb1.trans (hb2'.mono hb1.size); obtain ⟨⟨y0, y1⟩, ⟨y2, y3⟩, ⟨y4, y5⟩, ⟨y6, y7⟩, y8, y9, y10, y11⟩ := HC.out w6 hb2) | (go_at_call 56; refine Calls.mono (H56.out _ hd) ?_; rintro e w5 ⟨oa1, h1, rfl, p1, p2, p3, hb1'⟩; have hb1 : Below wr.heap.size wr w5 := hd.trans hb1'))
                have hP := HN.out.push hlt hb2 (h1 := h1) (h2 := h2) (oa1 := oa1) (oa2 := oa2) ⟨p1, by have := hb2'.size; omega⟩ ⟨by have := hb1.size; omega, r2⟩ (by omega) (fun hp => ⟨(p3 hp).1, (p3 hp).2.below hb2' (by omega)⟩) r3
                generalize ((((w6.setCell { block := LB, off := a * 2 } (Value.int IntKind.u64 0)).setCell { block := LB, off := a * 2 + 1 } (Value.slice oa1 ((c - 1) / 64) ((c - 1) / 64))).setCell { block := EB, off := a * 2 } (Value.int IntKind.u64 0)).setCell { block := EB, off := a * 2 + 1 } (Value.slice oa2 ((c - 1) / 64) ((c - 1) / 64))) = wF at hP ⊢
                clear y0 y1 y2 y3 y4 y5 y6 y7 y8 y9 y10 y11 p1 p2 p3 r1 r2 r3 hb1 hb1' hb2 hb2' t1 t2 t3 HC HK H56 hd HN
                have t1 := hP.base.tr.cell 1
                simp at t1
                obtain ⟨hB', hhB⟩ : ∃ hB' : Nat → Nat, (fun t => if t = 2 * a then h1 else if t = 2 * a + 1 then h2 else hB t) = hB' := ⟨_, rfl⟩
                rw [hhB] at hP
                clear hhB
                have HP : Hid (NT w wF H pb M c nm np LB EB (a + 1) f g hB' (fun a' => if a' = a then fun _ => false else fun j => decide (j < c) && cfl g a' j) (fun a' => if a' = a then fun _ => false else fun j => decide (j < c) && cfl g j a')) := hP
                clear hP
                go_wp2
                go_loopw [149] (fun i wr => ∃ b : Nat, b ≤ c ∧ i = .int .i32 b ∧ NT w wr H pb M c nm np LB EB (a + 1) f g hB' (fun a' j => decide (j < if a' = a then b else c) && cfl g a' j) (fun a' j => decide (j < if a' = a then b else c) && cfl g j a')) (fun i _ => c - (intOf i).toNat)
                case atStart =>
                  refine ⟨0, Nat.zero_le _, rfl, HP.out.congr (fun a' ha' j => ?_) (fun a' ha' j => ?_)⟩
                  · by_cases e : a' = a <;> simp [e]
                  · by_cases e : a' = a <;> simp [e]
                case round =>
                  clear t1
                  obtain ⟨b, hbc, rfl, hN⟩ := hrel
                  by_cases hlb5 : b < c
                  · have hlb := hN.base.lb
                    have heb := hN.base.eb
                    have v0 := hN.base.vr.cell 0
                    simp only [List.getElem?_cons_zero] at v0
                    go_wp2_with fail
                    refine (conf_any _ (pb + 1) pb np a b g v0 hN.base.pm (by omega) (by omega)).mono ?_
                    rintro e w7 ⟨rfl, rfl⟩
                    obtain ⟨q1, hq1⟩ : ∃ q, ((a != 0 || b != 0) && !g a b) = q := ⟨_, rfl⟩
                    rw [hq1]
                    have HQ1 : Hid (cfl g a b = q1) := hq1
                    clear hq1 v0
                    cases q1 with
                    | true =>
                      have t2 := hN.base.tr.cell 2
                      simp at t2
                      have hbl := hN.hb (2 * a) (by omega)
                      go_wp2_with fail
                      refine (add_any _ LB (a * 2) (hB' (2 * a)) ((c - 1) / 64) b _ (hN.sL a (by omega)) (by omega) (by omega) (by omega)).mono ?_
                      rintro e w8 ⟨rfl, p1, v1, hp1, rfl, hs1⟩
                      have hN2 := hN.addL (by omega) hp1 hs1
                      clear t2 hbl
                      have v1 := hN2.base.vr.cell 0
                      simp only [List.getElem?_cons_zero] at v1
                      go_wp2_with fail
                      refine (conf_any _ (pb + 1) pb np b a g v1 hN2.base.pm (by omega) (by omega)).mono ?_
                      rintro e w8 ⟨rfl, rfl⟩
                      obtain ⟨q2, hq2⟩ : ∃ q, ((b != 0 || a != 0) && !g b a) = q := ⟨_, rfl⟩
                      rw [hq2]
                      have HQ2 : Hid (cfl g b a = q2) := hq2
                      clear hq2 v1
                      cases q2 with
                      | true =>
                        have t3 := hN2.base.tr.cell 3
                        simp at t3
                        have hbe := hN2.hb (2 * a + 1) (by omega)
                        go_wp2_with fail
                        refine (add_any _ EB (a * 2) (hB' (2 * a + 1)) ((c - 1) / 64) b _ (hN2.sE a (by omega)) (by omega) (by omega) (by omega)).mono ?_
                        rintro e w9 ⟨rfl, p2, v2, hp2, rfl, hs2⟩
                        have hN3 := hN2.addE (by omega) hp2 hs2
                        clear t3 hbe
                        go_wp2
                        go_roundw
                        case rel =>
                          refine ⟨b + 1, by omega, by go_num, hN3.congr (fun a' ha' j => ?_) (fun a' ha' j => ?_)⟩
                          · by_cases e : a' = a
                            · subst e; simpa using stepT (X := fun j => cfl g a' j) HQ1.out j
                            · simp [e]
                          · by_cases e : a' = a
                            · subst e; simpa using stepT (X := fun j => cfl g j a') HQ2.out j
                            · simp [e]
                        case measure => simp [intOf]; omega
                      | false =>
                        go_wp2
                        go_roundw
                        case rel =>
                          refine ⟨b + 1, by omega, by go_num, hN2.congr (fun a' ha' j => ?_) (fun a' ha' j => ?_)⟩
                          · by_cases e : a' = a
                            · subst e; simpa using stepT (X := fun j => cfl g a' j) HQ1.out j
                            · simp [e]
                          · by_cases e : a' = a
                            · subst e; simpa using stepF (X := fun j => cfl g j a') HQ2.out j
                            · simp [e]
                        case measure => simp [intOf]; omega
                    | false =>
                      have v1 := hN.base.vr.cell 0
                      simp only [List.getElem?_cons_zero] at v1
                      go_wp2_with fail
                      refine (conf_any _ (pb + 1) pb np b a g v1 hN.base.pm (by omega) (by omega)).mono ?_
                      rintro e w8 ⟨rfl, rfl⟩
                      obtain ⟨q2, hq2⟩ : ∃ q, ((b != 0 || a != 0) && !g b a) = q := ⟨_, rfl⟩
                      rw [hq2]
                      have HQ2 : Hid (cfl g b a = q2) := hq2
                      clear hq2 v1
                      cases q2 with
                      | true =>
                        have t3 := hN.base.tr.cell 3
                        simp at t3
                        have hbe := hN.hb (2 * a + 1) (by omega)
                        go_wp2_with fail
                        refine (add_any _ EB (a * 2) (hB' (2 * a + 1)) ((c - 1) / 64) b _ (hN.sE a (by omega)) (by omega) (by omega) (by omega)).mono ?_
                        rintro e w9 ⟨rfl, p2, v2, hp2, rfl, hs2⟩
                        have hN3 := hN.addE (by omega) hp2 hs2
                        clear t3 hbe
                        go_wp2
                        go_roundw
                        case rel =>
                          refine ⟨b + 1, by omega, by go_num, hN3.congr (fun a' ha' j => ?_) (fun a' ha' j => ?_)⟩
                          · by_cases e : a' = a
                            · subst e; simpa using stepF (X := fun j => cfl g a' j) HQ1.out j
                            · simp [e]
                          · by_cases e : a' = a
                            · subst e; simpa using stepT (X := fun j => cfl g j a') HQ2.out j
                            · simp [e]
                        case measure => simp [intOf]; omega
                      | false =>
                        go_wp2
                        go_roundw
                        case rel =>
                          refine ⟨b + 1, by omega, by go_num, hN.congr (fun a' ha' j => ?_) (fun a' ha' j => ?_)⟩
                          · by_cases e : a' = a
                            · subst e; simpa using stepF (X := fun j => cfl g a' j) HQ1.out j
                            · simp [e]
                          · by_cases e : a' = a
                            · subst e; simpa using stepF (X := fun j => cfl g j a') HQ2.out j
                            · simp [e]
                        case measure => simp [intOf]; omega
                  · go_wp2
                    go_roundw
                    case rel =>
                      have hbe : b = c := by omega
                      subst hbe
                      refine ⟨a + 1, by omega, by go_num, hB', hN.congr (fun a' ha' j => ?_) (fun a' ha' j => ?_)⟩
                      · by_cases e : a' = a <;> simp [e]
                      · by_cases e : a' = a <;> simp [e]
                    case measure => simp [intOf]; omega
              · have hac : a = c := by omega
                subst hac
                go_wp2
                go_ret
                have e1 : (kst S0 S1 (2 * n)).1 = f := by rw [HFC.out]
                have e2 : (kst S0 S1 (2 * n)).2 = a := by rw [HFC.out]
                have e3 : kx S0 S1 n tn = X := by unfold kx; rw [e1, HX.out]
                have e4 : ky S0 S1 n tn = Y := by unfold ky; rw [e1, HY.out]
                refine ⟨LB, EB, by rw [hH]; rfl, by rw [hH]; exact hN.base.bel, ?_⟩
                rw [e1, e2, e3, e4, HG.out, hH]
                exact hN.tab hlo (by omega) (fun s k hk => by have := HINV.out.rng s k hk; omega)

end Go.Proofs.Qxb6602514a.Tb
