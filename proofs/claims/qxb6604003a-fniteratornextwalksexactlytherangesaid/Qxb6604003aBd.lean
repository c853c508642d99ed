import Derived.Test.Qxb6604003aAp
set_option linter.unusedVariables false
namespace Go.Proofs.Qxb6604003a
open Go.RowKit

/-- A [][]byte as a reader sees it. -/
structure KIn (w : World) (a : Option Addr) (n c b off : Nat) (F : Nat → Value) (kb : Nat → List UInt8) : Prop where
  nil : a = none → n = 0 ∧ c = 0
  at' : 0 < n → a = some ⟨b, off, none⟩
  cell : ∀ i, i < n → w.cell? ⟨b, off + i, none⟩ = some (F i)
  bv : ∀ i, i < n → BV w (F i) (kb i)

theorem KIn.below {w w' : World} {a : Option Addr} {n c b off : Nat} {F : Nat → Value} {kb : Nat → List UInt8} (h : KIn w a n c b off F kb) (hb : Below w.heap.size w w') : KIn w' a n c b off F kb :=
  ⟨h.nil, h.at', fun i hi => cellOf (h.cell i hi) hb, fun i hi => (h.bv i hi).below hb⟩

theorem zappend_any (K V : Nat → Value) (kb : Nat → List UInt8) (w0 w : World) (base B n h : Nat) (d : D) (low : Nat → Nat → Value) (ka va : Option Addr) (kl kc vl vc kbk kof : Nat)
    (hbase : w0.heap.size = base) (hT : TS w0 w base B d) (hR : Rest K V kb d h low n) (hn : n ≤ 30000)
    (hK : K n = .slice ka kl kc) (hV : V n = .slice va vl vc) (hkl : (kb n).length = kl) (hkb : Bs w0 ka kc kbk kof (kb n)) (hk1 : kl ≤ 1048576) (hk0 : 0 < n → 0 < kl) :
    Calls Try.prog 32 #[.pointer (some ⟨B, 0, none⟩), .slice ka kl kc, .slice va vl vc] w fun e w' => AppPost K V kb w0 base B (n + 1) e w' := by
  go_enter Try.func32, Try.ntmps32
  go_wp2_with fail
  refine (append_any K V kb w0 w base B n h d low ka va kl kc vl vc kbk kof hbase hT hR hn hK hV hkl hkb hk1 hk0).mono ?_
  rintro e w' ⟨rfl, d', h', low', hT', hR'⟩
  go_wp2
  go_end0
  exact ⟨rfl, d', h', low', hT', hR'⟩

def z32 : Array Value := madeCells #[.pointer none] (8 * 1)
theorem z32_size : z32.size = 8 * 1 := by unfold z32; rw [size_madeCells]
theorem z32_0 : z32[0]? = some (.pointer none) := by simp [z32, madeCells]
theorem run_make50 (w : World) : (Instr.makeSlice 50 (.int .i64 1) (.int .i64 8)).run Try.prog w = .ok (.slice (some ⟨w.heap.size, 0, none⟩) 1 8) (w.alloc (.cells z32 32)) := by
  obtain ⟨i, hi, hz, hs, hb⟩ := info_parts info32
  have hr := run_make (P := Try.prog) w 50 32 i _ Try.underlying50 hi hz .i64 .i64 1 8 (by omega) (by omega) (by rw [hb]; omega) (by omega)
  rw [hs] at hr
  unfold z32
  simpa [Value.cells] using hr

/-- The first tree. -/
def d0 (H : Nat) : D := { nd := fun l => if l = 0 then 1 else 0, adr := fun _ _ => H, slv := fun _ _ => .slice none 0 0, it := fun _ _ => [], root := ptr H, len := 0, spv := .slice (some ⟨H + 1, 0, none⟩) 1 8, sp := [ptr H], col := fun k => if k = H then some (0, 0, 0) else if k = H + 1 then some (8, 0, 0) else if k = H + 2 then some (9, 0, 0) else none, lows := [] }

theorem ts0 (w : World) (H : Nat) (hH : w.heap.size = H) : TS w (((w.alloc (.cells #[.slice none 0 0, .slice none 0 0, .int .u64 1] 59)).alloc (.cells (z32.setIfInBounds 0 (.pointer (some ⟨H, 0, none⟩))) 32)).alloc (.cells #[.pointer (some ⟨H, 0, none⟩), .int .i64 0, .int .u64 1, .slice (some ⟨H + 1, 0, none⟩) 1 8] 54)) H (H + 2) (d0 H) := by
  subst hH
  have r0 : Row (w.alloc (.cells #[.slice none 0 0, .slice none 0 0, .int .u64 1] 59)) w.heap.size 59 [.slice none 0 0, .slice none 0 0, .int .u64 1] := Row.alloc_new _ _ _
  refine ⟨(((Below.refl _ _).alloc (Nat.le_refl _) _).alloc (by simp) _).alloc (by simp; omega) _, by simp; omega, ?_, ?_, fun l q hq => ?_, fun l q hq => by have := World.ownsRow_nil (((w.alloc (.cells #[.slice none 0 0, .slice none 0 0, .int .u64 1] 59)).alloc (.cells (z32.setIfInBounds 0 (.pointer (some ⟨w.heap.size, 0, none⟩))) 32)).alloc (.cells #[.pointer (some ⟨w.heap.size, 0, none⟩), .int .i64 0, .int .u64 1, .slice (some ⟨w.heap.size + 1, 0, none⟩) 1 8] 54)) w.heap.size (ety l) 2; simpa [d0] using this, ?_, fun g hg => ?_, fun l q hq => ?_, fun l q hq g hg => ?_, fun g hg => ?_, fun g hg => ?_, fun p hp => by cases hp⟩
  · exact Row.alloc_new' (by simp)
  · have h1 : ((w.alloc (.cells #[.slice none 0 0, .slice none 0 0, .int .u64 1] 59)).alloc (.cells (z32.setIfInBounds 0 (.pointer (some ⟨w.heap.size, 0, none⟩))) 32)).ownsRow w.heap.size 32 1 (.slice (some ⟨w.heap.size + 1, 0, none⟩) 1 8) 1 [ptr w.heap.size] :=
      ⟨rfl, .inr ⟨w.heap.size + 1, 8, _, rfl, by omega, by have := heap_alloc_new (w.alloc (.cells #[.slice none 0 0, .slice none 0 0, .int .u64 1] 59)) (.cells (z32.setIfInBounds 0 (.pointer (some ⟨w.heap.size, 0, none⟩))) 32); simpa using this, by omega, by unfold maxLen; omega, by simp [z32_size], by simp [z32, madeCells]; rfl⟩⟩
    exact h1.alloc _
  · have hl : l = 0 := by
      have : q < (if l = 0 then 1 else 0) := hq
      split at this
      · assumption
      · omega
    subst hl
    exact (r0.alloc _).alloc _
  · simp [d0]
  · have : w.heap.size + 1 = g := by simpa [d0, Value.ownBlock] using hg
    subst this
    simp [d0]
  · have : q < (if l = 0 then 1 else 0) := hq
    split at this
    · rename_i e; subst e
      have : q = 0 := by omega
      subst this
      simp [d0]
    · omega
  · have : (Value.slice none 0 0).ownBlock = some g := hg
    simp [Value.ownBlock] at this
  · have : w.heap.size + 3 ≤ g := by simpa using hg
    show (if g = w.heap.size then _ else if g = w.heap.size + 1 then _ else if g = w.heap.size + 2 then _ else _) = _
    rw [if_neg (by omega), if_neg (by omega), if_neg (by omega)]
  · have h2 : (if g = w.heap.size then some (0, 0, 0) else if g = w.heap.size + 1 then some (8, 0, 0) else if g = w.heap.size + 2 then some (9, 0, 0) else none) ≠ none := hg
    by_cases e1 : g = w.heap.size
    · omega
    · by_cases e2 : g = w.heap.size + 1
      · omega
      · by_cases e3 : g = w.heap.size + 2
        · omega
        · rw [if_neg e1, if_neg e2, if_neg e3] at h2; exact absurd rfl h2

theorem rest0 (K V : Nat → Value) (kb : Nat → List UInt8) (H : Nat) : Rest K V kb (d0 H) 1 (fun _ _ => .slice none 0 0) 0 := by
  refine ⟨⟨by omega, fun l hl => ?_, fun l hl => ?_, fun q hq => ?_, fun l q hq => ?_, fun _ _ _ => rfl, fun l j h => by omega, fun l q h1 _ h2 => by omega⟩, fun l hl => ?_, rfl, rfl, rfl, by simp, .inl rfl⟩
  · show (if l = 0 then 1 else 0) = 0
    rw [if_neg (by omega)]
  · have : l = 0 := by omega
    subst this
    show cv 0 1 ≤ 1
    decide
  · show [] = its K V (16 * q) (min 16 (0 - 16 * q))
    rw [show min 16 (0 - 16 * q) = 0 by omega]; rfl
  · have : q < (if l + 1 = 0 then 1 else 0) := hq
    rw [if_neg (by omega)] at this
    omega
  · have : l = 0 := by omega
    subst this
    show 1 = dv (0 - 1) (0 + 1) + 1
    decide

/-- What ordB1Build hands back. -/
def Built (K V : Nat → Value) (kb : Nat → List UInt8) (n : Nat) (w : World) (e : Ending) (w' : World) : Prop := ∃ d h low, e = .returned (.pointer (some ⟨w.heap.size + 2, 0, none⟩)) ∧ TS w w' w.heap.size (w.heap.size + 2) d ∧ Rest K V kb d h low n

set_option maxRecDepth 100000 in
theorem build_any (a a' : Option Addr) (n c b off c' b' off' : Nat) (K V : Nat → Value) (kb vb : Nat → List UInt8) (w : World) (h : KIn w a n c b off K kb) (h' : KIn w a' n c' b' off' V vb) (hn : n ≤ 30000) (hm : ∀ i, i < n → (kb i).length ≤ 1048576) (h0 : ∀ i, 0 < i → i < n → 0 < (kb i).length) :
    Calls Try.prog 11 #[.slice a n c, .slice a' n c'] w fun e w' => Built K V kb n w e w' := by
  have mk := run_make50
  obtain ⟨H, hH⟩ : ∃ H, w.heap.size = H := ⟨_, rfl⟩
  have hts := ts0 w H hH
  have z0 := z32_0
  have e30 : Calls Try.prog 30 #[.int .u64 1] w fun e w' => e = .returned (.pointer (some ⟨H, 0, none⟩)) ∧ w' = w.alloc (.cells #[.slice none 0 0, .slice none 0 0, .int .u64 1] 59) := by
    go_enter Try.func30, Try.ntmps30
    go_wp2
    go_ret
    exact ⟨rfl, rfl⟩
  have e31 : ∀ wx : World, Calls Try.prog 31 #[.pointer (some ⟨H, 0, none⟩), .int .i64 0, .int .u64 1, .slice (some ⟨H + 1, 0, none⟩) 1 8] wx fun e w' => e = .returned (.pointer (some ⟨wx.heap.size, 0, none⟩)) ∧ w' = wx.alloc (.cells #[.pointer (some ⟨H, 0, none⟩), .int .i64 0, .int .u64 1, .slice (some ⟨H + 1, 0, none⟩) 1 8] 54) := fun wx => by
    go_enter Try.func31, Try.ntmps31
    go_wp2
    go_ret
    exact ⟨rfl, rfl⟩
  go_enter Try.func11, Try.ntmps11
  go_wp2_with fail
  refine e30.mono ?_
  rintro e w1 ⟨rfl, rfl⟩
  go_wp2_with fail
  refine (e31 _).mono ?_
  rintro e w2 ⟨rfl, rfl⟩
  obtain ⟨W, hW⟩ : ∃ W, (((w.alloc (.cells #[.slice none 0 0, .slice none 0 0, .int .u64 1] 59)).alloc (.cells (z32.setIfInBounds 0 (.pointer (some ⟨H, 0, none⟩))) 32)).alloc (.cells #[.pointer (some ⟨H, 0, none⟩), .int .i64 0, .int .u64 1, .slice (some ⟨H + 1, 0, none⟩) 1 8] 54)) = W := ⟨_, rfl⟩
  rw [hW] at hts
  rw [hW]
  simp only [World.size_alloc, hH]
  rw [show H + 1 + 1 = H + 2 from rfl]
  clear e30 e31 mk z0 hW
  have hM : Hid (∀ i, i < n → (kb i).length ≤ 1048576) := hm
  have hZ : Hid (∀ i, 0 < i → i < n → 0 < (kb i).length) := h0
  have HH : Hid (w.heap.size = H) := hH
  clear hm h0 hH
  go_wp2
  go_loopw [8] (fun i wr => ∃ k : Nat, k ≤ n ∧ i = .int .i64 k ∧ ∃ (d : D) (hh : Nat) (low : Nat → Nat → Value), TS w wr H (H + 2) d ∧ Hid (Rest K V kb d hh low k)) (fun i _ => n - (intOf i).toNat)
  case atStart => exact ⟨0, Nat.zero_le _, rfl, d0 H, 1, _, hts, rest0 K V kb H⟩
  case round =>
    clear hts
    obtain ⟨k, hk, rfl, d, hh, low, hT, hR⟩ := hrel
    by_cases hlt : k < n
    · obtain rfl := h.at' (by omega)
      obtain rfl := h'.at' (by omega)
      have hbel : Below w.heap.size w wr := by rw [HH.out]; exact hT.bel
      have g0 := cellOf (h.cell k hlt) hbel
      have g1 := cellOf (h'.cell k hlt) hbel
      obtain ⟨ka, kc, kbk, kof, hKe, hKb⟩ := h.bv k hlt
      obtain ⟨va, vc, vbk, vof, hVe, hVb⟩ := h'.bv k hlt
      rw [hKe] at g0
      rw [hVe] at g1
      obtain ⟨kl, hkl⟩ : ∃ kl, (kb k).length = kl := ⟨_, rfl⟩
      obtain ⟨vl, hvl⟩ : ∃ vl, (vb k).length = vl := ⟨_, rfl⟩
      have hk1 := hM.out k hlt
      have hk0 : 0 < k → 0 < kl := fun hp => by rw [← hkl]; exact hZ.out k hp hlt
      rw [hkl] at g0 hk1 hKe
      rw [hvl] at g1 hVe
      have HC : Hid (∀ wx : World, wx = wr.drew → Calls Try.prog 32 #[.pointer (some ⟨H + 2, 0, none⟩), .slice ka kl kc, .slice va vl vc] wx fun e w' => AppPost K V kb w H (H + 2) (k + 1) e w') := fun wx hx => by
        subst hx
        exact zappend_any K V kb w wr.drew H (H + 2) k hh d low ka va kl kc vl vc kbk kof HH.out hT.drew hR.out (by omega) hKe hVe hkl hKb hk1 hk0
      have KP : Hid (∀ wx : World, Below H w wx → wx.cell? ⟨b, off + k, none⟩ = some (.slice ka kl kc) ∧ wx.cell? ⟨b', off' + k, none⟩ = some (.slice va vl vc)) := fun wx hb => by
        rw [← HH.out] at hb
        rw [← hKe, ← hVe]
        exact ⟨cellOf (h.cell k hlt) hb, cellOf (h'.cell k hlt) hb⟩
      have hdr := hT.drew.bel
      clear hKe hVe hkl hvl hbel hKb hVb hk0
      have j0 : (0 : Int) ≤ (k : Int) := by omega
      have j1 : (k : Int) < (n : Int) := by omega
      go_upto_region 8 with fail
      go_region_held3 (fun w' => w'.cell? ⟨b, off + k, none⟩ = some (.slice ka kl kc) ∧ w'.cell? ⟨b', off' + k, none⟩ = some (.slice va vl vc)) (first | exact KP.out _ hdr | exact KP.out _ hT7.bel | go_keep) (first | (go_at_call 32; refine Calls.mono (HC.out _ (by first | rfl | assumption)) ?_; rintro e w7 ⟨rfl, d7, h7, low7, hT7, hR7⟩))
      go_wp2
      go_roundw
      case rel => exact ⟨k + 1, by omega, by go_num, d7, h7, low7, hT7, hR7⟩
      case measure => simp [intOf]; omega
    · have : k = n := by omega
      subst this
      go_wp2
      go_ret
      refine ⟨d, hh, low, ?_, ?_, hR.out⟩
      · rw [HH.out]; rfl
      · rw [HH.out]; exact hT

end Go.Proofs.Qxb6604003a
