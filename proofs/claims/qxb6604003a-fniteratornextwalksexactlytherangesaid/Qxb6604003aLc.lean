import Derived.Test.Qxb6604003aLq
set_option linter.unusedVariables false
namespace Go.Proofs.Qxb6604003a.Lb
open Go.RowKit

/-- The end that a slice means. -/
def endOf (a : Option Addr) (es : List UInt8) : Option (List UInt8) := if a = none then none else some es

theorem ev_of {w : World} {a : Option Addr} {b off : Nat} {es : List UInt8} (h : Bs w a es.length b off es) : EV w (.slice a es.length es.length) (endOf a es) := by
  unfold endOf
  cases a with
  | none =>
    rw [if_pos rfl]
    have := (h.nil rfl).1
    show Value.slice none es.length es.length = .slice none 0 0
    rw [this]
  | some x => rw [if_neg (by simp)]; exact ⟨x, _, b, off, rfl, h⟩

theorem endOf_congr {a a' : Option Addr} (h : a' = none ↔ a = none) (es : List UInt8) : endOf a' es = endOf a es := by
  unfold endOf
  by_cases e : a = none
  · rw [if_pos e, if_pos (h.2 e)]
  · rw [if_neg e, if_neg fun x => e (h.1 x)]

/-- Two lists that are being built. -/
structure TW (w9 wr : World) (base : Nat) (kv vv : Value) (Ks Vs : List Value) : Prop where
  bel : Below base w9 wr
  ko : wr.ownsRow base 39 1 kv Ks.length Ks
  vo : wr.ownsRow base 39 1 vv Vs.length Vs
  n5 : ∀ g, kv.ownBlock = some g → vv.ownBlock ≠ some g

theorem TW.below {w9 wr : World} {base : Nat} {kv vv : Value} {Ks Vs : List Value} (h : TW w9 wr base kv vv Ks Vs) (hb9 : w9.heap.size = base) {wx : World} (hb : Below wr.heap.size wr wx) : TW w9 wx base kv vv Ks Vs :=
  ⟨h.bel.trans (hb.mono (by rw [← hb9]; exact h.bel.size)), (tch_below hb fun _ => False).own h.ko fun _ _ => id, (tch_below hb fun _ => False).own h.vo fun _ _ => id, h.n5⟩
theorem TW.addK {w9 wr : World} {base : Nat} {kv vv : Value} {Ks Vs : List Value} (h : TW w9 wr base kv vv Ks Vs) (hbase : base ≤ wr.heap.size) {o : Obj} {w5 : World} {g n' cap' : Nat} {a : Value} (hg : (wr.alloc o).grownBy w5 kv.ownBlock) (hown : w5.ownsRow base 39 1 (.slice (some ⟨g, 0, none⟩) n' cap') n' (Ks ++ [a])) (hn : n' = (Ks ++ [a]).length) (hat : kv.ownBlock = some g ∨ wr.heap.size < g) :
    TW w9 w5 base (.slice (some ⟨g, 0, none⟩) n' cap') vv (Ks ++ [a]) Vs := by
  have t : Tch wr w5 fun k => kv.ownBlock = some k := (tch_alloc wr o _).trans (tch_grown hg fun k hk => hk)
  refine ⟨t.bel h.bel hbase fun k hk => (h.ko.lt k hk).1, by rw [← hn]; exact hown, t.own h.vo fun k hk s => h.n5 k s hk, fun k hk e => ?_⟩
  have e1 : g = k := by simpa [Value.ownBlock] using hk
  subst e1
  rcases hat with h1 | h1
  · exact h.n5 g h1 e
  · have := (h.vo.lt g e).2; omega
theorem TW.addV {w9 wr : World} {base : Nat} {kv vv : Value} {Ks Vs : List Value} (h : TW w9 wr base kv vv Ks Vs) (hbase : base ≤ wr.heap.size) {o : Obj} {w5 : World} {g n' cap' : Nat} {a : Value} (hg : (wr.alloc o).grownBy w5 vv.ownBlock) (hown : w5.ownsRow base 39 1 (.slice (some ⟨g, 0, none⟩) n' cap') n' (Vs ++ [a])) (hn : n' = (Vs ++ [a]).length) (hat : vv.ownBlock = some g ∨ wr.heap.size < g) :
    TW w9 w5 base kv (.slice (some ⟨g, 0, none⟩) n' cap') Ks (Vs ++ [a]) := by
  have t : Tch wr w5 fun k => vv.ownBlock = some k := (tch_alloc wr o _).trans (tch_grown hg fun k hk => hk)
  refine ⟨t.bel h.bel hbase fun k hk => (h.vo.lt k hk).1, t.own h.ko fun k hk s => h.n5 k hk s, by rw [← hn]; exact hown, fun k hk e => ?_⟩
  have e1 : g = k := by simpa [Value.ownBlock] using e
  subst e1
  rcases hat with h1 | h1
  · exact h.n5 g hk h1
  · have := (h.ko.lt g hk).2; omega

theorem sameList_any (w : World) (oa ob : Option Addr) (m ca cb p : Nat) (F G : Nat → Value) (kb : Nat → List UInt8) (hm : m ≤ 65536) (ha : 0 < m → ∃ g, oa = some ⟨g, 0, none⟩ ∧ ∀ i, i < m → w.cell? ⟨g, i, none⟩ = some (F (p + i))) (hb : 0 < m → ∃ g, ob = some ⟨g, 0, none⟩ ∧ ∀ i, i < m → w.cell? ⟨g, i, none⟩ = some (G (p + i)))
    (hF : ∀ i, i < m → BV w (F (p + i)) (kb (p + i))) (hG : ∀ i, i < m → BV w (G (p + i)) (kb (p + i))) (hl : ∀ i, i < m → (kb (p + i)).length ≤ 1048576) :
    Calls Try.prog 15 #[.slice oa m ca, .slice ob m cb] w fun e w' => e = .returned (.bool true) ∧ Below w.heap.size w w' := by
  have HAB : Hid ((0 < m → ∃ g, oa = some ⟨g, 0, none⟩ ∧ ∀ i, i < m → w.cell? ⟨g, i, none⟩ = some (F (p + i))) ∧ (0 < m → ∃ g, ob = some ⟨g, 0, none⟩ ∧ ∀ i, i < m → w.cell? ⟨g, i, none⟩ = some (G (p + i)))) := ⟨ha, hb⟩
  have HFG : Hid ((∀ i, i < m → BV w (F (p + i)) (kb (p + i))) ∧ (∀ i, i < m → BV w (G (p + i)) (kb (p + i))) ∧ ∀ i, i < m → (kb (p + i)).length ≤ 1048576) := ⟨hF, hG, hl⟩
  clear ha hb hF hG hl
  go_enter Try.func15, Try.ntmps15
  go_wp2
  go_loopw [5] (fun i wr => ∃ k : Nat, k ≤ m ∧ i = .int .i64 k ∧ Below w.heap.size w wr) (fun i _ => m - (intOf i).toNat)
  case atStart => exact ⟨0, Nat.zero_le _, rfl, Below.refl _ _⟩
  case round =>
    obtain ⟨k, hk, rfl, hbr⟩ := hrel
    by_cases hlt : k < m
    · obtain ⟨ga, rfl, hga⟩ := HAB.out.1 (by omega)
      obtain ⟨gb, rfl, hgb⟩ := HAB.out.2 (by omega)
      obtain ⟨ka, kc, kbk, kof, hKe, hKs⟩ := HFG.out.1 k hlt
      obtain ⟨la, lc, lbk, lof, hLe, hLs⟩ := HFG.out.2.1 k hlt
      have g0 := cellOf (hga k hlt) hbr
      have g1 := cellOf (hgb k hlt) hbr
      rw [hKe] at g0
      rw [hLe] at g1
      have hcall := equal_any wr.drew ka la kc kbk kof lc lbk lof (kb (p + k)) ((hKs.below hbr).below (bel_to_drew (Below.refl _ _))) ((hLs.below hbr).below (bel_to_drew (Below.refl _ _))) (HFG.out.2.2 k hlt)
      obtain ⟨kl, hkl⟩ : ∃ kl, (kb (p + k)).length = kl := ⟨_, rfl⟩
      rw [hkl] at g0 g1 hcall
      have HC : Hid (∀ wx : World, wx = wr.drew → Calls Try.prog 29 #[.slice ka kl kc, .slice la kl lc] wx fun e w' => e = .returned (.bool true) ∧ Below wr.drew.heap.size wr.drew w') := fun wx hx => by subst hx; exact hcall
      have KP : Hid (∀ wx : World, Below wr.drew.heap.size wr.drew wx → wx.cell? ⟨ga, k, none⟩ = some (.slice ka kl kc) ∧ wx.cell? ⟨gb, k, none⟩ = some (.slice la kl lc)) := fun wx hb => ⟨cellOf (w := wr.drew) g0 hb, cellOf (w := wr.drew) g1 hb⟩
      have hdd := Below.refl wr.drew.heap.size wr.drew
      clear hKe hLe hKs hLs hcall hkl hga hgb
      have j0 : (0 : Int) ≤ (k : Int) := by omega
      have j1 : (k : Int) < (m : Int) := by omega
      go_upto_region 6 with fail
      go_region_held3 (fun w' => w'.cell? ⟨ga, k, none⟩ = some (.slice ka kl kc) ∧ w'.cell? ⟨gb, k, none⟩ = some (.slice la kl lc)) (first | exact KP.out _ hdd | exact KP.out _ hb7 | go_keep) (first | (go_at_call 29; refine Calls.mono (HC.out _ (by first | rfl | assumption)) ?_; rintro e w7 ⟨rfl, hb7⟩))
      have hb8 : Below w.heap.size w w7 := hbr.trans ((bel_to_drew (Below.refl wr.heap.size wr)).mono hbr.size |>.trans (hb7.mono hbr.size))
      go_wp2
      go_roundw
      case rel => exact ⟨k + 1, by omega, by go_num, hb8⟩
      case measure => simp [intOf]; omega
    · go_wp2
      go_ret
      exact ⟨rfl, hbr⟩

/-- How many of the first i keys lie in the range from p up to q. -/
def cnt (p q i : Nat) : Nat := min i q - p

theorem HiP.rest {kb : Nat → List UInt8} {n p q : Nat} {eb : Option (List UInt8)} (ha : AscB kb n) (h : HiP kb n eb p q) : ∀ i, q ≤ i → i < n → ∃ es, eb = some es ∧ ¬cmpB (kb i) es < 0 := fun i h1 h2 => by
  have h3 := h.2.2.2 (by omega)
  cases eb with
  | none => simp [ltE] at h3
  | some es =>
    have h4 : ¬cmpB (kb q) es < 0 := by simpa [ltE] using h3
    exact ⟨es, rfl, ha.above h4 i h1 h2⟩

end Go.Proofs.Qxb6604003a.Lb
