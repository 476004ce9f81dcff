import Derived.Test.Qxb6000868aDec
import Derived.Test.Qxb6000868aEscAll
import Derived.Test.Qxb6000868aClone
namespace Go.Proofs.Qxb6000868a.Esc
open Go.RowKit

theorem bound10_yes (a : Option Addr) (len cap : Nat) (p : Int) (w : World) (h : len ≤ 1048576) :
    Calls Try.prog 10 #[.slice a len cap, .int .i32 p] w fun e w' => e = .returned (.bool true) ∧ w = w' := by
  have h1 : ¬ (1048576 : Int) < (len : Int) := by omega
  go_enter Try.func10, Try.ntmps10
  go_wp2
  go_ret
  exact ⟨rfl, rfl⟩

theorem bound10_no (a : Option Addr) (len cap : Nat) (p : Int) (w : World) (h : 1048576 < len) :
    Calls Try.prog 10 #[.slice a len cap, .int .i32 p] w fun e w' => e = .returned (.bool false) ∧ w = w' := by
  have h1 : (1048576 : Int) < (len : Int) := by omega
  go_enter Try.func10, Try.ntmps10
  go_wp2
  go_ret
  exact ⟨rfl, rfl⟩

theorem low_long (a : Option Addr) (len cap : Nat) (r : Int) (w : World) (h : 1048576 < len) :
    Calls Try.prog 3 #[.slice a len cap, .int .i32 r] w fun e w' => e = .returned (.bool true) ∧ Below w.heap.size w w' := by
  go_enter Try.func3, Try.ntmps3
  go_wp2_with fail
  refine (bound10_no a len cap r _ h).mono ?_
  rintro e w' ⟨rfl, rfl⟩
  go_wp2
  go_ret
  exact ⟨rfl, Below.refl _ _⟩

/-- What was appended, and what it was appended to, read out of the row. -/
theorem row_parts {w : World} {base g n cap len m : Nat} {l k : List Int} (hl : l.length = len) (hk : k.length = m) (h : w.ownsRow base 5 1 (.slice (some ⟨g, 0, none⟩) n cap) n (l.map (Value.int .u8) ++ k.map (Value.int .u8))) :
    BytesAt w (some ⟨g, 0, none⟩) l ∧ (∀ i, i < m → w.cell? ⟨g, len + i, none⟩ = some (.int .u8 (k.getD i 0))) ∧ len + m ≤ cap := by
  have hn : len + m = n := by have := h.1; simp at this; omega
  refine ⟨Or.inr ⟨g, 0, rfl, fun i hi => ?_⟩, fun i hi => ?_, ?_⟩
  · rw [Nat.zero_add, h.cellAt i (by omega), List.getElem?_append_left (by simpa using hi), List.getElem?_map, List.getElem?_eq_getElem hi]
    simp [List.getElem?_eq_getElem hi]
  · rw [h.cellAt (len + i) (by omega), List.getElem?_append_right (by simp; omega), List.getElem?_map]
    simp [hl, List.getElem?_eq_getElem (show i < k.length by omega)]
  · rcases h.2 with ⟨h', _⟩ | ⟨g', cap', cur, h', _, _, hc, _⟩
    · cases h'
    · simp at h'; omega

set_option maxHeartbeats 1000000 in
theorem low_walk (ao : Option Addr) (len cap : Nat) (l : List Int) (r : Int) (w : World) (hl : l.length = len) (hm : len ≤ 1048576) (hn : ao = none → len = 0 ∧ cap = 0) (h : BytesAt w ao l) :
    Calls Try.prog 3 #[.slice ao len cap, .int .i32 r] w fun e w' => e = .returned (.bool true) ∧ Below w.heap.size w w' := by
  have h1 : ¬ (1048576 : Int) < (len : Int) := by omega
  have HL : Hid (l.length = len) := hl
  have HN : Hid (ao = none → len = 0 ∧ cap = 0) := hn
  clear hl hn
  go_enter Try.func3, Try.ntmps3
  go_wp2_with fail
  refine (bound10_yes ao len cap r _ hm).mono ?_
  rintro e w' ⟨rfl, rfl⟩
  go_wp2_with fail
  refine (clone_any ao len cap l _ HL.out hm HN.out h).mono ?_
  rintro e w1 ⟨v, rfl, hown, hb1⟩
  go_wp2_with fail
  refine (zzesc_any r v len w.heap.size _ _ hown (by omega) hb1.size).mono ?_
  rintro e w2 ⟨g, cap2, rfl, hown2, hgrow, _, _⟩
  have hb2 : Below w.heap.size w w2 := hb1.grown hgrow hb1.size (fun k hk => (hown.lt k hk).1)
  obtain ⟨B1, C2, hc2⟩ := row_parts HL.out rfl hown2
  have B0 := h.below hb2
  have hmL : (esc r).length = 2 ∨ (esc r).length = 6 := by
    unfold esc; repeat' split
    all_goals simp
  generalize hmm : (esc r).length = m at *
  have HM : Hid ((esc r).length = m) := hmm
  have HC2 := hid C2
  clear hmm hown hown2 hgrow hb1 C2
  go_wp2_with fail
  refine (equal_any _ _ len len cap2 cap l l _ HL.out HL.out (by omega) B1 B0).mono ?_
  rintro e w3 ⟨rfl, n, rfl⟩
  have hdl : decide (l = l) = true := by simp
  rw [hdl]
  have hand : bits BinOp.and IntKind.i32 r 65535 = r % 65536 := i32_and65535 r
  have hcne : ¬ cap2 = len := by omega
  go_wp2_with fail
  refine (dec_esc r g len m (cap2 - len) (w2.drewN n) HM.out (by exact HC2.out)).mono ?_
  rintro e w3 ⟨rfl, rfl⟩
  go_wp2
  go_ret
  exact ⟨by simp, below_drewN hb2 _⟩

end Go.Proofs.Qxb6000868a.Esc
