import Derived.Test.Qxb6000868aRows
import Derived.WalkKit
import Derived.ProofKit
import Derived.Below
import Derived.Deep.QuietTactic
import Derived.BigQuiet
import Derived.Deep.LoopGhost
import Derived.WalkSpells
import Derived.WalkSmall
import Derived.Deep.RegionLaw
import Derived.Deep.AppendLies
namespace Go.Proofs.Qxb6000868a.Esc
open Go.RowKit

theorem info5 : (Try.prog.info? 5).map (fun i => (i.zero, i.size, i.bytes)) = some (some (.int .u8 0), 1, 1) := by kernel_rfl

/-- A hexadecimal digit, small letters. -/
def hexd (n : Int) : Int := if n < 10 then 48 + n else 87 + n

/-- What appendEscape appends: the bytes of the escape of r. -/
def esc (r : Int) : List Int :=
  if r = 34 then [92, 34] else if r = 92 then [92, 92] else if r = 8 then [92, 98] else if r = 12 then [92, 102] else if r = 10 then [92, 110]
  else if r = 13 then [92, 114] else if r = 9 then [92, 116] else [92, 117, hexd (r / 4096 % 16), hexd (r / 256 % 16), hexd (r / 16 % 16), hexd (r % 16)]

/-- WHAT AN APPEND TO A ROW OF THE CALL's OWN LEAVES: the value v, which owned the n cells xs, has become a value that owns xs and the bytes l behind it; nothing but v's own row and new blocks has turned; it lies in v's row or in a new one. -/
def Appended (w : World) (base : Nat) (v : Value) (n : Nat) (xs : List Value) (l : List Int) (e : Ending) (w' : World) : Prop :=
  ∃ g cap, e = .returned (.slice (some ⟨g, 0, none⟩) (n + l.length) cap) ∧ w'.ownsRow base 5 1 (.slice (some ⟨g, 0, none⟩) (n + l.length) cap) (n + l.length) (xs ++ l.map (Value.int .u8)) ∧
    w.grownBy w' v.ownBlock ∧ (v.ownBlock = some g ∨ w.heap.size ≤ g) ∧ g < w'.heap.size

theorem grown_after {w W w' : World} {row : Option Nat} (hW : Below w.heap.size w W) (h : W.grownBy w' row) : w.grownBy w' row :=
  ⟨h.os.trans hW.os, h.tape.trans hW.tape, h.output.trans hW.output, Nat.le_trans hW.size h.size, fun k hk hne => (h.block k (Nat.lt_of_lt_of_le hk hW.size) hne).trans (hW.block k hk)⟩

theorem lies_after {o : Option Nat} {g H : Nat} (h : o = some g ∨ g = H + 1) : o = some g ∨ H ≤ g := by
  rcases h with h | h
  · exact Or.inl h
  · exact Or.inr (by omega)

theorem ints_one (l : List Int) : ∀ u ∈ l.map (Value.int .u8), u.oneCell' = true := by
  intro v hv
  obtain ⟨n, _, rfl⟩ := List.mem_map.1 hv
  rfl

/-- The digits' text, indexed. -/
def DigitAt (n : Nat) : Prop := ∀ w : World, (Instr.index 9 (.string ⟨#[48, 49, 50, 51, 52, 53, 54, 55, 56, 57, 97, 98, 99, 100, 101, 102]⟩) (.int .i32 (n : Int))).run Try.prog w = .ok (.int .u8 (hexd (n : Int))) w

theorem digit0 : DigitAt 0 := fun w => by
  show (Instr.index 9 (.string ⟨#[48, 49, 50, 51, 52, 53, 54, 55, 56, 57, 97, 98, 99, 100, 101, 102]⟩) (.int .i32 0)).run Try.prog w = .ok (.int .u8 48) w
  kernel_rfl
theorem digit1 : DigitAt 1 := fun w => by
  show (Instr.index 9 (.string ⟨#[48, 49, 50, 51, 52, 53, 54, 55, 56, 57, 97, 98, 99, 100, 101, 102]⟩) (.int .i32 1)).run Try.prog w = .ok (.int .u8 49) w
  kernel_rfl
theorem digit2 : DigitAt 2 := fun w => by
  show (Instr.index 9 (.string ⟨#[48, 49, 50, 51, 52, 53, 54, 55, 56, 57, 97, 98, 99, 100, 101, 102]⟩) (.int .i32 2)).run Try.prog w = .ok (.int .u8 50) w
  kernel_rfl
theorem digit3 : DigitAt 3 := fun w => by
  show (Instr.index 9 (.string ⟨#[48, 49, 50, 51, 52, 53, 54, 55, 56, 57, 97, 98, 99, 100, 101, 102]⟩) (.int .i32 3)).run Try.prog w = .ok (.int .u8 51) w
  kernel_rfl
theorem digit4 : DigitAt 4 := fun w => by
  show (Instr.index 9 (.string ⟨#[48, 49, 50, 51, 52, 53, 54, 55, 56, 57, 97, 98, 99, 100, 101, 102]⟩) (.int .i32 4)).run Try.prog w = .ok (.int .u8 52) w
  kernel_rfl
theorem digit5 : DigitAt 5 := fun w => by
  show (Instr.index 9 (.string ⟨#[48, 49, 50, 51, 52, 53, 54, 55, 56, 57, 97, 98, 99, 100, 101, 102]⟩) (.int .i32 5)).run Try.prog w = .ok (.int .u8 53) w
  kernel_rfl
theorem digit6 : DigitAt 6 := fun w => by
  show (Instr.index 9 (.string ⟨#[48, 49, 50, 51, 52, 53, 54, 55, 56, 57, 97, 98, 99, 100, 101, 102]⟩) (.int .i32 6)).run Try.prog w = .ok (.int .u8 54) w
  kernel_rfl
theorem digit7 : DigitAt 7 := fun w => by
  show (Instr.index 9 (.string ⟨#[48, 49, 50, 51, 52, 53, 54, 55, 56, 57, 97, 98, 99, 100, 101, 102]⟩) (.int .i32 7)).run Try.prog w = .ok (.int .u8 55) w
  kernel_rfl
theorem digit8 : DigitAt 8 := fun w => by
  show (Instr.index 9 (.string ⟨#[48, 49, 50, 51, 52, 53, 54, 55, 56, 57, 97, 98, 99, 100, 101, 102]⟩) (.int .i32 8)).run Try.prog w = .ok (.int .u8 56) w
  kernel_rfl
theorem digit9 : DigitAt 9 := fun w => by
  show (Instr.index 9 (.string ⟨#[48, 49, 50, 51, 52, 53, 54, 55, 56, 57, 97, 98, 99, 100, 101, 102]⟩) (.int .i32 9)).run Try.prog w = .ok (.int .u8 57) w
  kernel_rfl
theorem digit10 : DigitAt 10 := fun w => by
  show (Instr.index 9 (.string ⟨#[48, 49, 50, 51, 52, 53, 54, 55, 56, 57, 97, 98, 99, 100, 101, 102]⟩) (.int .i32 10)).run Try.prog w = .ok (.int .u8 97) w
  kernel_rfl
theorem digit11 : DigitAt 11 := fun w => by
  show (Instr.index 9 (.string ⟨#[48, 49, 50, 51, 52, 53, 54, 55, 56, 57, 97, 98, 99, 100, 101, 102]⟩) (.int .i32 11)).run Try.prog w = .ok (.int .u8 98) w
  kernel_rfl
theorem digit12 : DigitAt 12 := fun w => by
  show (Instr.index 9 (.string ⟨#[48, 49, 50, 51, 52, 53, 54, 55, 56, 57, 97, 98, 99, 100, 101, 102]⟩) (.int .i32 12)).run Try.prog w = .ok (.int .u8 99) w
  kernel_rfl
theorem digit13 : DigitAt 13 := fun w => by
  show (Instr.index 9 (.string ⟨#[48, 49, 50, 51, 52, 53, 54, 55, 56, 57, 97, 98, 99, 100, 101, 102]⟩) (.int .i32 13)).run Try.prog w = .ok (.int .u8 100) w
  kernel_rfl
theorem digit14 : DigitAt 14 := fun w => by
  show (Instr.index 9 (.string ⟨#[48, 49, 50, 51, 52, 53, 54, 55, 56, 57, 97, 98, 99, 100, 101, 102]⟩) (.int .i32 14)).run Try.prog w = .ok (.int .u8 101) w
  kernel_rfl
theorem digit15 : DigitAt 15 := fun w => by
  show (Instr.index 9 (.string ⟨#[48, 49, 50, 51, 52, 53, 54, 55, 56, 57, 97, 98, 99, 100, 101, 102]⟩) (.int .i32 15)).run Try.prog w = .ok (.int .u8 102) w
  kernel_rfl
theorem digit_run (n : Nat) (h : n < 16) : DigitAt n := by
  match n, h with
  | 0, _ => exact digit0
  | 1, _ => exact digit1
  | 2, _ => exact digit2
  | 3, _ => exact digit3
  | 4, _ => exact digit4
  | 5, _ => exact digit5
  | 6, _ => exact digit6
  | 7, _ => exact digit7
  | 8, _ => exact digit8
  | 9, _ => exact digit9
  | 10, _ => exact digit10
  | 11, _ => exact digit11
  | 12, _ => exact digit12
  | 13, _ => exact digit13
  | 14, _ => exact digit14
  | 15, _ => exact digit15
  | n + 16, h => exact absurd h (by omega)

theorem esc_q (v : Value) (n base : Nat) (xs : List Value) (w : World) (hown : w.ownsRow base 5 1 v n xs) (hn : n ≤ 70368744177664) (hb : base ≤ w.heap.size) :
    Calls Try.prog 28 #[v, .int .i32 34] w (Appended w base v n xs [92, 34]) := by
  obtain ⟨i0, hi, hz0, hz1, hz2⟩ := info_parts info5
  go_enter Try.func28, Try.ntmps28
  go_wp2_with (at_builtin; refine wpList_append_lies _ rfl (.tmp 9) (.tmp 12) 22 rfl base 5 i0 (.int .u8 0) 1 1 Try.underlying22 hi hz0 hz1 hz2 rfl (by decide) v n xs rfl (hown.alloc _) ⟨w.heap.size, 0, none⟩ 2 2 [.int .u8 92, .int .u8 34] rfl rfl (World.news_of_block (heap_alloc_new w _)) (ints_one [92, 34]) (by decide) (by unfold maxLen; omega) (by omega) (by simp; omega) (w.heap.size + 1) (by simp) ?_; intro g cap w1 hown1 hgrow hat hlt)
  go_ret
  exact ⟨g, cap, rfl, hown1, grown_after ((Below.refl _ _).alloc (Nat.le_refl _) _) hgrow, lies_after hat, hlt⟩

theorem esc_s (v : Value) (n base : Nat) (xs : List Value) (w : World) (hown : w.ownsRow base 5 1 v n xs) (hn : n ≤ 70368744177664) (hb : base ≤ w.heap.size) :
    Calls Try.prog 28 #[v, .int .i32 92] w (Appended w base v n xs [92, 92]) := by
  obtain ⟨i0, hi, hz0, hz1, hz2⟩ := info_parts info5
  go_enter Try.func28, Try.ntmps28
  go_wp2_with (at_builtin; refine wpList_append_lies _ rfl (.tmp 9) (.tmp 12) 22 rfl base 5 i0 (.int .u8 0) 1 1 Try.underlying22 hi hz0 hz1 hz2 rfl (by decide) v n xs rfl (hown.alloc _) ⟨w.heap.size, 0, none⟩ 2 2 [.int .u8 92, .int .u8 92] rfl rfl (World.news_of_block (heap_alloc_new w _)) (ints_one [92, 92]) (by decide) (by unfold maxLen; omega) (by omega) (by simp; omega) (w.heap.size + 1) (by simp) ?_; intro g cap w1 hown1 hgrow hat hlt)
  go_ret
  exact ⟨g, cap, rfl, hown1, grown_after ((Below.refl _ _).alloc (Nat.le_refl _) _) hgrow, lies_after hat, hlt⟩

theorem esc_b (v : Value) (n base : Nat) (xs : List Value) (w : World) (hown : w.ownsRow base 5 1 v n xs) (hn : n ≤ 70368744177664) (hb : base ≤ w.heap.size) :
    Calls Try.prog 28 #[v, .int .i32 8] w (Appended w base v n xs [92, 98]) := by
  obtain ⟨i0, hi, hz0, hz1, hz2⟩ := info_parts info5
  go_enter Try.func28, Try.ntmps28
  go_wp2_with (at_builtin; refine wpList_append_lies _ rfl (.tmp 16) (.tmp 17) 22 rfl base 5 i0 (.int .u8 0) 1 1 Try.underlying22 hi hz0 hz1 hz2 rfl (by decide) v n xs rfl (hown.alloc _) ⟨w.heap.size, 0, none⟩ 2 2 [.int .u8 92, .int .u8 98] rfl rfl (World.news_of_block (heap_alloc_new w _)) (ints_one [92, 98]) (by decide) (by unfold maxLen; omega) (by omega) (by simp; omega) (w.heap.size + 1) (by simp) ?_; intro g cap w1 hown1 hgrow hat hlt)
  go_ret
  exact ⟨g, cap, rfl, hown1, grown_after ((Below.refl _ _).alloc (Nat.le_refl _) _) hgrow, lies_after hat, hlt⟩

theorem esc_f (v : Value) (n base : Nat) (xs : List Value) (w : World) (hown : w.ownsRow base 5 1 v n xs) (hn : n ≤ 70368744177664) (hb : base ≤ w.heap.size) :
    Calls Try.prog 28 #[v, .int .i32 12] w (Appended w base v n xs [92, 102]) := by
  obtain ⟨i0, hi, hz0, hz1, hz2⟩ := info_parts info5
  go_enter Try.func28, Try.ntmps28
  go_wp2_with (at_builtin; refine wpList_append_lies _ rfl (.tmp 21) (.tmp 22) 22 rfl base 5 i0 (.int .u8 0) 1 1 Try.underlying22 hi hz0 hz1 hz2 rfl (by decide) v n xs rfl (hown.alloc _) ⟨w.heap.size, 0, none⟩ 2 2 [.int .u8 92, .int .u8 102] rfl rfl (World.news_of_block (heap_alloc_new w _)) (ints_one [92, 102]) (by decide) (by unfold maxLen; omega) (by omega) (by simp; omega) (w.heap.size + 1) (by simp) ?_; intro g cap w1 hown1 hgrow hat hlt)
  go_ret
  exact ⟨g, cap, rfl, hown1, grown_after ((Below.refl _ _).alloc (Nat.le_refl _) _) hgrow, lies_after hat, hlt⟩

theorem esc_n (v : Value) (n base : Nat) (xs : List Value) (w : World) (hown : w.ownsRow base 5 1 v n xs) (hn : n ≤ 70368744177664) (hb : base ≤ w.heap.size) :
    Calls Try.prog 28 #[v, .int .i32 10] w (Appended w base v n xs [92, 110]) := by
  obtain ⟨i0, hi, hz0, hz1, hz2⟩ := info_parts info5
  go_enter Try.func28, Try.ntmps28
  go_wp2_with (at_builtin; refine wpList_append_lies _ rfl (.tmp 26) (.tmp 27) 22 rfl base 5 i0 (.int .u8 0) 1 1 Try.underlying22 hi hz0 hz1 hz2 rfl (by decide) v n xs rfl (hown.alloc _) ⟨w.heap.size, 0, none⟩ 2 2 [.int .u8 92, .int .u8 110] rfl rfl (World.news_of_block (heap_alloc_new w _)) (ints_one [92, 110]) (by decide) (by unfold maxLen; omega) (by omega) (by simp; omega) (w.heap.size + 1) (by simp) ?_; intro g cap w1 hown1 hgrow hat hlt)
  go_ret
  exact ⟨g, cap, rfl, hown1, grown_after ((Below.refl _ _).alloc (Nat.le_refl _) _) hgrow, lies_after hat, hlt⟩

theorem esc_r (v : Value) (n base : Nat) (xs : List Value) (w : World) (hown : w.ownsRow base 5 1 v n xs) (hn : n ≤ 70368744177664) (hb : base ≤ w.heap.size) :
    Calls Try.prog 28 #[v, .int .i32 13] w (Appended w base v n xs [92, 114]) := by
  obtain ⟨i0, hi, hz0, hz1, hz2⟩ := info_parts info5
  go_enter Try.func28, Try.ntmps28
  go_wp2_with (at_builtin; refine wpList_append_lies _ rfl (.tmp 31) (.tmp 32) 22 rfl base 5 i0 (.int .u8 0) 1 1 Try.underlying22 hi hz0 hz1 hz2 rfl (by decide) v n xs rfl (hown.alloc _) ⟨w.heap.size, 0, none⟩ 2 2 [.int .u8 92, .int .u8 114] rfl rfl (World.news_of_block (heap_alloc_new w _)) (ints_one [92, 114]) (by decide) (by unfold maxLen; omega) (by omega) (by simp; omega) (w.heap.size + 1) (by simp) ?_; intro g cap w1 hown1 hgrow hat hlt)
  go_ret
  exact ⟨g, cap, rfl, hown1, grown_after ((Below.refl _ _).alloc (Nat.le_refl _) _) hgrow, lies_after hat, hlt⟩

theorem esc_t (v : Value) (n base : Nat) (xs : List Value) (w : World) (hown : w.ownsRow base 5 1 v n xs) (hn : n ≤ 70368744177664) (hb : base ≤ w.heap.size) :
    Calls Try.prog 28 #[v, .int .i32 9] w (Appended w base v n xs [92, 116]) := by
  obtain ⟨i0, hi, hz0, hz1, hz2⟩ := info_parts info5
  go_enter Try.func28, Try.ntmps28
  go_wp2_with (at_builtin; refine wpList_append_lies _ rfl (.tmp 36) (.tmp 37) 22 rfl base 5 i0 (.int .u8 0) 1 1 Try.underlying22 hi hz0 hz1 hz2 rfl (by decide) v n xs rfl (hown.alloc _) ⟨w.heap.size, 0, none⟩ 2 2 [.int .u8 92, .int .u8 116] rfl rfl (World.news_of_block (heap_alloc_new w _)) (ints_one [92, 116]) (by decide) (by unfold maxLen; omega) (by omega) (by simp; omega) (w.heap.size + 1) (by simp) ?_; intro g cap w1 hown1 hgrow hat hlt)
  go_ret
  exact ⟨g, cap, rfl, hown1, grown_after ((Below.refl _ _).alloc (Nat.le_refl _) _) hgrow, lies_after hat, hlt⟩

end Go.Proofs.Qxb6000868a.Esc
