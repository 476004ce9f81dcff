import Derived.Test.Qxb6000868aEsc
import Derived.Test.Qxb6000868aMask
namespace Go.Proofs.Qxb6000868a.Esc
open Go.RowKit

/-- The UTF-8 form of r, 0 ≤ r ≤ 0x10FFFF (a surrogate in three bytes). -/
def utf (r : Int) : List Int :=
  if r < 128 then [r] else if r < 2048 then [192 + r / 64, 128 + r % 64] else if r < 65536 then [224 + r / 4096, 128 + r / 64 % 64, 128 + r % 64]
  else [240 + r / 262144, 128 + r / 4096 % 64, 128 + r / 64 % 64, 128 + r % 64]

theorem i32_or128 (x : Int) (h0 : 0 ≤ x) (h1 : x < 64) : bits .or .i32 128 x = 128 + x := bits_join .i32 31 (by decide) wraps_i32 6 128 x (by decide) (by decide) (by decide) h0 (by omega) (by omega)
theorem i32_or192 (x : Int) (h0 : 0 ≤ x) (h1 : x < 64) : bits .or .i32 192 x = 192 + x := bits_join .i32 31 (by decide) wraps_i32 6 192 x (by decide) (by decide) (by decide) h0 (by omega) (by omega)
theorem i32_or224 (x : Int) (h0 : 0 ≤ x) (h1 : x < 16) : bits .or .i32 224 x = 224 + x := bits_join .i32 31 (by decide) wraps_i32 4 224 x (by decide) (by decide) (by decide) h0 (by omega) (by omega)
theorem i32_or240 (x : Int) (h0 : 0 ≤ x) (h1 : x < 16) : bits .or .i32 240 x = 240 + x := bits_join .i32 31 (by decide) wraps_i32 4 240 x (by decide) (by decide) (by decide) h0 (by omega) (by omega)

set_option maxHeartbeats 1000000 in
theorem utf_1 (r : Int) (hr0 : 0 ≤ r) (h : r < 128) (v : Value) (n base : Nat) (xs : List Value) (w : World) (hown : w.ownsRow base 5 1 v n xs) (hn : n ≤ 70368744177664) (hb : base ≤ w.heap.size) :
    Calls Try.prog 18 #[v, .int .i32 r] w (Appended w base v n xs [r]) := by
  obtain ⟨i0, hi, hz0, hz1, hz2⟩ := info_parts info5
  have u1 := h
  have b0 : 0 ≤ r ∧ r ≤ 255 := by omega
  go_enter Try.func18, Try.ntmps18
  go_wp2_with (at_builtin; refine wpList_append_lies _ rfl (.tmp 7) (.tmp 10) 22 rfl base 5 i0 (.int .u8 0) 1 1 Try.underlying22 hi hz0 hz1 hz2 rfl (by decide) v n xs rfl (hown.alloc _) ⟨w.heap.size, 0, none⟩ 1 1 [.int .u8 (r)] rfl rfl (World.news_of_block (heap_alloc_new w _)) (ints_one [r]) (by decide) (by unfold maxLen; omega) (by omega) (by simp; omega) (w.heap.size + 1) (by simp) ?_; intro g cap w1 hown1 hgrow hat hlt)
  go_ret
  exact ⟨g, cap, rfl, hown1, grown_after ((Below.refl _ _).alloc (Nat.le_refl _) _) hgrow, lies_after hat, hlt⟩

set_option maxHeartbeats 1000000 in
theorem utf_2 (r : Int) (h0 : 128 ≤ r) (h : r < 2048) (v : Value) (n base : Nat) (xs : List Value) (w : World) (hown : w.ownsRow base 5 1 v n xs) (hn : n ≤ 70368744177664) (hb : base ≤ w.heap.size) :
    Calls Try.prog 18 #[v, .int .i32 r] w (Appended w base v n xs [192 + r / 64, 128 + r % 64]) := by
  obtain ⟨i0, hi, hz0, hz1, hz2⟩ := info_parts info5
  have u0 : ¬ r < 128 := by omega
  have u1 := h
  have e1 : bits BinOp.and IntKind.i32 r 63 = r % 64 := i32_and63 r
  have e2 : bits BinOp.or IntKind.i32 128 (r % 64) = 128 + r % 64 := i32_or128 _ (by omega) (by omega)
  have e3 : bits BinOp.or IntKind.i32 192 (r / 64) = 192 + r / 64 := i32_or192 _ (by omega) (by omega)
  have b0 : 0 ≤ 192 + r / 64 ∧ 192 + r / 64 ≤ 255 := by omega
  have b1 : 0 ≤ 128 + r % 64 ∧ 128 + r % 64 ≤ 255 := by omega
  go_enter Try.func18, Try.ntmps18
  go_wp2_with (at_builtin; refine wpList_append_lies _ rfl (.tmp 14) (.tmp 23) 22 rfl base 5 i0 (.int .u8 0) 1 1 Try.underlying22 hi hz0 hz1 hz2 rfl (by decide) v n xs rfl (hown.alloc _) ⟨w.heap.size, 0, none⟩ 2 2 [.int .u8 (192 + r / 64), .int .u8 (128 + r % 64)] rfl rfl (World.news_of_block (heap_alloc_new w _)) (ints_one [192 + r / 64, 128 + r % 64]) (by decide) (by unfold maxLen; omega) (by omega) (by simp; omega) (w.heap.size + 1) (by simp) ?_; intro g cap w1 hown1 hgrow hat hlt)
  go_ret
  exact ⟨g, cap, rfl, hown1, grown_after ((Below.refl _ _).alloc (Nat.le_refl _) _) hgrow, lies_after hat, hlt⟩

set_option maxHeartbeats 1000000 in
theorem utf_3 (r : Int) (h0 : 2048 ≤ r) (h : r < 65536) (v : Value) (n base : Nat) (xs : List Value) (w : World) (hown : w.ownsRow base 5 1 v n xs) (hn : n ≤ 70368744177664) (hb : base ≤ w.heap.size) :
    Calls Try.prog 18 #[v, .int .i32 r] w (Appended w base v n xs [224 + r / 4096, 128 + r / 64 % 64, 128 + r % 64]) := by
  obtain ⟨i0, hi, hz0, hz1, hz2⟩ := info_parts info5
  have u0 : ¬ r < 128 := by omega
  have u2 : ¬ r < 2048 := by omega
  have e1 : bits BinOp.and IntKind.i32 r 63 = r % 64 := i32_and63 r
  have e2 : bits BinOp.or IntKind.i32 128 (r % 64) = 128 + r % 64 := i32_or128 _ (by omega) (by omega)
  have e4 : bits BinOp.and IntKind.i32 (r / 64) 63 = r / 64 % 64 := i32_and63 _
  have e5 : bits BinOp.or IntKind.i32 128 (r / 64 % 64) = 128 + r / 64 % 64 := i32_or128 _ (by omega) (by omega)
  have e3 : bits BinOp.or IntKind.i32 224 (r / 4096) = 224 + r / 4096 := i32_or224 _ (by omega) (by omega)
  have b0 : 0 ≤ 224 + r / 4096 ∧ 224 + r / 4096 ≤ 255 := by omega
  have b1 : 0 ≤ 128 + r / 64 % 64 ∧ 128 + r / 64 % 64 ≤ 255 := by omega
  have b2 : 0 ≤ 128 + r % 64 ∧ 128 + r % 64 ≤ 255 := by omega
  go_enter Try.func18, Try.ntmps18
  go_wp2_with (at_builtin; refine wpList_append_lies _ rfl (.tmp 27) (.tmp 41) 22 rfl base 5 i0 (.int .u8 0) 1 1 Try.underlying22 hi hz0 hz1 hz2 rfl (by decide) v n xs rfl (hown.alloc _) ⟨w.heap.size, 0, none⟩ 3 3 [.int .u8 (224 + r / 4096), .int .u8 (128 + r / 64 % 64), .int .u8 (128 + r % 64)] rfl rfl (World.news_of_block (heap_alloc_new w _)) (ints_one [224 + r / 4096, 128 + r / 64 % 64, 128 + r % 64]) (by decide) (by unfold maxLen; omega) (by omega) (by simp; omega) (w.heap.size + 1) (by simp) ?_; intro g cap w1 hown1 hgrow hat hlt)
  go_ret
  exact ⟨g, cap, rfl, hown1, grown_after ((Below.refl _ _).alloc (Nat.le_refl _) _) hgrow, lies_after hat, hlt⟩

set_option maxHeartbeats 1000000 in
theorem utf_4 (r : Int) (h0 : 65536 ≤ r) (h : r ≤ 1114111) (v : Value) (n base : Nat) (xs : List Value) (w : World) (hown : w.ownsRow base 5 1 v n xs) (hn : n ≤ 70368744177664) (hb : base ≤ w.heap.size) :
    Calls Try.prog 18 #[v, .int .i32 r] w (Appended w base v n xs [240 + r / 262144, 128 + r / 4096 % 64, 128 + r / 64 % 64, 128 + r % 64]) := by
  obtain ⟨i0, hi, hz0, hz1, hz2⟩ := info_parts info5
  have u0 : ¬ r < 128 := by omega
  have u2 : ¬ r < 2048 := by omega
  have u3 : ¬ r < 65536 := by omega
  have e1 : bits BinOp.and IntKind.i32 r 63 = r % 64 := i32_and63 r
  have e2 : bits BinOp.or IntKind.i32 128 (r % 64) = 128 + r % 64 := i32_or128 _ (by omega) (by omega)
  have e4 : bits BinOp.and IntKind.i32 (r / 64) 63 = r / 64 % 64 := i32_and63 _
  have e5 : bits BinOp.or IntKind.i32 128 (r / 64 % 64) = 128 + r / 64 % 64 := i32_or128 _ (by omega) (by omega)
  have e6 : bits BinOp.and IntKind.i32 (r / 4096) 63 = r / 4096 % 64 := i32_and63 _
  have e7 : bits BinOp.or IntKind.i32 128 (r / 4096 % 64) = 128 + r / 4096 % 64 := i32_or128 _ (by omega) (by omega)
  have e3 : bits BinOp.or IntKind.i32 240 (r / 262144) = 240 + r / 262144 := i32_or240 _ (by omega) (by omega)
  have b0 : 0 ≤ 240 + r / 262144 ∧ 240 + r / 262144 ≤ 255 := by omega
  have b1 : 0 ≤ 128 + r / 4096 % 64 ∧ 128 + r / 4096 % 64 ≤ 255 := by omega
  have b2 : 0 ≤ 128 + r / 64 % 64 ∧ 128 + r / 64 % 64 ≤ 255 := by omega
  have b3 : 0 ≤ 128 + r % 64 ∧ 128 + r % 64 ≤ 255 := by omega
  go_enter Try.func18, Try.ntmps18
  go_wp2_with (at_builtin; refine wpList_append_lies _ rfl (.tmp 43) (.tmp 62) 22 rfl base 5 i0 (.int .u8 0) 1 1 Try.underlying22 hi hz0 hz1 hz2 rfl (by decide) v n xs rfl (hown.alloc _) ⟨w.heap.size, 0, none⟩ 4 4 [.int .u8 (240 + r / 262144), .int .u8 (128 + r / 4096 % 64), .int .u8 (128 + r / 64 % 64), .int .u8 (128 + r % 64)] rfl rfl (World.news_of_block (heap_alloc_new w _)) (ints_one [240 + r / 262144, 128 + r / 4096 % 64, 128 + r / 64 % 64, 128 + r % 64]) (by decide) (by unfold maxLen; omega) (by omega) (by simp; omega) (w.heap.size + 1) (by simp) ?_; intro g cap w1 hown1 hgrow hat hlt)
  go_ret
  exact ⟨g, cap, rfl, hown1, grown_after ((Below.refl _ _).alloc (Nat.le_refl _) _) hgrow, lies_after hat, hlt⟩

/-- jl1AppendUTF8 appends the UTF-8 form of r. -/
theorem utf_any (r : Int) (h0 : 0 ≤ r) (h1 : r ≤ 1114111) (v : Value) (n base : Nat) (xs : List Value) (w : World) (hown : w.ownsRow base 5 1 v n xs) (hn : n ≤ 70368744177664) (hb : base ≤ w.heap.size) :
    Calls Try.prog 18 #[v, .int .i32 r] w (Appended w base v n xs (utf r)) := by
  unfold utf
  by_cases c1 : r < 128
  · rw [if_pos c1]; exact utf_1 r h0 c1 v n base xs w hown hn hb
  rw [if_neg c1]
  by_cases c2 : r < 2048
  · rw [if_pos c2]; exact utf_2 r (by omega) c2 v n base xs w hown hn hb
  rw [if_neg c2]
  by_cases c3 : r < 65536
  · rw [if_pos c3]; exact utf_3 r (by omega) c3 v n base xs w hown hn hb
  · rw [if_neg c3]; exact utf_4 r (by omega) h1 v n base xs w hown hn hb

end Go.Proofs.Qxb6000868a.Esc
