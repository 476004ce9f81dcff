import Derived.Test.Qxb6000868aEsc
import Derived.Test.Qxb6000868aMask
namespace Go.Proofs.Qxb6000868a.Esc
open Go.RowKit

set_option maxHeartbeats 2000000 in
theorem esc_hex (r : Int) (a b c d : Nat) (v : Value) (n base : Nat) (xs : List Value) (w : World) (hown : w.ownsRow base 5 1 v n xs) (hn : n ≤ 70368744177664) (hbs : base ≤ w.heap.size)
    (g1 : (r == 34) = false) (g2 : (r == 92) = false) (g3 : (r == 8) = false) (g4 : (r == 12) = false) (g5 : (r == 10) = false) (g6 : (r == 13) = false) (g7 : (r == 9) = false)
    (ea : bits BinOp.and IntKind.i32 (r / 4096) 15 = (a : Int)) (eb : bits BinOp.and IntKind.i32 (r / 256) 15 = (b : Int)) (ec : bits BinOp.and IntKind.i32 (r / 16) 15 = (c : Int)) (ed : bits BinOp.and IntKind.i32 r 15 = (d : Int))
    (ha : a < 16) (hb : b < 16) (hc : c < 16) (hd : d < 16) :
    Calls Try.prog 28 #[v, .int .i32 r] w (Appended w base v n xs [92, 117, hexd a, hexd b, hexd c, hexd d]) := by
  obtain ⟨i0, hi, hz0, hz1, hz2⟩ := info_parts info5
  have da := fun W => digit_run a ha W
  have db := fun W => digit_run b hb W
  have dc := fun W => digit_run c hc W
  have dd := fun W => digit_run d hd W
  go_enter Try.func28, Try.ntmps28
  go_wp2
  go_region_law (refine step_append_lies _ rfl (.tmp 39) (.tmp 55) 22 rfl base 5 i0 (.int .u8 0) 1 1 Try.underlying22 hi hz0 hz1 hz2 rfl (by decide) v n xs rfl (hown.drew.alloc _) ⟨w.heap.size, 0, none⟩ 6 6 [.int .u8 92, .int .u8 117, .int .u8 (hexd a), .int .u8 (hexd b), .int .u8 (hexd c), .int .u8 (hexd d)] rfl rfl (World.news_of_block (heap_alloc_new w.drew _)) (ints_one [92, 117, hexd a, hexd b, hexd c, hexd d]) (by decide) (by unfold maxLen; omega) (by omega) (by simp; omega) (w.heap.size + 1) (by simp) ?_; intro g cap w1 hown1 hgrow hat hlt)
  all_goals
    go_wp2
    go_ret
    exact ⟨g, cap, rfl, hown1, grown_after ((Below.refl _ _).drew.alloc (Nat.le_refl _) _) hgrow, lies_after hat, hlt⟩

end Go.Proofs.Qxb6000868a.Esc
