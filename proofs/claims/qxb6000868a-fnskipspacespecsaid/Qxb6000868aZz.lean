import Derived.Test.Qxb6000868aSkip
namespace Go.Proofs.Qxb6000868a
open Go.RowKit

set_option maxHeartbeats 400000 in
theorem zz_past (ao : Option Addr) (len cap pos : Nat) (w : World) (hp : len ≤ pos) :
    Calls Try.prog 25 #[.slice ao len cap, .int .i64 pos] w fun e w' => e = .returned (.int .i64 pos) ∧ Below w.heap.size w w' := by
  go_enter Try.func25, Try.ntmps25
  go_wp2_with fail
  refine (skip_past _ ao len cap pos _ hp (by simp) (by simp)).mono ?_
  rintro e w' ⟨rfl, n, rfl⟩
  go_wp2
  go_ret
  exact ⟨rfl, below_drewN ((Below.refl _ _).alloc (Nat.le_refl _) _) _⟩

set_option maxHeartbeats 400000 in
theorem zz_in (b off len cap pos : Nat) (zs : List Int) (w : World) (hl : len ≤ 1048576) (hb : b < w.heap.size) (hp : pos ≤ len)
    (hc : ∀ i, i < len → w.cell? ⟨b, off + i, none⟩ = some (.int .u8 (zs.getD i 0))) :
    Calls Try.prog 25 #[.slice (some ⟨b, off, none⟩) len cap, .int .i64 pos] w fun e w' => ∃ k : Nat, e = .returned (.int .i64 k) ∧
      pos ≤ k ∧ k ≤ len ∧ (∀ j, pos ≤ j → j < k → spB (zs.getD j 0) = true) ∧ (k < len → spB (zs.getD k 0) = false) ∧ Below w.heap.size w w' := by
  go_enter Try.func25, Try.ntmps25
  go_wp2_with fail
  refine (skip_in _ b off len cap pos zs _ hl hb hp ?_ (by simp) (by simp) (by simp)).mono ?_
  · intro i hi
    rw [World.cell?_alloc_lt _ _ _ hb]; exact hc i hi
  rintro e w' ⟨rfl, k, h1, h2, h3, h4, h5, h6⟩
  go_wp2
  go_ret
  exact ⟨k, rfl, h1, h2, h4, h5, ((Below.refl _ _).alloc (Nat.le_refl _) _).trans h6⟩

end Go.Proofs.Qxb6000868a
