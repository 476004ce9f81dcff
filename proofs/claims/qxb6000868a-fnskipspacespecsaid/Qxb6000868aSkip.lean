import Derived.Test.Qxb6000868aSpace
import Derived.Deep.LoopGhost
import Derived.WalkSmall
namespace Go.Proofs.Qxb6000868a
open Go.RowKit

/-- Past the end: it stays put. -/
theorem skip_past (g : Nat) (ao : Option Addr) (len cap pos : Nat) (w : World) (hp : len ≤ pos)
    (h0 : w.cell? ⟨g, 0, none⟩ = some (.slice ao len cap)) (h1 : w.cell? ⟨g, 1, none⟩ = some (.int .i64 pos)) :
    Calls Try.prog 32 #[.pointer (some ⟨g, 0, none⟩)] w fun e w' => e = .returned (.tuple #[]) ∧ ∃ n, w' = w.drewN n := by
  have h : ¬ (pos : Int) < (len : Int) := by omega
  go_enter Try.func32, Try.ntmps32
  go_wp2
  refine wp_loop_rounds 1 ?_
  rw [rounds_succ]
  go_wp2
  go_quiet (fail)
  go_wp2
  go_end0
  exact ⟨rfl, _, rfl⟩

/-- One blank skipped. -/
theorem skip_step {g b off len cap pos k : Nat} {zs : List Int} {c : Int} {w wr : World} (n : Nat) (hk1 : pos ≤ k) (hlt : k < len)
    (c0 : wr.cell? ⟨g, 0, none⟩ = some (.slice (some ⟨b, off, none⟩) len cap)) (c1 : wr.cell? ⟨g, 1, none⟩ = some (.int .i64 k)) (cf : wr.frozen? ⟨g, 1, none⟩ = false)
    (hc : zs.getD k 0 = c) (hs : ∀ j, pos ≤ j → j < k → spB (zs.getD j 0) = true) (he : spB c = true) (hb : Below g w wr) :
    ∃ k' : Nat, pos ≤ k' ∧ k' ≤ len ∧ len - (k + 1) = len - k' ∧ ((wr.drewN n).setCell ⟨g, 1, none⟩ (.int .i64 ((k : Int) + 1))).cell? ⟨g, 0, none⟩ = some (.slice (some ⟨b, off, none⟩) len cap) ∧
      ((wr.drewN n).setCell ⟨g, 1, none⟩ (.int .i64 ((k : Int) + 1))).cell? ⟨g, 1, none⟩ = some (.int .i64 k') ∧ ((wr.drewN n).setCell ⟨g, 1, none⟩ (.int .i64 ((k : Int) + 1))).frozen? ⟨g, 1, none⟩ = false ∧
      (∀ j, pos ≤ j → j < k' → spB (zs.getD j 0) = true) ∧ Below g w ((wr.drewN n).setCell ⟨g, 1, none⟩ (.int .i64 ((k : Int) + 1))) := by
  have c1' : (wr.drewN n).cell? ⟨g, 1, none⟩ = some (.int .i64 k) := c1
  refine ⟨k + 1, by omega, by omega, rfl, ?_, ?_, ?_, ?_, ?_⟩
  · rw [World.cell?_setCell_other _ _ _ _ (by simp)]; exact c0
  · rw [World.cell?_setCell_same _ _ _ c1']; simp
  · rw [World.frozen?_setCell]; exact cf
  · intro j h1 h2
    by_cases e : j = k
    · subst e; rw [hc]; exact he
    · exact hs j h1 (by omega)
  · exact (below_drewN hb n).setCell (Nat.le_refl _) _

set_option maxHeartbeats 1000000 in
theorem skip_in (g b off len cap pos : Nat) (zs : List Int) (w : World) (hl : len ≤ 1048576) (hbg : b < g) (hp : pos ≤ len)
    (hc : ∀ i, i < len → w.cell? ⟨b, off + i, none⟩ = some (.int .u8 (zs.getD i 0)))
    (h0 : w.cell? ⟨g, 0, none⟩ = some (.slice (some ⟨b, off, none⟩) len cap)) (h1 : w.cell? ⟨g, 1, none⟩ = some (.int .i64 pos)) (hf : w.frozen? ⟨g, 1, none⟩ = false) :
    Calls Try.prog 32 #[.pointer (some ⟨g, 0, none⟩)] w fun e w' => e = .returned (.tuple #[]) ∧
      ∃ k : Nat, pos ≤ k ∧ k ≤ len ∧ w'.cell? ⟨g, 1, none⟩ = some (.int .i64 k) ∧ (∀ j, pos ≤ j → j < k → spB (zs.getD j 0) = true) ∧ (k < len → spB (zs.getD k 0) = false) ∧ Below g w w' := by
  go_enter Try.func32, Try.ntmps32
  go_wp2
  go_loopg [] (len - pos) (fun n wr => ∃ k : Nat, pos ≤ k ∧ k ≤ len ∧ n = len - k ∧ wr.cell? ⟨g, 0, none⟩ = some (.slice (some ⟨b, off, none⟩) len cap) ∧ wr.cell? ⟨g, 1, none⟩ = some (.int .i64 k) ∧ wr.frozen? ⟨g, 1, none⟩ = false ∧ (∀ j, pos ≤ j → j < k → spB (zs.getD j 0) = true) ∧ Below g w wr)
  case atStart => exact ⟨pos, Nat.le_refl _, hp, rfl, h0, h1, hf, fun j a b => by omega, Below.refl _ _⟩
  case round =>
    obtain ⟨k, hk1, hk2, rfl, c0, c1, cf, hsp, hb⟩ := hrel
    by_cases hlt : k < len
    · have hx : wr.cell? ⟨b, off + k, none⟩ = some (.int .u8 (zs.getD k 0)) := (hb.cell hbg).trans (hc k hlt)
      have hlt' : (k : Int) < (len : Int) := by omega
      generalize hcc : zs.getD k 0 = c at hx
      have HC : Hid (zs.getD k 0 = c) := hcc
      have HS : Hid (∀ j, pos ≤ j → j < k → spB (zs.getD j 0) = true) := hsp
      have HB : Hid (Below g w wr) := hb
      clear hcc hsp hb hc
      by_cases e : spB c = true
      · have hd : c = 32 ∨ c = 9 ∨ c = 10 ∨ c = 13 := by simpa [spB] using e
        have HE : Hid (spB c = true) := e
        clear e
        rcases hd with rfl | rfl | rfl | rfl
        all_goals
          go_wp2
          go_quiet (fail)
          go_wp2
          go_quiet (fail)
          go_wp2
          go_roundg (len - (k + 1))
          case measure => omega
          case rel => exact skip_step _ hk1 hlt c0 c1 cf HC.out HS.out HE.out HB.out
      · have hd : ¬ (c = 32 ∨ c = 9 ∨ c = 10 ∨ c = 13) := by simpa [spB] using e
        have HE : Hid (spB c = false) := Bool.eq_false_iff.2 e
        have g1 : (c != 32) = true := by rw [bne_iff_ne]; omega
        have g2 : (c != 9) = true := by rw [bne_iff_ne]; omega
        have g3 : (c != 10) = true := by rw [bne_iff_ne]; omega
        have g4 : (c != 13) = true := by rw [bne_iff_ne]; omega
        clear e hd
        go_wp2
        go_quiet (fail)
        go_wp2
        go_quiet (fail)
        go_wp2
        have hb := HB.out
        have hs := HS.out
        have hk := HC.out
        refine bodyPost_ret (v := .tuple #[]) (by simp [results, Try.results32, go_sem]) rfl ?_
        exact ⟨rfl, k, hk1, hk2, by simpa using c1, hs, fun _ => by rw [hk]; exact HE.out, below_drewN hb _⟩
    · have h' : ¬ (k : Int) < (len : Int) := by omega
      clear hc
      go_wp2
      go_quiet (fail)
      go_wp2
      go_end0
      exact ⟨rfl, k, hk1, hk2, by simpa using c1, hsp, fun h => absurd h hlt, below_drewN hb _⟩
end Go.Proofs.Qxb6000868a
