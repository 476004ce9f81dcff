import Derived.Test.Qxb6000868aEsc
namespace Go.Proofs.Qxb6000868a.Esc
open Go.RowKit

/-- jl1Hex at a lowercase hexadecimal digit. -/
theorem hex_any (n : Int) (w : World) (h0 : 0 ≤ n) (h1 : n < 16) :
    Calls Try.prog 29 #[.int .u8 (hexd n)] w fun e w' => e = .returned (.tuple #[.int .i32 n, .bool true]) ∧ w = w' := by
  by_cases h : n < 10
  · have e : hexd n = 48 + n := by simp [hexd, h]
    rw [e]
    have g1 : (48 : Int) ≤ 48 + n := by omega
    have g2 : 48 + n ≤ (57 : Int) := by omega
    clear e
    go_enter Try.func29, Try.ntmps29
    go_wp2
    go_ret2
    exact ⟨by simp; omega, rfl⟩
  · have e : hexd n = 87 + n := by simp [hexd, h]
    rw [e]
    have g1 : (48 : Int) ≤ 87 + n := by omega
    have g2 : ¬ 87 + n ≤ (57 : Int) := by omega
    have g3 : (97 : Int) ≤ 87 + n := by omega
    have g4 : 87 + n ≤ (102 : Int) := by omega
    clear e
    go_enter Try.func29, Try.ntmps29
    go_wp2
    go_ret2
    exact ⟨by simp; omega, rfl⟩

theorem dec_q (b off cap : Nat) (w : World) (c0 : w.cell? ⟨b, off, none⟩ = some (.int .u8 92)) (c1 : w.cell? ⟨b, off + 1, none⟩ = some (.int .u8 34)) :
    Calls Try.prog 14 #[.slice (some ⟨b, off, none⟩) 2 cap] w fun e w' => e = .returned (.tuple #[.int .i32 34, .int .i64 2, .bool true]) ∧ w = w' := by
  go_enter Try.func14, Try.ntmps14
  go_wp2
  go_ret3
  exact ⟨rfl, rfl⟩

theorem dec_s (b off cap : Nat) (w : World) (c0 : w.cell? ⟨b, off, none⟩ = some (.int .u8 92)) (c1 : w.cell? ⟨b, off + 1, none⟩ = some (.int .u8 92)) :
    Calls Try.prog 14 #[.slice (some ⟨b, off, none⟩) 2 cap] w fun e w' => e = .returned (.tuple #[.int .i32 92, .int .i64 2, .bool true]) ∧ w = w' := by
  go_enter Try.func14, Try.ntmps14
  go_wp2
  go_ret3
  exact ⟨rfl, rfl⟩

theorem dec_b (b off cap : Nat) (w : World) (c0 : w.cell? ⟨b, off, none⟩ = some (.int .u8 92)) (c1 : w.cell? ⟨b, off + 1, none⟩ = some (.int .u8 98)) :
    Calls Try.prog 14 #[.slice (some ⟨b, off, none⟩) 2 cap] w fun e w' => e = .returned (.tuple #[.int .i32 8, .int .i64 2, .bool true]) ∧ w = w' := by
  go_enter Try.func14, Try.ntmps14
  go_wp2
  go_ret3
  exact ⟨rfl, rfl⟩

theorem dec_f (b off cap : Nat) (w : World) (c0 : w.cell? ⟨b, off, none⟩ = some (.int .u8 92)) (c1 : w.cell? ⟨b, off + 1, none⟩ = some (.int .u8 102)) :
    Calls Try.prog 14 #[.slice (some ⟨b, off, none⟩) 2 cap] w fun e w' => e = .returned (.tuple #[.int .i32 12, .int .i64 2, .bool true]) ∧ w = w' := by
  go_enter Try.func14, Try.ntmps14
  go_wp2
  go_ret3
  exact ⟨rfl, rfl⟩

theorem dec_n (b off cap : Nat) (w : World) (c0 : w.cell? ⟨b, off, none⟩ = some (.int .u8 92)) (c1 : w.cell? ⟨b, off + 1, none⟩ = some (.int .u8 110)) :
    Calls Try.prog 14 #[.slice (some ⟨b, off, none⟩) 2 cap] w fun e w' => e = .returned (.tuple #[.int .i32 10, .int .i64 2, .bool true]) ∧ w = w' := by
  go_enter Try.func14, Try.ntmps14
  go_wp2
  go_ret3
  exact ⟨rfl, rfl⟩

theorem dec_r (b off cap : Nat) (w : World) (c0 : w.cell? ⟨b, off, none⟩ = some (.int .u8 92)) (c1 : w.cell? ⟨b, off + 1, none⟩ = some (.int .u8 114)) :
    Calls Try.prog 14 #[.slice (some ⟨b, off, none⟩) 2 cap] w fun e w' => e = .returned (.tuple #[.int .i32 13, .int .i64 2, .bool true]) ∧ w = w' := by
  go_enter Try.func14, Try.ntmps14
  go_wp2
  go_ret3
  exact ⟨rfl, rfl⟩

theorem dec_t (b off cap : Nat) (w : World) (c0 : w.cell? ⟨b, off, none⟩ = some (.int .u8 92)) (c1 : w.cell? ⟨b, off + 1, none⟩ = some (.int .u8 116)) :
    Calls Try.prog 14 #[.slice (some ⟨b, off, none⟩) 2 cap] w fun e w' => e = .returned (.tuple #[.int .i32 9, .int .i64 2, .bool true]) ∧ w = w' := by
  go_enter Try.func14, Try.ntmps14
  go_wp2
  go_ret3
  exact ⟨rfl, rfl⟩

set_option maxHeartbeats 1000000 in
theorem dec_hex (b off cap : Nat) (x y z u : Int) (w : World) (c0 : w.cell? ⟨b, off, none⟩ = some (.int .u8 92)) (c1 : w.cell? ⟨b, off + 1, none⟩ = some (.int .u8 117))
    (c2 : w.cell? ⟨b, off + 2, none⟩ = some (.int .u8 (hexd x))) (c3 : w.cell? ⟨b, off + 3, none⟩ = some (.int .u8 (hexd y))) (c4 : w.cell? ⟨b, off + 4, none⟩ = some (.int .u8 (hexd z))) (c5 : w.cell? ⟨b, off + 5, none⟩ = some (.int .u8 (hexd u)))
    (x0 : 0 ≤ x) (x1 : x < 16) (y0 : 0 ≤ y) (y1 : y < 16) (z0 : 0 ≤ z) (z1 : z < 16) (u0 : 0 ≤ u) (u1 : u < 16) :
    Calls Try.prog 14 #[.slice (some ⟨b, off, none⟩) 6 cap] w fun e w' => e = .returned (.tuple #[.int .i32 (x * 4096 + y * 256 + z * 16 + u), .int .i64 6, .bool true]) ∧ w = w' := by
  go_enter Try.func14, Try.ntmps14
  go_wp2
  refine wp_loop_rounds 5 ?_
  rw [rounds_succ]
  go_wp2_with (go_at_call 29; refine (hex_any _ _ (by assumption) (by assumption)).mono ?_; rintro e w' ⟨rfl, rfl⟩)
  rw [rounds_succ]
  go_wp2_with (go_at_call 29; refine (hex_any _ _ (by assumption) (by assumption)).mono ?_; rintro e w' ⟨rfl, rfl⟩)
  rw [rounds_succ]
  go_wp2_with (go_at_call 29; refine (hex_any _ _ (by assumption) (by assumption)).mono ?_; rintro e w' ⟨rfl, rfl⟩)
  rw [rounds_succ]
  go_wp2_with (go_at_call 29; refine (hex_any _ _ (by assumption) (by assumption)).mono ?_; rintro e w' ⟨rfl, rfl⟩)
  rw [rounds_succ]
  go_wp2
  go_ret3
  exact ⟨by simp; omega, rfl⟩

/-- jl1DecodeEscape reads the escape of r as r's low 16 bits. -/
theorem dec_esc (r : Int) (b off m cap : Nat) (w : World) (hm : (esc r).length = m) (h : ∀ i, i < m → w.cell? ⟨b, off + i, none⟩ = some (.int .u8 ((esc r).getD i 0))) :
    Calls Try.prog 14 #[.slice (some ⟨b, off, none⟩) m cap] w fun e w' => e = .returned (.tuple #[.int .i32 (r % 65536), .int .i64 m, .bool true]) ∧ w = w' := by
  by_cases hq : r = 34
  · subst hq
    obtain rfl : 2 = m := hm
    exact dec_q b off cap w (by simpa [esc] using h 0 (by decide)) (by simpa [esc] using h 1 (by decide))
  by_cases hs : r = 92
  · subst hs
    obtain rfl : 2 = m := hm
    exact dec_s b off cap w (by simpa [esc] using h 0 (by decide)) (by simpa [esc] using h 1 (by decide))
  by_cases hb : r = 8
  · subst hb
    obtain rfl : 2 = m := hm
    exact dec_b b off cap w (by simpa [esc] using h 0 (by decide)) (by simpa [esc] using h 1 (by decide))
  by_cases hf : r = 12
  · subst hf
    obtain rfl : 2 = m := hm
    exact dec_f b off cap w (by simpa [esc] using h 0 (by decide)) (by simpa [esc] using h 1 (by decide))
  by_cases hn : r = 10
  · subst hn
    obtain rfl : 2 = m := hm
    exact dec_n b off cap w (by simpa [esc] using h 0 (by decide)) (by simpa [esc] using h 1 (by decide))
  by_cases hr : r = 13
  · subst hr
    obtain rfl : 2 = m := hm
    exact dec_r b off cap w (by simpa [esc] using h 0 (by decide)) (by simpa [esc] using h 1 (by decide))
  by_cases ht : r = 9
  · subst ht
    obtain rfl : 2 = m := hm
    exact dec_t b off cap w (by simpa [esc] using h 0 (by decide)) (by simpa [esc] using h 1 (by decide))
  have e : esc r = [92, 117, hexd (r / 4096 % 16), hexd (r / 256 % 16), hexd (r / 16 % 16), hexd (r % 16)] := by
    simp [esc, hq, hs, hb, hf, hn, hr, ht]
  rw [e] at h hm
  obtain rfl : 6 = m := hm
  have ev : r % 65536 = (r / 4096 % 16) * 4096 + (r / 256 % 16) * 256 + (r / 16 % 16) * 16 + r % 16 := by omega
  rw [ev]
  exact dec_hex b off cap _ _ _ _ w (h 0 (by decide)) (h 1 (by decide)) (h 2 (by decide)) (h 3 (by decide)) (h 4 (by decide)) (h 5 (by decide)) (by omega) (by omega) (by omega) (by omega) (by omega) (by omega) (by omega) (by omega)

end Go.Proofs.Qxb6000868a.Esc
