import Derived.Test.Qxb6000868aEscLong
namespace Go.Proofs.Qxb6000868a.Esc
open Go.RowKit

/-- appendEscape appends the bytes of the escape of r, whatever r. -/
theorem esc_any (r : Int) (v : Value) (n base : Nat) (xs : List Value) (w : World) (hown : w.ownsRow base 5 1 v n xs) (hn : n ≤ 70368744177664) (hbs : base ≤ w.heap.size) :
    Calls Try.prog 28 #[v, .int .i32 r] w (Appended w base v n xs (esc r)) := by
  by_cases h1 : r = 34
  · subst h1; exact esc_q v n base xs w hown hn hbs
  by_cases h2 : r = 92
  · subst h2; exact esc_s v n base xs w hown hn hbs
  by_cases h3 : r = 8
  · subst h3; exact esc_b v n base xs w hown hn hbs
  by_cases h4 : r = 12
  · subst h4; exact esc_f v n base xs w hown hn hbs
  by_cases h5 : r = 10
  · subst h5; exact esc_n v n base xs w hown hn hbs
  by_cases h6 : r = 13
  · subst h6; exact esc_r v n base xs w hown hn hbs
  by_cases h7 : r = 9
  · subst h7; exact esc_t v n base xs w hown hn hbs
  have e : esc r = [92, 117, hexd (r / 4096 % 16), hexd (r / 256 % 16), hexd (r / 16 % 16), hexd (r % 16)] := by
    simp [esc, h1, h2, h3, h4, h5, h6, h7]
  rw [e]
  obtain ⟨a, ha⟩ := Int.eq_ofNat_of_zero_le (show 0 ≤ r / 4096 % 16 by omega)
  obtain ⟨b, hb⟩ := Int.eq_ofNat_of_zero_le (show 0 ≤ r / 256 % 16 by omega)
  obtain ⟨c, hc⟩ := Int.eq_ofNat_of_zero_le (show 0 ≤ r / 16 % 16 by omega)
  obtain ⟨d, hd⟩ := Int.eq_ofNat_of_zero_le (show 0 ≤ r % 16 by omega)
  rw [ha, hb, hc, hd]
  exact esc_hex r a b c d v n base xs w hown hn hbs (by simpa using h1) (by simpa using h2) (by simpa using h3) (by simpa using h4) (by simpa using h5) (by simpa using h6) (by simpa using h7)
    (by rw [i32_and15, ha]) (by rw [i32_and15, hb]) (by rw [i32_and15, hc]) (by rw [i32_and15, hd]) (by omega) (by omega) (by omega) (by omega)

/-- ZZAppendEscape: the same. -/
theorem zzesc_any (r : Int) (v : Value) (n base : Nat) (xs : List Value) (w : World) (hown : w.ownsRow base 5 1 v n xs) (hn : n ≤ 70368744177664) (hbs : base ≤ w.heap.size) :
    Calls Try.prog 12 #[v, .int .i32 r] w (Appended w base v n xs (esc r)) := by
  go_enter Try.func12, Try.ntmps12
  go_wp2_with fail
  refine (esc_any r v n base xs _ hown hn hbs).mono ?_
  rintro e w' ⟨g, cap, rfl, h1, h2, h3, h4⟩
  go_wp2
  go_ret
  exact ⟨g, cap, rfl, h1, h2, h3, h4⟩

end Go.Proofs.Qxb6000868a.Esc
