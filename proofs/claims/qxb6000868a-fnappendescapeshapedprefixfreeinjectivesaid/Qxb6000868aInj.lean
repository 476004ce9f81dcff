import Derived.Test.Qxb6000868aEscAll
import Derived.Test.Qxb6000868aShaped
namespace Go.Proofs.Qxb6000868a.Esc
open Go.RowKit

/-! ### The plain law: escapes -/
theorem hexd_hex (n : Int) (h0 : 0 ≤ n) (h1 : n < 16) : IsHex (hexd n) := by
  unfold IsHex hexd; split <;> omega

theorem hexd_inj {a b : Int} (ha : 0 ≤ a) (ha' : a < 16) (hb : 0 ≤ b) (hb' : b < 16) (h : hexd a = hexd b) : a = b := by
  unfold hexd at h; split at h <;> split at h <;> omega

/-- An escape is a short one, or backslash, u and four lowercase hexadecimal digits. -/
theorem esc_shape (r : Int) : (∃ c, esc r = [92, c] ∧ (c = 34 ∨ c = 92 ∨ c = 47 ∨ c = 98 ∨ c = 102 ∨ c = 110 ∨ c = 114 ∨ c = 116)) ∨
    (∃ a b c d, esc r = [92, 117, a, b, c, d] ∧ IsHex a ∧ IsHex b ∧ IsHex c ∧ IsHex d) := by
  by_cases h1 : r = 34
  · exact Or.inl ⟨34, by simp [esc, h1], by omega⟩
  by_cases h2 : r = 92
  · exact Or.inl ⟨92, by simp [esc, h2], by omega⟩
  by_cases h3 : r = 8
  · exact Or.inl ⟨98, by simp [esc, h3], by omega⟩
  by_cases h4 : r = 12
  · exact Or.inl ⟨102, by simp [esc, h4], by omega⟩
  by_cases h5 : r = 10
  · exact Or.inl ⟨110, by simp [esc, h5], by omega⟩
  by_cases h6 : r = 13
  · exact Or.inl ⟨114, by simp [esc, h6], by omega⟩
  by_cases h7 : r = 9
  · exact Or.inl ⟨116, by simp [esc, h7], by omega⟩
  exact Or.inr ⟨_, _, _, _, by simp [esc, h1, h2, h3, h4, h5, h6, h7]; exact ⟨rfl, rfl, rfl, rfl⟩, hexd_hex _ (by omega) (by omega), hexd_hex _ (by omega) (by omega), hexd_hex _ (by omega) (by omega), hexd_hex _ (by omega) (by omega)⟩

theorem esc_len (r : Int) : (esc r).length = 2 ∨ (esc r).length = 6 := by
  rcases esc_shape r with ⟨c, h, _⟩ | ⟨a, b, c, d, h, _⟩ <;> simp [h]

/-- A shorter escape is not the head of a longer one. -/
theorem esc_noprefix (r₁ r₂ : Int) (h : (esc r₁).length < (esc r₂).length) : esc r₁ ≠ (esc r₂).take (esc r₁).length := by
  rcases esc_shape r₁ with ⟨c, h1, hc⟩ | ⟨a, b, c, d, h1, _⟩
  · rcases esc_shape r₂ with ⟨c', h2, _⟩ | ⟨a', b', c', d', h2, _⟩
    · rw [h1, h2] at h; simp at h
    · rw [h1, h2]; simp; omega
  · rcases esc_len r₂ with h2 | h2 <;> rw [h1, h2] at h <;> simp at h

theorem esc_inj (r₁ r₂ : Int) (h1 : 0 ≤ r₁) (h1' : r₁ ≤ 65535) (h2 : 0 ≤ r₂) (h2' : r₂ ≤ 65535) (h : esc r₁ = esc r₂) : r₁ = r₂ := by
  have key : ∀ r : Int, (r = 34 ∧ esc r = [92, 34]) ∨ (r = 92 ∧ esc r = [92, 92]) ∨ (r = 8 ∧ esc r = [92, 98]) ∨ (r = 12 ∧ esc r = [92, 102]) ∨ (r = 10 ∧ esc r = [92, 110]) ∨ (r = 13 ∧ esc r = [92, 114]) ∨ (r = 9 ∧ esc r = [92, 116]) ∨
      esc r = [92, 117, hexd (r / 4096 % 16), hexd (r / 256 % 16), hexd (r / 16 % 16), hexd (r % 16)] := by
    intro r
    by_cases g1 : r = 34
    · exact Or.inl ⟨g1, by simp [esc, g1]⟩
    by_cases g2 : r = 92
    · exact Or.inr (Or.inl ⟨g2, by simp [esc, g2]⟩)
    by_cases g3 : r = 8
    · exact Or.inr (Or.inr (Or.inl ⟨g3, by simp [esc, g3]⟩))
    by_cases g4 : r = 12
    · exact Or.inr (Or.inr (Or.inr (Or.inl ⟨g4, by simp [esc, g4]⟩)))
    by_cases g5 : r = 10
    · exact Or.inr (Or.inr (Or.inr (Or.inr (Or.inl ⟨g5, by simp [esc, g5]⟩))))
    by_cases g6 : r = 13
    · exact Or.inr (Or.inr (Or.inr (Or.inr (Or.inr (Or.inl ⟨g6, by simp [esc, g6]⟩)))))
    by_cases g7 : r = 9
    · exact Or.inr (Or.inr (Or.inr (Or.inr (Or.inr (Or.inr (Or.inl ⟨g7, by simp [esc, g7]⟩))))))
    exact Or.inr (Or.inr (Or.inr (Or.inr (Or.inr (Or.inr (Or.inr (by simp [esc, g1, g2, g3, g4, g5, g6, g7])))))))
  rcases key r₁ with ⟨e1, k1⟩ | ⟨e1, k1⟩ | ⟨e1, k1⟩ | ⟨e1, k1⟩ | ⟨e1, k1⟩ | ⟨e1, k1⟩ | ⟨e1, k1⟩ | k1 <;>
    rcases key r₂ with ⟨e2, k2⟩ | ⟨e2, k2⟩ | ⟨e2, k2⟩ | ⟨e2, k2⟩ | ⟨e2, k2⟩ | ⟨e2, k2⟩ | ⟨e2, k2⟩ | k2 <;>
    rw [k1, k2] at h <;> simp only [List.cons.injEq, and_true, true_and, reduceCtorEq, and_false] at h <;> try omega
  obtain ⟨ha, hb, hc, hd⟩ := h
  have ha := hexd_inj (by omega) (by omega) (by omega) (by omega) ha
  have hb := hexd_inj (by omega) (by omega) (by omega) (by omega) hb
  have hc := hexd_inj (by omega) (by omega) (by omega) (by omega) hc
  have hd := hexd_inj (by omega) (by omega) (by omega) (by omega) hd
  omega

/-! ### The walks -/
/-- What a value owns can be read. -/
theorem bytes_of_owns {w : World} {base g n cap : Nat} {l : List Int} (h : w.ownsRow base 5 1 (.slice (some ⟨g, 0, none⟩) n cap) n (l.map (Value.int .u8))) : BytesAt w (some ⟨g, 0, none⟩) l ∧ l.length = n ∧ n ≤ cap := by
  have hl : l.length = n := by simpa using h.1
  refine ⟨Or.inr ⟨g, 0, rfl, fun i hi => ?_⟩, hl, ?_⟩
  · rw [Nat.zero_add, h.cellAt i (by omega), List.getElem?_map, List.getElem?_eq_getElem hi]
    simp [List.getElem?_eq_getElem hi]
  · rcases h.2 with ⟨h', _⟩ | ⟨g', cap', cur, h', _, _, hc, _⟩
    · cases h'
    · simp at h'; omega

/-- The escape of r in memory of its own. -/
theorem zzesc_nil (r : Int) (w : World) :
    Calls Try.prog 12 #[.slice none 0 0, .int .i32 r] w fun e w' => ∃ g m cap, e = .returned (.slice (some ⟨g, 0, none⟩) m cap) ∧ (esc r).length = m ∧ m ≤ cap ∧ BytesAt w' (some ⟨g, 0, none⟩) (esc r) ∧ Below w.heap.size w w' := by
  refine (zzesc_any r (.slice none 0 0) 0 w.heap.size [] w (World.ownsRow_nil _ _ _ _) (by omega) (Nat.le_refl _)).mono ?_
  rintro e w' ⟨g, cap, rfl, h1, h2, h3, h4⟩
  rw [List.nil_append] at h1
  obtain ⟨k1, k2, k3⟩ := bytes_of_owns h1
  exact ⟨g, _, cap, rfl, k2, k3, k1, (Below.refl _ _).grown h2 (Nat.le_refl _) (by intro k hk; cases hk)⟩

theorem shaped_esc (r : Int) (g m cap : Nat) (w : World) (hm : (esc r).length = m) (h : BytesAt w (some ⟨g, 0, none⟩) (esc r)) :
    Calls Try.prog 15 #[.slice (some ⟨g, 0, none⟩) m cap] w fun e w' => e = .returned (.bool true) ∧ w = w' := by
  subst hm
  rcases h with h | ⟨b, off, hb, h⟩
  · rcases esc_len r with h' | h' <;> rw [h] at h' <;> simp at h'
  simp at hb
  obtain ⟨rfl, rfl⟩ := hb
  rcases esc_shape r with ⟨c, e, hc⟩ | ⟨a, b, c, d, e, k1, k2, k3, k4⟩
  · rw [e] at h ⊢
    exact shaped_short g 0 cap c w hc (by simpa using h 0 (by simp)) (by simpa using h 1 (by simp))
  · rw [e] at h ⊢
    refine shaped_long g 0 cap _ w ?_ rfl rfl h
    intro k hk2 hk6
    have : k = 2 ∨ k = 3 ∨ k = 4 ∨ k = 5 := by omega
    rcases this with rfl | rfl | rfl | rfl
    · exact k1
    · exact k2
    · exact k3
    · exact k4

/-- No escape is the head of a longer one. -/
theorem prefix_esc (r₁ r₂ : Int) (g₁ g₂ m₁ m₂ c₁ c₂ : Nat) (w : World) (e1 : (esc r₁).length = m₁) (e2 : (esc r₂).length = m₂) (hc : m₂ ≤ c₂) (h1 : BytesAt w (some ⟨g₁, 0, none⟩) (esc r₁)) (h2 : BytesAt w (some ⟨g₂, 0, none⟩) (esc r₂)) :
    Calls Try.prog 16 #[.slice (some ⟨g₁, 0, none⟩) m₁ c₁, .slice (some ⟨g₂, 0, none⟩) m₂ c₂] w fun e w' => e = .returned (.bool false) ∧ ∃ n, w' = w.drewN n := by
  by_cases h : m₂ ≤ m₁
  · exact prefix_no _ _ _ _ _ _ w h
  · have hf : decide (esc r₁ = (esc r₂).take m₁) = false := decide_eq_false (by subst e1; exact esc_noprefix r₁ r₂ (by omega))
    rw [← hf]
    exact prefix_yes g₁ 0 g₂ 0 m₁ m₂ c₁ c₂ _ _ w e1 e2 (by omega) hc (by have := esc_len r₁; omega) h1 h2

set_option maxHeartbeats 1000000 in
theorem inj_walk (r₁ r₂ : Int) (w : World) :
    Calls Try.prog 4 #[.int .i32 r₁, .int .i32 r₂] w fun e w' => e = .returned (.bool true) ∧ Below w.heap.size w w' := by
  go_enter Try.func4, Try.ntmps4
  go_wp2_with fail
  refine (zzesc_nil r₁ _).mono ?_
  rintro e w1 ⟨g1, m1, cap1, rfl, hm1, hc1, B1, hb1⟩
  go_wp2_with fail
  refine (zzesc_nil r₂ _).mono ?_
  rintro e w2 ⟨g2, m2, cap2, rfl, hm2, hc2, B2, hb2⟩
  have B1' := B1.below hb2
  have hb := hb1.trans (hb2.mono hb1.size)
  have M1 : Hid ((esc r₁).length = m1) := hm1
  have M2 : Hid ((esc r₂).length = m2) := hm2
  clear B1 hb1 hb2 hm1 hm2
  go_wp2_with fail
  refine (shaped_esc r₁ g1 m1 cap1 _ M1.out B1').mono ?_
  rintro e w' ⟨rfl, rfl⟩
  go_wp2_with fail
  refine (shaped_esc r₂ g2 m2 cap2 _ M2.out B2).mono ?_
  rintro e w' ⟨rfl, rfl⟩
  go_wp2_with fail
  refine (prefix_esc r₁ r₂ g1 g2 m1 m2 cap1 cap2 _ M1.out M2.out hc2 B1' B2).mono ?_
  rintro e w' ⟨rfl, n, rfl⟩
  go_wp2_with fail
  refine (prefix_esc r₂ r₁ g2 g1 m2 m1 cap2 cap1 _ M2.out M1.out hc1 (B2.drewN n) (B1'.drewN n)).mono ?_
  rintro e w' ⟨rfl, n', rfl⟩
  have hfin : Below w.heap.size w (w2.drewN (n + n')) := below_drewN hb _
  by_cases q1 : 0 ≤ r₁
  · by_cases q2 : r₁ ≤ 65535
    · by_cases q3 : 0 ≤ r₂
      · by_cases q4 : r₂ ≤ 65535
        · have hq : decide (esc r₁ = esc r₂) = (r₁ == r₂) := by
            by_cases e : r₁ = r₂
            · subst e; simp
            · rw [decide_eq_false (fun h => e (esc_inj r₁ r₂ q1 q2 q3 q4 h))]; simp [e]
          have HQ : Hid (decide (esc r₁ = esc r₂) = (r₁ == r₂)) := hq
          clear hq
          go_wp2_with fail
          refine (equal_any _ _ m1 m2 cap1 cap2 _ _ _ M1.out M2.out (by have := esc_len r₁; have := M1.out; omega) (B1'.drewN _) (B2.drewN _)).mono ?_
          rintro e w' ⟨rfl, k, rfl⟩
          rw [HQ.out]
          go_wp2
          go_ret
          exact ⟨by simp, below_drewN hb _⟩
        · go_wp2
          go_ret
          exact ⟨rfl, hfin⟩
      · go_wp2
        go_ret
        exact ⟨rfl, hfin⟩
    · go_wp2
      go_ret
      exact ⟨rfl, hfin⟩
  · go_wp2
    go_ret
    exact ⟨rfl, hfin⟩

end Go.Proofs.Qxb6000868a.Esc
