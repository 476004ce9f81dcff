import Derived.Test.Qxb6000868aEq
namespace Go.Proofs.Qxb6000868a
open Go.RowKit

theorem short_yes (c : Int) (w : World) (h : c = 34 ∨ c = 92 ∨ c = 47 ∨ c = 98 ∨ c = 102 ∨ c = 110 ∨ c = 114 ∨ c = 116) :
    Calls Try.prog 30 #[.int .u8 c] w fun e w' => e = .returned (.bool true) ∧ w = w' := by
  rcases h with rfl | rfl | rfl | rfl | rfl | rfl | rfl | rfl
  all_goals
    go_enter Try.func30, Try.ntmps30
    go_wp2
    go_ret
    exact ⟨rfl, rfl⟩

/-- A short escape is of a JSON escape's shape. -/
theorem shaped_short (b off cap : Nat) (c : Int) (w : World) (h : c = 34 ∨ c = 92 ∨ c = 47 ∨ c = 98 ∨ c = 102 ∨ c = 110 ∨ c = 114 ∨ c = 116)
    (c0 : w.cell? ⟨b, off, none⟩ = some (.int .u8 92)) (c1 : w.cell? ⟨b, off + 1, none⟩ = some (.int .u8 c)) :
    Calls Try.prog 15 #[.slice (some ⟨b, off, none⟩) 2 cap] w fun e w' => e = .returned (.bool true) ∧ w = w' := by
  have hlo : ¬ c < 32 := by omega
  have hhi : ¬ 126 < c := by omega
  have H : Hid (c = 34 ∨ c = 92 ∨ c = 47 ∨ c = 98 ∨ c = 102 ∨ c = 110 ∨ c = 114 ∨ c = 116) := h
  clear h
  go_enter Try.func15, Try.ntmps15
  go_wp2
  refine wp_loop_rounds 3 ?_
  rw [rounds_succ]
  go_wp2
  rw [rounds_succ]
  go_wp2
  rw [rounds_succ]
  go_wp2_with (go_at_call 30; refine (short_yes _ _ H.out).mono ?_; rintro e w' ⟨rfl, rfl⟩)
  go_ret
  exact ⟨rfl, rfl⟩

/-- A lowercase hexadecimal digit's byte. -/
def IsHex (c : Int) : Prop := (48 ≤ c ∧ c ≤ 57) ∨ (97 ≤ c ∧ c ≤ 102)

set_option maxHeartbeats 1000000 in
/-- A long escape is of a JSON escape's shape. -/
theorem shaped_long (b off cap : Nat) (l : List Int) (w : World) (hx : ∀ k, 2 ≤ k → k < 6 → IsHex (l.getD k 0)) (z0 : l.getD 0 0 = 92) (z1 : l.getD 1 0 = 117)
    (hc : ∀ k, k < 6 → w.cell? ⟨b, off + k, none⟩ = some (.int .u8 (l.getD k 0))) :
    Calls Try.prog 15 #[.slice (some ⟨b, off, none⟩) 6 cap] w fun e w' => e = .returned (.bool true) ∧ w = w' := by
  have c0 : w.cell? ⟨b, off, none⟩ = some (.int .u8 92) := by rw [← z0]; exact hc 0 (by decide)
  have c1 : w.cell? ⟨b, off + 1, none⟩ = some (.int .u8 117) := by rw [← z1]; exact hc 1 (by decide)
  have hp : ∀ k, k < 6 → 32 ≤ l.getD k 0 ∧ l.getD k 0 ≤ 126 := by
    intro k hk
    match k with
    | 0 => omega
    | 1 => omega
    | k + 2 => have := hx (k + 2) (by omega) hk; unfold IsHex at this; omega
  have HX : Hid (∀ k, 2 ≤ k → k < 6 → IsHex (l.getD k 0)) := hx
  have HP : Hid (∀ k, k < 6 → 32 ≤ l.getD k 0 ∧ l.getD k 0 ≤ 126) := hp
  have HC : Hid (∀ k, k < 6 → w.cell? ⟨b, off + k, none⟩ = some (.int .u8 (l.getD k 0))) := hc
  clear hx hp hc z0 z1
  go_enter Try.func15, Try.ntmps15
  go_wp2
  go_loopg [3] 6 (fun n i wr => ∃ k : Nat, k ≤ 6 ∧ n = 6 - k ∧ i = .int .i64 k ∧ w = wr)
  case atStart => exact ⟨0, by omega, rfl, rfl, rfl⟩
  case round =>
    obtain ⟨k, hk, rfl, rfl, rfl⟩ := hrel
    by_cases hlt : k < 6
    · have hlt' : (k : Int) < 6 := by omega
      have g := HC.out k hlt
      have p := HP.out k hlt
      generalize l.getD k 0 = c at g p
      obtain ⟨p1, p2⟩ := p
      have p3 : ¬ c < 32 := by omega
      have p4 : ¬ 126 < c := by omega
      go_wp2
      go_roundg (6 - (k + 1))
      case measure => omega
      case rel => exact ⟨k + 1, by omega, rfl, by go_num, rfl⟩
    · have hlt' : ¬ (k : Int) < 6 := by omega
      go_wp2
      go_loopg [4] 4 (fun n i wr => ∃ k : Nat, 2 ≤ k ∧ k ≤ 6 ∧ n = 6 - k ∧ i = .int .i64 k ∧ w = wr)
      case atStart => exact ⟨2, by omega, by omega, rfl, rfl, rfl⟩
      case round =>
        obtain ⟨j, hj2, hj, rfl, rfl, rfl⟩ := hrel
        by_cases hlj : j < 6
        · have hlj' : (j : Int) < 6 := by omega
          have g := HC.out j hlj
          have p := HX.out j hj2 hlj
          generalize l.getD j 0 = c at g p
          rcases p with ⟨p1, p2⟩ | ⟨p1, p2⟩
          · go_wp2
            go_roundg (6 - (j + 1))
            case measure => omega
            case rel => exact ⟨j + 1, by omega, by omega, rfl, by go_num, rfl⟩
          · have p3 : ¬ c ≤ 57 := by omega
            go_wp2
            go_roundg (6 - (j + 1))
            case measure => omega
            case rel => exact ⟨j + 1, by omega, by omega, rfl, by go_num, rfl⟩
        · have hlj' : ¬ (j : Int) < 6 := by omega
          go_wp2
          go_ret
          exact ⟨rfl, rfl⟩

/-- jl1IsProperPrefix where the first is no shorter. -/
theorem prefix_no (a₁ a₂ : Option Addr) (n₁ n₂ c₁ c₂ : Nat) (w : World) (h : n₂ ≤ n₁) :
    Calls Try.prog 16 #[.slice a₁ n₁ c₁, .slice a₂ n₂ c₂] w fun e w' => e = .returned (.bool false) ∧ ∃ n, w' = w.drewN n := by
  have h1 : (n₂ : Int) ≤ (n₁ : Int) := by omega
  go_enter Try.func16, Try.ntmps16
  go_wp2
  go_ret
  exact ⟨rfl, 0, rfl⟩

/-- jl1IsProperPrefix where the first is shorter: is it the head of the second? -/
theorem prefix_yes (b₁ o₁ b₂ o₂ n₁ n₂ c₁ c₂ : Nat) (l₁ l₂ : List Int) (w : World) (e1 : l₁.length = n₁) (e2 : l₂.length = n₂) (hlt : n₁ < n₂) (hcap : n₂ ≤ c₂) (hl : n₁ ≤ 4611686018427387904)
    (h1 : BytesAt w (some ⟨b₁, o₁, none⟩) l₁) (h2 : BytesAt w (some ⟨b₂, o₂, none⟩) l₂) :
    Calls Try.prog 16 #[.slice (some ⟨b₁, o₁, none⟩) n₁ c₁, .slice (some ⟨b₂, o₂, none⟩) n₂ c₂] w fun e w' => e = .returned (.bool (decide (l₁ = l₂.take n₁))) ∧ ∃ n, w' = w.drewN n := by
  have g1 : ¬ (n₂ : Int) ≤ (n₁ : Int) := by omega
  have g2 : (n₁ : Int) ≤ (c₂ : Int) := by omega
  have E1 : Hid (l₁.length = n₁) := e1
  have E2 : Hid (l₂.length = n₂) := e2
  clear e1 e2
  go_enter Try.func16, Try.ntmps16
  go_wp2_with fail
  refine (equal_any _ _ n₁ n₁ _ _ l₁ (l₂.take n₁) _ E1.out (by rw [List.length_take, E2.out]; omega) hl h1 (h2.take n₁)).mono ?_
  rintro e w' ⟨rfl, n, rfl⟩
  go_wp2
  go_ret
  exact ⟨rfl, n, rfl⟩

end Go.Proofs.Qxb6000868a
