import Derived.Test.Qxb6000868aRows
import Derived.WalkKit
import Derived.ProofKit
import Derived.Below
import Derived.Deep.QuietTactic
import Derived.BigQuiet
import Derived.Deep.LoopGhost
import Derived.WalkSpells
import Derived.WalkSmall
namespace Go.Proofs.Qxb6000868a
open Go.RowKit

/-- AT THE ADDRESS ao THE BYTES l CAN BE READ (an empty list: whatever the address). -/
def BytesAt (w : World) (ao : Option Addr) (l : List Int) : Prop :=
  l = [] ∨ ∃ b off, ao = some ⟨b, off, none⟩ ∧ ∀ i, i < l.length → w.cell? ⟨b, off + i, none⟩ = some (.int .u8 (l.getD i 0))

theorem BytesAt.drewN {w : World} {ao : Option Addr} {l : List Int} (h : BytesAt w ao l) (n : Nat) : BytesAt (w.drewN n) ao l := h

theorem BytesAt.below {w w' : World} {ao : Option Addr} {l : List Int} (h : BytesAt w ao l) (hb : Below w.heap.size w w') : BytesAt w' ao l := by
  rcases h with h | ⟨b, off, h1, h2⟩
  · exact Or.inl h
  · exact Or.inr ⟨b, off, h1, fun i hi => (hb.cell (block_lt_of_cell (h2 i hi))).trans (h2 i hi)⟩

theorem BytesAt.take {w : World} {ao : Option Addr} {l : List Int} (h : BytesAt w ao l) (k : Nat) : BytesAt w ao (l.take k) := by
  rcases h with rfl | ⟨b, off, h1, h2⟩
  · exact Or.inl (by simp)
  · refine Or.inr ⟨b, off, h1, fun i hi => ?_⟩
    rw [List.length_take] at hi
    rw [h2 i (by omega), List.getD_eq_getElem?_getD, List.getD_eq_getElem?_getD, List.getElem?_take, if_pos (by omega)]

theorem getD_eq_of {l₁ l₂ : List Int} (hl : l₁.length = l₂.length) (h : ∀ j, j < l₁.length → l₁.getD j 0 = l₂.getD j 0) : l₁ = l₂ := by
  apply List.ext_getElem hl
  intro i h1 h2
  have := h i h1
  rwa [List.getD_eq_getElem?_getD, List.getD_eq_getElem?_getD, List.getElem?_eq_getElem h1, List.getElem?_eq_getElem h2] at this

theorem drewN_drewN (w : World) (m n : Nat) : (w.drewN m).drewN n = w.drewN (m + n) := by
  simp [World.drewN, Nat.add_assoc]

theorem ret_bool {b c : Bool} (h : c = b) : Ending.returned (.bool b) = .returned (.bool c) := by rw [h]

theorem equal_len (a₁ a₂ : Option Addr) (n₁ n₂ c₁ c₂ : Nat) (w : World) (h : n₁ ≠ n₂) :
    Calls Try.prog 13 #[.slice a₁ n₁ c₁, .slice a₂ n₂ c₂] w fun e w' => e = .returned (.bool false) ∧ ∃ n, w' = w.drewN n := by
  have h1 : ((n₁ : Int) != (n₂ : Int)) = true := by rw [bne_iff_ne]; omega
  go_enter Try.func13, Try.ntmps13
  go_wp2
  go_ret
  exact ⟨rfl, 0, rfl⟩

theorem equal_nil (a₁ a₂ : Option Addr) (c₁ c₂ : Nat) (w : World) :
    Calls Try.prog 13 #[.slice a₁ 0 c₁, .slice a₂ 0 c₂] w fun e w' => e = .returned (.bool true) ∧ ∃ n, w' = w.drewN n := by
  go_enter Try.func13, Try.ntmps13
  go_wp2
  refine wp_loop_rounds 1 ?_
  rw [rounds_succ]
  go_wp2
  go_ret
  exact ⟨rfl, 0, rfl⟩

set_option maxHeartbeats 1000000 in
theorem equal_row (b₁ o₁ b₂ o₂ c₁ c₂ len : Nat) (l₁ l₂ : List Int) (w : World) (hl : len ≤ 4611686018427387904) (e1 : l₁.length = len) (e2 : l₂.length = len)
    (h1 : ∀ i, i < len → w.cell? ⟨b₁, o₁ + i, none⟩ = some (.int .u8 (l₁.getD i 0))) (h2 : ∀ i, i < len → w.cell? ⟨b₂, o₂ + i, none⟩ = some (.int .u8 (l₂.getD i 0))) :
    Calls Try.prog 13 #[.slice (some ⟨b₁, o₁, none⟩) len c₁, .slice (some ⟨b₂, o₂, none⟩) len c₂] w fun e w' => e = .returned (.bool (decide (l₁ = l₂))) ∧ ∃ n, w' = w.drewN n := by
  have hne : ((len : Int) != (len : Int)) = false := by simp
  have E1 : Hid (l₁.length = len) := e1
  have E2 : Hid (l₂.length = len) := e2
  clear e1 e2
  go_enter Try.func13, Try.ntmps13
  go_wp2
  go_loopg [5] len (fun n i wr => ∃ k : Nat, k ≤ len ∧ n = len - k ∧ i = .int .i64 k ∧ (∀ j, j < k → l₁.getD j 0 = l₂.getD j 0) ∧ ∃ m, wr = w.drewN m)
  case atStart => exact ⟨0, Nat.zero_le _, rfl, rfl, fun j h => by omega, 0, rfl⟩
  case round =>
    obtain ⟨k, hk, rfl, rfl, heq, m, rfl⟩ := hrel
    have HQ : Hid (∀ j, j < k → l₁.getD j 0 = l₂.getD j 0) := heq
    clear heq
    by_cases hlt : k < len
    · have hlt' : (k : Int) < (len : Int) := by omega
      have g1 := h1 k hlt
      have g2 := h2 k hlt
      have HX : Hid (∀ x y : Int, l₁.getD k 0 = x → l₂.getD k 0 = y → x = y → ∀ j, j < k + 1 → l₁.getD j 0 = l₂.getD j 0) := by
        intro x y ex ey exy j hj
        by_cases e : j = k
        · subst e; rw [ex, ey, exy]
        · exact HQ.out j (by omega)
      have HY : Hid (∀ x y : Int, l₁.getD k 0 = x → l₂.getD k 0 = y → x ≠ y → decide (l₁ = l₂) = false) := by
        intro x y ex ey exy
        refine decide_eq_false fun h => exy ?_
        rw [← ex, ← ey, h]
      generalize hx : l₁.getD k 0 = x at g1
      generalize hy : l₂.getD k 0 = y at g2
      have HX' := HX.out x y hx hy
      have HY' := HY.out x y hx hy
      have A : Hid ((x = y → ∀ j, j < k + 1 → l₁.getD j 0 = l₂.getD j 0) ∧ (x ≠ y → decide (l₁ = l₂) = false)) := ⟨HX', HY'⟩
      clear HX' HY' HX HY hx hy h1 h2
      by_cases exy : x = y
      · have A1 : Hid (∀ j, j < k + 1 → l₁.getD j 0 = l₂.getD j 0) := A.out.1 exy
        have hbn : (x != y) = false := by rw [exy]; simp
        clear A exy
        go_wp2
        go_quiet (fail)
        go_wp2
        go_roundg (len - (k + 1))
        case measure => omega
        case rel => exact ⟨k + 1, by omega, rfl, by go_num, A1.out, _, rfl⟩
      · have A1 : Hid (decide (l₁ = l₂) = false) := A.out.2 exy
        have hbn : (x != y) = true := by simpa using exy
        clear A exy
        go_wp2
        go_quiet (fail)
        go_wp2
        go_ret
        exact ⟨ret_bool A1.out, _, drewN_drewN _ _ _⟩
    · have hlt' : ¬ (k : Int) < (len : Int) := by omega
      have hk' : k = len := by omega
      have A1 : Hid (decide (l₁ = l₂) = true) := decide_eq_true (getD_eq_of (by rw [E1.out, E2.out]) (fun j hj => HQ.out j (by have := E1.out; omega)))
      clear h1 h2 hk'
      go_wp2
      go_ret
      exact ⟨ret_bool A1.out, _, rfl⟩

/-- jl1Equal, whatever the two slices. -/
theorem equal_any (a₁ a₂ : Option Addr) (n₁ n₂ c₁ c₂ : Nat) (l₁ l₂ : List Int) (w : World) (e1 : l₁.length = n₁) (e2 : l₂.length = n₂) (hl : n₁ ≤ 4611686018427387904) (h1 : BytesAt w a₁ l₁) (h2 : BytesAt w a₂ l₂) :
    Calls Try.prog 13 #[.slice a₁ n₁ c₁, .slice a₂ n₂ c₂] w fun e w' => e = .returned (.bool (decide (l₁ = l₂))) ∧ ∃ n, w' = w.drewN n := by
  subst e1 e2
  by_cases h : l₁.length = l₂.length
  · rcases h1 with rfl | ⟨b₁, o₁, rfl, h1⟩
    · obtain rfl : l₂ = [] := List.eq_nil_of_length_eq_zero h.symm
      exact equal_nil a₁ a₂ c₁ c₂ w
    rcases h2 with rfl | ⟨b₂, o₂, rfl, h2⟩
    · obtain rfl : l₁ = [] := List.eq_nil_of_length_eq_zero h
      exact equal_nil _ _ c₁ c₂ w
    rw [← h]
    exact equal_row b₁ o₁ b₂ o₂ c₁ c₂ _ l₁ l₂ w hl rfl h.symm h1 (fun i hi => h2 i (h ▸ hi))
  · rw [decide_eq_false (fun e => h (by rw [e]))]
    exact equal_len a₁ a₂ _ _ c₁ c₂ w h

end Go.Proofs.Qxb6000868a
