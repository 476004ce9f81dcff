import Derived.Test.Qxb6000868aTok
namespace Go.Proofs.Qxb6000868a.Un
open Go.RowKit Esc

/-! ### The walk of the rune model's law -/
theorem left_esc {base : Nat} {w wr : World} {ve vx : Value} {E X : List Int} (T : Two base w wr ve vx E X) (hE : E.length ≤ 1048576) (r : Int) :
    Calls Try.prog 12 #[ve, .int .i32 r] wr fun e w1 => ∃ ve', e = .returned ve' ∧ Two base w w1 ve' vx (E ++ esc r) X :=
  (zzesc_any r ve E.length base _ wr T.1 (by omega) T.2.2.2.2).mono fun _ _ hA => two_left T hA
theorem right_esc {base : Nat} {w wr : World} {ve vx : Value} {E X : List Int} (T : Two base w wr ve vx E X) (hX : X.length ≤ 1048576) (r : Int) :
    Calls Try.prog 12 #[vx, .int .i32 r] wr fun e w1 => ∃ vx', e = .returned vx' ∧ Two base w w1 ve vx' E (X ++ esc r) :=
  (zzesc_any r vx X.length base _ wr T.2.1 (by omega) T.2.2.2.2).mono fun _ _ hA => two_right T hA
theorem left_utf {base : Nat} {w wr : World} {ve vx : Value} {E X : List Int} (T : Two base w wr ve vx E X) (hE : E.length ≤ 1048576) (r : Int) (h0 : 0 ≤ r) (h1 : r ≤ 1114111) :
    Calls Try.prog 18 #[ve, .int .i32 r] wr fun e w1 => ∃ ve', e = .returned ve' ∧ Two base w w1 ve' vx (E ++ utf r) X :=
  (utf_any r h0 h1 ve E.length base _ wr T.1 (by omega) T.2.2.2.2).mono fun _ _ hA => two_left T hA
theorem right_utf {base : Nat} {w wr : World} {ve vx : Value} {E X : List Int} (T : Two base w wr ve vx E X) (hX : X.length ≤ 1048576) (r : Int) (h0 : 0 ≤ r) (h1 : r ≤ 1114111) :
    Calls Try.prog 18 #[vx, .int .i32 r] wr fun e w1 => ∃ vx', e = .returned vx' ∧ Two base w w1 ve vx' E (X ++ utf r) :=
  (utf_any r h0 h1 vx X.length base _ wr T.2.1 (by omega) T.2.2.2.2).mono fun _ _ hA => two_right T hA

/-- What holds of the two texts so far, after k runes. -/
def Sofar (k : Nat) (E X : List Int) : Prop := Tok E X ∧ Byt E ∧ E.length ≤ 6 * k ∧ X.length ≤ 6 * k

theorem sofar_next {k : Nat} {E X e x : List Int} (h : Sofar k E X) (ht : Tok e x) (hb : Byt e) (h1 : e.length ≤ 6) (h2 : x.length ≤ 6) : Sofar (k + 1) (E ++ e) (X ++ x) :=
  ⟨tok_append h.1 ht, byt_append h.2.1 hb, by have := h.2.2.1; rw [List.length_append]; omega, by have := h.2.2.2; rw [List.length_append]; omega⟩

theorem own_shape {base : Nat} {wr : World} {v : Value} {X : List Int} (h : wr.ownsRow base 5 1 v X.length (X.map (Value.int .u8))) :
    ∃ ao cap, v = .slice ao X.length cap ∧ ∀ W : World, W.ownsRow base 5 1 v X.length (X.map (Value.int .u8)) → BytesAt W ao X := by
  rcases h.2 with ⟨rfl, h0⟩ | ⟨g, cap, cur, rfl, _⟩
  · exact ⟨none, 0, by rw [h0], fun W _ => Or.inl (List.eq_nil_of_length_eq_zero h0)⟩
  · exact ⟨_, _, rfl, fun W hW => (bytes_of_owns hW).1⟩

def RunesAt (w : World) (ao : Option Addr) (l : List Int) : Prop :=
  l = [] ∨ ∃ b off, ao = some ⟨b, off, none⟩ ∧ ∀ i, i < l.length → w.cell? ⟨b, off + i, none⟩ = some (.int .i32 (l.getD i 0))
def BoolsAt (w : World) (ao : Option Addr) (l : List Bool) : Prop :=
  l = [] ∨ ∃ b off, ao = some ⟨b, off, none⟩ ∧ ∀ i, i < l.length → w.cell? ⟨b, off + i, none⟩ = some (.bool (l.getD i false))

theorem bound17_yes (a₁ a₂ : Option Addr) (n₁ n₂ c₁ c₂ : Nat) (w : World) (h : n₁ + n₂ ≤ 1048576) :
    Calls Try.prog 17 #[.slice a₁ n₁ c₁, .slice a₂ n₂ c₂] w fun e w' => e = .returned (.bool true) ∧ w = w' := by
  have h1 : ¬ (1048576 : Int) < (n₁ : Int) := by omega
  have h2 : ¬ (1048576 : Int) < (n₂ : Int) := by omega
  have h3 : ¬ (1048576 : Int) < (n₁ : Int) + (n₂ : Int) := by omega
  go_enter Try.func17, Try.ntmps17
  go_wp2
  go_ret
  exact ⟨rfl, rfl⟩

theorem bound17_no (a₁ a₂ : Option Addr) (n₁ n₂ c₁ c₂ : Nat) (w : World) (h : 1048576 < n₁ + n₂) :
    Calls Try.prog 17 #[.slice a₁ n₁ c₁, .slice a₂ n₂ c₂] w fun e w' => e = .returned (.bool false) ∧ w = w' := by
  by_cases h1 : (1048576 : Int) < (n₁ : Int)
  · go_enter Try.func17, Try.ntmps17
    go_wp2
    go_ret
    exact ⟨rfl, rfl⟩
  by_cases h2 : (1048576 : Int) < (n₂ : Int)
  · go_enter Try.func17, Try.ntmps17
    go_wp2
    go_ret
    exact ⟨rfl, rfl⟩
  have h3 : (1048576 : Int) < (n₁ : Int) + (n₂ : Int) := by omega
  go_enter Try.func17, Try.ntmps17
  go_wp2
  go_ret
  exact ⟨rfl, rfl⟩

/-- Too long: the law says true at once. -/
theorem model_long (a₁ a₂ : Option Addr) (n₁ n₂ c₁ c₂ : Nat) (w : World) (h : 65536 < n₁ ∨ 65536 < n₂) :
    Calls Try.prog 5 #[.slice a₁ n₁ c₁, .slice a₂ n₂ c₂] w fun e w' => e = .returned (.bool true) ∧ Below w.heap.size w w' := by
  by_cases hs : 1048576 < n₁ + n₂
  · go_enter Try.func5, Try.ntmps5
    go_wp2_with fail
    refine (bound17_no a₁ a₂ n₁ n₂ c₁ c₂ _ hs).mono ?_
    rintro e w' ⟨rfl, rfl⟩
    go_wp2
    go_ret
    exact ⟨rfl, Below.refl _ _⟩
  have HS := hid (show n₁ + n₂ ≤ 1048576 by omega)
  by_cases h1 : (65536 : Int) < (n₁ : Int)
  · clear h
    go_enter Try.func5, Try.ntmps5
    go_wp2_with fail
    refine (bound17_yes a₁ a₂ n₁ n₂ c₁ c₂ _ HS.out).mono ?_
    rintro e w' ⟨rfl, rfl⟩
    go_wp2
    go_ret
    exact ⟨rfl, Below.refl _ _⟩
  · have h2 : (65536 : Int) < (n₂ : Int) := by omega
    clear h
    go_enter Try.func5, Try.ntmps5
    go_wp2_with fail
    refine (bound17_yes a₁ a₂ n₁ n₂ c₁ c₂ _ HS.out).mono ?_
    rintro e w' ⟨rfl, rfl⟩
    go_wp2
    go_ret
    exact ⟨rfl, Below.refl _ _⟩

end Go.Proofs.Qxb6000868a.Un
