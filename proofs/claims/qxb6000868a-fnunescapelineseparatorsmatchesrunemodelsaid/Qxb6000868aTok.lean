import Derived.Test.Qxb6000868aInj
import Derived.Test.Qxb6000868aUtf
import Derived.Test.Qxb6000868aUnAll
namespace Go.Proofs.Qxb6000868a.Un
open Go.RowKit Esc

/-! ### The plain law: a text of runes, raw or escaped -/
/-- The piece e, wherever it stands ahead of a text that has an answer, becomes x. -/
def Tok (e x : List Int) : Prop := ∀ t r, UnTo t r → UnTo (e ++ t) (x ++ r)

theorem tok_nil : Tok [] [] := fun _ _ h => h

theorem tok_append {e x e' x' : List Int} (h : Tok e x) (h' : Tok e' x') : Tok (e ++ e') (x ++ x') := fun t r ht => by
  rw [List.append_assoc, List.append_assoc]
  exact h _ _ (h' _ _ ht)

theorem tok_plain : ∀ e : List Int, (∀ c ∈ e, c ≠ 92) → Tok e e
  | [], _ => tok_nil
  | c :: e, h => fun t r ht => unTo_plain (h c (by simp)) (tok_plain e (fun x hx => h x (by simp [hx])) t r ht)

theorem tok_utf (r : Int) (h : r ≠ 92) : Tok (utf r) (utf r) := by
  apply tok_plain
  intro c hc
  unfold utf at hc
  split at hc
  · simp at hc; omega
  split at hc
  · simp at hc; omega
  split at hc
  · simp at hc; omega
  · simp at hc; omega

theorem hex_ne {c : Int} (h : IsHex c) : c ≠ 92 := by unfold IsHex at h; omega

theorem tok_short (c : Int) (h : c ≠ 117) : Tok [92, c] [92, c] := fun t r ht => by
  refine unTo_pair ?_ ?_ ht
  · intro h'; simp at h'; exact h h'.1
  · intro h'; simp at h'; exact h h'.1

theorem tok_long (a b c d : Int) (ha : IsHex a) (hb : IsHex b) (hc : IsHex c) (hd : IsHex d) (hn : ∀ z : Int, z = 56 ∨ z = 57 → ¬ (a = 50 ∧ b = 48 ∧ c = 50 ∧ d = z)) : Tok [92, 117, a, b, c, d] [92, 117, a, b, c, d] := fun t r ht => by
  refine unTo_pair ?_ ?_ (unTo_plain (hex_ne ha) (unTo_plain (hex_ne hb) (unTo_plain (hex_ne hc) (unTo_plain (hex_ne hd) ht))))
  · intro h'; simp at h'; exact hn 56 (Or.inl rfl) h'
  · intro h'; simp at h'; exact hn 57 (Or.inr rfl) h'

theorem tok_esc (r : Int) (h0 : 0 ≤ r) (h1 : r ≤ 65535) (g1 : r ≠ 8232) (g2 : r ≠ 8233) : Tok (esc r) (esc r) := by
  unfold esc
  split
  · exact tok_short 34 (by decide)
  split
  · exact tok_short 92 (by decide)
  split
  · exact tok_short 98 (by decide)
  split
  · exact tok_short 102 (by decide)
  split
  · exact tok_short 110 (by decide)
  split
  · exact tok_short 114 (by decide)
  split
  · exact tok_short 116 (by decide)
  refine tok_long _ _ _ _ (hexd_hex _ (by omega) (by omega)) (hexd_hex _ (by omega) (by omega)) (hexd_hex _ (by omega) (by omega)) (hexd_hex _ (by omega) (by omega)) ?_
  rintro z hz ⟨ha, hb, hc, hd⟩
  have ka : r / 4096 % 16 = 2 := hexd_inj (by omega) (by omega) (by omega) (by omega) (ha.trans (by decide : (50 : Int) = hexd 2))
  have kb : r / 256 % 16 = 0 := hexd_inj (by omega) (by omega) (by omega) (by omega) (hb.trans (by decide : (48 : Int) = hexd 0))
  have kc : r / 16 % 16 = 2 := hexd_inj (by omega) (by omega) (by omega) (by omega) (hc.trans (by decide : (50 : Int) = hexd 2))
  rcases hz with rfl | rfl
  · have kd : r % 16 = 8 := hexd_inj (by omega) (by omega) (by omega) (by omega) (hd.trans (by decide : (56 : Int) = hexd 8))
    omega
  · have kd : r % 16 = 9 := hexd_inj (by omega) (by omega) (by omega) (by omega) (hd.trans (by decide : (57 : Int) = hexd 9))
    omega

theorem tok_2028 : Tok (esc 8232) (utf 8232) := fun _ _ ht => unTo_56 ht
theorem tok_2029 : Tok (esc 8233) (utf 8233) := fun _ _ ht => unTo_57 ht

theorem byt_append {l k : List Int} (h : Byt l) (h' : Byt k) : Byt (l ++ k) := fun c hc => by
  rcases List.mem_append.1 hc with h1 | h1
  · exact h c h1
  · exact h' c h1

theorem byt_utf (r : Int) (h0 : 0 ≤ r) (h1 : r ≤ 1114111) : Byt (utf r) := by
  intro c hc
  unfold utf at hc
  split at hc
  · simp at hc; omega
  split at hc
  · simp at hc; omega
  split at hc
  · simp at hc; omega
  · simp at hc; omega

theorem byt_esc (r : Int) : Byt (esc r) := by
  intro x hx
  rcases esc_shape r with ⟨c, e, hc⟩ | ⟨a, b, c, d, e, k1, k2, k3, k4⟩
  · rw [e] at hx; simp at hx; omega
  · rw [e] at hx; unfold IsHex at k1 k2 k3 k4; simp at hx; omega

theorem utf_len (r : Int) : (utf r).length ≤ 6 := by
  unfold utf
  split
  · simp
  split
  · simp
  split
  · simp
  · simp

theorem esc_len6 (r : Int) : (esc r).length ≤ 6 := by have := esc_len r; omega

/-! ### Two rows of the call's own -/
/-- 've' owns E, 'vx' owns X, in rows of their own; below 'base' nothing has turned. -/
def Two (base : Nat) (w wr : World) (ve vx : Value) (E X : List Int) : Prop :=
  wr.ownsRow base 5 1 ve E.length (E.map (Value.int .u8)) ∧ wr.ownsRow base 5 1 vx X.length (X.map (Value.int .u8)) ∧ (∀ a b, ve.ownBlock = some a → vx.ownBlock = some b → a ≠ b) ∧ Below base w wr ∧ base ≤ wr.heap.size

theorem two_left {base : Nat} {w wr w1 : World} {ve vx : Value} {E X l : List Int} {e : Ending} (h : Two base w wr ve vx E X) (hA : Appended wr base ve E.length (E.map (Value.int .u8)) l e w1) :
    ∃ ve', e = .returned ve' ∧ Two base w w1 ve' vx (E ++ l) X := by
  obtain ⟨h1, h2, h3, h4, h5⟩ := h
  obtain ⟨g, cap, rfl, a1, a2, a3, a4⟩ := hA
  refine ⟨_, rfl, ?_, ?_, ?_, h4.grown a2 h5 (fun k hk => (h1.lt k hk).1), Nat.le_trans h5 a2.size⟩
  · rw [List.length_append, List.map_append]; exact a1
  · refine h2.kept a2 ?_
    cases hb : vx.ownBlock with
    | none => exact Or.inl rfl
    | some b => exact Or.inr (fun he => h3 b b he.symm hb rfl)
  · intro a b ha hb
    obtain rfl : g = a := by simpa [Value.ownBlock] using ha
    rcases a3 with a3 | a3
    · exact h3 _ _ a3 hb
    · have := (h2.lt b hb).2
      omega

theorem two_right {base : Nat} {w wr w1 : World} {ve vx : Value} {E X l : List Int} {e : Ending} (h : Two base w wr ve vx E X) (hA : Appended wr base vx X.length (X.map (Value.int .u8)) l e w1) :
    ∃ vx', e = .returned vx' ∧ Two base w w1 ve vx' E (X ++ l) := by
  have hs : Two base w wr vx ve X E := ⟨h.2.1, h.1, fun a b ha hb e => h.2.2.1 b a hb ha e.symm, h.2.2.2⟩
  obtain ⟨vx', he, t⟩ := two_left hs hA
  exact ⟨vx', he, t.2.1, t.1, fun a b ha hb e => t.2.2.1 b a hb ha e.symm, t.2.2.2⟩

end Go.Proofs.Qxb6000868a.Un
