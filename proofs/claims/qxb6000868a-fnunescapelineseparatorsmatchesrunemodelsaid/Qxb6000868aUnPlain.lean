/-
  THE PLAIN LAW OF unescapeLineSeparators: lists of bytes, no Go in sight.
-/
namespace Go.Proofs.Qxb6000868a.Un

/-- What unescapeLineSeparators makes of a text; none: it ends in a backslash with nothing behind it. (The number: as many steps at most.) -/
def un : Nat → List Int → Option (List Int)
  | _, [] => some []
  | 0, _ :: _ => none
  | f + 1, c :: t =>
    if c ≠ 92 then (un f t).map (fun r => c :: r)
    else if t.take 5 = [117, 50, 48, 50, 56] then (un f (t.drop 5)).map (fun r => 226 :: 128 :: 168 :: r)
    else if t.take 5 = [117, 50, 48, 50, 57] then (un f (t.drop 5)).map (fun r => 226 :: 128 :: 169 :: r)
    else match t with
      | [] => none
      | x :: t' => (un f t').map (fun r => 92 :: x :: r)

theorem un_succ (f : Nat) (c : Int) (t : List Int) : un (f + 1) (c :: t) =
    if c ≠ 92 then (un f t).map (fun r => c :: r)
    else if t.take 5 = [117, 50, 48, 50, 56] then (un f (t.drop 5)).map (fun r => 226 :: 128 :: 168 :: r)
    else if t.take 5 = [117, 50, 48, 50, 57] then (un f (t.drop 5)).map (fun r => 226 :: 128 :: 169 :: r)
    else match t with
      | [] => none
      | x :: t' => (un f t').map (fun r => 92 :: x :: r) := by
  cases t with
  | nil => rfl
  | cons x t => rfl

def UnTo (s r : List Int) : Prop := ∃ f, un f s = some r

theorem unTo_nil : UnTo [] [] := ⟨0, rfl⟩

theorem unTo_plain {c : Int} {t r : List Int} (hc : c ≠ 92) (h : UnTo t r) : UnTo (c :: t) (c :: r) := by
  obtain ⟨f, hf⟩ := h
  exact ⟨f + 1, by simp [un, hc, hf]⟩

theorem unTo_56 {t r : List Int} (h : UnTo t r) : UnTo (92 :: 117 :: 50 :: 48 :: 50 :: 56 :: t) (226 :: 128 :: 168 :: r) := by
  obtain ⟨f, hf⟩ := h
  exact ⟨f + 1, by simp [un, hf]⟩

theorem unTo_57 {t r : List Int} (h : UnTo t r) : UnTo (92 :: 117 :: 50 :: 48 :: 50 :: 57 :: t) (226 :: 128 :: 169 :: r) := by
  obtain ⟨f, hf⟩ := h
  exact ⟨f + 1, by simp [un, hf]⟩

theorem unTo_pair {x : Int} {t r : List Int} (h1 : (x :: t).take 5 ≠ [117, 50, 48, 50, 56]) (h2 : (x :: t).take 5 ≠ [117, 50, 48, 50, 57]) (h : UnTo t r) : UnTo (92 :: x :: t) (92 :: x :: r) := by
  obtain ⟨f, hf⟩ := h
  exact ⟨f + 1, by rw [un_succ, if_neg (by simp), if_neg h1, if_neg h2]; simp [hf]⟩

theorem unTo_nil_inv {r : List Int} (h : UnTo [] r) : r = [] := by
  obtain ⟨f, hf⟩ := h
  cases f <;> simp [un] at hf <;> exact hf

theorem unTo_plain_inv {c : Int} {t r : List Int} (hc : c ≠ 92) (h : UnTo (c :: t) r) : ∃ r', r = c :: r' ∧ UnTo t r' := by
  obtain ⟨f, hf⟩ := h
  cases f with
  | zero => simp [un] at hf
  | succ f =>
    rw [un_succ, if_pos hc] at hf
    cases hu : un f t with
    | none => rw [hu] at hf; cases hf
    | some r' => rw [hu] at hf; exact ⟨r', by simpa using hf.symm, f, hu⟩

theorem unTo_56_inv {t r : List Int} (h0 : t.take 5 = [117, 50, 48, 50, 56]) (h : UnTo (92 :: t) r) : ∃ r', r = 226 :: 128 :: 168 :: r' ∧ UnTo (t.drop 5) r' := by
  obtain ⟨f, hf⟩ := h
  cases f with
  | zero => simp [un] at hf
  | succ f =>
    rw [un_succ, if_neg (by simp), if_pos h0] at hf
    cases hu : un f (t.drop 5) with
    | none => rw [hu] at hf; cases hf
    | some r' => rw [hu] at hf; exact ⟨r', by simpa using hf.symm, f, hu⟩

theorem unTo_57_inv {t r : List Int} (h0 : t.take 5 = [117, 50, 48, 50, 57]) (h : UnTo (92 :: t) r) : ∃ r', r = 226 :: 128 :: 169 :: r' ∧ UnTo (t.drop 5) r' := by
  obtain ⟨f, hf⟩ := h
  cases f with
  | zero => simp [un] at hf
  | succ f =>
    rw [un_succ, if_neg (by simp), if_neg (by rw [h0]; decide), if_pos h0] at hf
    cases hu : un f (t.drop 5) with
    | none => rw [hu] at hf; cases hf
    | some r' => rw [hu] at hf; exact ⟨r', by simpa using hf.symm, f, hu⟩

theorem unTo_pair_inv {t r : List Int} (h1 : t.take 5 ≠ [117, 50, 48, 50, 56]) (h2 : t.take 5 ≠ [117, 50, 48, 50, 57]) (h : UnTo (92 :: t) r) : ∃ x t' r', t = x :: t' ∧ r = 92 :: x :: r' ∧ UnTo t' r' := by
  obtain ⟨f, hf⟩ := h
  cases f with
  | zero => simp [un] at hf
  | succ f =>
    rw [un_succ, if_neg (by simp), if_neg h1, if_neg h2] at hf
    cases t with
    | nil => simp at hf
    | cons x t' =>
      simp only at hf
      cases hu : un f t' with
      | none => rw [hu] at hf; cases hf
      | some r' => rw [hu] at hf; exact ⟨x, t', r', rfl, by simpa using hf.symm, f, hu⟩

/-! ### Trailing backslashes -/
/-- So many backslashes, and no more, end the text. -/
def IsTrail (l : List Int) (k : Nat) : Prop := k ≤ l.length ∧ (∀ p, l.length - k ≤ p → p < l.length → l.getD p 0 = 92) ∧ (k < l.length → l.getD (l.length - 1 - k) 0 ≠ 92)

theorem isTrail_uniq {l : List Int} {k k' : Nat} (h : IsTrail l k) (h' : IsTrail l k') : k = k' := by
  obtain ⟨a1, a2, a3⟩ := h
  obtain ⟨b1, b2, b3⟩ := h'
  rcases Nat.lt_trichotomy k k' with hlt | heq | hgt
  · exact absurd (b2 (l.length - 1 - k) (by omega) (by omega)) (a3 (by omega))
  · exact heq
  · exact absurd (a2 (l.length - 1 - k') (by omega) (by omega)) (b3 (by omega))

def trail : List Int → Nat
  | [] => 0
  | c :: t => if trail t = t.length ∧ c = 92 then trail t + 1 else trail t

theorem trail_spec : ∀ l : List Int, IsTrail l (trail l)
  | [] => ⟨Nat.le_refl _, fun p _ h => by simp at h, fun h => by simp [trail] at h⟩
  | c :: t => by
    obtain ⟨a1, a2, a3⟩ := trail_spec t
    by_cases h : trail t = t.length ∧ c = 92
    · have e : trail (c :: t) = trail t + 1 := by simp [trail, h]
      rw [e]
      refine ⟨by simpa using a1, fun p _ hp => ?_, fun hlt => ?_⟩
      · cases p with
        | zero => simpa using h.2
        | succ p => simpa using a2 p (by omega) (by simpa using hp)
      · simp at hlt; omega
    · have e : trail (c :: t) = trail t := by simp only [trail]; rw [if_neg h]
      rw [e]
      refine ⟨by simp; omega, fun p hp1 hp => ?_, fun hlt => ?_⟩
      · cases p with
        | zero => simp at hp1; omega
        | succ p => simpa using a2 p (by simp at hp1; omega) (by simpa using hp)
      · by_cases e2 : trail t = t.length
        · have hc : c ≠ 92 := fun hc => h ⟨e2, hc⟩
          simpa [e2] using hc
        · have hlt2 : trail t < t.length := by omega
          have e3 : (c :: t).length - 1 - trail t = (t.length - 1 - trail t) + 1 := by simp; omega
          rw [e3]
          simpa using a3 hlt2

theorem trail_eq {l : List Int} {k : Nat} (h : IsTrail l k) : trail l = k := isTrail_uniq (trail_spec l) h

theorem trail_le (l : List Int) : trail l ≤ l.length := (trail_spec l).1

theorem trail_cons {c : Int} (t : List Int) (hc : c ≠ 92) : trail (c :: t) = trail t := by
  simp [trail, hc]

/-- A text that does not end in an odd run of backslashes has an answer; it is shorter by a multiple of three; without a backslash it is the text itself. -/
theorem unTo_of_even : ∀ (n : Nat) (l : List Int), l.length ≤ n → trail l % 2 = 0 → ∃ r, UnTo l r ∧ r.length ≤ l.length ∧ (l.length - r.length) % 3 = 0 ∧ ((∀ c ∈ l, c ≠ 92) → r = l)
  | _, [], _, _ => ⟨[], unTo_nil, Nat.le_refl _, by simp, fun _ => rfl⟩
  | 0, _ :: _, h, _ => by simp at h
  | n + 1, c :: t, hn, he => by
    have hnt : t.length ≤ n := by simpa using hn
    by_cases hc : c ≠ 92
    · rw [trail_cons t hc] at he
      obtain ⟨r, h1, h2, h3, h4⟩ := unTo_of_even n t hnt he
      exact ⟨c :: r, unTo_plain hc h1, by simpa using h2, by simpa using h3, fun h => by rw [h4 (fun x hx => h x (by simp [hx]))]⟩
    · have hc : c = 92 := Decidable.of_not_not hc
      subst hc
      have tail5 : ∀ d : Int, d ≠ 92 → t.take 5 = [117, 50, 48, 50, d] → t = 117 :: 50 :: 48 :: 50 :: d :: t.drop 5 ∧ trail (t.drop 5) % 2 = 0 ∧ (t.drop 5).length + 5 = t.length := by
        intro d hd h5
        have e : t = 117 :: 50 :: 48 :: 50 :: d :: t.drop 5 := by
          have := List.take_append_drop 5 t
          rw [h5] at this
          exact this.symm
        have hl : (t.drop 5).length + 5 = t.length := by
          have := congrArg List.length e
          simp only [List.length_cons] at this
          omega
        refine ⟨e, ?_, hl⟩
        have h6 : trail t = trail (t.drop 5) := by
          conv => lhs; rw [e]
          rw [trail_cons _ (by decide), trail_cons _ (by decide), trail_cons _ (by decide), trail_cons _ (by decide), trail_cons _ hd]
        have h7 := trail_le (t.drop 5)
        have h8 : trail (92 :: t) = trail t := by
          simp only [trail]
          rw [if_neg (fun h => by have := h.1; omega)]
        rw [h8, h6] at he
        exact he
      by_cases h56 : t.take 5 = [117, 50, 48, 50, 56]
      · obtain ⟨e, ht, hl⟩ := tail5 56 (by decide) h56
        obtain ⟨r, h1, h2, h3, h4⟩ := unTo_of_even n (t.drop 5) (by omega) ht
        refine ⟨226 :: 128 :: 168 :: r, ?_, by simp only [List.length_cons]; omega, by simp only [List.length_cons]; omega, fun h => absurd rfl (h 92 (by simp))⟩
        rw [e]
        exact unTo_56 h1
      by_cases h57 : t.take 5 = [117, 50, 48, 50, 57]
      · obtain ⟨e, ht, hl⟩ := tail5 57 (by decide) h57
        obtain ⟨r, h1, h2, h3, h4⟩ := unTo_of_even n (t.drop 5) (by omega) ht
        refine ⟨226 :: 128 :: 169 :: r, ?_, by simp only [List.length_cons]; omega, by simp only [List.length_cons]; omega, fun h => absurd rfl (h 92 (by simp))⟩
        rw [e]
        exact unTo_57 h1
      match t, hnt, he, h56, h57 with
      | [], _, he, _, _ => simp [trail] at he
      | x :: t', hnt, he, h56, h57 =>
        have hev : trail t' % 2 = 0 := by
          have hle := trail_le t'
          simp only [trail, List.length_cons] at he
          by_cases hx : trail t' = t'.length ∧ x = 92
          · rw [if_pos hx] at he
            rw [if_pos ⟨by omega, trivial⟩] at he
            omega
          · rw [if_neg hx] at he
            rw [if_neg (fun h => by have := h.1; omega)] at he
            exact he
        obtain ⟨r, h1, h2, h3, h4⟩ := unTo_of_even n t' (by simp at hnt; omega) hev
        exact ⟨92 :: x :: r, unTo_pair h56 h57 h1, by simp only [List.length_cons]; omega, by simp only [List.length_cons]; omega, fun h => absurd rfl (h 92 (by simp))⟩

end Go.Proofs.Qxb6000868a.Un
