import Derived.Test.Qxb6000868aUnesc
namespace Go.Proofs.Qxb6000868a.Un
open Go.RowKit

/-- unescapeLineSeparators of a value that owns the text l: a value that reads as R. -/
theorem unesc_own (v : Value) (len base : Nat) (l R : List Int) (w : World) (hl : l.length = len) (hlm : len ≤ 4611686018427387904) (bl : Byt l) (hown : w.ownsRow base 5 1 v len (l.map (Value.int .u8))) (hR : UnTo l R) :
    Calls Try.prog 31 #[v] w fun e w' => ∃ ao cap, e = .returned (.slice ao R.length cap) ∧ BytesAt w' ao R ∧ w.grownBy w' v.ownBlock := by
  rcases hown.2 with ⟨rfl, h0⟩ | ⟨g, cap, cur, rfl, _, hg, hnc, hcm, hcs, htake⟩
  · obtain rfl : l = [] := List.eq_nil_of_length_eq_zero (by omega)
    obtain rfl := unTo_nil_inv hR
    refine (unesc_nil w).mono ?_
    rintro e w' ⟨rfl, rfl⟩
    exact ⟨none, 0, rfl, Or.inl rfl, World.grownBy.refl _ _⟩
  · rw [Nat.mul_one] at hcs htake
    have hcur : ∀ p, p < len → cur.toList[p]? = some (.int .u8 (l.getD p 0)) := by
      intro p hp
      have h1 : (cur.toList.take len)[p]? = (l.map (Value.int .u8))[p]? := by rw [htake]
      rw [List.getElem?_take, if_pos hp] at h1
      rw [h1, List.getElem?_map, List.getElem?_eq_getElem (by omega)]
      simp [List.getElem?_eq_getElem (show p < l.length by omega)]
    refine (unesc_row g cap len l R cur.toList w hl hnc (by unfold maxLen at hcm; omega) hlm bl (by simpa using hcs) (by simpa using hg) hcur hR).mono ?_
    rintro e w' ⟨rfl, cur', done, s1, s2, s3, s4, s5, s6, s7, s8, s9, s10⟩
    rw [List.append_nil] at s9
    subst s9
    exact ⟨some ⟨g, 0, none⟩, cap, rfl, Or.inr ⟨g, 0, rfl, fun i hi => by rw [Nat.zero_add, cell_of_row s5]; exact s6 i hi⟩, s10⟩

theorem zzun_own (v : Value) (len base : Nat) (l R : List Int) (w : World) (hl : l.length = len) (hlm : len ≤ 4611686018427387904) (bl : Byt l) (hown : w.ownsRow base 5 1 v len (l.map (Value.int .u8))) (hR : UnTo l R) :
    Calls Try.prog 19 #[v] w fun e w' => ∃ ao cap, e = .returned (.slice ao R.length cap) ∧ BytesAt w' ao R ∧ w.grownBy w' v.ownBlock := by
  have C := unesc_own v len base l R w hl hlm bl hown hR
  clear hown bl hR hl
  go_enter Try.func19, Try.ntmps19
  go_wp2_with fail
  refine C.mono ?_
  rintro e w' ⟨ao, cap, rfl, h1, h2⟩
  go_wp2
  go_ret
  exact ⟨ao, cap, rfl, h1, h2⟩

/-! ### The law's own readers -/
theorem trail_nil (ao : Option Addr) (cap : Nat) (w : World) : Calls Try.prog 21 #[.slice ao 0 cap] w fun e w' => e = .returned (.bool false) ∧ w = w' := by
  go_enter Try.func21, Try.ntmps21
  go_wp2
  refine wp_loop_rounds 1 ?_
  rw [rounds_succ]
  go_wp2
  go_ret
  exact ⟨rfl, rfl⟩

theorem trail_end {l : List Int} {k len : Nat} (hl : l.length = len) (hk : k ≤ len) (h1 : ∀ p, len - k ≤ p → p < len → l.getD p 0 = 92) (h2 : k < len → l.getD (len - 1 - k) 0 ≠ 92) : trail l = k := by
  subst hl
  exact trail_eq ⟨hk, h1, h2⟩

theorem odd_eq (k : Nat) : decide (k % 2 = 1) = ((k : Int) % 2 == 1) := by
  rw [Bool.eq_iff_iff]
  simp
  omega

set_option maxHeartbeats 1000000 in
theorem trail_row (b off len cap : Nat) (l : List Int) (w : World) (hl : l.length = len) (hm : len ≤ 1048576) (hc : ∀ i, i < len → w.cell? ⟨b, off + i, none⟩ = some (.int .u8 (l.getD i 0))) :
    Calls Try.prog 21 #[.slice (some ⟨b, off, none⟩) len cap] w fun e w' => e = .returned (.bool (decide (trail l % 2 = 1))) ∧ w = w' := by
  have HL := hid hl
  have HC := hid hc
  clear hl hc
  go_enter Try.func21, Try.ntmps21
  go_wp2
  go_loopg [3, 4] len (fun n kv i wr => ∃ k : Nat, k ≤ len ∧ n = len - k ∧ kv = .int .i64 k ∧ i = .int .i64 ((len : Int) - 1 - k) ∧ (∀ p, len - k ≤ p → p < len → l.getD p 0 = 92) ∧ w = wr)
  case atStart => exact ⟨0, Nat.zero_le _, rfl, rfl, by go_num, fun p h1 h2 => by omega, rfl⟩
  case round =>
    obtain ⟨k, hk, rfl, rfl, rfl, hp, rfl⟩ := hrel
    have HP := hid hp
    clear hp
    by_cases hlt : k < len
    · have h0 : (0 : Int) ≤ (len : Int) - 1 - k := by omega
      have h1 : (len : Int) - 1 - k < (len : Int) := by omega
      have ci := HC.out (len - 1 - k) (by omega)
      have et : ((len : Int) - 1 - k).toNat = len - 1 - k := by omega
      by_cases h92 : l.getD (len - 1 - k) 0 = 92
      · have HN := hid (show ∀ p, len - (k + 1) ≤ p → p < len → l.getD p 0 = 92 from fun p p1 p2 => by
          by_cases e : p = len - 1 - k
          · rw [e]; exact h92
          · exact HP.out p (by omega) p2)
        rw [h92] at ci
        clear h92
        go_wp2
        go_roundg (len - (k + 1))
        case measure => omega
        case rel => exact ⟨k + 1, by omega, rfl, by go_num, by go_num, HN.out, rfl⟩
      · have HT := hid (trail_end HL.out hk HP.out (fun _ => h92))
        generalize l.getD (len - 1 - k) 0 = c at ci h92
        have hne : (c == 92) = false := by simpa using h92
        clear h92
        go_wp2
        go_ret
        refine ⟨ret_bool ?_, rfl⟩
        rw [HT.out]
        exact odd_eq k
    · have h0 : ¬ (0 : Int) ≤ (len : Int) - 1 - k := by omega
      have HT := hid (trail_end HL.out hk HP.out (fun h => absurd h hlt))
      go_wp2
      go_ret
      refine ⟨ret_bool ?_, rfl⟩
      rw [HT.out]
      exact odd_eq k

/-- jl1TrailingBackslashesOdd, whatever the slice. -/
theorem trail_any (ao : Option Addr) (len cap : Nat) (l : List Int) (w : World) (hl : l.length = len) (hm : len ≤ 1048576) (h : BytesAt w ao l) :
    Calls Try.prog 21 #[.slice ao len cap] w fun e w' => e = .returned (.bool (decide (trail l % 2 = 1))) ∧ w = w' := by
  rcases h with rfl | ⟨b, off, rfl, hc⟩
  · obtain rfl : 0 = len := hl
    exact trail_nil ao cap w
  · exact trail_row b off len cap l w hl hm (fun i hi => hc i (by omega))

theorem has_nil (ao : Option Addr) (cap : Nat) (w : World) : Calls Try.prog 23 #[.slice ao 0 cap] w fun e w' => e = .returned (.bool false) ∧ w = w' := by
  go_enter Try.func23, Try.ntmps23
  go_wp2
  refine wp_loop_rounds 1 ?_
  rw [rounds_succ]
  go_wp2
  go_ret
  exact ⟨rfl, rfl⟩

theorem mem_getD {l : List Int} {c : Int} (h : c ∈ l) : ∃ i, i < l.length ∧ l.getD i 0 = c := by
  obtain ⟨i, hi, rfl⟩ := List.mem_iff_getElem.1 h
  exact ⟨i, hi, by simp [List.getElem?_eq_getElem hi]⟩

theorem getD_mem {l : List Int} {i : Nat} (h : i < l.length) : l.getD i 0 ∈ l := by
  simp [List.getElem?_eq_getElem h]

set_option maxHeartbeats 1000000 in
theorem has_row (b off len cap : Nat) (l : List Int) (w : World) (hl : l.length = len) (hm : len ≤ 1048576) (hc : ∀ i, i < len → w.cell? ⟨b, off + i, none⟩ = some (.int .u8 (l.getD i 0))) :
    Calls Try.prog 23 #[.slice (some ⟨b, off, none⟩) len cap] w fun e w' => e = .returned (.bool (decide (92 ∈ l))) ∧ w = w' := by
  have HL := hid hl
  have HC := hid hc
  clear hl hc
  go_enter Try.func23, Try.ntmps23
  go_wp2
  go_loopg [3] len (fun n i wr => ∃ k : Nat, k ≤ len ∧ n = len - k ∧ i = .int .i64 k ∧ (∀ p, p < k → l.getD p 0 ≠ 92) ∧ w = wr)
  case atStart => exact ⟨0, Nat.zero_le _, rfl, rfl, fun p h1 => by omega, rfl⟩
  case round =>
    obtain ⟨k, hk, rfl, rfl, hp, rfl⟩ := hrel
    have HP := hid hp
    clear hp
    by_cases hlt : k < len
    · have hlt' : (k : Int) < (len : Int) := by omega
      have ci := HC.out k hlt
      by_cases h92 : l.getD k 0 = 92
      · have HT := hid (show decide (92 ∈ l) = true from decide_eq_true (by rw [← h92]; exact getD_mem (by rw [HL.out]; exact hlt)))
        rw [h92] at ci
        clear h92
        go_wp2
        go_ret
        exact ⟨ret_bool HT.out, rfl⟩
      · have HN := hid (show ∀ p, p < k + 1 → l.getD p 0 ≠ 92 from fun p p1 => by
          by_cases e : p = k
          · rw [e]; exact h92
          · exact HP.out p (by omega))
        generalize l.getD k 0 = c at ci h92
        have hne : (c == 92) = false := by simpa using h92
        clear h92
        go_wp2
        go_roundg (len - (k + 1))
        case measure => omega
        case rel => exact ⟨k + 1, by omega, rfl, by go_num, HN.out, rfl⟩
    · have hlt' : ¬ (k : Int) < (len : Int) := by omega
      have HT := hid (show decide (92 ∈ l) = false from decide_eq_false (fun h => by
        obtain ⟨i, hi, he⟩ := mem_getD h
        exact HP.out i (by have := HL.out; omega) he))
      go_wp2
      go_ret
      exact ⟨ret_bool HT.out, rfl⟩

/-- jl1HasBackslash, whatever the slice. -/
theorem has_any (ao : Option Addr) (len cap : Nat) (l : List Int) (w : World) (hl : l.length = len) (hm : len ≤ 1048576) (h : BytesAt w ao l) :
    Calls Try.prog 23 #[.slice ao len cap] w fun e w' => e = .returned (.bool (decide (92 ∈ l))) ∧ w = w' := by
  rcases h with rfl | ⟨b, off, rfl, hc⟩
  · obtain rfl : 0 = len := hl
    exact has_nil ao cap w
  · exact has_row b off len cap l w hl hm (fun i hi => hc i (by omega))

/-! ### The law -/
theorem bound22_yes (a : Option Addr) (len cap : Nat) (w : World) (h : len ≤ 1048576) :
    Calls Try.prog 22 #[.slice a len cap] w fun e w' => e = .returned (.bool true) ∧ w = w' := by
  have h1 : ¬ (1048576 : Int) < (len : Int) := by omega
  go_enter Try.func22, Try.ntmps22
  go_wp2
  go_ret
  exact ⟨rfl, rfl⟩

theorem bound22_no (a : Option Addr) (len cap : Nat) (w : World) (h : 1048576 < len) :
    Calls Try.prog 22 #[.slice a len cap] w fun e w' => e = .returned (.bool false) ∧ w = w' := by
  have h1 : (1048576 : Int) < (len : Int) := by omega
  go_enter Try.func22, Try.ntmps22
  go_wp2
  go_ret
  exact ⟨rfl, rfl⟩

theorem thr_long (a : Option Addr) (len cap : Nat) (w : World) (h : 1048576 < len) :
    Calls Try.prog 7 #[.slice a len cap] w fun e w' => e = .returned (.bool true) ∧ Below w.heap.size w w' := by
  go_enter Try.func7, Try.ntmps7
  go_wp2_with fail
  refine (bound22_no a len cap _ h).mono ?_
  rintro e w' ⟨rfl, rfl⟩
  go_wp2
  go_ret
  exact ⟨rfl, Below.refl _ _⟩

theorem thr_odd (ao : Option Addr) (len cap : Nat) (l : List Int) (w : World) (hl : l.length = len) (hm : len ≤ 1048576) (h : BytesAt w ao l) (ho : trail l % 2 = 1) :
    Calls Try.prog 7 #[.slice ao len cap] w fun e w' => e = .returned (.bool true) ∧ Below w.heap.size w w' := by
  have h1 : ¬ (1048576 : Int) < (len : Int) := by omega
  have HL := hid hl
  have HO := hid (show decide (trail l % 2 = 1) = true from decide_eq_true ho)
  clear hl ho
  go_enter Try.func7, Try.ntmps7
  go_wp2_with fail
  refine (bound22_yes ao len cap _ hm).mono ?_
  rintro e w' ⟨rfl, rfl⟩
  go_wp2_with fail
  refine (trail_any ao len cap l _ HL.out hm h).mono ?_
  rintro e w' ⟨rfl, rfl⟩
  rw [HO.out]
  go_wp2
  go_ret
  exact ⟨rfl, Below.refl _ _⟩

set_option maxHeartbeats 1000000 in
theorem thr_even (ao : Option Addr) (len cap : Nat) (l : List Int) (w : World) (hl : l.length = len) (hm : len ≤ 1048576) (hn : ao = none → len = 0 ∧ cap = 0) (h : BytesAt w ao l) (bl : Byt l) (ho : trail l % 2 = 0) :
    Calls Try.prog 7 #[.slice ao len cap] w fun e w' => e = .returned (.bool true) ∧ Below w.heap.size w w' := by
  have h1 : ¬ (1048576 : Int) < (len : Int) := by omega
  obtain ⟨R, hR, r1, r2, r3⟩ := unTo_of_even len l (by omega) ho
  rw [hl] at r1 r2
  have HL := hid hl
  have HN := hid hn
  have HO := hid (show decide (trail l % 2 = 1) = false from decide_eq_false (by omega))
  have HR := hid hR
  have H3 := hid r3
  have HB := hid bl
  clear hl ho hR r3 hn bl
  go_enter Try.func7, Try.ntmps7
  go_wp2_with fail
  refine (bound22_yes ao len cap _ hm).mono ?_
  rintro e w' ⟨rfl, rfl⟩
  go_wp2_with fail
  refine (trail_any ao len cap l _ HL.out hm h).mono ?_
  rintro e w' ⟨rfl, rfl⟩
  rw [HO.out]
  go_wp2_with fail
  refine (clone_any ao len cap l _ HL.out hm HN.out h).mono ?_
  rintro e w1 ⟨v, rfl, hown, hb1⟩
  go_wp2_with fail
  refine (zzun_own v len w.heap.size l R _ HL.out (by omega) HB.out hown HR.out).mono ?_
  rintro e w2 ⟨ao2, cap2, rfl, B2, hgr2⟩
  have hb := hb1.grown hgr2 hb1.size (fun k hk => (hown.lt k hk).1)
  have B0 := h.below hb
  clear hown hb1 hgr2
  generalize hRn : R.length = rn at *
  have HRn := hid hRn
  clear hRn
  have t1 : ¬ (len : Int) < (rn : Int) := by omega
  have t2 : (((len : Int) - (rn : Int)) % 3 != 0) = false := by
    rw [bne_eq_false_iff_eq]
    omega
  by_cases h92 : 92 ∈ l
  · have D := hid (show decide (92 ∈ l) = true from decide_eq_true h92)
    clear h92
    go_wp2_with fail
    refine (has_any ao len cap l _ HL.out hm B0).mono ?_
    rintro e w3 ⟨rfl, rfl⟩
    rw [D.out]
    go_wp2
    go_ret
    exact ⟨rfl, hb⟩
  · have D := hid (show decide (92 ∈ l) = false from decide_eq_false h92)
    have E := hid (H3.out (fun c hc e => h92 (e ▸ hc)))
    clear h92
    go_wp2_with fail
    refine (has_any ao len cap l _ HL.out hm B0).mono ?_
    rintro e w3 ⟨rfl, rfl⟩
    rw [D.out]
    go_wp2_with fail
    refine (equal_any ao2 ao rn len cap2 cap R l _ HRn.out HL.out (by omega) B2 B0).mono ?_
    rintro e w3 ⟨rfl, n, rfl⟩
    rw [E.out]
    go_wp2
    go_ret
    exact ⟨by simp, below_drewN hb n⟩

end Go.Proofs.Qxb6000868a.Un
