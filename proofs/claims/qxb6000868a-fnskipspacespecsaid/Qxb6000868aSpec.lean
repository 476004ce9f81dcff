import Derived.Test.Qxb6000868aZz
import Derived.Laws.CopyOwn
namespace Go.Proofs.Qxb6000868a
open Go.RowKit

theorem Try.info5 : (Try.prog.info? 5).map (fun i => (i.zero, i.size, i.bytes)) = some (some (.int .u8 0), 1, 1) := by kernel_rfl
theorem Try.size5 : (Try.prog.info? 5).map (·.size) = some 1 := by kernel_rfl

theorem spec_long (a : Option Addr) (len cap : Nat) (p : Int) (w : World) (h : 1048576 < len) :
    Calls Try.prog 8 #[.slice a len cap, .int .i64 p] w fun e w' => e = .returned (.bool true) ∧ Below w.heap.size w w' := by
  go_enter Try.func8, Try.ntmps8
  go_wp2_with fail
  refine (bound24_no a len cap p _ h).mono ?_
  rintro e w' ⟨rfl, rfl⟩
  go_wp2
  go_ret
  exact ⟨rfl, Below.refl _ _⟩

theorem spec_neg (a : Option Addr) (len cap : Nat) (p : Int) (w : World) (h : len ≤ 1048576) (hp : p < 0) :
    Calls Try.prog 8 #[.slice a len cap, .int .i64 p] w fun e w' => e = .returned (.bool true) ∧ Below w.heap.size w w' := by
  have h1 : ¬ (1048576 : Int) < (len : Int) := by omega
  go_enter Try.func8, Try.ntmps8
  go_wp2_with fail
  refine (bound24_yes a len cap p _ h).mono ?_
  rintro e w' ⟨rfl, rfl⟩
  go_wp2
  go_ret
  exact ⟨rfl, Below.refl _ _⟩

set_option maxHeartbeats 400000 in
theorem spec_nil (p : Nat) (w : World) :
    Calls Try.prog 8 #[.slice none 0 0, .int .i64 p] w fun e w' => e = .returned (.bool true) ∧ Below w.heap.size w w' := by
  have q22 := fun (w : World) (a : Option Addr) (n c n' c' : Nat) => run_neq_slice_nil_any (P := Try.prog) w 22 5 a n c n' c' Try.underlying22
  have h1 : ¬ (p : Int) < 0 := by omega
  have h2 : (0 : Int) ≤ (p : Int) := by omega
  go_enter Try.func8, Try.ntmps8
  go_wp2_with fail
  refine (bound24_yes none 0 0 p _ (by omega)).mono ?_
  rintro e w' ⟨rfl, rfl⟩
  go_wp2_with fail
  refine (zz_past none 0 0 p _ (by omega)).mono ?_
  rintro e w' ⟨rfl, hb⟩
  go_wp2
  go_ret
  exact ⟨by simp, hb⟩

theorem made_block {w' : World} {base g n : Nat} {xs : List Value} (h : w'.ownsRow base 5 1 (.slice (some ⟨g, 0, none⟩) n n) n xs) :
    ∃ cur : List Value, cur.length = n ∧ w'.heap[g]? = some (.cells cur.toArray 5 (0, 0)) := by
  obtain ⟨_, h | ⟨g', cap, cur, hv, _, hh, _, _, hs, _⟩⟩ := h
  · simp at h
  · simp at hv
    obtain ⟨rfl, rfl⟩ := hv
    exact ⟨cur.toList, by simpa using hs, by simpa using hh⟩

theorem splice_whole {α : Type} (L cs : List α) (h : L.length = cs.length) : splice L 0 cs = cs := by
  simp [splice, h]

set_option maxHeartbeats 1000000 in
theorem spec_past (x : Addr) (len cap p : Nat) (cs : List Value) (w : World) (h : len ≤ 1048576) (hp : len ≤ p) (hn : cs.length = len)
    (hsrc : ∀ j v, cs[j]? = some v → w.cell? (x.add j) = some v) (h1 : ∀ v ∈ cs, v.oneCell' = true) :
    Calls Try.prog 8 #[.slice (some x) len cap, .int .i64 p] w fun e w' => e = .returned (.bool true) ∧ Below w.heap.size w w' := by
  have q22 := fun (w : World) (a : Option Addr) (n c n' c' : Nat) => run_neq_slice_nil_any (P := Try.prog) w 22 5 a n c n' c' Try.underlying22
  obtain ⟨i0, hi, hz0, hz1, hz2⟩ := info_parts Try.info5
  have h2 : ¬ (1048576 : Int) < (len : Int) := by omega
  have h3 : ¬ (p : Int) < 0 := by omega
  have h4 : (len : Int) ≤ (p : Int) := by omega
  go_enter Try.func8, Try.ntmps8
  go_wp2_with fail
  refine (bound24_yes _ len cap p _ (by omega)).mono ?_
  rintro e w' ⟨rfl, rfl⟩
  go_wp2_with (first | (at_make; refine wpList_make_full _ rfl (.tmp 20) (.tmp 20) 22 rfl w.heap.size 5 i0 (.int .u8 0) 1 Try.underlying22 hi hz0 hz1 .i64 .i64 _ _ len rfl rfl rfl rfl (by rw [hz2]; omega) (by unfold maxLen; omega) (Nat.le_refl _) ?_; intro w1 hown hgrow; obtain ⟨cur, hcl, hcur⟩ := made_block hown; have hB := (Below.refl w.heap.size w).grown hgrow (Nat.le_refl _) (by simp); clear hown hgrow) | (refine wpList_copy_splice rfl (.tmp 22) (.tmp 23) 22 22 rfl 5 Try.underlying22 Try.size5 (some ⟨w.heap.size, 0, none⟩) (some x) len len len cap rfl rfl w.heap.size 0 cur 5 hcur cs (hn.trans (Nat.min_self len).symm) (fun _ => ⟨rfl, x, rfl, fun j v hj => (hB.cell (block_lt_of_cell (hsrc j v hj))).trans (hsrc j v hj)⟩) (by rw [hn, hcl]; omega) h1 w.heap.size w hB (Nat.le_refl _) ?_; intro w2 hg2 hB2))
  refine (zz_past _ len len p _ hp).mono ?_
  rintro e w3 ⟨rfl, hB3⟩
  go_wp2
  go_ret
  exact ⟨by simp, hB2.trans (hB3.mono hB2.size)⟩

/-- The copy's cells. -/
theorem copied {w2 : World} {g len : Nat} {cur cs : List Value} {zs : List Int} (hcl : cur.length = len) (hn : cs.length = len) (hz : ∀ i, i < len → cs[i]? = some (.int .u8 (zs.getD i 0)))
    (hg : w2.heap[g]? = some (.cells (splice cur 0 cs).toArray 5 (0, 0))) : ∀ i, i < len → w2.cell? ⟨g, 0 + i, none⟩ = some (.int .u8 (zs.getD i 0)) := by
  intro i hi
  rw [splice_whole _ _ (by omega)] at hg
  simp [World.cell?, hg, hz i hi]

set_option maxHeartbeats 2000000 in
theorem spec_in (x : Addr) (len cap p : Nat) (cs : List Value) (zs : List Int) (w : World) (h : len ≤ 1048576) (hp : p < len) (hn : cs.length = len)
    (hsrc : ∀ j v, cs[j]? = some v → w.cell? (x.add j) = some v) (h1 : ∀ v ∈ cs, v.oneCell' = true) (hz : ∀ i, i < len → cs[i]? = some (.int .u8 (zs.getD i 0))) :
    Calls Try.prog 8 #[.slice (some x) len cap, .int .i64 p] w fun e w' => e = .returned (.bool true) ∧ Below w.heap.size w w' := by
  have q22 := fun (w : World) (a : Option Addr) (n c n' c' : Nat) => run_neq_slice_nil_any (P := Try.prog) w 22 5 a n c n' c' Try.underlying22
  obtain ⟨i0, hi, hz0, hz1, hz2⟩ := info_parts Try.info5
  have h2 : ¬ (1048576 : Int) < (len : Int) := by omega
  have h3 : ¬ (p : Int) < 0 := by omega
  have h4 : ¬ (len : Int) ≤ (p : Int) := by omega
  have HZ : Hid (∀ i, i < len → cs[i]? = some (.int .u8 (zs.getD i 0))) := hz
  clear hz
  go_enter Try.func8, Try.ntmps8
  go_wp2_with fail
  refine (bound24_yes _ len cap p _ (by omega)).mono ?_
  rintro e w' ⟨rfl, rfl⟩
  go_wp2_with (first | (at_make; refine wpList_make_full _ rfl (.tmp 20) (.tmp 20) 22 rfl w.heap.size 5 i0 (.int .u8 0) 1 Try.underlying22 hi hz0 hz1 .i64 .i64 _ _ len rfl rfl rfl rfl (by rw [hz2]; omega) (by unfold maxLen; omega) (Nat.le_refl _) ?_; intro w1 hown hgrow; obtain ⟨cur, hcl, hcur⟩ := made_block hown; have hB := (Below.refl w.heap.size w).grown hgrow (Nat.le_refl _) (by simp); clear hown hgrow) | (refine wpList_copy_splice rfl (.tmp 22) (.tmp 23) 22 22 rfl 5 Try.underlying22 Try.size5 (some ⟨w.heap.size, 0, none⟩) (some x) len len len cap rfl rfl w.heap.size 0 cur 5 hcur cs (hn.trans (Nat.min_self len).symm) (fun _ => ⟨rfl, x, rfl, fun j v hj => (hB.cell (block_lt_of_cell (hsrc j v hj))).trans (hsrc j v hj)⟩) (by rw [hn, hcl]; omega) h1 w.heap.size w hB (Nat.le_refl _) ?_; intro w2 hg2 hB2))
  have hc2 := copied hcl hn HZ.out hg2.out
  have hgs : w.heap.size < w2.heap.size := by
    have := hg2.out
    rcases Nat.lt_or_ge w.heap.size w2.heap.size with h | h
    · exact h
    · rw [Array.getElem?_eq_none h] at this; cases this
  clear hg2 hB hcur hcl hsrc h1 hn HZ q22
  refine (zz_in w.heap.size 0 len len p zs _ h hgs (by omega) hc2).mono ?_
  rintro e w3 ⟨k, rfl, k1, k2, k3, k4, hB3⟩
  have hc3 : ∀ i, i < len → w3.cell? ⟨w.heap.size, i, none⟩ = some (.int .u8 (zs.getD i 0)) := fun i hi => by
    have := (hB3.cell (p := ⟨w.heap.size, 0 + i, none⟩) hgs).trans (hc2 i hi)
    rwa [Nat.zero_add] at this
  have hfin := hB2.trans (hB3.mono hB2.size)
  have HF : Hid (Below w.heap.size w w3) := hfin
  have K3 : Hid (∀ j, p ≤ j → j < k → spB (zs.getD j 0) = true) := k3
  have K4 : Hid (k < len → spB (zs.getD k 0) = false) := k4
  have HC3 : Hid (∀ i, i < len → w3.cell? ⟨w.heap.size, i, none⟩ = some (.int .u8 (zs.getD i 0))) := hc3
  clear hfin k3 k4 hc2 hc3 hB3 hB2 hgs
  have t5 : decide (len ≤ p) = false := decide_eq_false (by omega)
  have t6 : decide ((len : Int) ≤ (p : Int)) = false := decide_eq_false (by omega)
  have t1 : decide (k < p) = false := decide_eq_false (by omega)
  have t2 : decide (len < k) = false := decide_eq_false (by omega)
  have t3 : decide ((k : Int) < (p : Int)) = false := decide_eq_false (by omega)
  have t4 : decide ((len : Int) < (k : Int)) = false := decide_eq_false (by omega)
  go_wp2
  go_loopg [7] (k - p) (fun n i wr => ∃ j : Nat, p ≤ j ∧ j ≤ k ∧ n = k - j ∧ i = .int .i64 j ∧ w3 = wr)
  case atStart => exact ⟨p, Nat.le_refl _, k1, rfl, rfl, rfl⟩
  case round =>
    obtain ⟨j, j1, j2, rfl, rfl, rfl⟩ := hrel
    by_cases hlt : j < k
    · have hlt' : (j : Int) < (k : Int) := by omega
      have hlj : (j : Int) < (len : Int) := by omega
      have hx := HC3.out j (by omega)
      have hs := K3.out j j1 hlt
      generalize zs.getD j 0 = c at hx hs
      go_wp2_with (go_at_call 26; refine (space_any _ _).mono ?_; rintro e w' ⟨rfl, rfl⟩)
      go_roundg (k - (j + 1))
      case measure => omega
      case rel => exact ⟨j + 1, by omega, by omega, rfl, by go_num, rfl⟩
    · have hlt' : ¬ (j : Int) < (k : Int) := by omega
      by_cases hk : k < len
      · have hk' : (k : Int) < (len : Int) := by omega
        have hx := HC3.out k hk
        have hs := K4.out hk
        generalize zs.getD k 0 = c at hx hs
        go_wp2_with (go_at_call 26; refine (space_any _ _).mono ?_; rintro e w' ⟨rfl, rfl⟩)
        go_ret
        exact ⟨rfl, HF.out⟩
      · have hk' : ¬ (k : Int) < (len : Int) := by omega
        go_wp2
        go_ret
        exact ⟨rfl, HF.out⟩

end Go.Proofs.Qxb6000868a
