import Derived.Test.Qxb6000868aEq
namespace Go.Proofs.Qxb6000868a
open Go.RowKit

theorem Try.info5' : (Try.prog.info? 5).map (fun i => (i.zero, i.size, i.bytes)) = some (some (.int .u8 0), 1, 1) := by kernel_rfl

theorem hid {p : Prop} (h : p) : Hid p := h

theorem clone_nil (w : World) : Calls Try.prog 11 #[.slice none 0 0] w fun e w' => e = .returned (.slice none 0 0) ∧ w = w' := by
  have q22 := fun (w : World) (a : Option Addr) (n c n' c' : Nat) => Lib.run_eql_slice_nil (P := Try.prog) w 22 5 a n c n' c' Try.underlying22
  go_enter Try.func11, Try.ntmps11
  go_wp2
  go_ret
  exact ⟨rfl, rfl⟩

set_option maxHeartbeats 400000 in
theorem clone_empty (x : Addr) (cap : Nat) (w : World) : Calls Try.prog 11 #[.slice (some x) 0 cap] w fun e w' => ∃ v, e = .returned v ∧ w'.ownsRow w.heap.size 5 1 v 0 [] ∧ Below w.heap.size w w' := by
  have q22 := fun (w : World) (a : Option Addr) (n c n' c' : Nat) => Lib.run_eql_slice_nil (P := Try.prog) w 22 5 a n c n' c' Try.underlying22
  obtain ⟨i0, hi, hz0, hz1, hz2⟩ := info_parts Try.info5'
  go_enter Try.func11, Try.ntmps11
  go_wp2_with (at_make; refine wpList_make_full _ rfl (.tmp 8) (.tmp 8) 22 rfl w.heap.size 5 i0 (.int .u8 0) 1 Try.underlying22 hi hz0 hz1 .i64 .i64 _ _ 0 rfl rfl rfl rfl (by rw [hz2]; omega) (by unfold maxLen; omega) (Nat.le_refl _) ?_; intro w1 hown hgrow; have HO := hid hown; have HG := hid hgrow; clear hown hgrow)
  refine wp_loop_rounds 1 ?_
  rw [rounds_succ]
  go_wp2
  go_ret
  refine ⟨_, rfl, ?_, (Below.refl w.heap.size w).grown HG.out (Nat.le_refl _) (by intro k hk; cases hk)⟩
  have h := HO.out
  have e := List.eq_nil_of_length_eq_zero (l := (madeCells (Value.int .u8 0).cells (0 * 1)).toList) (by simpa using h.1)
  rw [e] at h
  exact h

/-- One byte copied. -/
theorem clone_step {w wr : World} {g len k : Nat} {l : List Int} {xs : List Value} (hk : k < len) (hlen : xs.length = len) (hown : wr.ownsRow w.heap.size 5 1 (.slice (some ⟨g, 0, none⟩) len len) len xs)
    (hxs : ∀ j, j < k → xs[j]? = some (.int .u8 (l.getD j 0))) (hb : Below w.heap.size w wr) (hg : w.heap.size ≤ g) :
    ∃ ys : List Value, ys.length = len ∧ (wr.setCell ⟨g, k, none⟩ (.int .u8 (l.getD k 0))).ownsRow w.heap.size 5 1 (.slice (some ⟨g, 0, none⟩) len len) len ys ∧ (∀ j, j < k + 1 → ys[j]? = some (.int .u8 (l.getD j 0))) ∧
      Below w.heap.size w (wr.setCell ⟨g, k, none⟩ (.int .u8 (l.getD k 0))) := by
  refine ⟨xs.set k (.int .u8 (l.getD k 0)), by simpa using hlen, (hown.stored k _).1, ?_, hb.setCell hg _⟩
  intro j hj
  rw [List.getElem?_set]
  by_cases e : k = j
  · rw [if_pos e, if_pos (by omega), e]
  · rw [if_neg e]; exact hxs j (by omega)

set_option maxHeartbeats 1000000 in
theorem clone_row (b off len cap : Nat) (l : List Int) (w : World) (hl : l.length = len) (hm : len ≤ 1048576) (hc : ∀ i, i < len → w.cell? ⟨b, off + i, none⟩ = some (.int .u8 (l.getD i 0))) (hb : b < w.heap.size) :
    Calls Try.prog 11 #[.slice (some ⟨b, off, none⟩) len cap] w fun e w' => ∃ v, e = .returned v ∧ w'.ownsRow w.heap.size 5 1 v len (l.map (Value.int .u8)) ∧ Below w.heap.size w w' := by
  have q22 := fun (w : World) (a : Option Addr) (n c n' c' : Nat) => Lib.run_eql_slice_nil (P := Try.prog) w 22 5 a n c n' c' Try.underlying22
  obtain ⟨i0, hi, hz0, hz1, hz2⟩ := info_parts Try.info5'
  have HL : Hid (l.length = len) := hl
  have HC : Hid (∀ i, i < len → w.cell? ⟨b, off + i, none⟩ = some (.int .u8 (l.getD i 0))) := hc
  clear hl hc
  go_enter Try.func11, Try.ntmps11
  go_wp2_with (at_make; refine wpList_make_full _ rfl (.tmp 8) (.tmp 8) 22 rfl w.heap.size 5 i0 (.int .u8 0) 1 Try.underlying22 hi hz0 hz1 .i64 .i64 _ _ len rfl rfl rfl rfl (by rw [hz2]; omega) (by unfold maxLen; omega) (Nat.le_refl _) ?_; intro w1 hown hgrow; have HO := hid hown; have HG := hid hgrow; clear hown hgrow)
  have hB : Below w.heap.size w w1 := (Below.refl w.heap.size w).grown HG.out (Nat.le_refl _) (by intro k hk; cases hk)
  clear HG
  go_loopg [4] len (fun n i wr => ∃ (k : Nat) (xs : List Value), k ≤ len ∧ n = len - k ∧ i = .int .i64 k ∧ xs.length = len ∧ wr.ownsRow w.heap.size 5 1 (.slice (some ⟨w.heap.size, 0, none⟩) len len) len xs ∧ (∀ j, j < k → xs[j]? = some (.int .u8 (l.getD j 0))) ∧ Below w.heap.size w wr)
  case atStart => exact ⟨0, _, Nat.zero_le _, rfl, rfl, by simpa using HO.out.1, HO.out, fun j hj => by omega, hB⟩
  case round =>
    clear HO hB
    obtain ⟨k, xs, hk, rfl, rfl, hxl, hown, hxs, hB⟩ := hrel
    by_cases hlt : k < len
    · have hlt' : (k : Int) < (len : Int) := by omega
      have S := clone_step hlt hxl hown hxs hB (Nat.le_refl _)
      have HS := hid S
      have g1 := (hB.cell (p := ⟨b, off + k, none⟩) hb).trans (HC.out k hlt)
      have g2 : ∃ u, wr.cell? ⟨w.heap.size, k, none⟩ = some u := ⟨_, (hown.cellAt k (by omega)).trans (List.getElem?_eq_getElem (by omega))⟩
      obtain ⟨u, g2⟩ := g2
      have g3 := hown.frozenAt k
      clear S hown hxs hB hxl
      generalize l.getD k 0 = c at g1 HS
      go_wp2
      go_roundg (len - (k + 1))
      case measure => omega
      case rel =>
        obtain ⟨ys, y1, y2, y3, y4⟩ := HS.out
        exact ⟨k + 1, ys, by omega, rfl, by go_num, y1, y2, y3, y4⟩
    · have hlt' : ¬ (k : Int) < (len : Int) := by omega
      have e : xs = l.map (Value.int .u8) := by
        have := HL.out
        apply List.ext_getElem?
        intro i
        by_cases hi : i < len
        · rw [hxs i (by omega), List.getElem?_map, List.getElem?_eq_getElem (by omega)]
          simp [List.getElem?_eq_getElem (show i < l.length by omega)]
        · rw [List.getElem?_eq_none (by omega), List.getElem?_eq_none (by simp; omega)]
      rw [e] at hown
      have HO := hid hown
      have HB := hid hB
      clear e hown hxs hB hxl
      go_wp2
      go_ret
      exact ⟨_, rfl, HO.out, HB.out⟩

/-- jl1Clone, whatever the slice: a value that owns the same bytes in memory of its own. -/
theorem clone_any (ao : Option Addr) (len cap : Nat) (l : List Int) (w : World) (hl : l.length = len) (hm : len ≤ 1048576) (hn : ao = none → len = 0 ∧ cap = 0) (h : BytesAt w ao l) :
    Calls Try.prog 11 #[.slice ao len cap] w fun e w' => ∃ v, e = .returned v ∧ w'.ownsRow w.heap.size 5 1 v len (l.map (Value.int .u8)) ∧ Below w.heap.size w w' := by
  cases ao with
  | none =>
    obtain ⟨rfl, rfl⟩ := hn rfl
    obtain rfl : l = [] := List.eq_nil_of_length_eq_zero hl
    refine (clone_nil w).mono ?_
    rintro e w' ⟨rfl, rfl⟩
    exact ⟨_, rfl, World.ownsRow_nil _ _ _ _, Below.refl _ _⟩
  | some x =>
    rcases h with rfl | ⟨b, off, hx, hc⟩
    · obtain rfl : 0 = len := hl
      exact clone_empty x cap w
    · cases hx
      by_cases h0 : len = 0
      · subst h0
        obtain rfl : l = [] := List.eq_nil_of_length_eq_zero hl
        exact clone_empty _ cap w
      · exact clone_row b off len cap l w hl hm (fun i hi => hc i (by omega)) (block_lt_of_cell (hc 0 (by omega)))

end Go.Proofs.Qxb6000868a
