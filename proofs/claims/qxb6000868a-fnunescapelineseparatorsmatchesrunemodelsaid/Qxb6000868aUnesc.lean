import Derived.Test.Qxb6000868aOver
import Derived.Test.Qxb6000868aClone
namespace Go.Proofs.Qxb6000868a.Un
open Go.RowKit

theorem ints_one (l : List Int) : ∀ u ∈ l.map (Value.int .u8), u.oneCell' = true := by
  intro v hv
  obtain ⟨n, _, rfl⟩ := List.mem_map.1 hv
  rfl

theorem drop_cons {l : List Int} {k : Nat} (h : k < l.length) : l.drop k = l.getD k 0 :: l.drop (k + 1) := by
  rw [List.drop_eq_getElem_cons h]
  simp [List.getElem?_eq_getElem h]

theorem byt6 (d : Int) (h : 0 ≤ d ∧ d ≤ 255) : Byt [92, 117, 50, 48, 50, d] := by
  intro c hc
  simp at hc
  omega

theorem tail_five {l : List Int} {k len : Nat} (hl : l.length = len) (d : Int) (h : (l.drop (k + 1)).take 5 = [117, 50, 48, 50, d]) : k + 6 ≤ len ∧ l.getD (k + 5) 0 = d := by
  have h1 := congrArg List.length h
  rw [List.length_take, List.length_drop] at h1
  simp at h1
  refine ⟨by omega, ?_⟩
  have h2 := congrArg (fun x : List Int => x[4]?) h
  simp only [List.getElem?_take, List.getElem?_drop] at h2
  simp at h2
  simp [List.getD_eq_getElem?_getD, h2, show k + 5 = k + 1 + 4 from rfl]

theorem tail_one {l t : List Int} {k len : Nat} {x : Int} (hl : l.length = len) (hk : k < len) (h : l.drop (k + 1) = x :: t) : k + 2 ≤ len ∧ l.getD (k + 1) 0 = x ∧ l.drop (k + 2) = t := by
  have h1 := congrArg List.length h
  rw [List.length_drop] at h1
  simp at h1
  have h2 := congrArg (fun x : List Int => x[0]?) h
  simp only [List.getElem?_drop] at h2
  have h3 := congrArg (List.drop 1) h
  rw [List.drop_drop] at h3
  refine ⟨by omega, ?_, by simpa using h3⟩
  rw [List.getD_eq_getElem?_getD, show k + 1 = k + 1 + 0 from rfl, h2]
  rfl

theorem unesc_nil (w : World) : Calls Try.prog 31 #[.slice none 0 0] w fun e w' => e = .returned (.slice none 0 0) ∧ w = w' := by
  go_enter Try.func31, Try.ntmps31
  go_wp2
  refine wp_loop_rounds 1 ?_
  rw [rounds_succ]
  go_wp2
  go_ret
  exact ⟨rfl, rfl⟩

set_option maxHeartbeats 4000000 in
theorem unesc_row (g cap len : Nat) (l R : List Int) (cur₀ : List Value) (w : World) (hl : l.length = len) (hlc : len ≤ cap) (_hcm : cap ≤ 9223372036854775807) (hlm : len ≤ 4611686018427387904) (bl : Byt l)
    (hcl : cur₀.length = cap) (hg : w.heap[g]? = some (.cells cur₀.toArray 5 (0, 0))) (hcur : ∀ p, p < len → cur₀[p]? = some (.int .u8 (l.getD p 0))) (hR : UnTo l R) :
    Calls Try.prog 31 #[.slice (some ⟨g, 0, none⟩) len cap] w fun e w' => e = .returned (.slice (some ⟨g, 0, none⟩) R.length cap) ∧ ∃ cur done, St g cap len l R w len R.length w' cur done [] := by
  obtain ⟨i0, hi, hz0, hz1, hz2⟩ := info_parts Try.info5'
  have kc := fun (w : World) (C : Array Value) (n c : Nat) => Lib.run_convert_bytes_const (P := Try.prog) w 22 5 C n c Try.underlying22 Try.underlying5
  have S0 : Hid (St g cap len l R w 0 0 w cur₀ [] R) := ⟨Nat.le_refl _, Nat.zero_le _, rfl, hcl, hg, fun p hp => by omega, fun p _ hp => hcur p hp, by simpa using hR, by simp, World.grownBy.refl _ _⟩
  have HL : Hid (l.length = len) := hl
  have BL : Hid (Byt l) := bl
  clear hcl hg hcur hR hl bl
  go_enter Try.func31, Try.ntmps31
  go_wp2
  go_loopg [3, 4] len (fun n out i wr => ∃ (k j : Nat) (cur : List Value) (done rest : List Int), n = len - k ∧ i = .int .i64 k ∧ out = .slice (some ⟨g, 0, none⟩) j cap ∧ St g cap len l R w k j wr cur done rest)
  case atStart => exact ⟨0, 0, cur₀, [], R, rfl, rfl, rfl, S0.out⟩
  case round =>
    obtain ⟨k, j, cur, done, rest, rfl, rfl, rfl, st⟩ := hrel
    clear S0
    have hkl : k ≤ len := st.2.1
    have hjk : j ≤ k := st.1
    by_cases hlt : k < len
    · have hlt' : (k : Int) < (len : Int) := by omega
      have hgr := st.2.2.2.2.1
      have hcu := st.2.2.2.2.2.2.1
      have hclen : cur.length = cap := st.2.2.2.1
      have hun := st.2.2.2.2.2.2.2.1
      have hB := st.2.2.2.2.2.2.2.2.2
      have hgl : g < wr.heap.size := by
        rcases Nat.lt_or_ge g wr.heap.size with h | h
        · exact h
        · rw [Array.getElem?_eq_none h] at hgr; cases hgr
      have ck := (cell_of_row (p := k) hgr).trans (hcu k (Nat.le_refl _) hlt)
      rw [drop_cons (by rw [HL.out]; exact hlt)] at hun
      have ST := hid st
      have HG := hid hgr
      have HCU := hid hcu
      have HU := hid hun
      have HCL := hid hclen
      have HB := hid hB
      clear st hgr hcu hun hclen hB
      generalize hc : l.getD k 0 = c at ck HU
      have HC := hid hc
      clear hc
      by_cases hne : c = 92
      · subst hne
        have hkc : ¬ cap = k := by omega
        have e6 : ∀ d : Int, decide ((l.drop k).take 6 = [92, 117, 50, 48, 50, d]) = decide ((l.drop (k + 1)).take 5 = [117, 50, 48, 50, d]) := by
          intro d
          rw [drop_cons (by rw [HL.out]; exact hlt), HC.out]
          simp
        have E6 := hid e6
        clear e6
        go_wp2_with fail
        refine (hasPre_at g k len cap wr.heap.size 6 l [92, 117, 50, 48, 50, 56] cur _ (6, 7) HL.out hkl hlc rfl BL.out (byt6 56 (by decide)) ((Below.heap_alloc wr _ g hgl).trans HG.out) HCU.out (heap_alloc_new wr _)).mono ?_
        rintro e w1 ⟨rfl, hw⟩
        have hg1 : w1.heap[g]? = some (.cells cur.toArray 5 (0, 0)) := by rw [← hw]; exact (Below.heap_alloc wr _ g hgl).trans HG.out
        have hB1 : w.grownBy w1 (some g) := by rw [← hw]; exact grown_alloc HB.out _
        have hgl1 : g < w1.heap.size := by rw [← hw]; simp; omega
        clear hw
        have HG1 := hid hg1
        have HB1 := hid hB1
        clear hg1 hB1
        by_cases q56 : (l.drop (k + 1)).take 5 = [117, 50, 48, 50, 56]
        · have h56 := hid q56
          have d56 := hid ((E6.out 56).trans (decide_eq_true q56))
          clear q56 E6
          rw [d56.out]
          obtain ⟨hlen5, hd5⟩ := tail_five HL.out 56 h56.out
          obtain ⟨rest', hr, hu⟩ := unTo_56_inv h56.out HU.out
          rw [List.drop_drop] at hu
          have HR := hid hr
          have HU' := hid hu
          have c5 := (cell_of_row (p := k + 5) HG1.out).trans (HCU.out (k + 5) (by omega) (by omega))
          rw [hd5] at c5
          have h5' : (k : Int) + 5 < (len : Int) := by omega
          clear hr hu hd5
          go_wp2_with (at_builtin; refine wpList_append_over _ rfl (.tmp 39) (.tmp 47) 22 rfl 5 i0 Try.underlying22 hi hz1 g j cap cur rfl ((Below.heap_alloc w1 _ g hgl1).trans HG1.out) ⟨w1.heap.size, 0, none⟩ 3 3 [.int .u8 226, .int .u8 128, .int .u8 168] rfl rfl (World.news_of_block (heap_alloc_new w1 _)) (ints_one [226, 128, 168]) (by omega) (by rw [HCL.out]; omega) ?_; intro w9 hg9 hgrow9)
          go_roundg (len - (k + 6))
          case measure => omega
          case rel => exact ⟨k + 6, j + 3, _, _, rest', rfl, by go_num, rfl, st_step (ns := [226, 128, 168]) ST.out hlc (by simp; omega) (by omega) (by omega) HR.out HU'.out (grown_alloc HB1.out _) hg9 hgrow9⟩
        · have h56 := hid q56
          have d56 := hid ((E6.out 56).trans (decide_eq_false q56))
          clear q56
          rw [d56.out]
          go_wp2_with fail
          refine (hasPre_at g k len cap w1.heap.size 6 l [92, 117, 50, 48, 50, 57] cur _ (6, 7) HL.out hkl hlc rfl BL.out (byt6 57 (by decide)) ((Below.heap_alloc w1 _ g hgl1).trans HG1.out) HCU.out (heap_alloc_new w1 _)).mono ?_
          rintro e w2 ⟨rfl, hw⟩
          have hg2 : w2.heap[g]? = some (.cells cur.toArray 5 (0, 0)) := by rw [← hw]; exact (Below.heap_alloc w1 _ g hgl1).trans HG1.out
          have hB2 : w.grownBy w2 (some g) := by rw [← hw]; exact grown_alloc HB1.out _
          have hgl2 : g < w2.heap.size := by rw [← hw]; simp; omega
          clear hw
          have HG2 := hid hg2
          have HB2 := hid hB2
          clear hg2 hB2
          by_cases q57 : (l.drop (k + 1)).take 5 = [117, 50, 48, 50, 57]
          · have h57 := hid q57
            have d57 := hid ((E6.out 57).trans (decide_eq_true q57))
            clear q57 E6
            rw [d57.out]
            obtain ⟨hlen5, hd5⟩ := tail_five HL.out 57 h57.out
            obtain ⟨rest', hr, hu⟩ := unTo_57_inv h57.out HU.out
            rw [List.drop_drop] at hu
            have HR := hid hr
            have HU' := hid hu
            have c5 := (cell_of_row (p := k + 5) HG2.out).trans (HCU.out (k + 5) (by omega) (by omega))
            rw [hd5] at c5
            have h5' : (k : Int) + 5 < (len : Int) := by omega
            clear hr hu hd5
            go_wp2_with (at_builtin; refine wpList_append_over _ rfl (.tmp 39) (.tmp 47) 22 rfl 5 i0 Try.underlying22 hi hz1 g j cap cur rfl ((Below.heap_alloc w2 _ g hgl2).trans HG2.out) ⟨w2.heap.size, 0, none⟩ 3 3 [.int .u8 226, .int .u8 128, .int .u8 169] rfl rfl (World.news_of_block (heap_alloc_new w2 _)) (ints_one [226, 128, 169]) (by omega) (by rw [HCL.out]; omega) ?_; intro w9 hg9 hgrow9)
            go_roundg (len - (k + 6))
            case measure => omega
            case rel => exact ⟨k + 6, j + 3, _, _, rest', rfl, by go_num, rfl, st_step (ns := [226, 128, 169]) ST.out hlc (by simp; omega) (by omega) (by omega) HR.out HU'.out (grown_alloc HB2.out _) hg9 hgrow9⟩
          · have d57 := hid ((E6.out 57).trans (decide_eq_false q57))
            obtain ⟨x, t', rest', ht, hr, hu⟩ := unTo_pair_inv h56.out q57 HU.out
            clear q57 E6
            rw [d57.out]
            obtain ⟨hl1, hx, ht'⟩ := tail_one HL.out hlt ht
            rw [← ht'] at hu
            have HR := hid hr
            have HU' := hid hu
            have c0 := (cell_of_row (p := k) HG2.out).trans (HCU.out k (by omega) (by omega))
            rw [HC.out] at c0
            have c1 := (cell_of_row (p := k + 1) HG2.out).trans (HCU.out (k + 1) (by omega) (by omega))
            rw [hx] at c1
            have h1' : (k : Int) + 1 < (len : Int) := by omega
            have h2' : (0 : Int) ≤ (k : Int) + 1 := by omega
            have hwr : IntKind.i64.wrap ((k : Int) + 1) = (k : Int) + 1 := by rw [IntKind.wrap_i64]; omega
            clear hr hu hx ht ht' ck
            go_wp2
            go_region_law (refine step_append_over _ rfl (.tmp 51) (.tmp 61) 22 rfl 5 i0 Try.underlying22 hi hz1 g j cap cur rfl ((Below.heap_alloc w2.drew _ g hgl2).trans HG2.out) ⟨w2.heap.size, 0, none⟩ 2 2 [.int .u8 92, .int .u8 x] rfl rfl (World.news_of_block (heap_alloc_new w2.drew _)) (ints_one [92, x]) (by omega) (by rw [HCL.out]; omega) ?_; intro w9 hg9 hgrow9)
            all_goals
              go_wp2
              go_roundg (len - (k + 2))
              case measure => omega
              case rel => exact ⟨k + 2, j + 2, _, _, rest', rfl, by go_num, rfl, st_step (ns := [92, x]) ST.out hlc (by simp; omega) (by omega) (by omega) HR.out HU'.out (grown_alloc (grown_drew HB2.out) _) hg9 hgrow9⟩
      · have hne' : (c != 92) = true := by rw [bne_iff_ne]; exact hne
        obtain ⟨rest', hr, hu⟩ := unTo_plain_inv hne HU.out
        have HR := hid hr
        have HU' := hid hu
        clear hr hu
        go_wp2_with (at_builtin; refine wpList_append_over _ rfl (.tmp 18) (.tmp 23) 22 rfl 5 i0 Try.underlying22 hi hz1 g j cap cur rfl ((Below.heap_alloc wr _ g hgl).trans HG.out) ⟨wr.heap.size, 0, none⟩ 1 1 [.int .u8 c] rfl rfl (World.news_of_block (heap_alloc_new wr _)) (ints_one [c]) (by omega) (by rw [HCL.out]; omega) ?_; intro w1 hg1 hgrow1)
        go_roundg (len - (k + 1))
        case measure => omega
        case rel => exact ⟨k + 1, j + 1, _, _, rest', rfl, by go_num, rfl, st_step (ns := [c]) ST.out hlc (by simp; omega) (by omega) (by omega) HR.out HU'.out (grown_alloc HB.out _) hg1 hgrow1⟩
    · have hlt' : ¬ (k : Int) < (len : Int) := by omega
      obtain rfl : k = len := by omega
      have hr := unTo_nil_inv (by simpa [List.drop_eq_nil_of_le (show l.length ≤ k by rw [HL.out]; exact Nat.le_refl _)] using st.2.2.2.2.2.2.2.1)
      have hj : done.length = j := st.2.2.1
      have hRR : done ++ rest = R := st.2.2.2.2.2.2.2.2.1
      subst hr
      have e : j = R.length := by rw [← hRR, ← hj]; simp
      subst e
      have ST := hid st
      clear st hj hRR
      go_wp2
      go_ret
      exact ⟨rfl, cur, done, ST.out⟩

end Go.Proofs.Qxb6000868a.Un
