import Derived.Test.Qxb6000868aModel0
namespace Go.Proofs.Qxb6000868a.Un
open Go.RowKit Esc

set_option maxHeartbeats 1000000 in
theorem model_empty (a₁ a₂ : Option Addr) (n₂ c₁ c₂ : Nat) (w : World) (h2 : n₂ ≤ 65536) :
    Calls Try.prog 5 #[.slice a₁ 0 c₁, .slice a₂ n₂ c₂] w fun e w' => e = .returned (.bool true) ∧ Below w.heap.size w w' := by
  have g2 : ¬ (65536 : Int) < (n₂ : Int) := by omega
  go_enter Try.func5, Try.ntmps5
  go_wp2_with fail
  refine (bound17_yes a₁ a₂ 0 n₂ c₁ c₂ _ (by omega)).mono ?_
  rintro e w' ⟨rfl, rfl⟩
  go_wp2
  refine wp_loop_rounds 1 ?_
  rw [rounds_succ]
  go_wp2
  refine wp_loop_rounds 1 ?_
  rw [rounds_succ]
  go_wp2_with fail
  refine (zzun_own (.slice none 0 0) 0 w.heap.size [] [] _ rfl (by omega) (fun c hc => by cases hc) (World.ownsRow_nil _ _ _ _) unTo_nil).mono ?_
  rintro e w1 ⟨ao, cap, rfl, B, hgr⟩
  have hb : Below w.heap.size w w1 := (Below.refl _ _).grown hgr (Nat.le_refl _) (fun k hk => by cases hk)
  go_wp2_with fail
  refine (equal_any ao none 0 0 cap 0 [] [] _ rfl rfl (by omega) B (Or.inl rfl)).mono ?_
  rintro e w2 ⟨rfl, n, rfl⟩
  go_wp2
  go_ret
  exact ⟨by simp, below_drewN hb n⟩

theorem row_apart {u v : Value} (h : ∀ a b, u.ownBlock = some a → v.ownBlock = some b → a ≠ b) : v.ownBlock = none ∨ v.ownBlock ≠ u.ownBlock := by
  cases hv : v.ownBlock with
  | none => exact Or.inl rfl
  | some b => exact Or.inr (fun he => h b b he.symm hv rfl)

set_option maxHeartbeats 8000000 in
theorem model_row (b₁ o₁ n₁ n₂ c₁ c₂ : Nat) (a₂ : Option Addr) (l : List Int) (bs : List Bool) (w : World) (hl : l.length = n₁) (hbl : bs.length = n₂) (h1 : n₁ ≤ 65536) (h2 : n₂ ≤ 65536)
    (hb1 : b₁ < w.heap.size) (hc : ∀ i, i < n₁ → w.cell? ⟨b₁, o₁ + i, none⟩ = some (.int .i32 (l.getD i 0))) (hbs : BoolsAt w a₂ bs) :
    Calls Try.prog 5 #[.slice (some ⟨b₁, o₁, none⟩) n₁ c₁, .slice a₂ n₂ c₂] w fun e w' => e = .returned (.bool true) ∧ Below w.heap.size w w' := by
  have g1 : ¬ (65536 : Int) < (n₁ : Int) := by omega
  have g2 : ¬ (65536 : Int) < (n₂ : Int) := by omega
  have HL := hid hl
  have HBL := hid hbl
  have HC := hid hc
  have HBS := hid hbs
  clear hl hbl hc hbs
  go_enter Try.func5, Try.ntmps5
  go_wp2_with fail
  refine (bound17_yes _ a₂ n₁ n₂ c₁ c₂ _ (by omega)).mono ?_
  rintro e w' ⟨rfl, rfl⟩
  go_wp2
  go_loopg [5] n₁ (fun n i wr => ∃ k : Nat, k ≤ n₁ ∧ n = n₁ - k ∧ i = .int .i64 k ∧ (∀ j, j < k → 0 ≤ l.getD j 0 ∧ l.getD j 0 ≤ 1114111) ∧ w = wr)
  case atStart => exact ⟨0, Nat.zero_le _, rfl, rfl, fun j hj => by omega, rfl⟩
  case round =>
    obtain ⟨k, hk, rfl, rfl, hp, rfl⟩ := hrel
    have HP := hid hp
    clear hp
    by_cases hlt : k < n₁
    · have hlt' : (k : Int) < (n₁ : Int) := by omega
      have ci := HC.out k hlt
      have HN := hid (show ∀ r : Int, l.getD k 0 = r → 0 ≤ r → r ≤ 1114111 → ∀ j, j < k + 1 → 0 ≤ l.getD j 0 ∧ l.getD j 0 ≤ 1114111 from fun r hr r0 r1 j hj => by
        by_cases e : j = k
        · rw [e, hr]; exact ⟨r0, r1⟩
        · exact HP.out j (by omega))
      generalize hr : l.getD k 0 = r at ci
      have HR := hid hr
      clear hr
      by_cases q0 : r < 0
      · go_wp2
        go_ret
        exact ⟨rfl, Below.refl _ _⟩
      by_cases q1 : 1114111 < r
      · go_wp2
        go_ret
        exact ⟨rfl, Below.refl _ _⟩
      have HN' := hid (HN.out r HR.out (by omega) (by omega))
      go_wp2
      go_roundg (n₁ - (k + 1))
      case measure => omega
      case rel => exact ⟨k + 1, by omega, rfl, by go_num, HN'.out, rfl⟩
    · have hlt' : ¬ (k : Int) < (n₁ : Int) := by omega
      have HQ := hid (show ∀ j, j < n₁ → 0 ≤ l.getD j 0 ∧ l.getD j 0 ≤ 1114111 from fun j hj => HP.out j (by omega))
      clear HP
      go_wp2
      clear hlt hlt' hk
      go_loopg [6, 7, 8] n₁ (fun n enc exp i wr => ∃ (k : Nat) (E X : List Int), k ≤ n₁ ∧ n = n₁ - k ∧ i = .int .i64 k ∧ Two w.heap.size w wr enc exp E X ∧ Sofar k E X)
      case atStart => exact ⟨0, [], [], Nat.zero_le _, rfl, rfl, ⟨World.ownsRow_nil _ _ _ _, World.ownsRow_nil _ _ _ _, (fun a b h => by cases h), Below.refl _ _, Nat.le_refl _⟩, tok_nil, (fun c hc => by cases hc), by simp, by simp⟩
      case round =>
        obtain ⟨k, E, X, hk, rfl, rfl, T0, SF0⟩ := hrel
        have T := hid T0
        have SF := hid SF0
        have HE := hid (show E.length ≤ 1048576 by have := SF0.2.2.1; omega)
        have HX := hid (show X.length ≤ 1048576 by have := SF0.2.2.2; omega)
        by_cases hlt : k < n₁
        · have hlt' : (k : Int) < (n₁ : Int) := by omega
          have ci := (T0.2.2.2.1.cell (p := ⟨b₁, o₁ + k, none⟩) hb1).trans (HC.out k hlt)
          have HB := hid T0.2.2.2.1
          obtain ⟨r0, r1⟩ := HQ.out k hlt
          clear T0 SF0
          generalize l.getD k 0 = r at ci r0 r1
          have hk2c : k < n₂ → ∃ b₂ o₂, a₂ = some ⟨b₂, o₂, none⟩ ∧ wr.cell? ⟨b₂, o₂ + k, none⟩ = some (.bool (bs.getD k false)) := by
            intro hk2
            have hbl := HBL.out
            rcases HBS.out with h | ⟨b₂, o₂, h, hcb⟩
            · rw [h] at hbl; simp at hbl; omega
            · have h3 := hcb k (by omega)
              exact ⟨b₂, o₂, h, (HB.out.cell (block_lt_of_cell h3)).trans h3⟩
          have HK := hid hk2c
          clear hk2c
          by_cases h92 : r = 92
          · subst h92
            by_cases hk2 : k < n₂
            · have hk2' : (k : Int) < (n₂ : Int) := by omega
              obtain ⟨b₂, o₂, ha, cb⟩ := HK.out hk2
              clear HK HBS
              subst ha
              generalize bs.getD k false = bb at cb
              go_wp2_with fail
              refine (left_esc T.out HE.out 92).mono ?_
              rintro e w1 ⟨ve', rfl, T1⟩
              have T1' := hid T1
              clear T1
              go_wp2_with fail
              refine (right_esc T1'.out HX.out 92).mono ?_
              rintro e w2 ⟨vx', rfl, T2⟩
              have T2' := hid T2
              clear T2
              go_wp2
              go_roundg (n₁ - (k + 1))
              case measure => omega
              case rel => exact ⟨k + 1, _, _, by omega, rfl, by go_num, T2'.out, sofar_next SF.out (tok_esc 92 (by decide) (by decide) (by decide) (by decide)) (byt_esc 92) (esc_len6 _) (esc_len6 _)⟩
            · have hk2' : decide ((k : Int) < (n₂ : Int)) = false := decide_eq_false (by omega)
              go_wp2_with fail
              refine (left_esc T.out HE.out 92).mono ?_
              rintro e w1 ⟨ve', rfl, T1⟩
              have T1' := hid T1
              clear T1
              go_wp2_with fail
              refine (right_esc T1'.out HX.out 92).mono ?_
              rintro e w2 ⟨vx', rfl, T2⟩
              have T2' := hid T2
              clear T2
              go_wp2
              go_roundg (n₁ - (k + 1))
              case measure => omega
              case rel => exact ⟨k + 1, _, _, by omega, rfl, by go_num, T2'.out, sofar_next SF.out (tok_esc 92 (by decide) (by decide) (by decide) (by decide)) (byt_esc 92) (esc_len6 _) (esc_len6 _)⟩
          have H92 := hid h92
          have e92 : (r == 92) = false := by simpa using h92
          clear h92
          by_cases hbig : 65535 < r
          · by_cases hk2 : k < n₂
            · have hk2' : (k : Int) < (n₂ : Int) := by omega
              obtain ⟨b₂, o₂, ha, cb⟩ := HK.out hk2
              clear HK HBS
              subst ha
              generalize bs.getD k false = bb at cb
              go_wp2_with fail
              refine (left_utf T.out HE.out r (by omega) (by omega)).mono ?_
              rintro e w1 ⟨ve', rfl, T1⟩
              have T1' := hid T1
              clear T1
              go_wp2_with fail
              refine (right_utf T1'.out HX.out r (by omega) (by omega)).mono ?_
              rintro e w2 ⟨vx', rfl, T2⟩
              have T2' := hid T2
              clear T2
              go_wp2
              go_roundg (n₁ - (k + 1))
              case measure => omega
              case rel => exact ⟨k + 1, _, _, by omega, rfl, by go_num, T2'.out, sofar_next SF.out (tok_utf r H92.out) (byt_utf r (by omega) (by omega)) (utf_len _) (utf_len _)⟩
            · have hk2' : decide ((k : Int) < (n₂ : Int)) = false := decide_eq_false (by omega)
              go_wp2_with fail
              refine (left_utf T.out HE.out r (by omega) (by omega)).mono ?_
              rintro e w1 ⟨ve', rfl, T1⟩
              have T1' := hid T1
              clear T1
              go_wp2_with fail
              refine (right_utf T1'.out HX.out r (by omega) (by omega)).mono ?_
              rintro e w2 ⟨vx', rfl, T2⟩
              have T2' := hid T2
              clear T2
              go_wp2
              go_roundg (n₁ - (k + 1))
              case measure => omega
              case rel => exact ⟨k + 1, _, _, by omega, rfl, by go_num, T2'.out, sofar_next SF.out (tok_utf r H92.out) (byt_utf r (by omega) (by omega)) (utf_len _) (utf_len _)⟩
          by_cases hk2 : k < n₂
          · have hk2' : (k : Int) < (n₂ : Int) := by omega
            obtain ⟨b₂, o₂, ha, cb⟩ := HK.out hk2
            clear HK HBS
            subst ha
            generalize bs.getD k false = bb at cb
            cases bb with
            | false =>
              go_wp2_with fail
              refine (left_utf T.out HE.out r (by omega) (by omega)).mono ?_
              rintro e w1 ⟨ve', rfl, T1⟩
              have T1' := hid T1
              clear T1
              go_wp2_with fail
              refine (right_utf T1'.out HX.out r (by omega) (by omega)).mono ?_
              rintro e w2 ⟨vx', rfl, T2⟩
              have T2' := hid T2
              clear T2
              go_wp2
              go_roundg (n₁ - (k + 1))
              case measure => omega
              case rel => exact ⟨k + 1, _, _, by omega, rfl, by go_num, T2'.out, sofar_next SF.out (tok_utf r H92.out) (byt_utf r (by omega) (by omega)) (utf_len _) (utf_len _)⟩
            | true =>
              by_cases e28 : r = 8232
              · subst e28
                clear H92 e92
                go_wp2_with fail
                refine (left_esc T.out HE.out 8232).mono ?_
                rintro e w1 ⟨ve', rfl, T1⟩
                have T1' := hid T1
                clear T1
                go_wp2_with fail
                refine (right_utf T1'.out HX.out 8232 (by omega) (by omega)).mono ?_
                rintro e w2 ⟨vx', rfl, T2⟩
                have T2' := hid T2
                clear T2
                go_wp2
                go_roundg (n₁ - (k + 1))
                case measure => omega
                case rel => exact ⟨k + 1, _, _, by omega, rfl, by go_num, T2'.out, sofar_next SF.out (tok_2028) (byt_esc 8232) (esc_len6 _) (utf_len _)⟩
              by_cases e29 : r = 8233
              · subst e29
                clear H92 e92
                go_wp2_with fail
                refine (left_esc T.out HE.out 8233).mono ?_
                rintro e w1 ⟨ve', rfl, T1⟩
                have T1' := hid T1
                clear T1
                go_wp2_with fail
                refine (right_utf T1'.out HX.out 8233 (by omega) (by omega)).mono ?_
                rintro e w2 ⟨vx', rfl, T2⟩
                have T2' := hid T2
                clear T2
                go_wp2
                go_roundg (n₁ - (k + 1))
                case measure => omega
                case rel => exact ⟨k + 1, _, _, by omega, rfl, by go_num, T2'.out, sofar_next SF.out (tok_2029) (byt_esc 8233) (esc_len6 _) (utf_len _)⟩
              have H28 := hid e28
              have H29 := hid e29
              have f28 : (r == 8232) = false := by simpa using e28
              have f29 : (r == 8233) = false := by simpa using e29
              clear e28 e29
              go_wp2_with fail
              refine (left_esc T.out HE.out r).mono ?_
              rintro e w1 ⟨ve', rfl, T1⟩
              have T1' := hid T1
              clear T1
              go_wp2_with fail
              refine (right_esc T1'.out HX.out r).mono ?_
              rintro e w2 ⟨vx', rfl, T2⟩
              have T2' := hid T2
              clear T2
              go_wp2
              go_roundg (n₁ - (k + 1))
              case measure => omega
              case rel => exact ⟨k + 1, _, _, by omega, rfl, by go_num, T2'.out, sofar_next SF.out (tok_esc r (by omega) (by omega) H28.out H29.out) (byt_esc r) (esc_len6 _) (esc_len6 _)⟩
          · have hk2' : decide ((k : Int) < (n₂ : Int)) = false := decide_eq_false (by omega)
            go_wp2_with fail
            refine (left_utf T.out HE.out r (by omega) (by omega)).mono ?_
            rintro e w1 ⟨ve', rfl, T1⟩
            have T1' := hid T1
            clear T1
            go_wp2_with fail
            refine (right_utf T1'.out HX.out r (by omega) (by omega)).mono ?_
            rintro e w2 ⟨vx', rfl, T2⟩
            have T2' := hid T2
            clear T2
            go_wp2
            go_roundg (n₁ - (k + 1))
            case measure => omega
            case rel => exact ⟨k + 1, _, _, by omega, rfl, by go_num, T2'.out, sofar_next SF.out (tok_utf r H92.out) (byt_utf r (by omega) (by omega)) (utf_len _) (utf_len _)⟩
        · have hlt' : ¬ (k : Int) < (n₁ : Int) := by omega
          obtain ⟨aox, capx, hvx, hW⟩ := own_shape T0.2.1
          have HV := hid hW
          have hdis := T0.2.2.1
          have hoX := T0.2.1
          have hoE := T0.1
          have hBB := T0.2.2.2
          have hun : UnTo E X := by
            have := SF0.1 [] [] unTo_nil
            rwa [List.append_nil, List.append_nil] at this
          have hbyt := SF0.2.1
          clear T0 SF0 hW T SF HBS
          have A := hid hdis
          have A1 := hid hoX
          have A2 := hid hoE
          have A3 := hid hBB
          have A4 := hid hun
          have A5 := hid hbyt
          have A6 := hid hvx
          clear hdis hoX hoE hBB hun hbyt hvx
          go_wp2_with fail
          refine (zzun_own _ E.length w.heap.size E X _ rfl (by have := HE.out; omega) A5.out A2.out A4.out).mono ?_
          rintro e w3 ⟨ao, cap, rfl, B, hgr⟩
          have hb : Below w.heap.size w w3 := A3.out.1.grown hgr A3.out.2 (fun k hk => (A2.out.lt k hk).1)
          have hB2 : BytesAt w3 aox X := HV.out w3 (A1.out.kept hgr (row_apart A.out))
          have hvx := A6.out
          clear hgr A A1 A2 A3 A6 HV
          subst hvx
          have HX' := HX.out
          generalize hxl : X.length = xn at *
          have HXL := hid hxl
          clear hxl
          go_wp2_with fail
          refine (equal_any ao aox xn xn cap capx X X _ HXL.out HXL.out (by omega) B hB2).mono ?_
          rintro e w4 ⟨rfl, n, rfl⟩
          have hd : decide (X = X) = true := by simp
          rw [hd]
          go_wp2
          go_ret
          exact ⟨rfl, below_drewN hb n⟩

end Go.Proofs.Qxb6000868a.Un
