import Derived.Test.Qxb6000868aRows
import Derived.Test.Qxb6000868aModel
import Derived.Deep.Grids
import Derived.WalkKit
import Derived.ProofKit
import Derived.OpenShut
import Derived.ShutString
import Derived.ChangeOld
import Derived.Below
namespace Go.Proofs.Qxb6000868a.fnUnescapeLineSeparatorsMatchesRuneModel
open Go.ChangeShapes Go.WideShapes Go.ChangeAt Go.RowKit
open Go.ChangeMaps (open_string shut_string)
set_option linter.unusedVariables false

theorem own : ownKnob Try.prog.godebug = none := by kernel_rfl
theorem laidOut : laidOutB Try.prog = true := by kernel_rfl

/-- What the walk is told of a slice of runes that came in: nil, or a row of cells up to its capacity. -/
def IsRow (w : World) (a : Option Addr) (len cap : Nat) (zs : List Int) : Prop :=
  (a = none ∧ len = 0 ∧ cap = 0 ∧ zs = []) ∨
  ∃ x, a = some x ∧ len ≤ cap ∧ zs.length = cap ∧ (∀ i, i < zs.length → w.cell? (x.add i) = some (.int .i32 (zs.getD i 0)))

/-- The same of a slice of bools. -/
def IsBools (w : World) (a : Option Addr) (len cap : Nat) (B : Nat → Bool) : Prop :=
  (a = none ∧ len = 0 ∧ cap = 0) ∨ ∃ x, a = some x ∧ len ≤ cap ∧ (∀ i, i < cap → w.cell? (x.add i) = some (.bool (B i)))

theorem runes_of_row {w : World} {a : Option Addr} {len cap : Nat} {zs : List Int} (h : IsRow w a len cap zs) : Un.RunesAt w a (zs.take len) ∧ (zs.take len).length = len := by
  rcases h with ⟨rfl, rfl, rfl, rfl⟩ | ⟨x, rfl, h1, h3, h4⟩
  · exact ⟨Or.inl rfl, rfl⟩
  · have hl : (zs.take len).length = len := by rw [List.length_take]; omega
    refine ⟨?_, hl⟩
    by_cases h0 : len = 0
    · exact Or.inl (List.eq_nil_of_length_eq_zero (by omega))
    · obtain ⟨b, off, spot⟩ := x
      have hspot : spot = none := by simpa [Addr.add] using World.cell?_spot (h4 0 (by omega))
      subst hspot
      refine Or.inr ⟨b, off, rfl, fun i hi => ?_⟩
      have h5 := h4 i (by omega)
      rw [add_plain] at h5
      rw [h5, List.getD_eq_getElem?_getD, List.getD_eq_getElem?_getD, List.getElem?_take, if_pos (by omega)]

theorem bools_of_row {w : World} {a : Option Addr} {len cap : Nat} {B : Nat → Bool} (h : IsBools w a len cap B) : Un.BoolsAt w a ((List.range len).map B) ∧ ((List.range len).map B).length = len := by
  rcases h with ⟨rfl, rfl, rfl⟩ | ⟨x, rfl, h1, h4⟩
  · exact ⟨Or.inl rfl, rfl⟩
  · refine ⟨?_, by simp⟩
    by_cases h0 : len = 0
    · subst h0; exact Or.inl rfl
    · obtain ⟨b, off, spot⟩ := x
      have hspot : spot = none := by simpa [Addr.add] using World.cell?_spot (h4 0 (by omega))
      subst hspot
      refine Or.inr ⟨b, off, rfl, fun i hi => ?_⟩
      have hi' : i < len := by simpa using hi
      have h5 := h4 i (by omega)
      rw [add_plain] at h5
      rw [h5]
      simp [List.getElem?_range hi']

theorem walk (a0 : Option Addr) (len0 cap0 : Nat) (z0 : List Int) (a1 : Option Addr) (len1 cap1 : Nat) (B1 : Nat → Bool) (w : World) (w0 : IsRow w a0 len0 cap0 z0) (w1 : IsBools w a1 len1 cap1 B1) :
    Calls Try.prog 5 #[.slice a0 len0 cap0, .slice a1 len1 cap1] w fun e w' => e = .returned (.bool true) ∧ Below w.heap.size w w' := by
  by_cases hl : 65536 < len0 ∨ 65536 < len1
  · exact Un.model_long a0 a1 len0 len1 cap0 cap1 w hl
  obtain ⟨hr, hlen⟩ := runes_of_row w0
  obtain ⟨hb, hblen⟩ := bools_of_row w1
  by_cases h0 : len0 = 0
  · subst h0
    exact Un.model_empty a0 a1 len1 cap0 cap1 w (by omega)
  rcases hr with hr | ⟨b, off, rfl, hc⟩
  · rw [hr] at hlen; simp at hlen; omega
  · exact Un.model_row b off len0 len1 cap0 cap1 a1 _ _ w hlen hblen (by omega) (by omega) (block_lt_of_cell (hc 0 (by omega))) (fun i hi => hc i (by omega)) hb

/-! ### THE ROW's STEP: WRITTEN OUT: LEAVE IT -/
set_option maxRecDepth 100000 in
theorem lifted (os : Os) (started : os.Started) (H : Type) (enc : TypeId × Value → H) :
    ReturnsInHanded {} Try.checked os 5 .any (Rows.fnUnescapeLineSeparatorsMatchesRuneModelSpec.pre6 enc Try.prog Try.f5 Rows.fnUnescapeLineSeparatorsMatchesRuneModelRow.domain false) (Rows.fnUnescapeLineSeparatorsMatchesRuneModelSpec.post enc Try.prog Try.f5 false true false false) := by
  refine returnsInHanded_of_change (C := Try.checked) own started (by kernel_rfl) Try.func5
    (ChangeSpec.witness6 (enc := enc) (C := Try.checked) false ⟨#[], #[.slice none 0 0, .slice none 0 0], []⟩ 8 (by kernel_rfl) (by kernel_rfl) (by kernel_rfl) (by kernel_rfl)) ?_
  intro W base args ds gs before hval0 hW hcnd _
  have hval : ∀ (j : Nat) t v, Try.f5.params[j]? = some t → args[j]? = some v → Value.okWide Try.prog W .any base t v := hval0
  have hW' := hW
  obtain ⟨p, q, hA0, hV, rfl, hfz, hnd⟩ := hW
  have hA : DataW.TrodAll enc Try.prog W 0 (fun _ => true) true Try.f5.params.toList args.toList ds p := hA0
  rw [Try.params5] at hA hval
  obtain ⟨v0, vs0, d0, ds0, p0, q0, hargs, rfl, rfl, h0, r0⟩ := trodAll_cons hA
  obtain ⟨v1, vs1, d1, ds1, p1, q1, rfl, rfl, rfl, h1, r1⟩ := trodAll_cons r0
  obtain ⟨rfl, rfl, rfl⟩ := trodAll_nil r1
  obtain rfl : args = #[v0, v1] := by cases args; simp_all
  obtain ⟨rfl, rfl⟩ := trodVars_none hV
  obtain ⟨a0, len0, cap0, rfl⟩ := okWide_slice Try.underlying31 (hval 0 31 v0 rfl rfl)
  have k0 := h0
  have lt0 : ∀ x ∈ p0, x.block < W.heap.size := by obtain ⟨m, hm⟩ := k0; exact DataW.trod_lt m _ _ _ hm
  obtain ⟨z0, w0⟩ : ∃ zs, IsRow W a0 len0 cap0 zs := by
    obtain ⟨fuel, hf⟩ := h0
    rcases open_ints Try.underlying31 Try.underlying21 (by kernel_rfl) hf with ⟨hcs, _⟩ | ⟨x, l, c, zs, hcs, _, hl, hm, hz, _, hcell, hwz⟩
    · simp [Value.cells] at hcs
      obtain ⟨rfl, rfl, rfl⟩ := hcs
      exact ⟨[], .inl ⟨rfl, rfl, rfl, rfl⟩⟩
    · simp [Value.cells] at hcs
      obtain ⟨rfl, rfl, rfl⟩ := hcs
      exact ⟨zs, .inr ⟨_, rfl, hl, by simpa using hz, hcell⟩⟩
  obtain ⟨a1, len1, cap1, rfl⟩ := okWide_slice Try.underlying32 (hval 1 32 v1 rfl rfl)
  have k1 := h1
  have lt1 : ∀ x ∈ p1, x.block < W.heap.size := by obtain ⟨m, hm⟩ := k1; exact DataW.trod_lt m _ _ _ hm
  obtain ⟨B1, w1⟩ : ∃ B, IsBools W a1 len1 cap1 B := by
    obtain ⟨fuel, hf⟩ := h1
    rcases Go.Deep.open_bools Try.underlying32 Try.underlying4 (by kernel_rfl) hf with ⟨hcs, _⟩ | ⟨x, l, c, B, hcs, _, hl, hm, _, hcell⟩
    · simp [Value.cells] at hcs
      obtain ⟨rfl, rfl, rfl⟩ := hcs
      exact ⟨fun _ => false, .inl ⟨rfl, rfl, rfl⟩⟩
    · simp [Value.cells] at hcs
      obtain ⟨rfl, rfl, rfl⟩ := hcs
      exact ⟨B, .inr ⟨_, rfl, hl, hcell⟩⟩
  clear hA0 hval0
  refine (walk a0 len0 cap0 z0 a1 len1 cap1 B1 W w0 w1).mono fun e W' ⟨he, bel⟩ => ?_
  subst he
  exact ⟨_, rfl, _, _, _, [], _, [], hW', trodAll_mk1 (shut_bool Try.underlying4 _), (trodAll_cons_mk (Below.trod laidOut (by kernel_rfl) (of_decide_eq_true (by kernel_rfl)) k0 bel lt0) (trodAll_cons_mk (Below.trod laidOut (by kernel_rfl) (of_decide_eq_true (by kernel_rfl)) k1 bel lt1) trodAll_mk0)), rfl, bel.frame _, fun h => by cases h⟩

theorem over : Rows.fnUnescapeLineSeparatorsMatchesRuneModelRow.holds Try.pinned (OpenSpec.ofChange Rows.fnUnescapeLineSeparatorsMatchesRuneModelSpec) :=
  OpenClaim.holds_of_wide 5 Try.f5 rfl rfl rfl rfl rfl rfl rfl ⟨rfl, rfl, rfl, rfl, rfl⟩ rfl rfl rfl rfl rfl (by kernel_rfl) Try.func5 (by kernel_rfl)
    (of_decide_eq_true (by kernel_rfl)) (by unfold Func.isWrapper; first | (rw [if_pos (by decide +kernel)]; kernel_rfl) | (rw [if_neg (by decide +kernel)]; exact ⟨rfl, rfl⟩))
    (fun os started H enc _ => lifted os started H enc)

end Go.Proofs.Qxb6000868a.fnUnescapeLineSeparatorsMatchesRuneModel

namespace Go.Proofs.Qxb6000868a
/-- THE STATEMENT. -/
theorem fnUnescapeLineSeparatorsMatchesRuneModelProved : Rows.FnUnescapeLineSeparatorsMatchesRuneModelSaid := fnUnescapeLineSeparatorsMatchesRuneModel.over
end Go.Proofs.Qxb6000868a
