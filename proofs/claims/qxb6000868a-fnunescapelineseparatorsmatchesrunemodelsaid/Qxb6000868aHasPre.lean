import Derived.Test.Qxb6000868aEq
import Derived.Lib.SlBytesConst
namespace Go.Proofs.Qxb6000868a.Un
open Go.RowKit

/-- Bytes. -/
def Byt (l : List Int) : Prop := ∀ c ∈ l, 0 ≤ c ∧ c ≤ 255

theorem byte_inj {a b : Int} (ha : 0 ≤ a ∧ a ≤ 255) (hb : 0 ≤ b ∧ b ≤ 255) (h : UInt8.ofNat a.toNat = UInt8.ofNat b.toNat) : a = b := by
  have := congrArg UInt8.toNat h
  simp only [UInt8.toNat_ofNat'] at this
  omega

theorem strOfNums_inj : ∀ {p q : List Int}, Byt p → Byt q → strOfNums p = strOfNums q → p = q := by
  have key : ∀ p q : List Int, Byt p → Byt q → (p.map fun n => UInt8.ofNat n.toNat) = (q.map fun n => UInt8.ofNat n.toNat) → p = q := by
    intro p
    induction p with
    | nil => intro q _ _ h; cases q with
      | nil => rfl
      | cons b q => simp at h
    | cons a p ih =>
      intro q hp hq h
      cases q with
      | nil => simp at h
      | cons b q =>
        simp only [List.map_cons, List.cons.injEq] at h
        rw [byte_inj (hp a (by simp)) (hq b (by simp)) h.1, ih q (fun c hc => hp c (by simp [hc])) (fun c hc => hq c (by simp [hc])) h.2]
  intro p q hp hq h
  refine key p q hp hq ?_
  have := congrArg (fun s : ByteArray => s.data.toList) h
  simpa only [strOfNums_data] using this

theorem str_eq {p q : List Int} (hp : Byt p) (hq : Byt q) : ((strOfNums p).toList == (strOfNums q).toList) = decide (p = q) := by
  rw [ByteArray.toList_eq, ByteArray.toList_eq]
  by_cases e : p = q
  · subst e; simp
  · rw [decide_eq_false e, beq_eq_false_iff_ne]
    intro h
    exact e (strOfNums_inj hp hq (Go.WideShapes.bytes_inj h))

/-- bytes.Equal of two rows of one length. -/
theorem beq_row (b₁ o₁ b₂ o₂ c₁ c₂ n : Nat) (p q : List Int) (w : World) (hp : p.length = n) (hq : q.length = n) (bp : Byt p) (bq : Byt q)
    (h1 : ∀ i, i < n → w.cell? ⟨b₁, o₁ + i, none⟩ = some (.int .u8 (p.getD i 0))) (h2 : ∀ i, i < n → w.cell? ⟨b₂, o₂ + i, none⟩ = some (.int .u8 (q.getD i 0))) :
    Calls Try.prog 34 #[.slice (some ⟨b₁, o₁, none⟩) n c₁, .slice (some ⟨b₂, o₂, none⟩) n c₂] w fun e w' => e = .returned (.bool (decide (p = q))) ∧ w = w' := by
  have k1 := run_convert_bytes_arg (P := Try.prog) w 22 5 Try.underlying22 Try.underlying5 b₁ o₁ n c₁ p hp h1 9 Try.underlying9
  have k2 := run_convert_bytes_arg (P := Try.prog) w 22 5 Try.underlying22 Try.underlying5 b₂ o₂ n c₂ q hq h2 9 Try.underlying9
  have E : Hid (((strOfNums p).toList == (strOfNums q).toList) = decide (p = q)) := str_eq bp bq
  clear h1 h2 bp bq
  go_enter Try.func34, Try.ntmps34
  go_wp2
  go_ret
  exact ⟨ret_bool E.out.symm, rfl⟩

/-- bytes.HasPrefix where the text is too short. -/
theorem hasPre_short (a₁ a₂ : Option Addr) (n c₁ m c₂ : Nat) (w : World) (h : n < m) :
    Calls Try.prog 33 #[.slice a₁ n c₁, .slice a₂ m c₂] w fun e w' => e = .returned (.bool false) ∧ w = w' := by
  have hd : decide ((m : Int) ≤ (n : Int)) = false := decide_eq_false (by omega)
  go_enter Try.func33, Try.ntmps33
  go_wp2
  go_ret
  exact ⟨rfl, rfl⟩

/-- bytes.HasPrefix where it is not. -/
theorem hasPre_long (b₁ o₁ b₂ o₂ n c₁ m c₂ : Nat) (s q : List Int) (w : World) (h : m ≤ n) (hc : n ≤ c₁) (hs : s.length = n) (hq : q.length = m) (bs : Byt s) (bq : Byt q)
    (h1 : ∀ i, i < n → w.cell? ⟨b₁, o₁ + i, none⟩ = some (.int .u8 (s.getD i 0))) (h2 : ∀ i, i < m → w.cell? ⟨b₂, o₂ + i, none⟩ = some (.int .u8 (q.getD i 0))) :
    Calls Try.prog 33 #[.slice (some ⟨b₁, o₁, none⟩) n c₁, .slice (some ⟨b₂, o₂, none⟩) m c₂] w fun e w' => e = .returned (.bool (decide (s.take m = q))) ∧ w = w' := by
  have hd : (m : Int) ≤ (n : Int) := by omega
  have hd2 : (m : Int) ≤ (c₁ : Int) := by omega
  have C := beq_row b₁ o₁ b₂ o₂ c₁ c₂ m (s.take m) q w (by rw [List.length_take]; omega) hq (fun c hc => bs c (List.mem_of_mem_take hc)) bq
    (fun i hi => by rw [h1 i (by omega), List.getD_eq_getElem?_getD, List.getD_eq_getElem?_getD, List.getElem?_take, if_pos hi]) h2
  have HC := C
  clear h1 h2 bs bq hs hq C
  go_enter Try.func33, Try.ntmps33
  go_wp2_with fail
  refine HC.mono ?_
  rintro e w' ⟨rfl, rfl⟩
  go_wp2
  go_ret
  exact ⟨rfl, rfl⟩

end Go.Proofs.Qxb6000868a.Un
