import Derived.Laws.BitsLemmas
namespace Go.Proofs.Qxb6000868a.Esc

/-- 'x & (2^i - 1)' on an int32, whatever its sign: the remainder. -/
theorem i32_mask (i : Nat) (hi : i < 31) (x : Int) : bits .and .i32 x ((2 ^ i - 1 : Nat) : Int) = x % ((2 ^ i : Nat) : Int) := by
  have hpos : 0 < 2 ^ i := Nat.two_pow_pos i
  have hlt : 2 ^ i < 2 ^ 31 := Nat.pow_lt_pow_right (by decide) hi
  have hm : (2 ^ i - 1) % 2 ^ 32 = 2 ^ i - 1 := Nat.mod_eq_of_lt (by omega)
  have hb : IntKind.i32.bits = 32 := rfl
  simp only [bits, hb, BitVec.toNat_and, BitVec.ofInt_natCast, BitVec.toNat_ofNat, hm, Nat.and_two_pow_sub_one_eq_mod]
  have e : (BitVec.ofInt IntKind.i32.bits x).toNat = (x % 4294967296).toNat := by
    rw [BitVec.toNat_ofInt]; rfl
  rw [e]
  have hd : (2 ^ i : Nat) ∣ 4294967296 := ⟨2 ^ (32 - i), by rw [← Nat.pow_add, show i + (32 - i) = 32 by omega]⟩
  obtain ⟨c, hc⟩ := hd
  have hcI : (4294967296 : Int) = ((2 ^ i : Nat) : Int) * (c : Int) := by
    have h := congrArg (Nat.cast : Nat → Int) hc
    rw [Int.natCast_mul] at h
    exact h
  have h1 : ((((x % 4294967296).toNat % 2 ^ i : Nat)) : Int) = x % ((2 ^ i : Nat) : Int) := by
    rw [Int.natCast_emod, Int.toNat_of_nonneg (Int.emod_nonneg _ (by decide))]
    exact Int.emod_emod_of_dvd x ⟨(c : Int), hcI⟩
  rw [h1]
  have h2 : 0 ≤ x % ((2 ^ i : Nat) : Int) := Int.emod_nonneg _ (by omega)
  have h3 : x % ((2 ^ i : Nat) : Int) < ((2 ^ i : Nat) : Int) := Int.emod_lt_of_pos _ (by omega)
  exact wraps_i32 _ h2 (by
    have : ((2 ^ i : Nat) : Int) < ((2 ^ 31 : Nat) : Int) := by exact_mod_cast hlt
    have e2 : ((2 ^ 31 : Nat) : Int) = 2 ^ 31 := by decide
    omega)

theorem i32_and15 (x : Int) : bits .and .i32 x 15 = x % 16 := i32_mask 4 (by decide) x
theorem i32_and63 (x : Int) : bits .and .i32 x 63 = x % 64 := i32_mask 6 (by decide) x
theorem i32_and65535 (x : Int) : bits .and .i32 x 65535 = x % 65536 := i32_mask 16 (by decide) x

end Go.Proofs.Qxb6000868a.Esc
