/- The plain law of decision.indexSlots: no Go in sight. -/
import Derived.Lib.BitFns
import Derived.Lib.ItoaNum
import Derived.Laws.Entries
namespace Go.Proofs.Qxb6613375a

/-- How many slots: two to the number of bits of 2n. -/
def slots (n : Int) : Int := 2 ^ Lib.bitLen (2 * n).toNat

theorem slots_zero : slots 0 = 1 := by decide

theorem len_le (n : Int) (h1 : n ≤ 2305843009213693951) : Lib.bitLen (2 * n).toNat ≤ 62 :=
  Lib.bitLen_le _ 62 (by decide) (by omega)

theorem len_bounds (n : Int) (h0 : 1 ≤ n) (h1 : n ≤ 2305843009213693951) :
    1 ≤ Lib.bitLen (2 * n).toNat ∧ 2 ^ (Lib.bitLen (2 * n).toNat - 1) ≤ (2 * n).toNat ∧ (2 * n).toNat < 2 ^ Lib.bitLen (2 * n).toNat :=
  Lib.bitLenAux_bounds 64 (2 * n).toNat (by omega) (by omega)

theorem slots_nat (n : Int) : slots n = ((2 ^ Lib.bitLen (2 * n).toNat : Nat) : Int) := by
  unfold slots
  simp

theorem slots_pos (n : Int) : 1 ≤ slots n := by
  rw [slots_nat]
  have : 0 < 2 ^ Lib.bitLen (2 * n).toNat := Nat.pow_pos (by decide)
  omega

theorem slots_lo (n : Int) (h0 : 0 ≤ n) (h1 : n ≤ 2305843009213693951) : 2 * n < slots n := by
  by_cases hz : n = 0
  · subst hz
    rw [slots_zero]
    decide
  · obtain ⟨a, b, c⟩ := len_bounds n (by omega) h1
    rw [slots_nat]
    omega

theorem slots_hi (n : Int) (h0 : 1 ≤ n) (h1 : n ≤ 2305843009213693951) : slots n ≤ 4 * n := by
  obtain ⟨a, b, c⟩ := len_bounds n h0 h1
  rw [slots_nat]
  obtain ⟨k, hk⟩ : ∃ k, Lib.bitLen (2 * n).toNat = k + 1 := ⟨Lib.bitLen (2 * n).toNat - 1, by omega⟩
  rw [hk] at b ⊢
  rw [Nat.add_sub_cancel] at b
  rw [Nat.pow_succ]
  omega

theorem slots_max (n : Int) (h1 : n ≤ 2305843009213693951) : slots n ≤ 4611686018427387904 := by
  have h := Nat.pow_le_pow_right (n := 2) (by decide) (len_le n h1)
  rw [slots_nat]
  omega

theorem slots_double (n : Int) (h0 : 1 ≤ n) (h1 : n ≤ 1152921504606846975) : slots (2 * n) = 2 * slots n := by
  rw [slots_nat, slots_nat]
  have e := Lib.bitLen_half (2 * (2 * n)).toNat (by omega) (by omega)
  rw [e, show (2 * (2 * n)).toNat / 2 = (2 * n).toNat by omega, Nat.add_comm, Nat.pow_succ]
  omega

theorem and_pow : ∀ k : Fin 63, bits .and .i64 (2 ^ k.val) (2 ^ k.val - 1) = 0 := by decide +kernel

theorem slots_and (n : Int) (h1 : n ≤ 2305843009213693951) : bits .and .i64 (slots n) (slots n - 1) = 0 :=
  and_pow ⟨Lib.bitLen (2 * n).toNat, by have := len_le n h1; omega⟩

theorem len_mono (n m : Int) (h0 : 0 ≤ n) (h : n ≤ m) (h1 : m ≤ 2305843009213693951) : Lib.bitLen (2 * n).toNat ≤ Lib.bitLen (2 * m).toNat := by
  by_cases hz : m = 0
  · have : n = 0 := by omega
    subst hz this
    exact Nat.le_refl _
  · obtain ⟨a, b, c⟩ := len_bounds m (by omega) h1
    exact Lib.bitLen_le _ _ (by have := len_le m h1; omega) (by omega)

theorem slots_mono (n m : Int) (h0 : 0 ≤ n) (h : n ≤ m) (h1 : m ≤ 2305843009213693951) : slots n ≤ slots m := by
  rw [slots_nat, slots_nat]
  have := Nat.pow_le_pow_right (n := 2) (by decide) (len_mono n m h0 h h1)
  omega

theorem slots_dvd (n m : Int) (h0 : 0 ≤ n) (h : n ≤ m) (h1 : m ≤ 2305843009213693951) : slots m % slots n = 0 := by
  rw [slots_nat, slots_nat]
  have := Nat.mod_eq_zero_of_dvd (Nat.pow_dvd_pow 2 (len_mono n m h0 h h1))
  omega

theorem slots_tmod (n m : Int) (h0 : 0 ≤ n) (h : n ≤ m) (h1 : m ≤ 2305843009213693951) : (slots m).tmod (slots n) = 0 := by
  rw [Int.tmod_eq_emod_of_nonneg (by have := slots_pos m; omega)]
  exact slots_dvd n m h0 h h1

end Go.Proofs.Qxb6613375a
