/-
  Plain mathematics of the encoding: an unsigned varint, a zig-zag varint, the bytes of a Value; that they can be read back. No Go in sight but for three facts on bits.
-/
import Derived.Laws.BitsAllLaws
import Derived.Laws.Bits64
namespace Go.Proofs.Ybulkbhxe.BVal

def uvF : Nat → Nat → List UInt8
  | 0, x => [UInt8.ofNat x]
  | f + 1, x => if x < 128 then [UInt8.ofNat x] else UInt8.ofNat (x % 128 + 128) :: uvF f (x / 128)

/-- The unsigned varint of x. -/
def uv (x : Nat) : List UInt8 := uvF x x

theorem uvF_fuel : ∀ (f g x : Nat), x ≤ f → x ≤ g → uvF f x = uvF g x
  | 0, g, x, hf, _ => by
    have : x = 0 := by omega
    subst this
    cases g <;> simp [uvF]
  | f + 1, 0, x, _, hg => by
    have : x = 0 := by omega
    subst this
    simp [uvF]
  | f + 1, g + 1, x, hf, hg => by
    by_cases h : x < 128
    · simp [uvF, h]
    · simp only [uvF, if_neg h]
      rw [uvF_fuel f g (x / 128) (by omega) (by omega)]

theorem uv_small {x : Nat} (h : x < 128) : uv x = [UInt8.ofNat x] := by
  unfold uv
  cases x with
  | zero => rfl
  | succ n => simp [uvF, h]

theorem uv_big {x : Nat} (h : ¬ x < 128) : uv x = UInt8.ofNat (x % 128 + 128) :: uv (x / 128) := by
  unfold uv
  cases x with
  | zero => omega
  | succ n =>
    rw [uvF, if_neg h, uvF_fuel n ((n + 1) / 128) ((n + 1) / 128) (by omega) (Nat.le_refl _)]

theorem uv_len : ∀ (k x : Nat), x < 128 ^ (k + 1) → (uv x).length ≤ k + 1
  | 0, x, h => by rw [uv_small (by simpa using h)]; simp
  | k + 1, x, h => by
    by_cases hx : x < 128
    · rw [uv_small hx]; simp
    · rw [uv_big hx, List.length_cons]
      have : x / 128 < 128 ^ (k + 1) := by
        apply Nat.div_lt_of_lt_mul
        rw [Nat.pow_succ, Nat.mul_comm] at h
        exact h
      have := uv_len k (x / 128) this
      omega

theorem uv_len64 (x : Nat) (h : x < 18446744073709551616) : (uv x).length ≤ 10 :=
  uv_len 9 x (Nat.lt_of_lt_of_le h (by decide))

theorem uv_pos (x : Nat) : 0 < (uv x).length := by
  by_cases h : x < 128
  · rw [uv_small h]; simp
  · rw [uv_big h]; simp

theorem byte_of (n : Nat) (h : n < 256) : (UInt8.ofNat n).toNat = n := by
  simp [Nat.mod_eq_of_lt h]

theorem uv_cut (x : Nat) : ∀ (y : Nat) (r s : List UInt8), uv x ++ r = uv y ++ s → x = y ∧ r = s := by
  induction x using Nat.strongRecOn with
  | ind x ih =>
    intro y r s h
    by_cases hx : x < 128
    · by_cases hy : y < 128
      · rw [uv_small hx, uv_small hy] at h
        simp only [List.cons_append, List.nil_append, List.cons.injEq] at h
        have := congrArg UInt8.toNat h.1
        rw [byte_of x (by omega), byte_of y (by omega)] at this
        exact ⟨this, h.2⟩
      · rw [uv_small hx, uv_big hy] at h
        simp only [List.cons_append, List.nil_append, List.cons.injEq] at h
        have := congrArg UInt8.toNat h.1
        rw [byte_of x (by omega), byte_of _ (by omega)] at this
        omega
    · by_cases hy : y < 128
      · rw [uv_big hx, uv_small hy] at h
        simp only [List.cons_append, List.nil_append, List.cons.injEq] at h
        have := congrArg UInt8.toNat h.1
        rw [byte_of y (by omega), byte_of _ (by omega)] at this
        omega
      · rw [uv_big hx, uv_big hy] at h
        simp only [List.cons_append, List.cons.injEq] at h
        have h1 := congrArg UInt8.toNat h.1
        rw [byte_of _ (by omega), byte_of _ (by omega)] at h1
        obtain ⟨h2, h3⟩ := ih (x / 128) (by omega) (y / 128) r s h.2
        exact ⟨by omega, h3⟩

/-- The zig-zag number of x. -/
def zig (x : Int) : Nat := if x < 0 then (-2 * x - 1).toNat else (2 * x).toNat

theorem zig_inj {x y : Int} (h : zig x = zig y) : x = y := by
  unfold zig at h
  split at h <;> split at h <;> omega

theorem zig_lt {x : Int} (h1 : -9223372036854775808 ≤ x) (h2 : x ≤ 9223372036854775807) : zig x < 18446744073709551616 := by
  unfold zig
  split <;> omega

/-- The bytes of a Value. -/
def enc (d : Nat) (n l : Int) (s : List UInt8) : List UInt8 := uv d ++ uv (zig n) ++ uv (zig l) ++ uv s.length ++ s

theorem enc_inj {d d' : Nat} {n n' l l' : Int} {s s' : List UInt8} (h : enc d n l s = enc d' n' l' s') : d = d' ∧ n = n' ∧ l = l' ∧ s = s' := by
  unfold enc at h
  simp only [List.append_assoc] at h
  obtain ⟨e1, h⟩ := uv_cut _ _ _ _ h
  obtain ⟨e2, h⟩ := uv_cut _ _ _ _ h
  obtain ⟨e3, h⟩ := uv_cut _ _ _ _ h
  obtain ⟨_, h⟩ := uv_cut _ _ _ _ h
  exact ⟨e1, zig_inj e2, zig_inj e3, h⟩

/-- A byte with its high bit set. -/
theorem or_high (y : Nat) : bits .or .u8 (IntKind.u8.wrap (y : Int)) 128 = ((UInt8.ofNat (y % 128 + 128)).toNat : Int) := by
  rw [IntKind.wrap_u8', u8_or _ _ (by omega) (by omega) (by omega) (by omega), byte_of _ (by omega)]
  have e : ((y : Int) % 256).toNat = y % 256 := by omega
  rw [e]
  have e2 : (128 : Int).toNat = 128 := rfl
  rw [e2]
  congr 1
  have : y % 256 ||| 128 = y % 128 + 128 := by
    have h1 : y % 256 = (y % 256 / 128) * 128 + y % 128 := by omega
    rcases (show y % 256 / 128 = 0 ∨ y % 256 / 128 = 1 by omega) with h | h
    · rw [h1, h, Nat.zero_mul, Nat.zero_add, Nat.or_comm, nat_join 7 128 (y % 128) (by decide) (by omega)]
      omega
    · have h2 : y % 256 = 128 ||| y % 128 := by rw [nat_join 7 128 (y % 128) (by decide) (by omega)]; omega
      rw [h2, Nat.or_comm, ← Nat.or_assoc, Nat.or_self, nat_join 7 128 (y % 128) (by decide) (by omega)]
      omega
  exact this

theorem wrap_low (y : Nat) (h : y < 128) : IntKind.u8.wrap (y : Int) = ((UInt8.ofNat y).toNat : Int) := by
  rw [IntKind.wrap_u8', byte_of _ (by omega)]
  omega

theorem xor_ones (y : Nat) (h : y < 18446744073709551616) : 18446744073709551615 ^^^ y = 18446744073709551615 - y := by
  have h1 := Nat.testBit_two_pow_sub_succ (x := y) (n := 64) h
  apply Nat.eq_of_testBit_eq
  intro i
  have e : 18446744073709551615 - y = 2 ^ 64 - (y + 1) := by omega
  rw [Nat.testBit_xor, e, h1 i]
  have e2 : (18446744073709551615 : Nat) = 2 ^ 64 - 1 := by decide
  rw [e2, Nat.testBit_two_pow_sub_one]
  by_cases hi : i < 64
  · simp [hi]
  · have : y.testBit i = false := Nat.testBit_lt_two_pow (Nat.lt_of_lt_of_le h (by
      have : 2 ^ 64 ≤ 2 ^ i := Nat.pow_le_pow_right (by omega) (by omega)
      simpa using this))
    simp [hi, this]

theorem zig_neg (x : Int) (h0 : x < 0) (h1 : -9223372036854775808 ≤ x) : bits .xor .u64 IntKind.u64.max (IntKind.u64.wrap (IntKind.u64.wrap x * 2)) = (zig x : Int) := by
  have em : IntKind.u64.max = 18446744073709551615 := by decide
  rw [em, IntKind.wrap_u64, IntKind.wrap_u64]
  have e1 : x % 18446744073709551616 * 2 % 18446744073709551616 = 2 * x + 18446744073709551616 := by omega
  rw [e1, u64_xor _ _ (by omega) (by omega) (by omega) (by omega)]
  have e2 : (18446744073709551615 : Int).toNat = 18446744073709551615 := rfl
  rw [e2, xor_ones _ (by omega)]
  unfold zig
  rw [if_pos h0]
  omega

theorem zig_pos (x : Int) (h0 : ¬ x < 0) : x * 2 = (zig x : Int) := by
  unfold zig
  rw [if_neg h0]
  omega
end Go.Proofs.Ybulkbhxe.BVal
