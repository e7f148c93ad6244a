/- Plain: four bytes as a number, as the two texts put them together; a prefix holds an address. -/
import Derived.Laws.BitsAllLaws
import Derived.Laws.Bits128
namespace Go.Proofs.Qxb6612599aDoor
open Go

/-- the number of an IPv4 address -/
def val (x : Nat → Nat) : Nat := x 0 * 16777216 + x 1 * 65536 + x 2 * 256 + x 3
/-- .. and the lower half of its 128 bits -/
def lo (x : Nat → Nat) : Nat := 281470681743360 + val x
/-- four bytes -/
def Bytes (x : Nat → Nat) : Prop := ∀ j, x j < 256

theorem or_add (n a b i : Nat) (ha : a = 2 ^ i * n) (hb : b < 2 ^ i) : a ||| b = a + b := by
  rw [ha, Nat.two_pow_add_eq_or_of_lt hb]

theorem val_lt {x : Nat → Nat} (h : Bytes x) : val x < 4294967296 := by
  have h0 := h 0; have h1 := h 1; have h2 := h 2; have h3 := h 3
  unfold val; omega

theorem lo_lt {x : Nat → Nat} (h : Bytes x) : lo x < 18446744073709551616 := by
  have := val_lt h; unfold lo; omega

theorem u64_or_add (a b : Nat) (i n : Nat) (ha : a = 2 ^ i * n) (hb : b < 2 ^ i) (ha' : a < 18446744073709551616) (hb' : b < 18446744073709551616) : bits .or .u64 (a : Int) (b : Int) = ((a + b : Nat) : Int) := by
  rw [u64_or_nat a b ha' hb', or_add n a b i ha hb]
theorem u32_or_add (a b : Nat) (i n : Nat) (ha : a = 2 ^ i * n) (hb : b < 2 ^ i) (ha' : a < 4294967296) (hb' : b < 4294967296) : bits .or .u32 (a : Int) (b : Int) = ((a + b : Nat) : Int) := by
  rw [u32_or_nat a b ha' hb', or_add n a b i ha hb]

/-- what AddrFrom4 makes of the bytes -/
theorem lo_eq {x : Nat → Nat} (h : Bytes x) :
    bits .or .u64 (bits .or .u64 (bits .or .u64 (bits .or .u64 281470681743360 ((x 0 : Int) * 16777216)) ((x 1 : Int) * 65536)) ((x 2 : Int) * 256)) (x 3 : Int) = (lo x : Int) := by
  have h0 := h 0; have h1 := h 1; have h2 := h 2; have h3 := h 3
  have e1 : bits .or .u64 281470681743360 ((x 0 : Int) * 16777216) = ((281470681743360 + x 0 * 16777216 : Nat) : Int) := by
    have := u64_or_add 281470681743360 (x 0 * 16777216) 32 65535 (by decide) (by omega) (by omega) (by omega)
    simpa using this
  have e2 : bits .or .u64 ((281470681743360 + x 0 * 16777216 : Nat) : Int) ((x 1 : Int) * 65536) = ((281470681743360 + x 0 * 16777216 + x 1 * 65536 : Nat) : Int) := by
    have := u64_or_add (281470681743360 + x 0 * 16777216) (x 1 * 65536) 24 (16776960 + x 0) (by omega) (by omega) (by omega) (by omega)
    simpa using this
  have e3 : bits .or .u64 ((281470681743360 + x 0 * 16777216 + x 1 * 65536 : Nat) : Int) ((x 2 : Int) * 256) = ((281470681743360 + x 0 * 16777216 + x 1 * 65536 + x 2 * 256 : Nat) : Int) := by
    have := u64_or_add (281470681743360 + x 0 * 16777216 + x 1 * 65536) (x 2 * 256) 16 (4294901760 + x 0 * 256 + x 1) (by omega) (by omega) (by omega) (by omega)
    simpa using this
  have e4 : bits .or .u64 ((281470681743360 + x 0 * 16777216 + x 1 * 65536 + x 2 * 256 : Nat) : Int) (x 3 : Int) = ((281470681743360 + val x : Nat) : Int) := by
    have := u64_or_add (281470681743360 + x 0 * 16777216 + x 1 * 65536 + x 2 * 256) (x 3) 8 (1099494850560 + x 0 * 65536 + x 1 * 256 + x 2) (by omega) (by omega) (by omega) (by omega)
    rw [this]; congr 1; unfold val; omega
  rw [e1, e2, e3, e4]; rfl

/-- what zzBE32 makes of them -/
theorem be_eq {x : Nat → Nat} (h : Bytes x) :
    bits .or .u32 (bits .or .u32 (bits .or .u32 ((x 0 : Int) * 16777216) ((x 1 : Int) * 65536)) ((x 2 : Int) * 256)) (x 3 : Int) = ((val x : Nat) : Int) := by
  have h0 := h 0; have h1 := h 1; have h2 := h 2; have h3 := h 3
  have e2 : bits .or .u32 ((x 0 : Int) * 16777216) ((x 1 : Int) * 65536) = ((x 0 * 16777216 + x 1 * 65536 : Nat) : Int) := by
    have := u32_or_add (x 0 * 16777216) (x 1 * 65536) 24 (x 0) (by omega) (by omega) (by omega) (by omega)
    simpa using this
  have e3 : bits .or .u32 ((x 0 * 16777216 + x 1 * 65536 : Nat) : Int) ((x 2 : Int) * 256) = ((x 0 * 16777216 + x 1 * 65536 + x 2 * 256 : Nat) : Int) := by
    have := u32_or_add (x 0 * 16777216 + x 1 * 65536) (x 2 * 256) 16 (x 0 * 256 + x 1) (by omega) (by omega) (by omega) (by omega)
    simpa using this
  have e4 : bits .or .u32 ((x 0 * 16777216 + x 1 * 65536 + x 2 * 256 : Nat) : Int) (x 3 : Int) = ((val x : Nat) : Int) := by
    have := u32_or_add (x 0 * 16777216 + x 1 * 65536 + x 2 * 256) (x 3) 8 (x 0 * 65536 + x 1 * 256 + x 2) (by omega) (by omega) (by omega) (by omega)
    rw [this]; congr 1
  rw [e2, e3, e4]

/-- the high parts of two such numbers cancel -/
theorem xor_lo {a b : Nat} (ha : a < 4294967296) (hb : b < 4294967296) : (281470681743360 + a) ^^^ (281470681743360 + b) = a ^^^ b := by
  have e : ∀ c, c < 4294967296 → 281470681743360 + c = 281470681743360 ^^^ c := fun c hc => by
    have h1 := or_add 65535 281470681743360 c 32 (by decide) (by omega)
    rw [← h1]
    have hd : 281470681743360 &&& c = 0 := by
      apply Nat.eq_of_testBit_eq
      intro i
      rw [Nat.testBit_and, Nat.zero_testBit]
      by_cases hi : i < 32
      · have : Nat.testBit 281470681743360 i = false := by
          have e2 : (281470681743360 : Nat) = 2 ^ 32 * 65535 := by decide
          rw [e2, Nat.testBit_two_pow_mul]
          simp; omega
        simp [this]
      · have : Nat.testBit c i = false := Nat.testBit_lt_two_pow (Nat.lt_of_lt_of_le hc (by
          have : 2 ^ 32 ≤ 2 ^ i := Nat.pow_le_pow_right (by decide) (by omega)
          simpa using this))
        simp [this]
    apply Nat.eq_of_testBit_eq
    intro i
    have hi := congrArg (fun n => Nat.testBit n i) hd
    simp only [Nat.testBit_and, Nat.zero_testBit] at hi
    rw [Nat.testBit_or, Nat.testBit_xor]
    cases h1 : Nat.testBit 281470681743360 i <;> cases h2 : Nat.testBit c i <;> simp_all
  rw [e a ha, e b hb]
  rw [Nat.xor_assoc, ← Nat.xor_assoc a, Nat.xor_comm a 281470681743360, Nat.xor_assoc 281470681743360 a b, ← Nat.xor_assoc, Nat.xor_self, Nat.zero_xor]

theorem i64_and63 (n : Int) : bits .and .i64 n 63 = n % 64 := by
  have h63 : (BitVec.ofInt 64 63).toNat = 2 ^ 6 - 1 := by decide
  have key : (BitVec.ofInt 64 n &&& BitVec.ofInt 64 63).toNat = (n % ((2 ^ 64 : Nat) : Int)).toNat % 2 ^ 6 := by
    rw [BitVec.toNat_and, BitVec.toNat_ofInt, h63, Nat.and_two_pow_sub_one_eq_mod]
  show IntKind.i64.wrap ((BitVec.ofInt 64 n &&& BitVec.ofInt 64 63).toNat : Nat) = n % 64
  rw [key, IntKind.wrap_i64]
  omega

/-- the prefix x/c holds a -/
def holds (x : Nat → Nat) (c : Int) (a : Nat → Nat) : Bool := decide (0 ≤ c ∧ c ≤ 32 ∧ (val x ^^^ val a) / 2 ^ (32 - c.toNat) = 0)

theorem holds_out (x : Nat → Nat) (c : Int) (a : Nat → Nat) (h : ¬ (0 ≤ c ∧ c ≤ 32)) : holds x c a = false := by
  unfold holds
  rw [decide_eq_false_iff_not]
  intro ⟨h1, h2, _⟩
  exact h ⟨h1, h2⟩

theorem holds_in (x a : Nat → Nat) (k : Nat) (hk : k ≤ 32) : holds x (k : Int) a = decide ((val a ^^^ val x) / 2 ^ (32 - k) = 0) := by
  unfold holds
  rw [decide_eq_decide, Nat.xor_comm, Int.toNat_natCast]
  constructor
  · rintro ⟨_, _, h⟩; exact h
  · intro h; exact ⟨by omega, by omega, h⟩

/-- what Contains reckons -/
theorem holds_eq {x a : Nat → Nat} (hx : Bytes x) (ha : Bytes a) (k : Nat) (hk : k ≤ 32) :
    (IntKind.u32.wrap (((lo a ^^^ lo x : Nat) : Int) / 2 ^ (32 - k)) == 0) = holds x (k : Int) a := by
  unfold lo
  rw [holds_in x a k hk, xor_lo (val_lt ha) (val_lt hx)]
  have hlt : val a ^^^ val x < 2 ^ 32 := Nat.xor_lt_two_pow (by have := val_lt ha; omega) (by have := val_lt hx; omega)
  have e1 : (((val a ^^^ val x : Nat) : Int) / 2 ^ (32 - k)) = (((val a ^^^ val x) / 2 ^ (32 - k) : Nat) : Int) := by
    rw [Int.natCast_ediv, Int.natCast_pow]; rfl
  rw [e1]
  have hle : (val a ^^^ val x) / 2 ^ (32 - k) ≤ val a ^^^ val x := Nat.div_le_self _ _
  generalize (val a ^^^ val x) / 2 ^ (32 - k) = q at hle ⊢
  rw [IntKind.wrap_u32]
  have e2 : (q : Int) % 4294967296 = q := by omega
  rw [e2]
  by_cases h : q = 0
  · simp [h]
  · have h' : ¬ (q : Int) = 0 := by omega
    simp [h]

/-- what zzPrefixHolds reckons -/
theorem holds_law (x a : Nat → Nat) (k : Nat) (hk : k ≤ 32) :
    (((((val x ^^^ val a : Nat) : Int) / 2 ^ (32 - k)) == 0) : Bool) = holds x (k : Int) a := by
  rw [holds_in x a k hk, Nat.xor_comm]
  have e1 : (((val a ^^^ val x : Nat) : Int) / 2 ^ (32 - k)) = (((val a ^^^ val x) / 2 ^ (32 - k) : Nat) : Int) := by
    rw [Int.natCast_ediv, Int.natCast_pow]; rfl
  rw [e1]
  generalize (val a ^^^ val x) / 2 ^ (32 - k) = q
  by_cases h : q = 0
  · simp [h]
  · have h' : ¬ (q : Int) = 0 := by omega
    simp [h]

/-- no bits: every address -/
theorem holds_zero {x a : Nat → Nat} (hx : Bytes x) (ha : Bytes a) : holds x 0 a = true := by
  have h := holds_in x a 0 (by omega)
  rw [show ((0 : Nat) : Int) = 0 from rfl] at h
  rw [h]
  have hlt : val a ^^^ val x < 2 ^ 32 := Nat.xor_lt_two_pow (by have := val_lt ha; omega) (by have := val_lt hx; omega)
  simp only [decide_eq_true_eq]
  exact Nat.div_eq_of_lt hlt

/-- an address lies in its own prefix -/
theorem holds_self {a : Nat → Nat} (c : Int) : holds a c a = decide (0 ≤ c ∧ c ≤ 32) := by
  unfold holds
  rw [Nat.xor_self, Nat.zero_div]
  simp
end Go.Proofs.Qxb6612599aDoor
