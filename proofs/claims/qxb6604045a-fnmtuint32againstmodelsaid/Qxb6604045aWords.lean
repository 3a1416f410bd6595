/-
  The 32-bit words of the generator as bit vectors: 'ui x' is the number that the Go word holds; each Go operation on words is the operation on bit vectors.
-/
import Derived.Laws.BitsAllLaws
namespace Go.Proofs.Qxb6604045a

/-- The number of a word. -/
def ui (x : BitVec 32) : Int := (x.toNat : Int)

theorem ui_nonneg (x : BitVec 32) : 0 ≤ ui x := by unfold ui; omega
theorem ui_lt (x : BitVec 32) : ui x < 4294967296 := by unfold ui; have := x.isLt; omega
theorem ui_inj {x y : BitVec 32} (h : ui x = ui y) : x = y := by
  unfold ui at h
  apply BitVec.eq_of_toNat_eq
  omega
theorem ui_beq (x y : BitVec 32) : (ui x == ui y) = (x == y) := by
  by_cases h : x = y
  · subst h; simp
  · have h2 : ui x ≠ ui y := fun e => h (ui_inj e)
    rw [beq_eq_false_iff_ne.mpr h2, beq_eq_false_iff_ne.mpr h]
theorem ui_of {n : Int} (h0 : 0 ≤ n) (h1 : n < 4294967296) : ∃ x : BitVec 32, n = ui x := by
  refine ⟨BitVec.ofNat 32 n.toNat, ?_⟩
  unfold ui
  rw [BitVec.toNat_ofNat, Nat.mod_eq_of_lt (by omega)]
  omega

theorem ui_and (x y : BitVec 32) : bits .and .u32 (ui x) (ui y) = ui (x &&& y) := by
  unfold ui; rw [u32_and_nat _ _ x.isLt y.isLt, BitVec.toNat_and]
theorem ui_or (x y : BitVec 32) : bits .or .u32 (ui x) (ui y) = ui (x ||| y) := by
  unfold ui; rw [u32_or_nat _ _ x.isLt y.isLt, BitVec.toNat_or]
theorem ui_xor (x y : BitVec 32) : bits .xor .u32 (ui x) (ui y) = ui (x ^^^ y) := by
  unfold ui; rw [u32_xor_nat _ _ x.isLt y.isLt, BitVec.toNat_xor]

theorem ui_shr (x : BitVec 32) (n : Nat) : ui x / (2 : Int) ^ n = ui (x >>> n) := by
  unfold ui
  rw [BitVec.toNat_ushiftRight, Nat.shiftRight_eq_div_pow, Int.natCast_ediv, Int.natCast_pow]
  rfl
theorem ui_shl (x : BitVec 32) (n : Nat) : ui x * (2 : Int) ^ n % (4294967296 : Int) = ui (x <<< n) := by
  unfold ui
  rw [BitVec.toNat_shiftLeft, Nat.shiftLeft_eq, Int.natCast_emod, Int.natCast_mul, Int.natCast_pow]
  rfl

theorem ui_add (x y : BitVec 32) : (ui x + ui y) % (4294967296 : Int) = ui (x + y) := by
  unfold ui; rw [BitVec.toNat_add, Int.natCast_emod, Int.natCast_add]; rfl
theorem ui_mul (x y : BitVec 32) : (ui x * ui y) % (4294967296 : Int) = ui (x * y) := by
  unfold ui; rw [BitVec.toNat_mul, Int.natCast_emod, Int.natCast_mul]; rfl
theorem ui_sub (x y : BitVec 32) : (ui x - ui y) % (4294967296 : Int) = ui (x - y) := by
  unfold ui; rw [BitVec.toNat_sub]; have := x.isLt; have := y.isLt; omega

/-! ### With the constants of the program -/
theorem ui_and_up (x : BitVec 32) : bits .and .u32 (ui x) 2147483648 = ui (x &&& 2147483648#32) := ui_and x 2147483648#32
theorem ui_and_lo (x : BitVec 32) : bits .and .u32 (ui x) 2147483647 = ui (x &&& 2147483647#32) := ui_and x 2147483647#32
theorem ui_and_1 (x : BitVec 32) : bits .and .u32 (ui x) 1 = ui (x &&& 1#32) := ui_and x 1#32
theorem ui_or_1 (x : BitVec 32) : bits .or .u32 (ui x) 1 = ui (x ||| 1#32) := ui_or x 1#32
theorem ui_xor_m (x : BitVec 32) : bits .xor .u32 (ui x) 2567483615 = ui (x ^^^ 2567483615#32) := ui_xor x 2567483615#32
theorem ui_m_and (x : BitVec 32) : bits .and .u32 2567483615 (ui x) = ui (2567483615#32 &&& x) := ui_and 2567483615#32 x
theorem ui_and_b (x : BitVec 32) : bits .and .u32 (ui x) 2636928640 = ui (x &&& 2636928640#32) := ui_and x 2636928640#32
theorem ui_and_c (x : BitVec 32) : bits .and .u32 (ui x) 4022730752 = ui (x &&& 4022730752#32) := ui_and x 4022730752#32
theorem ui_shr1 (x : BitVec 32) : ui x / (2 : Int) = ui (x >>> 1) := ui_shr x 1
theorem ui_shr5 (x : BitVec 32) : ui x / (32 : Int) = ui (x >>> 5) := ui_shr x 5
theorem ui_shr11 (x : BitVec 32) : ui x / (2048 : Int) = ui (x >>> 11) := ui_shr x 11
theorem ui_shr18 (x : BitVec 32) : ui x / (262144 : Int) = ui (x >>> 18) := ui_shr x 18
theorem ui_shr22 (x : BitVec 32) : ui x / (4194304 : Int) = ui (x >>> 22) := ui_shr x 22
theorem ui_shr30 (x : BitVec 32) : ui x / (1073741824 : Int) = ui (x >>> 30) := ui_shr x 30
theorem ui_shl1 (x : BitVec 32) : ui x * (2 : Int) % (4294967296 : Int) = ui (x <<< 1) := ui_shl x 1
theorem ui_shl7 (x : BitVec 32) : ui x * (128 : Int) % (4294967296 : Int) = ui (x <<< 7) := ui_shl x 7
theorem ui_shl15 (x : BitVec 32) : ui x * (32768 : Int) % (4294967296 : Int) = ui (x <<< 15) := ui_shl x 15
theorem ui_zero (x : BitVec 32) : (ui x == (0 : Int)) = (x == 0#32) := ui_beq x 0#32


/-! ### The seeding's arithmetic -/
theorem ui_addn (x : BitVec 32) (k : Nat) : (ui x + (k : Int)) % (4294967296 : Int) = ui (x + BitVec.ofNat 32 k) := by
  unfold ui; rw [BitVec.toNat_add, BitVec.toNat_ofNat]; omega
theorem ui_subn (x : BitVec 32) (k : Nat) : (ui x - (k : Int)) % (4294967296 : Int) = ui (x - BitVec.ofNat 32 k) := by
  unfold ui; rw [BitVec.toNat_sub, BitVec.toNat_ofNat]; have := x.isLt; omega
theorem ui_mul_i (x : BitVec 32) : ((1812433253 : Int) * ui x) % (4294967296 : Int) = ui (1812433253#32 * x) := ui_mul 1812433253#32 x
theorem ui_mul_a (x : BitVec 32) : (ui x * (1664525 : Int)) % (4294967296 : Int) = ui (x * 1664525#32) := ui_mul x 1664525#32
theorem ui_mul_b (x : BitVec 32) : (ui x * (1566083941 : Int)) % (4294967296 : Int) = ui (x * 1566083941#32) := ui_mul x 1566083941#32
theorem ui_neg1 (x : BitVec 32) : (0 - ui x) % (4294967296 : Int) = ui (0#32 - x) := ui_sub 0#32 x

end Go.Proofs.Qxb6604045a
