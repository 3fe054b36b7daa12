/-
  FACTS ON THE TYPES OF THE DUMP: how many cells, whether one, the zero value.
  ARITHMETIC OF OPERATIONS, over numbers that are given as natural ones (or as ints with bounds).
  CONTRACTS: the small functions on bits.
-/
import Derived.Test.YtoibhfpagkdleaaGreatDoorSx
import Derived.KernelRfl
import Derived.IntWalk
namespace Go.Proofs.YtoibhfpagkdleaaGreatDoor
section
open Go
open Tryz
set_option maxRecDepth 100000

theorem sz2 : Sz Tryz.prog 2 1 := Sz.of kr
theorem oc2 : OneC Tryz.prog 2 := ⟨_, underlying2, rfl⟩
theorem sz3 : Sz Tryz.prog 3 1 := Sz.of kr
theorem oc3 : OneC Tryz.prog 3 := ⟨_, underlying3, rfl⟩
theorem zr3 : Zr Tryz.prog 3 (.int .i64 0) := Zr.of kr
theorem sz4 : Sz Tryz.prog 4 1 := Sz.of kr
theorem oc4 : OneC Tryz.prog 4 := ⟨_, underlying4, rfl⟩
theorem zr4 : Zr Tryz.prog 4 (.bool false) := Zr.of kr
theorem sz5 : Sz Tryz.prog 5 1 := Sz.of kr
theorem oc5 : OneC Tryz.prog 5 := ⟨_, underlying5, rfl⟩
theorem zr5 : Zr Tryz.prog 5 (.int .u8 0) := Zr.of kr
theorem sz9 : Sz Tryz.prog 9 1 := Sz.of kr
theorem oc9 : OneC Tryz.prog 9 := ⟨_, underlying9, rfl⟩
theorem zr9 : Zr Tryz.prog 9 (.string ⟨#[]⟩) := Zr.of kr
theorem sz22 : Sz Tryz.prog 22 1 := Sz.of kr
theorem oc22 : OneC Tryz.prog 22 := ⟨_, underlying22, rfl⟩
theorem zr22 : Zr Tryz.prog 22 (.slice none 0 0) := Zr.of kr
theorem sz26 : Sz Tryz.prog 26 1 := Sz.of kr
theorem oc26 : OneC Tryz.prog 26 := ⟨_, underlying26, rfl⟩
theorem sz30 : Sz Tryz.prog 30 1 := Sz.of kr
theorem oc30 : OneC Tryz.prog 30 := ⟨_, underlying30, rfl⟩
theorem sz32 : Sz Tryz.prog 32 8 := Sz.of kr
theorem zr32 : Zr Tryz.prog 32 (.agg #[(.int .i64 0), (.string ⟨#[]⟩), (.int .i64 0), (.int .i64 0), (.int .i64 0), (.int .i64 0), (.int .i64 0), (.slice none 0 0)]) := Zr.of kr
theorem sz35 : Sz Tryz.prog 35 1 := Sz.of kr
theorem oc35 : OneC Tryz.prog 35 := ⟨_, underlying35, rfl⟩
theorem zr35 : Zr Tryz.prog 35 (.slice none 0 0) := Zr.of kr
theorem sz38 : Sz Tryz.prog 38 1 := Sz.of kr
theorem oc38 : OneC Tryz.prog 38 := ⟨_, underlying38, rfl⟩
theorem zr38 : Zr Tryz.prog 38 (.pointer none) := Zr.of kr
theorem sz40 : Sz Tryz.prog 40 1 := Sz.of kr
theorem oc40 : OneC Tryz.prog 40 := ⟨_, underlying40, rfl⟩
theorem zr40 : Zr Tryz.prog 40 (.nilIface) := Zr.of kr
theorem sz47 : Sz Tryz.prog 47 1 := Sz.of kr
theorem oc47 : OneC Tryz.prog 47 := ⟨_, underlying47, rfl⟩
theorem zr47 : Zr Tryz.prog 47 (.nilIface) := Zr.of kr
theorem zr48 : Zr Tryz.prog 48 (.pointer none) := Zr.of kr
theorem oc52 : OneC Tryz.prog 52 := ⟨_, underlying52, rfl⟩
theorem sz57 : Sz Tryz.prog 57 1 := Sz.of kr
theorem oc57 : OneC Tryz.prog 57 := ⟨_, underlying57, rfl⟩
theorem sz58 : Sz Tryz.prog 58 1 := Sz.of kr
theorem oc58 : OneC Tryz.prog 58 := ⟨_, underlying58, rfl⟩
theorem sz64 : Sz Tryz.prog 64 5 := Sz.of kr
theorem zr64 : Zr Tryz.prog 64 (.agg #[(.string ⟨#[]⟩), (.int .i64 0), (.int .i64 0), (.int .i64 0), (.int .i64 0)]) := Zr.of kr
theorem sz73 : Sz Tryz.prog 73 1 := Sz.of kr
theorem oc73 : OneC Tryz.prog 73 := ⟨_, underlying73, rfl⟩
theorem zr73 : Zr Tryz.prog 73 (.int .u32 0) := Zr.of kr
theorem sz76 : Sz Tryz.prog 76 1 := Sz.of kr
theorem oc76 : OneC Tryz.prog 76 := ⟨_, underlying76, rfl⟩
theorem zr76 : Zr Tryz.prog 76 (.pointer none) := Zr.of kr
theorem sz80 : Sz Tryz.prog 80 1 := Sz.of kr
theorem oc80 : OneC Tryz.prog 80 := ⟨_, underlying80, rfl⟩
theorem zr80 : Zr Tryz.prog 80 (.nilIface) := Zr.of kr
theorem sz81 : Sz Tryz.prog 81 1 := Sz.of kr
theorem oc81 : OneC Tryz.prog 81 := ⟨_, underlying81, rfl⟩
theorem sz82 : Sz Tryz.prog 82 1 := Sz.of kr
theorem oc82 : OneC Tryz.prog 82 := ⟨_, underlying82, rfl⟩
theorem sz83 : Sz Tryz.prog 83 1 := Sz.of kr
theorem oc83 : OneC Tryz.prog 83 := ⟨_, underlying83, rfl⟩
theorem zr83 : Zr Tryz.prog 83 (.int .u32 0) := Zr.of kr
theorem sz84 : Sz Tryz.prog 84 1 := Sz.of kr
theorem oc84 : OneC Tryz.prog 84 := ⟨_, underlying84, rfl⟩
theorem zr84 : Zr Tryz.prog 84 (.map none) := Zr.of kr
theorem sz85 : Sz Tryz.prog 85 1 := Sz.of kr
theorem oc85 : OneC Tryz.prog 85 := ⟨_, underlying85, rfl⟩
theorem zr85 : Zr Tryz.prog 85 (.pointer none) := Zr.of kr
theorem sz86 : Sz Tryz.prog 86 1 := Sz.of kr
theorem oc86 : OneC Tryz.prog 86 := ⟨_, underlying86, rfl⟩
theorem sz87 : Sz Tryz.prog 87 1 := Sz.of kr
theorem oc87 : OneC Tryz.prog 87 := ⟨_, underlying87, rfl⟩
theorem sz88 : Sz Tryz.prog 88 1 := Sz.of kr
theorem oc88 : OneC Tryz.prog 88 := ⟨_, underlying88, rfl⟩
theorem zr94 : Zr Tryz.prog 94 (.pointer none) := Zr.of kr
theorem sz96 : Sz Tryz.prog 96 1 := Sz.of kr
theorem oc96 : OneC Tryz.prog 96 := ⟨_, underlying96, rfl⟩
theorem sz97 : Sz Tryz.prog 97 1 := Sz.of kr
theorem oc97 : OneC Tryz.prog 97 := ⟨_, underlying97, rfl⟩
theorem sz99 : Sz Tryz.prog 99 5 := Sz.of kr
theorem zr99 : Zr Tryz.prog 99 (.agg #[(.string ⟨#[]⟩), .nilIface, (.int .u32 0), (.int .u32 0), (.slice none 0 0)]) := Zr.of kr
theorem zr101 : Zr Tryz.prog 101 (.pointer none) := Zr.of kr
theorem sz102 : Sz Tryz.prog 102 1 := Sz.of kr
theorem oc102 : OneC Tryz.prog 102 := ⟨_, underlying102, rfl⟩
theorem zr105 : Zr Tryz.prog 105 (.pointer none) := Zr.of kr
theorem zr108 : Zr Tryz.prog 108 (.pointer none) := Zr.of kr
theorem zr111 : Zr Tryz.prog 111 (.pointer none) := Zr.of kr
theorem zr114 : Zr Tryz.prog 114 (.pointer none) := Zr.of kr
theorem zr116 : Zr Tryz.prog 116 (.pointer none) := Zr.of kr
theorem sz117 : Sz Tryz.prog 117 1 := Sz.of kr
theorem oc117 : OneC Tryz.prog 117 := ⟨_, underlying117, rfl⟩
theorem sz121 : Sz Tryz.prog 121 2 := Sz.of kr
theorem zr121 : Zr Tryz.prog 121 (.agg #[(.string ⟨#[]⟩), (.int .u64 0)]) := Zr.of kr
theorem zr122 : Zr Tryz.prog 122 (.pointer none) := Zr.of kr
theorem sz123 : Sz Tryz.prog 123 1 := Sz.of kr
theorem oc123 : OneC Tryz.prog 123 := ⟨_, underlying123, rfl⟩
theorem zr126 : Zr Tryz.prog 126 (.pointer none) := Zr.of kr
theorem zr129 : Zr Tryz.prog 129 (.pointer none) := Zr.of kr
theorem zr132 : Zr Tryz.prog 132 (.pointer none) := Zr.of kr
theorem zr134 : Zr Tryz.prog 134 (.pointer none) := Zr.of kr
theorem zr136 : Zr Tryz.prog 136 (.pointer none) := Zr.of kr
theorem sz137 : Sz Tryz.prog 137 1 := Sz.of kr
theorem oc137 : OneC Tryz.prog 137 := ⟨_, underlying137, rfl⟩
theorem zr141 : Zr Tryz.prog 141 (.pointer none) := Zr.of kr
theorem sz142 : Sz Tryz.prog 142 1 := Sz.of kr
theorem oc142 : OneC Tryz.prog 142 := ⟨_, underlying142, rfl⟩
theorem sz146 : Sz Tryz.prog 146 2 := Sz.of kr
theorem zr146 : Zr Tryz.prog 146 (.agg #[(.string ⟨#[]⟩), .nilIface]) := Zr.of kr
theorem zr147 : Zr Tryz.prog 147 (.pointer none) := Zr.of kr
theorem sz148 : Sz Tryz.prog 148 1 := Sz.of kr
theorem oc148 : OneC Tryz.prog 148 := ⟨_, underlying148, rfl⟩
theorem zr151 : Zr Tryz.prog 151 (.pointer none) := Zr.of kr
theorem sz152 : Sz Tryz.prog 152 1 := Sz.of kr
theorem oc152 : OneC Tryz.prog 152 := ⟨_, underlying152, rfl⟩
theorem sz156 : Sz Tryz.prog 156 3 := Sz.of kr
theorem zr156 : Zr Tryz.prog 156 (.agg #[.nilIface, (.int .u32 0), (.int .u32 0)]) := Zr.of kr
theorem zr157 : Zr Tryz.prog 157 (.pointer none) := Zr.of kr
theorem zr160 : Zr Tryz.prog 160 (.pointer none) := Zr.of kr
theorem sz178 : Sz Tryz.prog 178 1 := Sz.of kr
theorem oc178 : OneC Tryz.prog 178 := ⟨_, underlying178, rfl⟩
theorem sz180 : Sz Tryz.prog 180 8 := Sz.of kr
theorem zr180 : Zr Tryz.prog 180 (.agg #[(.int .u16 0), (.int .u8 0), (.int .u8 0), (.int .u32 0), (.int .u32 0), (.int .u32 0), (.int .u32 0), (.int .u32 0)]) := Zr.of kr
theorem sz182 : Sz Tryz.prog 182 0 := Sz.of kr
theorem sz196 : Sz Tryz.prog 196 0 := Sz.of kr
theorem zr201 : Zr Tryz.prog 201 (.agg #[(.int .u32 0), (.int .u32 0)]) := Zr.of kr
theorem zr209 : Zr Tryz.prog 209 (.agg #[(.int .u32 0), (.int .u32 0), (.int .u32 0)]) := Zr.of kr
theorem oc213 : OneC Tryz.prog 213 := ⟨_, underlying213, rfl⟩
theorem zr217 : Zr Tryz.prog 217 (.slice none 0 0) := Zr.of kr
theorem sz242 : Sz Tryz.prog 242 1 := Sz.of kr
theorem oc242 : OneC Tryz.prog 242 := ⟨_, underlying242, rfl⟩
theorem sz246 : Sz Tryz.prog 246 1 := Sz.of kr
theorem oc246 : OneC Tryz.prog 246 := ⟨_, underlying246, rfl⟩
theorem zr246 : Zr Tryz.prog 246 (.int .u64 0) := Zr.of kr
theorem sz251 : Sz Tryz.prog 251 1 := Sz.of kr
theorem oc251 : OneC Tryz.prog 251 := ⟨_, underlying251, rfl⟩
theorem zr251 : Zr Tryz.prog 251 (.nilFunc) := Zr.of kr
theorem zr253 : Zr Tryz.prog 253 (.agg #[(.int .u32 0), (.int .u32 0), (.int .u32 0)]) := Zr.of kr
theorem sz264 : Sz Tryz.prog 264 1 := Sz.of kr
theorem zr264 : Zr Tryz.prog 264 (.agg #[(.int .u32 0)]) := Zr.of kr
theorem zr266 : Zr Tryz.prog 266 (.agg #[(.int .u32 0), (.int .u32 0), (.int .u32 0)]) := Zr.of kr
theorem zr268 : Zr Tryz.prog 268 (.agg #[(.int .u32 0)]) := Zr.of kr
theorem zr270 : Zr Tryz.prog 270 (.agg #[(.int .u32 0)]) := Zr.of kr
theorem zr280 : Zr Tryz.prog 280 (.agg #[(.int .u32 0), (.int .u32 0)]) := Zr.of kr
theorem zr286 : Zr Tryz.prog 286 (.agg #[(.int .u32 0), (.int .u32 0)]) := Zr.of kr
theorem zr292 : Zr Tryz.prog 292 (.agg #[(.int .u32 0), (.int .u32 0), (.int .u32 0)]) := Zr.of kr
theorem zr298 : Zr Tryz.prog 298 (.agg #[(.int .u32 0), (.int .u32 0), (.int .u32 0)]) := Zr.of kr
theorem sz321 : Sz Tryz.prog 321 1 := Sz.of kr
theorem oc321 : OneC Tryz.prog 321 := ⟨_, underlying321, rfl⟩
theorem zr321 : Zr Tryz.prog 321 (.int .u64 0) := Zr.of kr
theorem mixed : Tryz.prog.follows .mixedOrders = true := by kernel_rfl
end

section
open Go
open Tryz
set_option maxRecDepth 100000

theorem wrap_u32 (n : Nat) (h : n < 4294967296) : IntKind.u32.wrap (n : Int) = n := IntWalk.u32_in _ om
theorem wrap_u8 (n : Nat) (h : n < 256) : IntKind.u8.wrap (n : Int) = n := IntWalk.u8_in _ om
theorem wrap_i64 (n : Int) (h0 : -9223372036854775808 ≤ n) (h : n < 9223372036854775808) : IntKind.i64.wrap n = n := IntWalk.i64_in _ om
theorem wrap_i64n (n : Nat) (h : n < 9223372036854775808) : IntKind.i64.wrap (n : Int) = n := IntWalk.i64_in _ om
theorem wrap_u64 (n : Nat) (h : n < 18446744073709551616) : IntKind.u64.wrap (n : Int) = n := IntWalk.u64_in _ om

section
variable {P : Program} {x y : Operand} {T : TypeId} {w : World}

theorem b_shl (k : IntKind) (a b : Nat) (hb : b ≤ k.bits) (h : k.wrap ((a * 2 ^ b : Nat) : Int) = (a * 2 ^ b : Nat)) (yk : IntKind) :
    (do eqGuard .shl T x y (.int k a) (.int yk b); binOp .shl T (.int k a) (.int yk b) : Sem Value).run P w = .ok (.int k ((a * 2 ^ b : Nat) : Int)) w := by
  rw [eqGuard_shl, binOp_shl, shift_shl _ _ _ _ om om]
  have e : ((a : Int) * 2 ^ (b : Int).toNat) = ((a * 2 ^ b : Nat) : Int) := by simp
  rw [e, h]
  rfl
theorem b_shr (k : IntKind) (a b : Nat) (hb : b ≤ k.bits) (yk : IntKind) :
    (do eqGuard .shr T x y (.int k a) (.int yk b); binOp .shr T (.int k a) (.int yk b) : Sem Value).run P w = .ok (.int k ((a / 2 ^ b : Nat) : Int)) w := by
  rw [eqGuard_shr, binOp_shr, shift_shr _ _ _ _ om om]
  have e : ((a : Int) / 2 ^ (b : Int).toNat) = ((a / 2 ^ b : Nat) : Int) := by simp
  rw [e]
  rfl
theorem b_and_mask (a b : Nat) (ha : a < 4294967296) (hb : b < 32) :
    (do eqGuard .and T x y (.int .u32 a) (.int .u32 ((2 ^ b - 1 : Nat) : Int)); binOp .and T (.int .u32 a) (.int .u32 ((2 ^ b - 1 : Nat) : Int)) : Sem Value).run P w = .ok (.int .u32 ((a % 2 ^ b : Nat) : Int)) w := by
  rw [eqGuard_and, binOp_and, intBits_and]
  have hb' : 2 ^ b - 1 < 4294967296 := by
    have : 2 ^ b < 2 ^ 32 := Nat.pow_lt_pow_right dc hb
    omega
  have hm : a % 2 ^ b < 4294967296 := Nat.lt_of_le_of_lt (Nat.mod_le _ _) ha
  have e : bits .and .u32 (a : Int) ((2 ^ b - 1 : Nat) : Int) = ((a % 2 ^ b : Nat) : Int) := by
    show IntKind.u32.wrap ((BitVec.ofInt 32 (a : Int) &&& BitVec.ofInt 32 ((2 ^ b - 1 : Nat) : Int)).toNat : Int) = _
    rw [BitVec.toNat_and, BitVec.toNat_ofInt, BitVec.toNat_ofInt]
    have h1 : ((a : Int) % ((2 ^ 32 : Nat) : Int)).toNat = a := by omega
    have h2 : (((2 ^ b - 1 : Nat) : Int) % ((2 ^ 32 : Nat) : Int)).toNat = 2 ^ b - 1 := by omega
    rw [h1, h2, Nat.and_two_pow_sub_one_eq_mod]
    exact wrap_u32 _ hm
  rw [e]
  rfl
theorem or_add (a b k : Nat) (ha : a < 2 ^ k) : a ||| b * 2 ^ k = a + b * 2 ^ k := by
  rw [Nat.or_comm, Nat.mul_comm, ← Nat.two_pow_add_eq_or_of_lt ha, Nat.add_comm]
theorem b_or_u32 (a b k : Nat) (ha : a < 2 ^ k) (h : a + b * 2 ^ k < 4294967296) :
    (do eqGuard .or T x y (.int .u32 a) (.int .u32 ((b * 2 ^ k : Nat) : Int)); binOp .or T (.int .u32 a) (.int .u32 ((b * 2 ^ k : Nat) : Int)) : Sem Value).run P w = .ok (.int .u32 ((a + b * 2 ^ k : Nat) : Int)) w := by
  rw [eqGuard_or, binOp_or, intBits_or]
  have e : bits .or .u32 (a : Int) ((b * 2 ^ k : Nat) : Int) = ((a + b * 2 ^ k : Nat) : Int) := by
    show IntKind.u32.wrap ((BitVec.ofInt 32 (a : Int) ||| BitVec.ofInt 32 ((b * 2 ^ k : Nat) : Int)).toNat : Int) = _
    rw [BitVec.toNat_or, BitVec.toNat_ofInt, BitVec.toNat_ofInt]
    have h1 : ((a : Int) % ((2 ^ 32 : Nat) : Int)).toNat = a := by omega
    have h2 : (((b * 2 ^ k : Nat) : Int) % ((2 ^ 32 : Nat) : Int)).toNat = b * 2 ^ k := by
      generalize b * 2 ^ k = c at *
      omega
    rw [h1, h2, or_add a b k ha]
    exact wrap_u32 _ h
  rw [e]
  rfl
theorem b_or_u16 (a b k : Nat) (ha : a < 2 ^ k) (h : a + b * 2 ^ k < 65536) :
    (do eqGuard .or T x y (.int .u16 a) (.int .u16 ((b * 2 ^ k : Nat) : Int)); binOp .or T (.int .u16 a) (.int .u16 ((b * 2 ^ k : Nat) : Int)) : Sem Value).run P w = .ok (.int .u16 ((a + b * 2 ^ k : Nat) : Int)) w := by
  rw [eqGuard_or, binOp_or, intBits_or]
  have e : bits .or .u16 (a : Int) ((b * 2 ^ k : Nat) : Int) = ((a + b * 2 ^ k : Nat) : Int) := by
    show IntKind.u16.wrap ((BitVec.ofInt 16 (a : Int) ||| BitVec.ofInt 16 ((b * 2 ^ k : Nat) : Int)).toNat : Int) = _
    rw [BitVec.toNat_or, BitVec.toNat_ofInt, BitVec.toNat_ofInt]
    have h1 : ((a : Int) % ((2 ^ 16 : Nat) : Int)).toNat = a := by omega
    have h2 : (((b * 2 ^ k : Nat) : Int) % ((2 ^ 16 : Nat) : Int)).toNat = b * 2 ^ k := by
      generalize b * 2 ^ k = c at *
      omega
    rw [h1, h2, or_add a b k ha]
    exact IntWalk.u16_in _ (by generalize b * 2 ^ k = c at *; omega)
  rw [e]
  rfl
theorem b_sub_u32 (a b : Nat) (h : b ≤ a) (ha : a < 4294967296) :
    (do eqGuard .sub T x y (.int .u32 a) (.int .u32 b); binOp .sub T (.int .u32 a) (.int .u32 b) : Sem Value).run P w = .ok (.int .u32 ((a - b : Nat) : Int)) w := by
  rw [eqGuard_sub, binOp_sub]
  have e : IntKind.u32.wrap ((a : Int) - b) = ((a - b : Nat) : Int) := by
    rw [show ((a : Int) - b) = ((a - b : Nat) : Int) by omega]
    exact wrap_u32 _ om
  simp only [Op.intArith, e]
  rfl
theorem b_add_u32 (a b : Nat) (h : a + b < 4294967296) :
    (do eqGuard .add T x y (.int .u32 a) (.int .u32 b); binOp .add T (.int .u32 a) (.int .u32 b) : Sem Value).run P w = .ok (.int .u32 ((a + b : Nat) : Int)) w := by
  rw [eqGuard_add, binOp_add]
  have e : IntKind.u32.wrap ((a : Int) + b) = ((a + b : Nat) : Int) := by
    rw [show ((a : Int) + b) = ((a + b : Nat) : Int) by omega]
    exact wrap_u32 _ om
  simp only [Op.intArith, e]
  rfl
theorem b_add (a b c : Int) (h : a + b = c) (h0 : -9223372036854775808 ≤ c) (h1 : c < 9223372036854775808) :
    (do eqGuard .add T x y (.int .i64 a) (.int .i64 b); binOp .add T (.int .i64 a) (.int .i64 b) : Sem Value).run P w = .ok (.int .i64 c) w := by
  subst h
  rw [eqGuard_add, binOp_add]
  simp only [Op.intArith, wrap_i64 _ h0 h1]
  rfl
theorem b_sub (a b c : Int) (h : a - b = c) (h0 : -9223372036854775808 ≤ c) (h1 : c < 9223372036854775808) :
    (do eqGuard .sub T x y (.int .i64 a) (.int .i64 b); binOp .sub T (.int .i64 a) (.int .i64 b) : Sem Value).run P w = .ok (.int .i64 c) w := by
  subst h
  rw [eqGuard_sub, binOp_sub]
  simp only [Op.intArith, wrap_i64 _ h0 h1]
  rfl
theorem b_mul (a b c : Int) (h : a * b = c) (h0 : -9223372036854775808 ≤ c) (h1 : c < 9223372036854775808) :
    (do eqGuard .mul T x y (.int .i64 a) (.int .i64 b); binOp .mul T (.int .i64 a) (.int .i64 b) : Sem Value).run P w = .ok (.int .i64 c) w := by
  subst h
  rw [eqGuard_mul, binOp_mul]
  simp only [Op.intArith, wrap_i64 _ h0 h1]
  rfl
/-- comparisons, with the answer given -/
theorem b_eql (k : IntKind) (a b : Int) (t : Bool) (h : (a == b) = t) :
    (do eqGuard .eql T x y (.int k a) (.int k b); binOp .eql T (.int k a) (.int k b) : Sem Value).run P w = .ok (.bool t) w := by
  rw [eqGuard_at_int, binOp_eql, h]
  rfl
theorem b_neq (k : IntKind) (a b : Int) (t : Bool) (h : (a != b) = t) :
    (do eqGuard .neq T x y (.int k a) (.int k b); binOp .neq T (.int k a) (.int k b) : Sem Value).run P w = .ok (.bool t) w := by
  rw [eqGuard_at_int, binOp_neq, h]
  rfl
theorem b_lss (k : IntKind) (a b : Int) (t : Bool) (h : decide (a < b) = t) :
    (do eqGuard .lss T x y (.int k a) (.int k b); binOp .lss T (.int k a) (.int k b) : Sem Value).run P w = .ok (.bool t) w := by
  rw [eqGuard_at_int, binOp_lss, h]
  rfl
theorem b_leq (k : IntKind) (a b : Int) (t : Bool) (h : decide (a ≤ b) = t) :
    (do eqGuard .leq T x y (.int k a) (.int k b); binOp .leq T (.int k a) (.int k b) : Sem Value).run P w = .ok (.bool t) w := by
  rw [eqGuard_at_int, binOp_leq, h]
  rfl
theorem b_gtr (k : IntKind) (a b : Int) (t : Bool) (h : decide (b < a) = t) :
    (do eqGuard .gtr T x y (.int k a) (.int k b); binOp .gtr T (.int k a) (.int k b) : Sem Value).run P w = .ok (.bool t) w := by
  rw [eqGuard_at_int, binOp_gtr, ← h]
  rfl
theorem b_geq (k : IntKind) (a b : Int) (t : Bool) (h : decide (b ≤ a) = t) :
    (do eqGuard .geq T x y (.int k a) (.int k b); binOp .geq T (.int k a) (.int k b) : Sem Value).run P w = .ok (.bool t) w := by
  rw [eqGuard_at_int, binOp_geq, ← h]
  rfl
theorem c_int {s t : TypeId} {k j : IntKind} {a b : Int} (hs : ∃ D, P.underlying s = some D) (ht : P.underlying t = some (.int k)) (h : k.wrap a = b) :
    (convert s t (.int j a)).run P w = .ok (.int k b) w := by
  obtain ⟨D, hD⟩ := hs
  simp [convert, run_underlying hD, run_underlying ht, Conv.intToInt, h]
end
section
variable {ro : Option Nat} {P : Program} {S : Nat → Prop} {w0 : World} {n : Nat} {ds : List Deferred} {H : Hp} {e e' : Env} {Q : Exit → Act → World → Prop} {x y c : Code} {ops : Array Oper} {l : List Oper}
variable {d t : Nat} {op : Op} {ty : TypeId} {pos : String} {aft : Array Edge} {u v : Value}

theorem Obe {k : IntKind} {a b : Int} {T T' : TypeId} (g : lk e t = some (.int k a) := by exact rfl) (hd : Nat.blt d n = true := by exact rfl) : OT ro P S w0 n ds H e ⟨some d, .binOp .eql T (.tmp t) (.const (.int k b)) T', ty, pos, aft, none⟩ (fun X => X ((d, .bool (a == b)) :: e) H) := O_binOp hd (.tmp (.o g)) .const (fun _ => b_eql _ _ _ _ rfl)
end
end

section
open Go
open Tryz
set_option maxRecDepth 100000

theorem f100_ok (k : Nat) (hk : k < 32) (w : World) : Calls Tryz.prog 100 #[.int .u32 k] w (fun r w' => r = .returned (.int .u32 ((2 ^ k - 1 : Nat) : Int)) ∧ Ext noS w w') := by
 refine sw_calls (S := noS) func100 rfl ntmps100 (sees1 _ _ rfl) (Holds.start _ _) ?_
 refine SR fun _ k1 => ?_
 refine Ac ?_
 refine SN k1 ?_
 refine SR fun _ k2 => ?_
 refine Mo ?_
 refine Sc (O_binOp rfl .const (.tmp .hit) (r := .int .u32 ((1 * 2 ^ k : Nat) : Int)) (fun _ => b_shl .u32 1 k (Nat.le_of_lt hk) (wrap_u32 _ (by have : 2 ^ k < 2 ^ 32 := Nat.pow_lt_pow_right dc hk; omega)) _)) ?_
 refine Sc (O_binOp rfl (.tmp .hit) .const (r := .int .u32 ((2 ^ k - 1 : Nat) : Int)) (fun u => by have h1 : 2 ^ k < 2 ^ 32 := Nat.pow_lt_pow_right dc hk; have h0 : 0 < 2 ^ k := Nat.pow_pos dc; rw [Nat.one_mul]; exact b_sub_u32 (2 ^ k) 1 om om)) ?_
 refine Ah ?_
 refine SN k2 ?_
 refine Rt ?_
 exact SK_ret1 rfl .hit (fun w hw => ⟨rfl, hw.ext⟩)

theorem f95_ok (v l s : Nat) (hv : v < 4294967296) (hl : l < 32) (hs : s < 32) (w : World) : Calls Tryz.prog 95 #[.int .u32 v, .int .u32 l, .int .u32 s] w (fun r w' => r = .returned (.int .u32 ((v / 2 ^ s % 2 ^ l : Nat) : Int)) ∧ Ext noS w w') := by
 refine sw_calls (S := noS) func95 rfl ntmps95 (sees3 _ _ _ _ rfl) (Holds.start _ _) ?_
 refine SR fun _ k1 => ?_
 refine Ac ?_
 refine SN k1 ?_
 refine SR fun _ k2 => ?_
 refine Mo ?_
 refine Mo ?_
 refine Sc (O_binOp rfl (.tmp (.o rfl)) (.tmp .hit) (fun _ => b_shr .u32 v s (Nat.le_of_lt hs) _)) ?_
 refine Mo ?_
 refine Sc (O_callE (xs := [.tmp 10]) (cap := []) rfl .func (.cons (.tmp .hit) .nil) func100 rfl rfl (fun w _ => f100_ok l hl w)) ?_
 refine Sc (O_binOp rfl (.tmp (.o rfl)) (.tmp .hit) (fun _ => b_and_mask (v / 2 ^ s) l (Nat.lt_of_le_of_lt (Nat.div_le_self _ _) hv) hl)) ?_
 refine Ah ?_
 refine SN k2 ?_
 refine Rt ?_
 exact SK_ret1 rfl .hit (fun w hw => ⟨rfl, hw.ext⟩)

theorem f67_ok (b nm info sz l s : Nat) (hv : info < 4294967296) (hl : l < 32) (hs : s < 32) (w : World) (hb : w.heap[b]? = some (.cells #[.int .u32 nm, .int .u32 info, .int .u32 sz] 209 (0, 0))) : Calls Tryz.prog 67 #[.pointer (some ⟨b, 0, none⟩), .int .u32 l, .int .u32 s] w (fun r w' => r = .returned (.int .u32 ((info / 2 ^ s % 2 ^ l : Nat) : Int)) ∧ Ext noS w w') := by
 refine sw_calls (S := noS) func67 rfl ntmps67 (sees3 _ _ _ _ rfl) (Holds.start1 _ _ hb) ?_
 refine SR fun _ k1 => ?_
 refine Ac ?_
 refine SN k1 ?_
 refine SR fun _ k2 => ?_
 refine Mo ?_
 refine Sc (O_nilCheck rfl (.tmp .hit)) ?_
 refine Sc (Ofa underlying209 sz73) ?_
 refine Sc (Ola oc73) ?_
 refine Mo ?_
 refine Mo ?_
 refine Sc (O_callE (xs := [.tmp 10, .tmp 11, .tmp 12]) (cap := []) rfl .func (.cons (.tmp (.o rfl)) (.cons (.tmp (.o rfl)) (.cons (.tmp .hit) .nil))) func95 rfl rfl (fun w _ => f95_ok info l s hv hl hs w)) ?_
 refine Ah ?_
 refine SN k2 ?_
 refine Rt ?_
 exact SK_ret1 rfl .hit (fun w hw => ⟨rfl, hw.ext⟩)

theorem f56_ok (b nm info sz : Nat) (hv : info < 4294967296) (w : World) (hb : w.heap[b]? = some (.cells #[.int .u32 nm, .int .u32 info, .int .u32 sz] 209 (0, 0))) : Calls Tryz.prog 56 #[.pointer (some ⟨b, 0, none⟩)] w (fun r w' => r = .returned (.int .u8 ((info / 2 ^ 24 % 2 ^ 5 : Nat) : Int)) ∧ Ext noS w w') := by
 refine sw_calls (S := noS) func56 rfl ntmps56 (sees1 _ _ rfl) (Holds.start1 _ _ hb) ?_
 refine SR fun _ k1 => ?_
 refine Ac ?_
 refine SN k1 ?_
 refine SR fun _ k2 => ?_
 refine Mo ?_
 refine Sc (O_callE (xs := [.tmp 3, .const _, .const _]) (cap := []) rfl .func (.cons (.tmp .hit) (.cons .const (.cons .const .nil))) func67 rfl rfl (fun w hw => f67_ok b nm info sz 5 24 hv dc dc w (hw.at_ .hit))) ?_
 refine Sc (O_convert rfl (.tmp .hit) (fun _ => c_int ⟨_, underlying73⟩ underlying214 (wrap_u8 _ om))) ?_
 refine Ah ?_
 refine SN k2 ?_
 refine Rt ?_
 exact SK_ret1 rfl .hit (fun w hw => ⟨rfl, hw.ext⟩)

theorem f75_ok (b nm info sz : Nat) (hv : info < 4294967296) (w : World) (hb : w.heap[b]? = some (.cells #[.int .u32 nm, .int .u32 info, .int .u32 sz] 209 (0, 0))) : Calls Tryz.prog 75 #[.pointer (some ⟨b, 0, none⟩)] w (fun r w' => r = .returned (.int .i64 ((info / 2 ^ 0 % 2 ^ 16 : Nat) : Int)) ∧ Ext noS w w') := by
 refine sw_calls (S := noS) func75 rfl ntmps75 (sees1 _ _ rfl) (Holds.start1 _ _ hb) ?_
 refine SR fun _ k1 => ?_
 refine Ac ?_
 refine SN k1 ?_
 refine SR fun _ k2 => ?_
 refine Mo ?_
 refine Sc (O_callE (xs := [.tmp 3, .const _, .const _]) (cap := []) rfl .func (.cons (.tmp .hit) (.cons .const (.cons .const .nil))) func67 rfl rfl (fun w hw => f67_ok b nm info sz 16 0 hv dc dc w (hw.at_ .hit))) ?_
 refine Sc (O_convert rfl (.tmp .hit) (fun _ => c_int ⟨_, underlying73⟩ underlying3 (wrap_i64n _ om))) ?_
 refine Ah ?_
 refine SN k2 ?_
 refine Rt ?_
 exact SK_ret1 rfl .hit (fun w hw => ⟨rfl, hw.ext⟩)

theorem f88_ok (b nm info sz : Nat) (hv : info < 4294967296) (w : World) (hb : w.heap[b]? = some (.cells #[.int .u32 nm, .int .u32 info, .int .u32 sz] 209 (0, 0))) : Calls Tryz.prog 88 #[.pointer (some ⟨b, 0, none⟩)] w (fun r w' => r = .returned (.int .i64 ((info / 2 ^ 31 % 2 ^ 1 : Nat) : Int)) ∧ Ext noS w w') := by
 refine sw_calls (S := noS) func88 rfl ntmps88 (sees1 _ _ rfl) (Holds.start1 _ _ hb) ?_
 refine SR fun _ k1 => ?_
 refine Ac ?_
 refine SN k1 ?_
 refine SR fun _ k2 => ?_
 refine Mo ?_
 refine Sc (O_callE (xs := [.tmp 3, .const _, .const _]) (cap := []) rfl .func (.cons (.tmp .hit) (.cons .const (.cons .const .nil))) func67 rfl rfl (fun w hw => f67_ok b nm info sz 1 31 hv dc dc w (hw.at_ .hit))) ?_
 refine Sc (O_convert rfl (.tmp .hit) (fun _ => c_int ⟨_, underlying73⟩ underlying123 (wrap_i64n _ om))) ?_
 refine Ah ?_
 refine SN k2 ?_
 refine Rt ?_
 exact SK_ret1 rfl .hit (fun w hw => ⟨rfl, hw.ext⟩)

theorem f89_ok (b nm info sz : Nat) (hv : info < 4294967296) (w : World) (hb : w.heap[b]? = some (.cells #[.int .u32 nm, .int .u32 info, .int .u32 sz] 209 (0, 0))) : Calls Tryz.prog 89 #[.pointer (some ⟨b, 0, none⟩)] w (fun r w' => r = .returned (.int .i64 ((info / 2 ^ 0 % 2 ^ 16 : Nat) : Int)) ∧ Ext noS w w') := by
 refine sw_calls (S := noS) func89 rfl ntmps89 (sees1 _ _ rfl) (Holds.start1 _ _ hb) ?_
 refine SR fun _ k1 => ?_
 refine Ac ?_
 refine SN k1 ?_
 refine SR fun _ k2 => ?_
 refine Mo ?_
 refine Sc (O_callE (xs := [.tmp 3, .const _, .const _]) (cap := []) rfl .func (.cons (.tmp .hit) (.cons .const (.cons .const .nil))) func67 rfl rfl (fun w hw => f67_ok b nm info sz 16 0 hv dc dc w (hw.at_ .hit))) ?_
 refine Sc (O_convert rfl (.tmp .hit) (fun _ => c_int ⟨_, underlying73⟩ underlying137 (wrap_i64n _ om))) ?_
 refine Ah ?_
 refine SN k2 ?_
 refine Rt ?_
 exact SK_ret1 rfl .hit (fun w hw => ⟨rfl, hw.ext⟩)

theorem f99_ok (b nm info sz : Nat) (hv : info < 4294967296) (w : World) (hb : w.heap[b]? = some (.cells #[.int .u32 nm, .int .u32 info, .int .u32 sz] 209 (0, 0))) : Calls Tryz.prog 99 #[.pointer (some ⟨b, 0, none⟩)] w (fun r w' => r = .returned (.bool ((((info / 2 ^ 31 % 2 ^ 1 : Nat) : Int)) == 1)) ∧ Ext noS w w') := by
 refine sw_calls (S := noS) func99 rfl ntmps99 (sees1 _ _ rfl) (Holds.start1 _ _ hb) ?_
 refine SR fun _ k1 => ?_
 refine Ac ?_
 refine SN k1 ?_
 refine SR fun _ k2 => ?_
 refine Mo ?_
 refine Sc (O_callE (xs := [.tmp 3, .const _, .const _]) (cap := []) rfl .func (.cons (.tmp .hit) (.cons .const (.cons .const .nil))) func67 rfl rfl (fun w hw => f67_ok b nm info sz 1 31 hv dc dc w (hw.at_ .hit))) ?_
 refine Sc (O_binOp rfl (.tmp .hit) .const (fun _ => rfl)) ?_
 refine Ah ?_
 refine SN k2 ?_
 refine Rt ?_
 exact SK_ret1 rfl .hit (fun w hw => ⟨rfl, hw.ext⟩)

theorem f78_ok (b nm info sz : Nat) (hv : info < 4294967296) (w : World) (hb : w.heap[b]? = some (.cells #[.int .u32 nm, .int .u32 info, .int .u32 sz] 209 (0, 0))) : Calls Tryz.prog 78 #[.pointer (some ⟨b, 0, none⟩)] w (fun r w' => r = .returned (.bool ((((info / 2 ^ 31 % 2 ^ 1 : Nat) : Int)) == 1)) ∧ Ext noS w w') := by
 refine sw_calls (S := noS) func78 rfl ntmps78 (sees1 _ _ rfl) (Holds.start1 _ _ hb) ?_
 refine SR fun _ k1 => ?_
 refine Ac ?_
 refine SN k1 ?_
 refine SR fun _ k2 => ?_
 refine Mo ?_
 refine Sc (O_callE (xs := [.tmp 3]) (cap := []) rfl .func (.cons (.tmp .hit) .nil) func99 rfl rfl (fun w hw => f99_ok b nm info sz hv w (hw.at_ .hit))) ?_
 refine Ah ?_
 refine SN k2 ?_
 refine Rt ?_
 exact SK_ret1 rfl .hit (fun w hw => ⟨rfl, hw.ext⟩)

theorem f86_ok (b nm info sz : Nat) (hv : info < 4294967296) (w : World) (hb : w.heap[b]? = some (.cells #[.int .u32 nm, .int .u32 info, .int .u32 sz] 209 (0, 0))) : Calls Tryz.prog 86 #[.pointer (some ⟨b, 0, none⟩)] w (fun r w' => r = .returned (.bool ((((info / 2 ^ 31 % 2 ^ 1 : Nat) : Int)) == 1)) ∧ Ext noS w w') := by
 refine sw_calls (S := noS) func86 rfl ntmps86 (sees1 _ _ rfl) (Holds.start1 _ _ hb) ?_
 refine SR fun _ k1 => ?_
 refine Ac ?_
 refine SN k1 ?_
 refine SR fun _ k2 => ?_
 refine Mo ?_
 refine Sc (O_callE (xs := [.tmp 3]) (cap := []) rfl .func (.cons (.tmp .hit) .nil) func99 rfl rfl (fun w hw => f99_ok b nm info sz hv w (hw.at_ .hit))) ?_
 refine Ah ?_
 refine SN k2 ?_
 refine Rt ?_
 exact SK_ret1 rfl .hit (fun w hw => ⟨rfl, hw.ext⟩)

theorem f58_ok (b nm info sz : Nat) (w : World) (hb : w.heap[b]? = some (.cells #[.int .u32 nm, .int .u32 info, .int .u32 sz] 209 (0, 0))) : Calls Tryz.prog 58 #[.pointer (some ⟨b, 0, none⟩)] w (fun r w' => r = .returned (.int .u32 sz) ∧ Ext noS w w') := by
 refine sw_calls (S := noS) func58 rfl ntmps58 (sees1 _ _ rfl) (Holds.start1 _ _ hb) ?_
 refine SR fun _ k1 => ?_
 refine Ac ?_
 refine SN k1 ?_
 refine SR fun _ k2 => ?_
 refine Mo ?_
 refine Sc (O_nilCheck rfl (.tmp .hit)) ?_
 refine Sc (Ofa underlying209 sz73) ?_
 refine Sc (Ola oc73) ?_
 refine Ah ?_
 refine SN k2 ?_
 refine Rt ?_
 exact SK_ret1 rfl .hit (fun w hw => ⟨rfl, hw.ext⟩)

theorem f79_ok (b nm info sz : Nat) (w : World) (hb : w.heap[b]? = some (.cells #[.int .u32 nm, .int .u32 info, .int .u32 sz] 209 (0, 0))) : Calls Tryz.prog 79 #[.pointer (some ⟨b, 0, none⟩)] w (fun r w' => r = .returned (.int .u32 sz) ∧ Ext noS w w') := by
 refine sw_calls (S := noS) func79 rfl ntmps79 (sees1 _ _ rfl) (Holds.start1 _ _ hb) ?_
 refine SR fun _ k1 => ?_
 refine Ac ?_
 refine SN k1 ?_
 refine SR fun _ k2 => ?_
 refine Mo ?_
 refine Sc (O_nilCheck rfl (.tmp .hit)) ?_
 refine Sc (Ofa underlying209 sz73) ?_
 refine Sc (Ola oc73) ?_
 refine Ah ?_
 refine SN k2 ?_
 refine Rt ?_
 exact SK_ret1 rfl .hit (fun w hw => ⟨rfl, hw.ext⟩)

theorem f81_ok (v : Nat) (hv : v < 4294967296) (w : World) : Calls Tryz.prog 81 #[.agg #[.int .u32 v]] w (fun r w' => r = .returned (.int .u32 ((v / 2 ^ 16 % 2 ^ 8 : Nat) : Int)) ∧ Ext noS w w') := by
 refine sw_calls (S := noS) func81 rfl ntmps81 (sees1 _ _ rfl) (Holds.start _ _) ?_
 refine SR fun _ k1 => ?_
 refine Sc (O_box rfl (.tmp .hit) rfl) ?_
 intro b1 _
 refine Ac ?_
 refine SN k1 ?_
 refine Ek [2, 1] ?_
 refine SR fun _ k2 => ?_
 refine Sc (Ofa underlying264 sz73) ?_
 refine Sc (Ola oc73) ?_
 refine Sc (O_callE (xs := [.tmp 4, .const _, .const _]) (cap := []) rfl .func (.cons (.tmp .hit) (.cons .const (.cons .const .nil))) func95 rfl rfl (fun w hw => f95_ok v 8 16 hv dc dc w)) ?_
 refine Ah ?_
 refine SN k2 ?_
 refine Rt ?_
 exact SK_ret1 rfl .hit (fun w hw => ⟨rfl, hw.ext⟩)

theorem f82_ok (v : Nat) (hv : v < 4294967296) (w : World) : Calls Tryz.prog 82 #[.agg #[.int .u32 v]] w (fun r w' => r = .returned (.int .u32 ((v / 2 ^ 0 % 2 ^ 8 : Nat) : Int)) ∧ Ext noS w w') := by
 refine sw_calls (S := noS) func82 rfl ntmps82 (sees1 _ _ rfl) (Holds.start _ _) ?_
 refine SR fun _ k1 => ?_
 refine Sc (O_box rfl (.tmp .hit) rfl) ?_
 intro b1 _
 refine Ac ?_
 refine SN k1 ?_
 refine Ek [2, 1] ?_
 refine SR fun _ k2 => ?_
 refine Sc (Ofa underlying264 sz73) ?_
 refine Sc (Ola oc73) ?_
 refine Sc (O_callE (xs := [.tmp 4, .const _, .const _]) (cap := []) rfl .func (.cons (.tmp .hit) (.cons .const (.cons .const .nil))) func95 rfl rfl (fun w hw => f95_ok v 8 0 hv dc dc w)) ?_
 refine Ah ?_
 refine SN k2 ?_
 refine Rt ?_
 exact SK_ret1 rfl .hit (fun w hw => ⟨rfl, hw.ext⟩)

theorem f84_ok (v : Nat) (hv : v < 4294967296) (w : World) : Calls Tryz.prog 84 #[.agg #[.int .u32 v]] w (fun r w' => r = .returned (.int .u8 ((v / 2 ^ 24 % 2 ^ 4 : Nat) : Int)) ∧ Ext noS w w') := by
 refine sw_calls (S := noS) func84 rfl ntmps84 (sees1 _ _ rfl) (Holds.start _ _) ?_
 refine SR fun _ k1 => ?_
 refine Sc (O_box rfl (.tmp .hit) rfl) ?_
 intro b1 _
 refine Ac ?_
 refine SN k1 ?_
 refine Ek [2, 1] ?_
 refine SR fun _ k2 => ?_
 refine Sc (Ofa underlying264 sz73) ?_
 refine Sc (Ola oc73) ?_
 refine Sc (O_callE (xs := [.tmp 4, .const _, .const _]) (cap := []) rfl .func (.cons (.tmp .hit) (.cons .const (.cons .const .nil))) func95 rfl rfl (fun w hw => f95_ok v 4 24 hv dc dc w)) ?_
 refine Sc (O_convert rfl (.tmp .hit) (fun _ => c_int ⟨_, underlying73⟩ underlying102 (wrap_u8 _ om))) ?_
 refine Ah ?_
 refine SN k2 ?_
 refine Rt ?_
 exact SK_ret1 rfl .hit (fun w hw => ⟨rfl, hw.ext⟩)
end
end Go.Proofs.YtoibhfpagkdleaaGreatDoor
