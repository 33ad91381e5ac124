/- Bits of small numbers; conditions: none. -/
import Derived.Test.YtifnodoffgfpbaaGreatDoorAt
namespace Go.Proofs.YtifnodoffgfpbaaGreatDoor
open Go

theorem ofInt_nat (n x : Nat) : BitVec.ofInt n (x : Int) = BitVec.ofNat n x := by simp
theorem wu16n {c : Int} (n : Nat) (h : c % 65536 = (n : Int)) : IntKind.u16.wrap c = (n : Int) := by rw [wu16m, h]
theorem wu8n {c : Int} (n : Nat) (h : c % 256 = (n : Int)) : IntKind.u8.wrap c = (n : Int) := by rw [wu8m, h]
theorem wu32n {c : Int} (n : Nat) (h : c % 4294967296 = (n : Int)) : IntKind.u32.wrap c = (n : Int) := by rw [wu32m, h]
theorem u16lt (x : UInt16) : x.toNat < 65536 := x.toNat_lt
theorem u32lt (x : UInt32) : x.toNat < 4294967296 := x.toNat_lt
theorem u8lt (x : UInt8) : x.toNat < 256 := x.toNat_lt

theorem bits_or16 (a b : UInt16) : bits .or .u16 (a.toNat : Int) (b.toNat : Int) = ((a ||| b).toNat : Int) := by
  show IntKind.u16.wrap ((BitVec.ofInt 16 (a.toNat : Int) ||| BitVec.ofInt 16 (b.toNat : Int)).toNat : Int) = _
  refine wu16n _ ?_
  simp only [ofInt_nat, BitVec.toNat_or, BitVec.toNat_ofNat]
  rw [Nat.mod_eq_of_lt (u16lt a), Nat.mod_eq_of_lt (u16lt b), ← UInt16.toNat_or]
  have := u16lt (a ||| b)
  omega
theorem bits_and16 (a b : UInt16) : bits .and .u16 (a.toNat : Int) (b.toNat : Int) = ((a &&& b).toNat : Int) := by
  show IntKind.u16.wrap ((BitVec.ofInt 16 (a.toNat : Int) &&& BitVec.ofInt 16 (b.toNat : Int)).toNat : Int) = _
  refine wu16n _ ?_
  simp only [ofInt_nat, BitVec.toNat_and, BitVec.toNat_ofNat]
  rw [Nat.mod_eq_of_lt (u16lt a), Nat.mod_eq_of_lt (u16lt b), ← UInt16.toNat_and]
  have := u16lt (a &&& b)
  omega
section
variable {P : Program} {n : Nat} {l : List (Nat × Value)} {w : World} {ty : TypeId} {x y : Operand}
theorem xor16 {T U : TypeId} {a b : UInt16} (hx : ev n l x = some (.int .u16 (a.toNat : Int))) (hy : ev n l y = some (.int .u16 (b.toNat : Int))) : Ex P n l (.binOp .or T x y U) ty w (.int .u16 ((a ||| b).toNat : Int)) w :=
  xbin hx hy rfl (by rw [binOp_or, intBits_or, bits_or16]; rfl)
theorem xand16 {T U : TypeId} {a b : UInt16} (hx : ev n l x = some (.int .u16 (a.toNat : Int))) (hy : ev n l y = some (.int .u16 (b.toNat : Int))) : Ex P n l (.binOp .and T x y U) ty w (.int .u16 ((a &&& b).toNat : Int)) w :=
  xbin hx hy rfl (by rw [binOp_and, intBits_and, bits_and16]; rfl)
theorem xshl {T U : TypeId} {k j : IntKind} {a c : Int} {b : Nat} (hb : b ≤ k.bits) (hx : ev n l x = some (.int k a)) (hy : ev n l y = some (.int j b)) (hw : k.wrap (a * 2 ^ b) = c) :
    Ex P n l (.binOp .shl T x y U) ty w (.int k c) w :=
  xbin hx hy rfl (by
    have : min b k.bits = b := by omega
    simp only [binOp, Op.shift]
    rw [if_neg (by omega)]
    simp only [Int.toNat_natCast, this, Sem.run_pure, hw])
theorem shl16 (a : UInt16) (b : UInt16) (hb : b.toNat < 16) : IntKind.u16.wrap ((a.toNat : Int) * 2 ^ b.toNat) = ((a <<< b).toNat : Int) := by
  refine wu16n _ ?_
  rw [UInt16.toNat_shiftLeft, Nat.mod_eq_of_lt hb, Nat.shiftLeft_eq]
  simp
theorem xshl16 {T U : TypeId} {j : IntKind} {a b : UInt16} (hb : b.toNat < 16) (hx : ev n l x = some (.int .u16 (a.toNat : Int))) (hy : ev n l y = some (.int j (b.toNat : Int))) : Ex P n l (.binOp .shl T x y U) ty w (.int .u16 ((a <<< b).toNat : Int)) w :=
  xshl (Nat.le_of_lt hb) hx hy (shl16 a b hb)
theorem shr16 (a : UInt16) (b : UInt16) (hb : b.toNat < 16) : (a.toNat : Int) / 2 ^ b.toNat = ((a >>> b).toNat : Int) := by
  rw [UInt16.toNat_shiftRight, Nat.mod_eq_of_lt hb, Nat.shiftRight_eq_div_pow]
  simp
theorem xshr16 {T U : TypeId} {j : IntKind} {a b : UInt16} (hb : b.toNat < 16) (hx : ev n l x = some (.int .u16 (a.toNat : Int))) (hy : ev n l y = some (.int j (b.toNat : Int))) : Ex P n l (.binOp .shr T x y U) ty w (.int .u16 ((a >>> b).toNat : Int)) w := by
  rw [← shr16 a b hb]; exact xshr (Nat.le_of_lt hb) hx hy
end

theorem ofNat_mod {a b : Nat} (h : a % 256 = b % 256) : UInt8.ofNat a = UInt8.ofNat b := by
  apply UInt8.toNat_inj.1
  simp only [UInt8.toNat_ofNat']
  exact h
theorem be16_mod (n : Nat) : be16 (n % 65536) = be16 n := by
  simp only [be16]
  rw [ofNat_mod (a := n % 65536 / 256) (b := n / 256) (by omega), ofNat_mod (a := n % 65536) (b := n) (by omega)]
theorem be32_split (x : Nat) : be16 (x / 65536) ++ be16 (x % 65536) = be32 x := by
  rw [be16_mod]
  simp only [be16, be32, List.cons_append, List.nil_append]
  rw [show x / 65536 / 256 = x / 16777216 by omega]
theorem xxx : (32768 : Int) = ((32768 : UInt16).toNat : Int) := rfl
end Go.Proofs.YtifnodoffgfpbaaGreatDoor
