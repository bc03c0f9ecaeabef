/-
  XXH64 as a plain function of a list of bytes. No program in sight.
-/
import Derived.Test.YtkpmhdpeglbacaaDoorRot
namespace Go.Proofs.YtkpmhdpeglbacaaDoor
open Go.RowKit

/-- the number of eight bytes from a place on -/
def w8 (l : List UInt8) (i : Nat) : Int := (Lib.leNat ((l.drop i).take 8) : Int)
abbrev S4 := Int × Int × Int × Int
/-- one stripe of 32 bytes -/
def st (s : S4) (l : List UInt8) : S4 := (rnd s.1 (w8 l 0), rnd s.2.1 (w8 l 8), rnd s.2.2.1 (w8 l 16), rnd s.2.2.2 (w8 l 24))
/-- so many stripes -/
def stN (s : S4) (l : List UInt8) : Nat → S4
  | 0 => s
  | k + 1 => st (stN s l k) (l.drop (32 * k))
/-- how the four lanes begin -/
def s0 : S4 := (6983438078262162902, 14029467366897019727, 0, 7046029288634856825)
/-- the four lanes are merged -/
def conv (s : S4) : Int :=
  mrg (mrg (mrg (mrg (IntKind.u64.wrap (IntKind.u64.wrap (IntKind.u64.wrap (rot s.1 1 + rot s.2.1 7) + rot s.2.2.1 12) + rot s.2.2.2 18)) s.1) s.2.1) s.2.2.1) s.2.2.2
/-- eight bytes more -/
def e8 (h x : Int) : Int := IntKind.u64.wrap (IntKind.u64.wrap (rot (bits .xor .u64 h (rnd 0 x)) 27 * 11400714785074694791) + 9650029242287828579)
def t8 (h : Int) (l : List UInt8) : Nat → Int
  | 0 => h
  | k + 1 => e8 (t8 h l k) (w8 l (8 * k))
/-- four bytes more -/
def e4 (h x : Int) : Int := IntKind.u64.wrap (IntKind.u64.wrap (rot (bits .xor .u64 h (IntKind.u64.wrap (x * 11400714785074694791))) 23 * 14029467366897019727) + 1609587929392839161)
/-- a byte more -/
def e1 (h x : Int) : Int := IntKind.u64.wrap (rot (bits .xor .u64 h (IntKind.u64.wrap (x * 2870177450012600261))) 11 * 11400714785074694791)
def t1 (h : Int) : List UInt8 → Int
  | [] => h
  | b :: r => t1 (e1 h b.toNat) r
/-- the end -/
def av1 (h : Int) : Int := IntKind.u64.wrap (bits .xor .u64 h (h / 8589934592) * 14029467366897019727)
def av2 (h : Int) : Int := IntKind.u64.wrap (bits .xor .u64 h (h / 536870912) * 1609587929392839161)
def av (h : Int) : Int := bits .xor .u64 (av2 (av1 h)) (av2 (av1 h) / 4294967296)
/-- fewer than 32 bytes, behind the stripes -/
def finA (h : Int) (r : List UInt8) : Int := av (t1 (if 4 ≤ r.length then e4 h (Lib.leNat (r.take 4)) else h) (if 4 ≤ r.length then r.drop 4 else r))
def fin (h : Int) (r : List UInt8) : Int := finA (t8 h r (r.length / 8)) (r.drop (8 * (r.length / 8)))
def start (s : S4) (n : Nat) : Int := if 32 ≤ n then conv s else 2870177450012600261
/-- XXH64 with the seed 0 -/
def xx (l : List UInt8) : Int := fin (IntKind.u64.wrap (start (stN s0 l (l.length / 32)) l.length + l.length)) (l.drop (32 * (l.length / 32)))

theorem finA_4 (h : Int) (r : List UInt8) (h4 : 4 ≤ r.length) : finA h r = av (t1 (e4 h (Lib.leNat (r.take 4))) (r.drop 4)) := by
  unfold finA
  rw [if_pos h4, if_pos h4]
theorem finA_0 (h : Int) (r : List UInt8) (h4 : ¬ 4 ≤ r.length) : finA h r = av (t1 h r) := by
  unfold finA
  rw [if_neg h4, if_neg h4]
end Go.Proofs.YtkpmhdpeglbacaaDoor
