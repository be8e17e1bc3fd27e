/-
The sine and the cosine of math as plain functions on words, and what they come to at whole degrees from -720 to 720.
-/
import Derived.Test.YthjbaeipdjoenaaDoorFl
namespace Go.Proofs.YthjbaeipdjoenaaDoor
open Go Ieee Fl

abbrev fm (a b : Nat) : Option Nat := floatBits .mul .f64 a b
abbrev fa (a b : Nat) : Option Nat := floatBits .add .f64 a b
abbrev fs (a b : Nat) : Option Nat := floatBits .sub .f64 a b
/-- a polynomial of six coefficients. -/
def poly (c0 c1 c2 c3 c4 c5 z : Nat) : Option Nat :=
  (fm c0 z).bind fun a => (fa a c1).bind fun a => (fm a z).bind fun a => (fa a c2).bind fun a => (fm a z).bind fun a => (fa a c3).bind fun a => (fm a z).bind fun a => (fa a c4).bind fun a => (fm a z).bind fun a => (fa a c5)
def pSin (zz : Nat) : Option Nat := poly 4460209587652500685 13716528389658582877 4523617212962785441 13774824197404483331 4575957461383575504 13818544856648471880 zz
def pCos (zz : Nat) : Option Nat := poly 13666448263388469915 4477121864728985349 13732177093698800582 4537941361668146421 13787419979223748497 4586165620538955083 zz
/-- 1 - zz / 2 + zz * zz * p. -/
def roadC (zz : Nat) : Option Nat :=
  (fm 4602678819172646912 zz).bind fun a => (fs 4607182418800017408 a).bind fun b => (fm zz zz).bind fun c => (pCos zz).bind fun p => (fm c p).bind fun d => fa b d
/-- z + z * zz * p. -/
def roadS (z zz : Nat) : Option Nat :=
  (fm z zz).bind fun c => (pSin zz).bind fun p => (fm c p).bind fun d => fa z d
/-- The eighth turn, and the rest. -/
def eighth (x : Nat) : Option (Int × Nat) :=
  (fm x 4608412980311869571).bind fun t => (floatToIntVal .f64 t .u64).bind fun j =>
    if j < 0 ∨ 16 < j then none else
    (if j % 2 = 1 then fa (floatOfInt .f64 j) 4607182418800017408 else some (floatOfInt .f64 j)).bind fun y =>
      (fm y 4605249456957292544).bind fun a => (fs x a).bind fun b => (fm y 4495793288086814720).bind fun c => (fs b c).bind fun d => (fm y 4388835458085048688).bind fun e => (fs d e).bind fun z =>
        some (if j % 2 = 1 then j + 1 else j, z)
def sinW (x : Nat) : Option Nat :=
  if FloatKind.f64.format.order x 0 == some Ordering.eq then some x else
    let neg := FloatKind.f64.format.order x 0 == some Ordering.lt
    (eighth (if neg then Op.negFloat .f64 x else x)).bind fun (j, z) => (fm z z).bind fun zz =>
      (if j % 4 = 2 then roadC zz else roadS z zz).bind fun y =>
        some (if (neg ^^ decide (j % 8 > 3)) then Op.negFloat .f64 y else y)
def cosW (x : Nat) : Option Nat :=
  (eighth (x % 9223372036854775808)).bind fun (j, z) => (fm z z).bind fun zz =>
      (if j % 4 = 2 then roadS z zz else roadC zz).bind fun y =>
        some (if (decide (j % 8 > 3) ^^ decide (j % 4 > 1)) then Op.negFloat .f64 y else y)
/-- The degrees as a word of radians. -/
def rad (n : Int) : Option Nat := fm (floatOfInt .f64 n) 4580687790476533049
def ratOf (x : Nat) : Option Rat := match double.read x with
  | .number s m e => some (sg s ((m : Rat) * two e))
  | _ => none
end Go.Proofs.YthjbaeipdjoenaaDoor
