/-
  Bytes with their length ahead and their sum behind: in plain words.
-/
import Derived.Test.YtkbkggamfkadnaaGreatDoorCrc
import Derived.Test.YtkbkggamfkadnaaGreatDoorUvar5
namespace Go.Proofs.YtkbkggamfkadnaaGreatDoor
set_option linter.unusedSimpArgs false
set_option linter.unusedVariables false

/-- what is wrong with so many bytes that have their sum behind them: 0 nothing, 1 their size, 2 their sum -/
def endHow (l : List UInt8) (n : Nat) : Int := if l.length < n + 4 then 1 else if Lib.beNat ((l.drop n).take 4) = crcOf (l.take n) then 0 else 2
def sealHow (l : List UInt8) (a : Nat) : Int := if l.length < a + 4 then 1 else endHow (l.drop (a + 4)) (Lib.beNat ((l.drop a).take 4))
def sealGot (l : List UInt8) (a : Nat) : List UInt8 := (l.drop (a + 4)).take (Lib.beNat ((l.drop a).take 4))
def varHow (l : List UInt8) (a : Nat) : Int := if l.length < a + 5 then 1 else if (uvar ((l.drop a).take 5)).2 = 0 then 3 else endHow (l.drop (a + (uvar ((l.drop a).take 5)).2)) (uvar ((l.drop a).take 5)).1
def varGot (l : List UInt8) (a : Nat) : List UInt8 := (l.drop (a + (uvar ((l.drop a).take 5)).2)).take (uvar ((l.drop a).take 5)).1
end Go.Proofs.YtkbkggamfkadnaaGreatDoor
