/- Plain facts on the printed functions that escape a text: each byte gives the signs that a table of 256 rows says. No condition. -/
import Derived.Test.YtgnfapnnbcafbaaGFnNameSignsx1
namespace Go.Proofs.Ytgnfapnnbcafbaa.Pure
open Go.RowKit Go.Proofs.Ytgnfapnnbcafbaa.GFnNameSigns Go.Proofs.YtgnfapnnbcafbaaW.PrintWords Go.Proofs.YtgnfapnnbcafbaaW.PrintLast

def hexd (n : Nat) : Int := if n < 10 then 48 + n else 87 + n
def hexN (n : Nat) : List Int := if n < 16 then [92, 120, hexd n] else [92, 120, hexd (n / 16), hexd (n % 16)]

theorem hex_all : ((List.range 256).all fun n => decide (unit_zzHex.f (n : Int) = some (strOfNums (hexN n)))) = true := by decide +kernel

def allowedS : ByteArray := ⟨#[58, 95, 46, 97, 98, 99, 100, 101, 102, 103, 104, 105, 106, 107, 108, 109, 110, 111, 112, 113, 114, 115, 116, 117, 118, 119, 120, 121, 122, 65, 66, 67, 68, 69, 70, 71, 72, 73, 74, 75, 76, 77, 78, 79, 80, 81, 82, 83, 84, 85, 86, 87, 88, 89, 90, 48, 49, 50, 51, 52, 53, 54, 55, 56, 57]⟩
def esc1 (start : Bool) (c : Nat) : List Int :=
  if c = 47 then [45] else if start = true ∧ c = 46 then hexN c else if strings_IndexByte.f allowedS c = some (-1) then hexN c else [(c : Int)]

def letD (c : Int) : Bool := (decide (97 ≤ c) && decide (c ≤ 122)) || (decide (65 ≤ c) && decide (c ≤ 90))
def okSign (c : Int) : Bool := letD c || (decide (48 ≤ c) && decide (c ≤ 57)) || [58, 95, 46, 45, 92].contains c
theorem esc1_all : ((List.range 256).all fun n => [true, false].all fun s =>
    (esc1 s n).all (fun x => okSign x && decide (0 ≤ x) && decide (x ≤ 255)) && decide (0 < (esc1 s n).length) && decide ((esc1 s n).length ≤ 4) && (!s || (esc1 s n).head? != some 46)) = true := by decide +kernel
end Go.Proofs.Ytgnfapnnbcafbaa.Pure
