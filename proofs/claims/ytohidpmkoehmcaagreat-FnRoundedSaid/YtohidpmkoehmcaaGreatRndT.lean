/-
  Rounding the numbers of the law: all of them, one by one, by the kernel.
-/
import Derived.Test.YtohidpmkoehmcaaGreatFl
namespace PubFl
open Go

def oneF : Nat := 4607182418800017408
/-- the exponent's field -/
def rE (x : Nat) : Int := bits BinOp.and IntKind.u64 ((x : Int) / 4503599627370496) 2047
/-- math.Round, on words -/
def rndF (x : Nat) : Nat :=
  if rE x < 1023 then
    if (rE x == 1022) = true then (bits BinOp.or IntKind.u64 (bits BinOp.and IntKind.u64 (x : Int) 9223372036854775808) 4607182418800017408).toNat
    else (bits BinOp.and IntKind.u64 (x : Int) 9223372036854775808).toNat
  else if rE x < 1075 then
    (bits BinOp.andNot IntKind.u64 (IntKind.u64.wrap ((x : Int) + 2251799813685248 / 2 ^ (rE x - 1023).toNat)) (4503599627370495 / 2 ^ (rE x - 1023).toNat)).toNat
  else x
/-- a coordinate rounded to parts of 1 -/
def rdF (x : Nat) : Nat := fop .quo (rndF (fop .mul x oneF)) oneF
def okF (op : BinOp) (x y : Nat) : Bool := (floatBits op .f64 x y).isSome
/-- it can be rounded -/
def canB (x : Nat) : Bool := okF .mul x oneF && decide (fop .mul x oneF < 2 ^ 64) && okF .quo (rndF (fop .mul x oneF)) oneF && decide (rdF x < 2 ^ 64)
def goodB (x : Nat) : Bool := canB x && canB (rdF x) && (rdF (rdF x) == rdF x)
def quarterF : Nat := 4598175219545276416
def threeF : Nat := 4604930618986332160
def tableB (n : Int) : Bool :=
  goodB (fl n) && okF .add (fl n) quarterF && goodB (fop .add (fl n) quarterF) && okF .add (fl n) threeF && goodB (fop .add (fl n) threeF) && okF .add (fl n) oneF &&
  decide (fop .add (fl n) quarterF < 2 ^ 64) && decide (fop .add (fl n) threeF < 2 ^ 64) && decide (fop .add (fl n) oneF < 2 ^ 64) &&
  eqF (rdF (fl n)) (fl n) && eqF (rdF (fop .add (fl n) quarterF)) (fl n) && eqF (rdF (fop .add (fl n) threeF)) (fop .add (fl n) oneF)
def chunkB (k : Nat) : Bool := (List.range 100).all fun i => tableB ((k : Int) * 100 + i - 1000)
theorem chunk0 : chunkB 0 = true := by decide +kernel
theorem chunk1 : chunkB 1 = true := by decide +kernel
theorem chunk2 : chunkB 2 = true := by decide +kernel
theorem chunk3 : chunkB 3 = true := by decide +kernel
theorem chunk4 : chunkB 4 = true := by decide +kernel
theorem chunk5 : chunkB 5 = true := by decide +kernel
theorem chunk6 : chunkB 6 = true := by decide +kernel
theorem chunk7 : chunkB 7 = true := by decide +kernel
theorem chunk8 : chunkB 8 = true := by decide +kernel
theorem chunk9 : chunkB 9 = true := by decide +kernel
theorem chunk10 : chunkB 10 = true := by decide +kernel
theorem chunk11 : chunkB 11 = true := by decide +kernel
theorem chunk12 : chunkB 12 = true := by decide +kernel
theorem chunk13 : chunkB 13 = true := by decide +kernel
theorem chunk14 : chunkB 14 = true := by decide +kernel
theorem chunk15 : chunkB 15 = true := by decide +kernel
theorem chunk16 : chunkB 16 = true := by decide +kernel
theorem chunk17 : chunkB 17 = true := by decide +kernel
theorem chunk18 : chunkB 18 = true := by decide +kernel
theorem chunk19 : chunkB 19 = true := by decide +kernel
theorem table_end : tableB 1000 = true := by decide +kernel
theorem chunk_all : ∀ k, k < 20 → chunkB k = true := fun k hk => by
  match k, hk with
  | 0, _ => exact chunk0
  | 1, _ => exact chunk1
  | 2, _ => exact chunk2
  | 3, _ => exact chunk3
  | 4, _ => exact chunk4
  | 5, _ => exact chunk5
  | 6, _ => exact chunk6
  | 7, _ => exact chunk7
  | 8, _ => exact chunk8
  | 9, _ => exact chunk9
  | 10, _ => exact chunk10
  | 11, _ => exact chunk11
  | 12, _ => exact chunk12
  | 13, _ => exact chunk13
  | 14, _ => exact chunk14
  | 15, _ => exact chunk15
  | 16, _ => exact chunk16
  | 17, _ => exact chunk17
  | 18, _ => exact chunk18
  | 19, _ => exact chunk19
  | k + 20, h => omega
theorem table_all (n : Int) (h0 : -1000 ≤ n) (h1 : n ≤ 1000) : tableB n = true := by
  by_cases c : n = 1000
  · subst c; exact table_end
  · have h := chunk_all ((n + 1000).toNat / 100) (by omega)
    unfold chunkB at h
    have := List.all_eq_true.1 h ((n + 1000).toNat % 100) (List.mem_range.2 (by omega))
    rw [show (((n + 1000).toNat / 100 : Nat) : Int) * 100 + (((n + 1000).toNat % 100 : Nat) : Int) - 1000 = n by omega] at this
    exact this
end PubFl
