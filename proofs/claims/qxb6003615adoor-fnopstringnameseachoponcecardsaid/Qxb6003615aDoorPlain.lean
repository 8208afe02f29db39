/-
  DERIVED. THE PLAIN LAW of the Op statement: no Go in sight: what Op.String writes, and that no two Ops are written alike.
-/
namespace Go.Proofs.Qxb6003615aDoor.Plain

/-- The decimal digits of n, n below 1000. -/
def dec (n : Nat) : List UInt8 :=
  if n < 10 then [UInt8.ofNat (48 + n)] else if n < 100 then [UInt8.ofNat (48 + n / 10), UInt8.ofNat (48 + n % 10)] else [UInt8.ofNat (48 + n / 100), UInt8.ofNat (48 + n / 10 % 10), UInt8.ofNat (48 + n % 10)]

/-- What Op(n).String() writes. -/
def opStr (n : Nat) : List UInt8 :=
  if n = 0 then [61] else if n = 1 then [60] else if n = 2 then [60, 61] else if n = 3 then [62] else if n = 4 then [62, 61] else [79, 112, 40] ++ dec n ++ [41]

/-- Back from the text to the number. -/
def back (l : List UInt8) : Nat :=
  if l = [61] then 0 else if l = [60] then 1 else if l = [60, 61] then 2 else if l = [62] then 3 else if l = [62, 61] then 4 else ((l.drop 3).dropLast).foldl (fun h c => h * 10 + (c.toNat - 48)) 0

theorem back_opStr : ∀ n : Fin 256, back (opStr n.val) = n.val := by decide +kernel

theorem opStr_inj {a b : Nat} (ha : a < 256) (hb : b < 256) (h : opStr a = opStr b) : a = b := by
  have h1 := back_opStr ⟨a, ha⟩
  have h2 := back_opStr ⟨b, hb⟩
  simp only at h1 h2
  rw [← h1, ← h2, h]

end Go.Proofs.Qxb6003615aDoor.Plain
