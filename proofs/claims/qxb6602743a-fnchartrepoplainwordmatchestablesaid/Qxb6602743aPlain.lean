/-
  THE PLAIN LAW behind FnChartrepoPlainWordMatchesTable: no Go in sight.
-/
namespace Go.Proofs.Qxb6602743a.Plain

/-- an ASCII letter or digit -/
def isAn (c : Nat) : Bool := (decide (97 ≤ c) && decide (c ≤ 122)) || (decide (65 ≤ c) && decide (c ≤ 90)) || (decide (48 ≤ c) && decide (c ≤ 57))

/-- a byte that a plain word may hold -/
def okB (o : List UInt8) (c : UInt8) : Bool := isAn c.toNat || o.contains c

/-- what plainWord answers -/
def plain (s o : List UInt8) : Bool := !s.isEmpty && s.all (okB o)

/-- the table behind k rounds of the first loop -/
def t1 (k : Nat) (j : Nat) : Bool := (decide (97 ≤ j) && decide (j < 97 + k)) || (decide (65 ≤ j) && decide (j < 65 + k))
/-- .. and k rounds of the second -/
def t2 (k : Nat) (j : Nat) : Bool := t1 26 j || (decide (48 ≤ j) && decide (j < 48 + k))
/-- .. and with the bytes of o -/
def t3 (o : List UInt8) (j : Nat) : Bool := t2 10 j || (o.map UInt8.toNat).contains j

theorem t2_an (j : Nat) : t2 10 j = isAn j := by
  unfold t2 t1 isAn
  rw [Bool.eq_iff_iff]
  simp
  omega

theorem t3_ok (o : List UInt8) (c : UInt8) : t3 o c.toNat = okB o c := by
  unfold t3 okB
  rw [t2_an]
  congr 1
  rw [Bool.eq_iff_iff]
  simp [UInt8.toNat_inj]

end Go.Proofs.Qxb6602743a.Plain
