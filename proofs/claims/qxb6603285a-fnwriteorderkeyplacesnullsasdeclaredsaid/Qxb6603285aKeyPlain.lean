/- The plain texts: no Go in sight. -/
namespace Go.Proofs.Qxb6603285a.Ord
def tAsc : List UInt8 := [65, 83, 67]
def tDesc : List UInt8 := [68, 69, 83, 67]
def tFirst : List UInt8 := [32, 78, 85, 76, 76, 83, 32, 70, 73, 82, 83, 84]
def tLast : List UInt8 := [32, 78, 85, 76, 76, 83, 32, 76, 65, 83, 84]
def tNotNull : List UInt8 := [41, 32, 73, 83, 32, 78, 79, 84, 32, 78, 85, 76, 76, 44, 32]
def tNull : List UInt8 := [41, 32, 73, 83, 32, 78, 85, 76, 76, 44, 32]

/-- The leading term. -/
def lead (d dir nulls : Int) (x : List UInt8) : List UInt8 :=
  if d = 1 ∧ nulls = 2 ∧ dir = 1 then 40 :: (x ++ tNotNull) else if d = 1 ∧ nulls = 3 ∧ dir = 0 then 40 :: (x ++ tNull) else []
/-- The clause behind the direction. -/
def clause (d dir nulls : Int) : List UInt8 :=
  if d = 0 ∧ nulls ≠ 0 then (if nulls = 2 ∨ (nulls = 1 ∧ dir = 1) then tFirst else tLast) else []
def term (d dir nulls : Int) (x : List UInt8) : List UInt8 :=
  lead d dir nulls x ++ (x ++ ([32] ++ ((if dir = 1 then tDesc else tAsc) ++ clause d dir nulls)))
end Go.Proofs.Qxb6603285a.Ord
