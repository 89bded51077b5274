/-
  Seat b4343a, LawS4343CCast: '!=' on the structs.
-/
import Derived.Test.YbulkckxoCastK
import Derived.Test.YbulkckxoCastS
namespace Go.Proofs.Ybulkckxo
open Go.RowKit
namespace Ca

def eq49 (a b : Int) (s : ByteArray) (v : Bool) (a' b' : Int) (s' : ByteArray) (v' : Bool) : Bool := (a == a') && ((b == b') && ((s.toList == s'.toList) && (v == v')))

theorem eq49_self (a b : Int) (s : ByteArray) (v : Bool) : eq49 a b s v a b s v = true := by simp [eq49]

theorem neq49 (a b : Int) (s : ByteArray) (v : Bool) (a' b' : Int) (s' : ByteArray) (v' : Bool) (w : World) :
    (binOp .neq 49 (stV a b s v) (stV a' b' s' v')).run Yba.prog w = .ok (.bool (!eq49 a b s v a' b' s' v')) w := by
  unfold eq49
  cases h1 : (a == a')
  · go_simp
  · cases h2 : (b == b')
    · go_simp
    · cases h3 : (s.toList == s'.toList)
      · go_simp
      · go_simp
        cases v <;> cases v' <;> rfl

theorem neq49_self (a b : Int) (s : ByteArray) (v : Bool) (w : World) : (binOp .neq 49 (stV a b s v) (stV a b s v)).run Yba.prog w = .ok (.bool false) w := by
  rw [neq49, eq49_self]; rfl
theorem neq51_self (a : Int) (s : ByteArray) (w : World) : (binOp .neq 51 (opV a s) (opV a s)).run Yba.prog w = .ok (.bool false) w := by go_simp
theorem neq57_self (w : World) : (binOp .neq 57 (.agg #[.int .i64 0, .string ⟨#[]⟩]) (.agg #[.int .i64 0, .string ⟨#[]⟩])).run Yba.prog w = .ok (.bool false) w := by go_simp
abbrev scV (i a b : Int) (s : ByteArray) (v : Bool) : Value := .agg #[.int .i64 i, .int .i64 a, .int .i64 b, .string s, .bool v]
theorem neq62_self (i a b : Int) (s : ByteArray) (v : Bool) (w : World) : (binOp .neq 62 (scV i a b s v) (scV i a b s v)).run Yba.prog w = .ok (.bool false) w := by go_simp
theorem neq66_self (i b : Int) (v : ByteArray) (w : World) : (binOp .neq 66 (msgV i b v) (msgV i b v)).run Yba.prog w = .ok (.bool false) w := by go_simp
end Ca
end Go.Proofs.Ybulkckxo
