/-
  What both searches share.
-/
import Derived.Test.YbulkdkucLeaf
import Derived.Test.YbulkdkucPlain2
namespace Go.Proofs.Ybulkdkuc.Sc
open Go.RowKit Go.Maps

/-- What a search hands back. -/
def AnsPost (S : Sch) (w : World) (e : Ending) (w' : World) : Prop := ∃ f es, e = .returned (.tuple #[.bool f, .bool es]) ∧ Ans S f es ∧ Below w.heap.size w w'

/-- The copy of an operation. -/
abbrev oc (kd tx : Nat) (x : ByteArray) (f : Nat) : Obj := .cells #[.int .u8 kd, .int .i64 tx, .string x, .int .i64 f, .int .i64 0, .bool false] 45

theorem kn_size (i : Nat) : (kn i).size ≤ 1 := by
  unfold kn; split
  · exact Nat.le_refl _
  · split <;> exact Nat.le_refl _
theorem str_ne {x y : ByteArray} (h : x ≠ y) : (x.toList == y.toList) = false := by
  rw [ByteArray.toList_eq, ByteArray.toList_eq]
  have : x.data.toList ≠ y.data.toList := fun e => h (WideShapes.bytes_inj e)
  simpa using this
theorem nb {a b : Nat} (h : a ≠ b) : ((a : Int) != (b : Int)) = true := by
  have : (a : Int) ≠ (b : Int) := by omega
  simpa using this
end Go.Proofs.Ybulkdkuc.Sc
