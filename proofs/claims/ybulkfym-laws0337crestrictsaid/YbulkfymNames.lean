/-
  The names of the methods that the program calls on interface values, read off the program itself, and what the program's tables answer for them.
-/
import Derived.Test.YbulkfymRows
import Derived.WalkKit
namespace Go.Proofs.Ybulkfym
open Go.RowKit

def opName (o : Oper) : List String := match o.op with
  | .call c => (match c.callee with | .invoke _ n => [n] | _ => [])
  | _ => []
def namesIn : Code → List String
  | .region _ ops _ => ops.toList.flatMap opName
  | .seq a b => namesIn a ++ namesIn b
  | .cond _ a b => namesIn a ++ namesIn b
  | .block _ c => namesIn c
  | .loop c => namesIn c
  | .scope c => namesIn c
  | _ => []
def nameOf (f : Func) (k : Nat) : String := match f.body with
  | some c => (namesIn c).getD k ""
  | none => ""

theorem method_at_dot (r : ByteArray) (c : Int) (w : World) : (method 221 37 (.agg #[.string r, .int .u64 c]) (nameOf Yba.f10 0)).run Yba.prog w = .ok (39, .agg #[.string r, .int .u64 c]) w := by kernel_rfl
theorem method_at_key (r s : ByteArray) (c k : Int) (w : World) : (method 221 45 (.agg #[.string r, .int .u64 c, .string s, .int .u8 k]) (nameOf Yba.f10 0)).run Yba.prog w = .ok (41, .agg #[.string r, .int .u64 c, .string s, .int .u8 k]) w := by kernel_rfl
theorem method_into (a : Addr) (w : World) : (method 221 50 (.pointer (some a)) (nameOf Yba.f4 0)).run Yba.prog w = .ok (44, .pointer (some a)) w := by kernel_rfl
theorem method_restrict (a : Addr) (w : World) : (method 221 50 (.pointer (some a)) (nameOf Yba.f4 1)).run Yba.prog w = .ok (43, .pointer (some a)) w := by kernel_rfl
theorem method_holds (a : Addr) (w : World) : (method 221 50 (.pointer (some a)) (nameOf Yba.f4 2)).run Yba.prog w = .ok (42, .pointer (some a)) w := by kernel_rfl

end Go.Proofs.Ybulkfym
