/-
  THE WALKS, part A: bucketOf: it computes a plain function 'bk' of the hash, below 131072. Over the dump of the seat; no given text is turned.
-/
import Derived.Test.Qxb6602885aRows
import Derived.WalkKit
import Derived.WalkSpells
import Derived.WalkLawsBesides
import Derived.Deep.OwnRows
namespace Go.Proofs.Qxb6602885a.Low
open Go.RowKit Go.Proofs

theorem ret_int {k : IntKind} {a b : Int} (h : a = b) : Ending.returned (.int k a) = .returned (.int k b) := by rw [h]

/-- What the first line of bucketOf makes of the hash. -/
def mixed (h : Int) : Int := IntKind.u64.wrap (h * 11400714819323198485)
/-- What is divided in the last line. -/
def spun (h : Int) : Int := IntKind.u64.wrap (bits BinOp.xor IntKind.u64 (mixed h) (mixed h / 2147483648) * 13787848793156543929)
/-- The bucket of a hash. -/
def bk (h : Int) : Nat := (spun h / 140737488355328).toNat

theorem wrap_u64 (x : Int) : 0 ≤ IntKind.u64.wrap x ∧ IntKind.u64.wrap x < 18446744073709551616 := by
  rw [IntKind.wrap_u64]; omega

theorem bk_div (h : Int) : 0 ≤ spun h / 140737488355328 ∧ spun h / 140737488355328 < 131072 := by
  have := wrap_u64 (bits BinOp.xor IntKind.u64 (mixed h) (mixed h / 2147483648) * 13787848793156543929)
  unfold spun
  omega

theorem bk_lt (h : Int) : bk h < 131072 := by
  have := bk_div h
  unfold bk
  omega

theorem bk_int (h : Int) : wrap64 (spun h / 140737488355328) = (bk h : Int) := by
  have := bk_div h
  unfold bk wrap64
  omega

set_option maxHeartbeats 400000 in
theorem bucketOf_any (h : Int) (h0 : 0 ≤ h) (h1 : h < 4294967296) (w : World) :
    Calls Try.prog 36 #[.int .u32 h] w fun e w' => e = .returned (.int .i64 (bk h)) ∧ w' = w := by
  go_enter Try.func36, Try.ntmps36
  go_wp2
  go_ret
  exact ⟨ret_int (bk_int h), rfl⟩
end Go.Proofs.Qxb6602885a.Low
