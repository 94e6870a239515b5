/- Structs that are held equal: the compare's nested tests are one bool (for the printed walks). -/
import Derived.Test.YtjemdgmihbmgeaaGreatDoorGet
namespace Go.Proofs.YtjemdgmihbmgeaaGreatDoorSeq
open Go
theorem eq_i (a b : Int) (q : Bool) (w : World) : (if a = b then (Result.ok (Next.value (.bool q)) w : Result (Next)) else Result.ok (Next.value (.bool false)) w) = Result.ok (Next.value (.bool (a == b && q))) w := by
  by_cases h : a = b <;> simp [h]
theorem eq_b (a b : Bool) (q : Bool) (w : World) : (if a = b then (Result.ok (Next.value (.bool q)) w : Result (Next)) else Result.ok (Next.value (.bool false)) w) = Result.ok (Next.value (.bool (a == b && q))) w := by
  by_cases h : a = b <;> simp [h]
theorem and_t (a : Bool) : (a && true) = a := Bool.and_true a
end Go.Proofs.YtjemdgmihbmgeaaGreatDoorSeq
macro "struct_eq" : tactic => `(tactic| (simp only [Go.Proofs.YtjemdgmihbmgeaaGreatDoorSeq.eq_i, Go.Proofs.YtjemdgmihbmgeaaGreatDoorSeq.eq_b, Go.Proofs.YtjemdgmihbmgeaaGreatDoorSeq.and_t]; (try simp only [*]); with_reducible rfl))
