import Derived.Test.YbulkdiuyBTail2
namespace Go.Proofs.Ybulkdiuy.lawS5497BWhole
open Go.RowKit Go.Deep

/-- At most two ages. -/
theorem pre_len (now b e : Int) : ∀ j, (pre now b e j).length ≤ 2
  | 0 => by simp [pre]
  | 1 => by have := hitL_len now b e 20; simp only [pre]; omega
  | j + 2 => by
    have h1 := hitL_len now b e 20
    have h2 := hitL_len now b e 10000
    simp only [pre, List.length_append]
    omega

end Go.Proofs.Ybulkdiuy.lawS5497BWhole
