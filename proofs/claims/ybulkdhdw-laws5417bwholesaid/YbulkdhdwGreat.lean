/-
  THE WALK of LawS5417BWhole where it returns at once.
-/
import Derived.Test.YbulkdhdwPut
namespace Go.Proofs.Ybulkdhdw
open Go.RowKit Go.Maps

set_option maxRecDepth 20000 in
theorem law_great (a0 : Option Addr) (nk cap0 : Nat) (a1 : Option Addr) (nv cap1 : Nat) (a2 : Option Addr) (nc cap2 : Nat) (hash at_ pick base hbase : Int) (w : World)
    (b0 : nk ≤ 17592186044416) (b1 : nv ≤ 17592186044416) (b2 : nc ≤ 17592186044416) (hn : 1048576 < nk + nv + nc) :
    Calls Yba.prog 3 #[.slice a0 nk cap0, .slice a1 nv cap1, .slice a2 nc cap2, .int .u64 hash, .int .i64 at_, .int .u8 pick, .int .i64 base, .int .i64 hbase] w fun e w' => e = .returned (.bool true) ∧ Below w.heap.size w w' := by
  go_enter Yba.func3, Yba.ntmps3
  go_wp2_with fail
  go_ret
  exact ⟨rfl, Below.refl _ _⟩
end Go.Proofs.Ybulkdhdw
