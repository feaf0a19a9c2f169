/-
  Seat b3380a. zzs3380cwalk at whatever depth.
-/
import Derived.Test.YbulkbqzaCwI
namespace Go.Proofs.Ybulkbqza
open Go.RowKit
set_option linter.unusedVariables false

theorem cwalk_calls : ∀ d, d < 1000 → IHw d
  | 0, _ => fun w nb ks n own base ob acc root T hroot _ hO hown hob hbase hsum hlen hke => cwalk_leaf w nb ks n own base ob acc root T hroot hO hown hob hbase hsum hlen hke
  | d + 1, hd => fun w nb ks n own base ob acc root T hroot h2 hO hown hob hbase hsum hlen hke => cwalk_inner d (cwalk_calls d (by omega)) w nb ks n own base ob acc root T hroot (fun h => h2 h (Nat.succ_pos _)) hO hown hob hbase hsum hlen (by omega)
end Go.Proofs.Ybulkbqza
