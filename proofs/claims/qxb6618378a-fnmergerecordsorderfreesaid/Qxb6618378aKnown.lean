/-
  Walk of (*record).known (19).
-/
import Derived.Test.Qxb6618378aAgree
namespace Go.Proofs.Qxb6618378a
open Go.RowKit

set_option maxHeartbeats 1000000 in
theorem known_any (b : Nat) (col : Int) (ro : Option Addr) (n c : Nat) (w : World) (h2 : w.cell? ⟨b, 2, none⟩ = some (.int .u64 col)) (h4 : w.cell? ⟨b, 4, none⟩ = some (.slice ro n c)) (sc : Small col) (hn : n ≤ 1048576) :
    Calls Try.prog 19 #[.pointer (some ⟨b, 0, none⟩)] w fun e w' => e = .returned (.int .u64 (col + n)) ∧ ∃ q, w' = w.drewN q := by
  have w1 : IntKind.u64.wrap (n : Int) = n := u64_id (by omega) (by omega)
  have w2 : IntKind.u64.wrap (col + n) = col + n := wrap_add sc (by omega) (by omega)
  go_enter Try.func19, Try.ntmps19
  go_wp2
  go_quiet (fail)
  go_wp2
  go_ret
  exact ⟨rfl, _, rfl⟩
end Go.Proofs.Qxb6618378a
