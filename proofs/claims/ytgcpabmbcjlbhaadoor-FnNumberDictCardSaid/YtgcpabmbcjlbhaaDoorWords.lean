/- The contracts of the package's u16 and u32: two and four bytes as a number, the highest first; nothing is changed. Conditions: so many bytes lie there, each from 0 to 255. -/
import Derived.Test.YtgcpabmbcjlbhaaDoorBytes
import Derived.Test.YtgcpabmbcjlbhaaDoorBits
import Derived.Deep.QuietTactic
import Derived.BigQuiet
namespace Go.Proofs.YtgcpabmbcjlbhaaDoor
open Go.RowKit

set_option maxHeartbeats 400000 in
theorem u16_any (g o n c : Nat) (b0 b1 : Int) (w : World) (hn : 2 ≤ n) (c0 : w.cell? ⟨g, o, none⟩ = some (.int .u8 b0)) (c1 : w.cell? ⟨g, o + 1, none⟩ = some (.int .u8 b1)) (l0 : 0 ≤ b0) (u0 : b0 ≤ 255) (l1 : 0 ≤ b1) (u1 : b1 ≤ 255) :
    Calls Tryd.prog 13 #[.slice (some ⟨g, o, none⟩) n c] w fun e w' => e = .returned (.int .u16 (b0 * 256 + b1)) ∧ ∃ k, w' = w.drewN k := by
  have q0 : 0 < n := by omega
  have q1 : (1 : Int) < (n : Int) := by omega
  rw [← or16 b0 b1 l0 u0 l1 u1]
  go_enter Tryd.func13, Tryd.ntmps13
  go_wp2
  go_quiet (fail)
  go_wp2
  go_ret
  exact ⟨rfl, _, rfl⟩
set_option maxHeartbeats 400000 in
theorem u32_any (g o n c : Nat) (b0 b1 b2 b3 : Int) (w : World) (hn : 4 ≤ n) (c0 : w.cell? ⟨g, o, none⟩ = some (.int .u8 b0)) (c1 : w.cell? ⟨g, o + 1, none⟩ = some (.int .u8 b1)) (c2 : w.cell? ⟨g, o + 2, none⟩ = some (.int .u8 b2)) (c3 : w.cell? ⟨g, o + 3, none⟩ = some (.int .u8 b3))
     (l0 : 0 ≤ b0) (u0 : b0 ≤ 255) (l1 : 0 ≤ b1) (u1 : b1 ≤ 255) (l2 : 0 ≤ b2) (u2 : b2 ≤ 255) (l3 : 0 ≤ b3) (u3 : b3 ≤ 255) :
    Calls Tryd.prog 14 #[.slice (some ⟨g, o, none⟩) n c] w fun e w' => e = .returned (.int .u32 (b0 * 16777216 + b1 * 65536 + b2 * 256 + b3)) ∧ ∃ k, w' = w.drewN k := by
  have q0 : 0 < n := by omega
  have q1 : (1 : Int) < (n : Int) := by omega
  have q2 : (2 : Int) < (n : Int) := by omega
  have q3 : (3 : Int) < (n : Int) := by omega
  rw [← or32 b0 b1 b2 b3 l0 u0 l1 u1 l2 u2 l3 u3]
  go_enter Tryd.func14, Tryd.ntmps14
  go_wp2
  go_quiet (fail)
  go_wp2
  go_ret
  exact ⟨rfl, _, rfl⟩
end Go.Proofs.YtgcpabmbcjlbhaaDoor
