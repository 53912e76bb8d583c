/- The contract of parseNumber at 28, and at 29 in a dictionary: the number of two or four bytes behind it is pushed, the bytes are taken off; below the interpreter's own block nothing has turned. Conditions: the number stands whole at the front, the stack is empty. -/
import Derived.Test.YtgcpabmbcjlbhaaDoorParse
namespace Go.Proofs.YtgcpabmbcjlbhaaDoor
open Go.RowKit

set_option maxRecDepth 100000 in
set_option maxHeartbeats 1000000 in
theorem parse_28 (B g n c : Nat) (b1 b2 : Int) (w : World) (hn : 3 ≤ n) (hc : n ≤ c) (l1 : 0 ≤ b1) (u1 : b1 ≤ 255) (l2 : 0 ≤ b2) (u2 : b2 ≤ 255)
    (c1 : w.cell? ⟨B, 1, none⟩ = some (.slice (some ⟨g, 0, none⟩) n c)) (c4 : w.cell? ⟨B, 4, none⟩ = some (.int .i32 0)) (ct : w.cell? ⟨B, 52, none⟩ = some (.int .i32 0))
    (f1 : w.frozen? ⟨B, 1, none⟩ = false) (f4 : w.frozen? ⟨B, 4, none⟩ = false) (ft : w.frozen? ⟨B, 52, none⟩ = false)
    (d0 : w.cell? ⟨g, 0, none⟩ = some (.int .u8 28)) (d1 : w.cell? ⟨g, 1, none⟩ = some (.int .u8 b1)) (d2 : w.cell? ⟨g, 2, none⟩ = some (.int .u8 b2)) :
    Calls Tryd.prog 12 #[.pointer (some ⟨B, 0, none⟩)] w (Took B w (n - 3) (wrap32 (IntKind.i16.wrap (b1 * 256 + b2)))) := by
  have q0 : 1 ≤ n := by omega
  have q1 : 1 < n := by omega
  have q2 : 2 < n := by omega
  have hc1 : ¬ c = 1 := by omega
  go_enter Tryd.func12, Tryd.ntmps12
  go_wp2_with fail
  refine (u16_any g 1 (n - 1) (c - 1) b1 b2 _ (by omega) d1 d2 l1 u1 l2 u2).mono ?_
  rintro e w1 ⟨rfl, k, hw⟩
  have hcell : ∀ a, w1.cell? a = w.cell? a := fun a => by rw [hw]; rfl
  have hfroz : ∀ a, w1.frozen? a = w.frozen? a := fun a => by rw [hw]; rfl
  have hb : Below B w w1 := by rw [hw]; exact ⟨rfl, rfl, rfl, Nat.le_refl _, fun _ _ => rfl⟩
  rw [← hcell] at c1 c4 ct d0 d1 d2
  rw [← hfroz] at f1 f4 ft
  clear hcell hfroz hw
  go_wp2_with fail
  all_goals go_region
  all_goals go_wp2
  all_goals go_ret2
  all_goals exact (took_of c1 c4 _ _ _ _).from_ hb

set_option maxRecDepth 100000 in
set_option maxHeartbeats 1000000 in
theorem parse_29 (B g n c : Nat) (ctx b1 b2 b3 b4 : Int) (w : World) (hx : (ctx != 2) = true) (hn : 5 ≤ n) (hc : n ≤ c) (l1 : 0 ≤ b1) (u1 : b1 ≤ 255) (l2 : 0 ≤ b2) (u2 : b2 ≤ 255) (l3 : 0 ≤ b3) (u3 : b3 ≤ 255) (l4 : 0 ≤ b4) (u4 : b4 ≤ 255)
    (c0 : w.cell? ⟨B, 0, none⟩ = some (.int .u32 ctx)) (c1 : w.cell? ⟨B, 1, none⟩ = some (.slice (some ⟨g, 0, none⟩) n c)) (c4 : w.cell? ⟨B, 4, none⟩ = some (.int .i32 0)) (ct : w.cell? ⟨B, 52, none⟩ = some (.int .i32 0))
    (f1 : w.frozen? ⟨B, 1, none⟩ = false) (f4 : w.frozen? ⟨B, 4, none⟩ = false) (ft : w.frozen? ⟨B, 52, none⟩ = false)
    (d0 : w.cell? ⟨g, 0, none⟩ = some (.int .u8 29)) (d1 : w.cell? ⟨g, 1, none⟩ = some (.int .u8 b1)) (d2 : w.cell? ⟨g, 2, none⟩ = some (.int .u8 b2)) (d3 : w.cell? ⟨g, 3, none⟩ = some (.int .u8 b3)) (d4 : w.cell? ⟨g, 4, none⟩ = some (.int .u8 b4)) :
    Calls Tryd.prog 12 #[.pointer (some ⟨B, 0, none⟩)] w (Took B w (n - 5) (wrap32 (b1 * 16777216 + b2 * 65536 + b3 * 256 + b4))) := by
  have q0 : 1 ≤ n := by omega
  have q1 : 1 < n := by omega
  have q2 : 4 < n := by omega
  have hc1 : ¬ c = 1 := by omega
  go_enter Tryd.func12, Tryd.ntmps12
  go_wp2_with fail
  refine (u32_any g 1 (n - 1) (c - 1) b1 b2 b3 b4 _ (by omega) d1 d2 d3 d4 l1 u1 l2 u2 l3 u3 l4 u4).mono ?_
  rintro e w1 ⟨rfl, k, hw⟩
  have hcell : ∀ a, w1.cell? a = w.cell? a := fun a => by rw [hw]; rfl
  have hfroz : ∀ a, w1.frozen? a = w.frozen? a := fun a => by rw [hw]; rfl
  have hb : Below B w w1 := by rw [hw]; exact ⟨rfl, rfl, rfl, Nat.le_refl _, fun _ _ => rfl⟩
  rw [← hcell] at c0 c1 c4 ct d0 d1 d2 d3 d4
  rw [← hfroz] at f1 f4 ft
  clear hcell hfroz hw
  go_wp2_with fail
  all_goals go_region
  all_goals go_wp2
  all_goals go_ret2
  all_goals exact (took_of c1 c4 _ _ _ _).from_ hb
end Go.Proofs.YtgcpabmbcjlbhaaDoor
