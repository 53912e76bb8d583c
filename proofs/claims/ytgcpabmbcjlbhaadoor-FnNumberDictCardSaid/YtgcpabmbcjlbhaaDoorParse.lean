/- The contract of parseNumber, way by way: at a byte from 32 to 246, from 247 to 250, from 251 to 254, at 28, and in a dictionary at 29, the number that stands at the front of the instructions is pushed and its bytes are taken off; below the interpreter's own block nothing has turned. Conditions: the number stands whole at the front, the stack is empty, the bytes lie in another block than the interpreter. -/
import Derived.Test.YtgcpabmbcjlbhaaDoorWords
import Derived.RegionTactic
import Derived.ChangeAlike
namespace Go.Proofs.YtgcpabmbcjlbhaaDoor
open Go.RowKit

/-- What a number's reading leaves: the rest of the instructions, the number at the bottom of the stack. -/
def Took (B : Nat) (w : World) (m : Nat) (num : Int) (e : Ending) (w' : World) : Prop :=
  e = .returned (.tuple #[.bool true, .nilIface]) ∧ (∃ A c, w'.cell? ⟨B, 1, none⟩ = some (.slice A m c)) ∧ w'.cell? ⟨B, 4, none⟩ = some (.int .i32 num) ∧ Below B w w'

theorem took_of {B : Nat} {w : World} {v1 v4 : Value} (c1 : w.cell? ⟨B, 1, none⟩ = some v1) (c4 : w.cell? ⟨B, 4, none⟩ = some v4) (A : Option Addr) (m c : Nat) (num : Int) :
    Took B w m num (.returned (.tuple #[.bool true, .nilIface])) (((w.setCell ⟨B, 1, none⟩ (.slice A m c)).setCell ⟨B, 4, none⟩ (.int .i32 num)).setCell ⟨B, 52, none⟩ (.int .i32 1)).drew := by
  refine ⟨rfl, ⟨A, c, ?_⟩, ?_, (((Below.refl B w).setCell (Nat.le_refl _) _).setCell (Nat.le_refl _) _).setCell (Nat.le_refl _) _ |>.drew⟩
  · show World.cell? (((w.setCell _ _).setCell _ _).setCell _ _) _ = _
    rw [World.cell?_setCell_other _ _ _ _ (by simp), World.cell?_setCell_other _ _ _ _ (by simp)]
    exact World.cell?_setCell_same _ _ _ c1
  · show World.cell? (((w.setCell _ _).setCell _ _).setCell _ _) _ = _
    rw [World.cell?_setCell_other _ _ _ _ (by simp)]
    exact World.cell?_setCell_same _ _ _ (by rw [World.cell?_setCell_other _ _ _ _ (by simp)]; exact c4)
theorem Took.from_ {B : Nat} {w w1 w' : World} {m : Nat} {num : Int} {e : Ending} (h : Took B w1 m num e w') (hb : Below B w w1) : Took B w m num e w' := ⟨h.1, h.2.1, h.2.2.1, hb.trans h.2.2.2⟩

set_option maxRecDepth 100000 in
set_option maxHeartbeats 1000000 in
theorem parse_1 (B g n c : Nat) (b : Int) (w : World) (hn : 1 ≤ n) (lb : 32 ≤ b) (ub : b ≤ 246) 
    (c1 : w.cell? ⟨B, 1, none⟩ = some (.slice (some ⟨g, 0, none⟩) n c)) (c4 : w.cell? ⟨B, 4, none⟩ = some (.int .i32 0)) (ct : w.cell? ⟨B, 52, none⟩ = some (.int .i32 0))
    (f1 : w.frozen? ⟨B, 1, none⟩ = false) (f4 : w.frozen? ⟨B, 4, none⟩ = false) (ft : w.frozen? ⟨B, 52, none⟩ = false)
    (d0 : w.cell? ⟨g, 0, none⟩ = some (.int .u8 b)) :
    Calls Tryd.prog 12 #[.pointer (some ⟨B, 0, none⟩)] w (Took B w (n - 1) (b - 139)) := by
  go_enter Tryd.func12, Tryd.ntmps12
  go_wp2_with fail
  all_goals go_region
  all_goals go_wp2
  all_goals go_ret2
  all_goals exact took_of c1 c4 _ _ _ _

set_option maxRecDepth 100000 in
set_option maxHeartbeats 1000000 in
theorem parse_2 (B g n c : Nat) (b b1 : Int) (w : World) (hn : 2 ≤ n) (lb : 247 ≤ b) (ub : b ≤ 250) (l1 : 0 ≤ b1) (u1 : b1 ≤ 255) 
    (c1 : w.cell? ⟨B, 1, none⟩ = some (.slice (some ⟨g, 0, none⟩) n c)) (c4 : w.cell? ⟨B, 4, none⟩ = some (.int .i32 0)) (ct : w.cell? ⟨B, 52, none⟩ = some (.int .i32 0))
    (f1 : w.frozen? ⟨B, 1, none⟩ = false) (f4 : w.frozen? ⟨B, 4, none⟩ = false) (ft : w.frozen? ⟨B, 52, none⟩ = false)
    (d0 : w.cell? ⟨g, 0, none⟩ = some (.int .u8 b))
    (d1 : w.cell? ⟨g, 1, none⟩ = some (.int .u8 b1)) :
    Calls Tryd.prog 12 #[.pointer (some ⟨B, 0, none⟩)] w (Took B w (n - 2) ((b - 247) * 256 + b1 + 108)) := by
  have q1 : 1 < n := by omega
  go_enter Tryd.func12, Tryd.ntmps12
  go_wp2_with fail
  all_goals go_region
  all_goals go_wp2
  all_goals go_ret2
  all_goals exact took_of c1 c4 _ _ _ _

set_option maxRecDepth 100000 in
set_option maxHeartbeats 1000000 in
theorem parse_3 (B g n c : Nat) (b b1 : Int) (w : World) (hn : 2 ≤ n) (lb : 251 ≤ b) (ub : b ≤ 254) (l1 : 0 ≤ b1) (u1 : b1 ≤ 255) 
    (c1 : w.cell? ⟨B, 1, none⟩ = some (.slice (some ⟨g, 0, none⟩) n c)) (c4 : w.cell? ⟨B, 4, none⟩ = some (.int .i32 0)) (ct : w.cell? ⟨B, 52, none⟩ = some (.int .i32 0))
    (f1 : w.frozen? ⟨B, 1, none⟩ = false) (f4 : w.frozen? ⟨B, 4, none⟩ = false) (ft : w.frozen? ⟨B, 52, none⟩ = false)
    (d0 : w.cell? ⟨g, 0, none⟩ = some (.int .u8 b))
    (d1 : w.cell? ⟨g, 1, none⟩ = some (.int .u8 b1)) :
    Calls Tryd.prog 12 #[.pointer (some ⟨B, 0, none⟩)] w (Took B w (n - 2) (-(b - 251) * 256 - b1 - 108)) := by
  have q1 : 1 < n := by omega
  go_enter Tryd.func12, Tryd.ntmps12
  go_wp2_with fail
  all_goals go_region
  all_goals go_wp2
  all_goals go_ret2
  all_goals exact took_of c1 c4 _ _ _ _
end Go.Proofs.YtgcpabmbcjlbhaaDoor
