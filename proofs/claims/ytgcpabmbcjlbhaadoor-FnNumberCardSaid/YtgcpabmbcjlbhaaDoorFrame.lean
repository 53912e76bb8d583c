/- What both cards share: an argument that is a slice of bytes, opened; the named package-level variables, kept; a world in which the listed variables read as they are listed. Conditions: none beyond what each lemma names. -/
import Derived.Test.YtgcpabmbcjlbhaaDoorCards
import Derived.Test.YtgcpabmbcjlbhaaDoorTie
import Derived.Test.YtgcpabmbcjlbhaaDoorLaws
import Derived.ProofKit
import Derived.OpenShut
import Derived.ChangeOld
import Derived.Lay
import Derived.LaidOnce
import Derived.OpenVars
import Derived.SevenTiedAt
namespace Go.Proofs.YtgcpabmbcjlbhaaDoor
open Go.ChangeShapes Go.WideShapes Go.ChangeAt Go.RowKit

theorem own : ownKnob Tryd.prog.godebug = none := by kernel_rfl
theorem laidOut : laidOutB Tryd.prog = true := by kernel_rfl
theorem rowed : varsRowed Tryd.prog Rows.fnNumberSpec.vars = true := by kernel_rfl

/-- A slice of bytes that came in: nil, or its numbers lie there. -/
theorem src_of_ints {w : World} {a : Addr} {len : Nat} {cap : Nat} {zs : List Int} (hl : len ≤ zs.length) (hcell : ∀ i, i < zs.length → w.cell? (a.add i) = some (.int .u8 (zs.getD i 0))) : Src w (some a) len cap (zs.take len) := by
  refine ⟨by simp; omega, .inr ⟨a, rfl, fun j u hu => ?_⟩⟩
  have hj : j < len := by
    have := (List.getElem?_eq_some_iff.1 hu).1
    simp [u8s] at this
    omega
  rw [hcell j (by omega)]
  rw [u8s, List.getElem?_map, List.getElem?_take, if_pos hj, List.getElem?_eq_getElem (by omega)] at hu
  simp only [Option.map_some] at hu
  rw [← hu, List.getD, List.getElem?_eq_getElem (by omega)]
  rfl

theorem three_vars {H : Type} {enc : TypeId × Value → H} {P : Program} {w : World} {sp : Nat → Bool} {a b c : String} {gs : List (DataW H)} {ps : List MemPlace} (h : DataW.TrodVars enc P w sp [a, b, c] gs ps) : ∃ g1 g2 g3, gs = [g1, g2, g3] := by
  match gs, h with
  | [g1, g2, g3], _ => exact ⟨g1, g2, g3, rfl⟩
  | [], h => exact h.elim
  | [_], ⟨_, _, _, _, _, _, _, _, _, _, h, _⟩ => exact h.elim
  | [_, _], ⟨_, _, _, _, _, _, _, _, _, _, ⟨_, _, _, _, _, _, _, _, _, _, h, _⟩, _⟩ => exact h.elim
  | _ :: _ :: _ :: _ :: _, ⟨_, _, _, _, _, _, _, _, _, _, ⟨_, _, _, _, _, _, _, _, _, _, ⟨_, _, _, _, _, _, _, _, _, _, h, _⟩, _⟩, _⟩ => exact h.elim

theorem lay_fits (os : Os) : (World.holding Tryd.prog os ⟨#[], #[], []⟩).layFits Tryd.prog Rows.fnNumberRow.laid [] = true := by kernel_rfl
theorem lay_ifaces (os : Os) : (World.holding Tryd.prog os ⟨#[], #[], []⟩).layIfaces Tryd.prog Rows.fnNumberRow.laid (World.laidAll Tryd.prog os Rows.fnNumberRow.laid) = true := by kernel_rfl
theorem laid_plain (w : World) : laidMetH Tryd.prog Rows.fnNumberRow.laid w = laidMet Tryd.prog Rows.fnNumberRow.laid w := MakeChecks.laidMetH_plain _ _ _ (by kernel_rfl)
end Go.Proofs.YtgcpabmbcjlbhaaDoor
