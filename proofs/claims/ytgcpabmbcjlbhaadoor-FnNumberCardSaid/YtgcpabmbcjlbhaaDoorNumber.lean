/- The contracts of parseNumber in one, of sfnt.ZZNumber and of impl.Number: a number that stands whole at the front of the instructions is told, and how many bytes it takes, without an error; nothing that was there is changed. Conditions: the instructions are the call's own memory, at most a thousand bytes; the number has 32 bits. -/
import Derived.Test.YtgcpabmbcjlbhaaDoorWide
namespace Go.Proofs.YtgcpabmbcjlbhaaDoor
open Go.RowKit

/-- The bytes bs are a number in this context (2: a glyph's instructions), and the number is num. -/
def Front (ctx : Int) (bs : List Int) (num : Int) : Prop :=
  (∃ b, bs = [b] ∧ 32 ≤ b ∧ b ≤ 246 ∧ num = b - 139) ∨
  (∃ b b1, bs = [b, b1] ∧ 247 ≤ b ∧ b ≤ 250 ∧ 0 ≤ b1 ∧ b1 ≤ 255 ∧ num = (b - 247) * 256 + b1 + 108) ∨
  (∃ b b1, bs = [b, b1] ∧ 251 ≤ b ∧ b ≤ 254 ∧ 0 ≤ b1 ∧ b1 ≤ 255 ∧ num = -(b - 251) * 256 - b1 - 108) ∨
  (∃ b1 b2, bs = [28, b1, b2] ∧ 0 ≤ b1 ∧ b1 ≤ 255 ∧ 0 ≤ b2 ∧ b2 ≤ 255 ∧ num = wrap32 (IntKind.i16.wrap (b1 * 256 + b2))) ∨
  (∃ b1 b2 b3 b4, bs = [29, b1, b2, b3, b4] ∧ (ctx != 2) = true ∧ 0 ≤ b1 ∧ b1 ≤ 255 ∧ 0 ≤ b2 ∧ b2 ≤ 255 ∧ 0 ≤ b3 ∧ b3 ≤ 255 ∧ 0 ≤ b4 ∧ b4 ≤ 255 ∧ num = wrap32 (b1 * 16777216 + b2 * 65536 + b3 * 256 + b4))

theorem parse_any (B B0 g c : Nat) (ctx num : Int) (bs tl : List Int) (w : World) (hf : Front ctx bs num) (o : Own w B0 g c (bs ++ tl))
    (c0 : w.cell? ⟨B, 0, none⟩ = some (.int .u32 ctx)) (c1 : w.cell? ⟨B, 1, none⟩ = some (.slice (some ⟨g, 0, none⟩) (bs.length + tl.length) c)) (c4 : w.cell? ⟨B, 4, none⟩ = some (.int .i32 0)) (ct : w.cell? ⟨B, 52, none⟩ = some (.int .i32 0))
    (f1 : w.frozen? ⟨B, 1, none⟩ = false) (f4 : w.frozen? ⟨B, 4, none⟩ = false) (ft : w.frozen? ⟨B, 52, none⟩ = false) :
    Calls Tryd.prog 12 #[.pointer (some ⟨B, 0, none⟩)] w (Took B w tl.length num) := by
  have hc := o.facts.2.2.1
  rw [← List.length_append] at c1
  rcases hf with ⟨b, rfl, h1, h2, rfl⟩ | ⟨b, b1, rfl, h1, h2, h3, h4, rfl⟩ | ⟨b, b1, rfl, h1, h2, h3, h4, rfl⟩ | ⟨b1, b2, rfl, h1, h2, h3, h4, rfl⟩ | ⟨b1, b2, b3, b4, rfl, hx, h1, h2, h3, h4, h5, h6, h7, h8, rfl⟩
  · have d0 := o.cell (i := 0) (by simp)
    have := parse_1 B g _ c b w (by simp) h1 h2 c1 c4 ct f1 f4 ft d0
    simpa using this
  · have d0 := o.cell (i := 0) (by simp)
    have d1 := o.cell (i := 1) (by simp)
    have := parse_2 B g _ c b b1 w (by simp) h1 h2 h3 h4 c1 c4 ct f1 f4 ft d0 d1
    simpa using this
  · have d0 := o.cell (i := 0) (by simp)
    have d1 := o.cell (i := 1) (by simp)
    have := parse_3 B g _ c b b1 w (by simp) h1 h2 h3 h4 c1 c4 ct f1 f4 ft d0 d1
    simpa using this
  · have d0 := o.cell (i := 0) (by simp)
    have d1 := o.cell (i := 1) (by simp)
    have d2 := o.cell (i := 2) (by simp)
    have := parse_28 B g _ c b1 b2 w (by simp) hc h1 h2 h3 h4 c1 c4 ct f1 f4 ft d0 d1 d2
    simpa using this
  · have d0 := o.cell (i := 0) (by simp)
    have d1 := o.cell (i := 1) (by simp)
    have d2 := o.cell (i := 2) (by simp)
    have d3 := o.cell (i := 3) (by simp)
    have d4 := o.cell (i := 4) (by simp)
    have := parse_29 B g _ c ctx b1 b2 b3 b4 w hx (by simp) hc h1 h2 h3 h4 h5 h6 h7 h8 c0 c1 c4 ct f1 f4 ft d0 d1 d2 d3 d4
    simpa using this

/-- The interpreter's zero value: 156 cells; the stack's bottom and its height are 0. -/
theorem zero57 : Tryd.zeroCells57.size = 156 ∧ Tryd.zeroCells57[4]? = some (.int .i32 0) ∧ Tryd.zeroCells57[52]? = some (.int .i32 0) := ⟨by kernel_rfl, by kernel_rfl, by kernel_rfl⟩
theorem new57 (w : World) (x y : Value) : ∀ W, W = w.alloc (.cells ((Tryd.zeroCells57.setIfInBounds 0 x).setIfInBounds 1 y) 57) →
    W.cell? ⟨w.heap.size, 0, none⟩ = some x ∧ W.cell? ⟨w.heap.size, 1, none⟩ = some y ∧ W.cell? ⟨w.heap.size, 4, none⟩ = some (.int .i32 0) ∧ W.cell? ⟨w.heap.size, 52, none⟩ = some (.int .i32 0) ∧ ∀ i, W.frozen? ⟨w.heap.size, i, none⟩ = false := by
  rintro W rfl
  have h := heap_alloc_new w (.cells ((Tryd.zeroCells57.setIfInBounds 0 x).setIfInBounds 1 y) 57)
  obtain ⟨hs, h4, h52⟩ := zero57
  refine ⟨?_, ?_, ?_, ?_, fun i => by unfold World.frozen?; rw [h]; simp⟩
  all_goals rw [cell_of_row _ _ _ _ _ _ h]
  · simp [hs]
  · simp [hs]
  · rw [Array.getElem?_setIfInBounds_ne (by omega), Array.getElem?_setIfInBounds_ne (by omega), h4]
  · rw [Array.getElem?_setIfInBounds_ne (by omega), Array.getElem?_setIfInBounds_ne (by omega), h52]

theorem results_four {fn : Func} {t u v x : Tmp} (h : fn.results = #[.tmp t, .tmp u, .tmp v, .tmp x]) (tmps : Array Value) (P : Program) (w : World) :
    (results fn tmps).run P w = .ok (.tuple #[tmps.getD t undef, tmps.getD u undef, tmps.getD v undef, tmps.getD x undef]) w := by simp [results, h]

set_option maxRecDepth 100000 in
set_option maxHeartbeats 1000000 in
theorem zz_any (B0 g c : Nat) (ctx num : Int) (bs tl : List Int) (w : World) (hf : Front ctx bs num) (o : Own w B0 g c (bs ++ tl)) (hsz : bs.length + tl.length ≤ 1000000) :
    Calls Tryd.prog 9 #[.int .u32 ctx, .slice (some ⟨g, 0, none⟩) (bs ++ tl).length c] w fun e w' => e = .returned (.tuple #[.int .i32 num, .bool true, .int .i64 bs.length, .nilIface]) ∧ Below w.heap.size w w' := by
  go_enter Tryd.func9, Tryd.ntmps9
  go_wp2_with fail
  obtain ⟨k0, k1, k4, kt, kf⟩ := new57 w (.int .u32 ctx) (.slice (some ⟨g, 0, none⟩) (bs.length + tl.length) c) _ rfl
  refine (parse_any w.heap.size B0 g c ctx num bs tl _ hf (o.below ((Below.refl _ _).alloc (Nat.le_refl _) _)) k0 k1 k4 kt (kf _) (kf _) (kf _)).mono ?_
  rintro e w2 ⟨rfl, ⟨A, c', hc1⟩, hc4, hb⟩
  clear k0 k1 k4 kt kf
  have hb2 : Below w.heap.size w w2 := ((Below.refl _ _).alloc (Nat.le_refl _) _).trans hb
  clear hb
  go_wp2_with fail
  go_quiet (fail)
  go_wp2_with fail
  refine bodyPost_ret (results_four rfl _ _ _) rfl ?_
  exact ⟨rfl, hb2.trans ⟨rfl, rfl, rfl, Nat.le_refl _, fun _ _ => rfl⟩⟩

set_option maxRecDepth 100000 in
set_option maxHeartbeats 1000000 in
theorem number_any (B0 g c : Nat) (ctx num : Int) (bs tl : List Int) (w : World) (hf : Front ctx bs num) (o : Own w B0 g c (bs ++ tl)) (hsz : bs.length + tl.length ≤ 1000) (n1 : -2147483648 ≤ num) (n2 : num ≤ 2147483647) :
    Calls Tryd.prog 6 #[.int .u32 ctx, .slice (some ⟨g, 0, none⟩) (bs ++ tl).length c] w fun e w' => e = .returned (.tuple #[.int .i64 num, .bool true, .int .i64 bs.length, .bool true]) ∧ Below w.heap.size w w' := by
  go_enter Tryd.func6, Tryd.ntmps6
  go_wp2_with fail
  have hcl := clone_any w B0 g c (bs ++ tl) o (by rw [List.length_append]; exact hsz)
  rw [List.length_append] at hcl
  refine hcl.mono ?_
  clear hcl
  rintro e w1 ⟨g1, d1, rfl, o1, b1⟩
  go_wp2_with fail
  have hzz := zz_any w.heap.size g1 d1 ctx num bs tl w1 hf o1 (by omega)
  rw [List.length_append] at hzz
  refine hzz.mono ?_
  clear hzz
  rintro e w2 ⟨rfl, b2⟩
  have z1 := b1.size
  go_wp2_with fail
  go_quiet (fail)
  go_wp2_with fail
  refine bodyPost_ret (results_four rfl _ _ _) rfl ?_
  exact ⟨rfl, (b1.trans (b2.mono z1)).trans ⟨rfl, rfl, rfl, Nat.le_refl _, fun _ _ => rfl⟩⟩
end Go.Proofs.YtgcpabmbcjlbhaaDoor
