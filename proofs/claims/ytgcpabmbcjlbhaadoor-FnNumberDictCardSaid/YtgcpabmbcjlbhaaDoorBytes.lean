/- The bytes that the law makes: what a slice of bytes in new memory holds, the built-in append onto such a slice, and the contracts of spec.two, spec.four, spec.Four, spec.Numeral and slices.Clone: each hands back a slice in new memory with the bytes that its description tells; nothing that was there is changed. Conditions: numbers of 32 bits, sources of at most a million bytes. -/
import Derived.Test.YtgcpabmbcjlbhaaDoorRows
import Derived.WalkKit
import Derived.WalkSpells
import Derived.WalkLawsBesides
import Derived.Maps.AppendAt
import Derived.Laws.AppendOwnNone
import Derived.Deep.AppendLies
import Derived.Lib.SliceRun
namespace Go.Proofs.YtgcpabmbcjlbhaaDoor
open Go.RowKit

theorem info5 : (Tryd.prog.info? 5).map (fun i => (i.zero, i.size, i.bytes)) = some (some (.int .u8 0), 1, 1) := by kernel_rfl

/-- Bytes as values. -/
def u8s (bs : List Int) : List Value := bs.map (Value.int .u8)
theorem u8s_length (bs : List Int) : (u8s bs).length = bs.length := by simp [u8s]
theorem u8s_append (a b : List Int) : u8s (a ++ b) = u8s a ++ u8s b := by simp [u8s]
theorem u8s_one (bs : List Int) : ∀ u ∈ u8s bs, u.oneCell' = true := by
  intro u hu
  obtain ⟨n, _, rfl⟩ := List.mem_map.1 hu
  rfl

/-- Block g, from B on, begins with the bytes bs; it is the call's own, with room for cap. -/
def Own (w : World) (B g cap : Nat) (bs : List Int) : Prop := w.ownsRow B 5 1 (.slice (some ⟨g, 0, none⟩) bs.length cap) bs.length (u8s bs)
/-- The slice value '.slice A m c' reads as the bytes bs (nil is let in). -/
def Src (w : World) (A : Option Addr) (m c : Nat) (bs : List Int) : Prop :=
  bs.length = m ∧ ((A = none ∧ m = 0 ∧ c = 0) ∨ ∃ ad, A = some ad ∧ ∀ j u, (u8s bs)[j]? = some u → w.cell? (ad.add j) = some u)
/-- The call hands back a slice in new memory with the bytes bs; below block B nothing has turned. -/
def Made (B : Nat) (w : World) (bs : List Int) (e : Ending) (w' : World) : Prop :=
  ∃ g cap, e = .returned (.slice (some ⟨g, 0, none⟩) bs.length cap) ∧ Own w' B g cap bs ∧ Below B w w'

theorem Own.facts {w : World} {B g cap : Nat} {bs : List Int} (h : Own w B g cap bs) : B ≤ g ∧ g < w.heap.size ∧ bs.length ≤ cap ∧ cap ≤ maxLen := by
  have h1 := World.ownsRow.lt h g rfl
  rcases h.2 with ⟨h2, _⟩ | ⟨g', cap', cur, h2, _, _, h3, h4, _, _⟩
  · simp at h2
  · simp only [Value.slice.injEq, true_and] at h2
    obtain ⟨_, rfl⟩ := h2
    exact ⟨h1.1, h1.2, h3, h4⟩
theorem Own.cell {w : World} {B g cap : Nat} {bs : List Int} (h : Own w B g cap bs) {i : Nat} (hi : i < bs.length) : w.cell? ⟨g, i, none⟩ = some (.int .u8 (bs.getD i 0)) := by
  have h1 := World.ownsRow.cellAt h i (by omega)
  rw [h1, u8s, List.getElem?_map, List.getElem?_eq_getElem hi]
  simp [List.getD, List.getElem?_eq_getElem hi]
theorem Own.src {w : World} {B g cap : Nat} {bs : List Int} (h : Own w B g cap bs) : Src w (some ⟨g, 0, none⟩) bs.length cap bs :=
  ⟨rfl, .inr ⟨_, rfl, World.ownsRow.cells h (g := g) rfl⟩⟩
theorem below_grown {w w' : World} (h : Below w.heap.size w w') : w.grownBy w' none := ⟨h.os, h.tape, h.output, h.size, fun k hk _ => h.block k hk⟩
theorem Own.kept {w w' : World} {B g cap : Nat} {bs : List Int} {row : Option Nat} (h : Own w B g cap bs) (hg : w.grownBy w' row) (hr : some g ≠ row) : Own w' B g cap bs :=
  World.ownsRow.kept h hg (.inr (by simpa [Value.ownBlock] using hr))
theorem Own.below {w w' : World} {B g cap : Nat} {bs : List Int} (h : Own w B g cap bs) (hb : Below w.heap.size w w') : Own w' B g cap bs := h.kept (below_grown hb) (by simp)
theorem Own.mono {w : World} {B B' g cap : Nat} {bs : List Int} (h : Own w B g cap bs) (hB : B' ≤ B) : Own w B' g cap bs := by
  refine ⟨h.1, ?_⟩
  rcases h.2 with h2 | ⟨g', cap', cur, h2, hb, hr⟩
  · exact .inl h2
  · exact .inr ⟨g', cap', cur, h2, by omega, hr⟩
theorem Own.new (w : World) (B : Nat) (bs : List Int) (hB : B ≤ w.heap.size) (hl : bs.length ≤ maxLen) : Own (w.alloc (.cells (u8s bs).toArray 5)) B w.heap.size bs.length bs :=
  World.ownsRow_lit (size := 1) w (u8s bs).toArray bs.length hB hl (by simp [u8s])
theorem Src.below {w w' : World} {A : Option Addr} {m c : Nat} {bs : List Int} (h : Src w A m c bs) (hb : Below w.heap.size w w') : Src w' A m c bs := by
  refine ⟨h.1, ?_⟩
  rcases h.2 with h2 | ⟨ad, h2, h3⟩
  · exact .inl h2
  · exact .inr ⟨ad, h2, fun j u hu => (hb.cell (World.block_lt_of_cell? w _ (h3 j u hu))).trans (h3 j u hu)⟩
theorem Src.grown {w w' : World} {A : Option Addr} {m c : Nat} {bs : List Int} (h : Src w A m c bs) {B : Nat} (hb : Below B w w') (hA : ∀ ad, A = some ad → ad.block < B) : Src w' A m c bs := by
  refine ⟨h.1, ?_⟩
  rcases h.2 with h2 | ⟨ad, h2, h3⟩
  · exact .inl h2
  · exact .inr ⟨ad, h2, fun j u hu => (hb.cell (by have := hA ad h2; unfold Addr.add; split <;> exact this)).trans (h3 j u hu)⟩

/-- append(s, x...): s in the call's own memory, whatever the source. -/
theorem run_app {w : World} (ty : TypeId) (B g cap : Nat) (xs : List Int) (hown : Own w B g cap xs) (A : Option Addr) (m c : Nat) (ys : List Int) (hsrc : Src w A m c ys) (hsz : xs.length + m ≤ 1000000) (hbase : B ≤ w.heap.size) :
    ∃ g' cap' w', (Builtin.append_ #[23, 23] ty #[.slice (some ⟨g, 0, none⟩) xs.length cap, .slice A m c]).run Tryd.prog w = .ok (.slice (some ⟨g', 0, none⟩) (xs ++ ys).length cap') w' ∧
      Own w' B g' cap' (xs ++ ys) ∧ w.grownBy w' (some g) ∧ (g' = g ∨ g' = w.heap.size) := by
  obtain ⟨i, hi, hz, hs, hby⟩ := info_parts info5
  obtain ⟨hlen, hA⟩ := hsrc
  subst hlen
  rcases hA with ⟨rfl, hm, rfl⟩ | ⟨ad, rfl, hcells⟩
  · obtain rfl : ys = [] := List.eq_nil_of_length_eq_zero hm
    refine ⟨g, cap, w, ?_, by simpa using hown, World.grownBy.refl _ _, .inl rfl⟩
    have := run_append_owned_none (P := Tryd.prog) w B 23 ty 5 i 1 Tryd.underlying23 hi _ xs.length (u8s xs) hown
    simpa using this
  · obtain ⟨v', w', hrun, h2, h3, h4, h5⟩ := run_append_own_at (P := Tryd.prog) w B 23 ty 5 i (.int .u8 0) 1 1 Tryd.underlying23 hi hz hs hby rfl (by omega) _ xs.length (u8s xs) hown ad ys.length c (u8s ys)
      (by rw [u8s_length]; omega) hcells (u8s_one ys) (by unfold maxLen; omega) (by omega) hbase
    have hlen : xs.length + ys.length = (xs ++ ys).length := by simp
    have hne : v' ≠ .slice none 0 0 := fun e => by simpa using (h4.1 e).1
    rw [hlen, ← u8s_append] at h2
    rcases h2.2 with ⟨h6, _⟩ | ⟨g', cap', cur, h6, _⟩
    · exact absurd h6 hne
    · subst h6
      refine ⟨g', cap', w', hrun, h2, h3, ?_⟩
      simpa [Value.ownBlock] using h5
theorem wpList_app {w : World} {ops : Array Oper} {rest : List Oper} {o : Oper} {a : Act} {Q : Exit → Act → World → Prop} (hgd : o.guard = none) (s x : Operand)
    (ho : o.op = .call { callee := .builtin .append, args := #[s, x], argTypes := #[23, 23] }) (B g cap : Nat) (xs : List Int) (hs : a.eval s = .slice (some ⟨g, 0, none⟩) xs.length cap) (hown : Own w B g cap xs)
    (A : Option Addr) (m c : Nat) (ys : List Int) (hx : a.eval x = .slice A m c) (hsrc : Src w A m c ys) (hsz : xs.length + m ≤ 1000000) (hbase : B ≤ w.heap.size)
    (h : ∀ g' cap' w', Own w' B g' cap' (xs ++ ys) → w.grownBy w' (some g) → (g' = g ∨ g' = w.heap.size) → wpList Tryd.prog ops Q rest (a.put o.dst (.slice (some ⟨g', 0, none⟩) (xs ++ ys).length cap')) w') :
    wpList Tryd.prog ops Q (o :: rest) a w := by
  refine wpList_plain hgd fun K hK => ?_
  obtain ⟨g', cap', w', hr, h2, h3, h4⟩ := run_app o.type B g cap xs hown A m c ys hsrc hsz hbase
  unfold Oper.wp execOp
  simp only [ho, resolve, invoke, builtin, Sem.run_bind, Sem.run_pure, Result.andThen_ok, List.map_toArray, List.map_cons, List.map_nil, hs, hx, hr]
  exact hK _ _ (h g' cap' w' h2 h3 h4)

/-- two(v): the low byte behind the next one. -/
def twoB (v : Int) : List Int := [v / 256 % 256, v % 256]
set_option maxHeartbeats 400000 in
theorem two_any (v : Int) (w : World) : Calls Tryd.prog 8 #[.int .i64 v] w (Made w.heap.size w (twoB v)) := by
  go_enter Tryd.func8, Tryd.ntmps8
  go_wp2
  go_ret
  exact ⟨_, _, rfl, Own.new w _ (twoB v) (Nat.le_refl _) (by simp [twoB, maxLen]), (Below.refl _ _).alloc (Nat.le_refl _) _⟩

/-- four(v): the four bytes, the highest first. -/
def fourB (v : Int) : List Int := twoB (v / 65536) ++ twoB v
set_option maxHeartbeats 400000 in
theorem four_any (v : Int) (w : World) : Calls Tryd.prog 11 #[.int .i64 v] w (Made w.heap.size w (fourB v)) := by
  go_enter Tryd.func11, Tryd.ntmps11
  go_wp2_with fail
  refine (two_any _ _).mono ?_
  rintro e w1 ⟨g1, c1, rfl, o1, b1⟩
  have z1 : w.heap.size ≤ w1.heap.size := b1.size
  go_wp2_with fail
  refine (two_any _ _).mono ?_
  rintro e w2 ⟨g2, c2, rfl, o2, b2⟩
  have z2 : w1.heap.size ≤ w2.heap.size := b2.size
  have k1 := o1.below b2
  go_wp2_with (at_builtin; refine wpList_app rfl (.tmp 5) (.tmp 7) rfl w.heap.size g1 c1 (twoB (v / 65536)) rfl k1 _ _ _ (twoB v) rfl o2.src (by simp [twoB]) (by omega) ?_; intro g3 c3 w3 o3 gr3 _)
  go_ret
  exact ⟨g3, c3, rfl, o3, ((b1.trans (b2.mono z1)).grown gr3 (by omega) (fun k hk => by cases hk; exact k1.facts.1))⟩
set_option maxHeartbeats 400000 in
theorem Four_any (v : Int) (w : World) : Calls Tryd.prog 7 #[.int .i64 v] w (Made w.heap.size w (fourB v)) := by
  go_enter Tryd.func7, Tryd.ntmps7
  go_wp2_with fail
  refine (four_any _ _).mono ?_
  rintro e w1 ⟨g1, c1, rfl, o1, b1⟩
  go_wp2_with fail
  go_ret
  exact ⟨g1, c1, rfl, o1, b1⟩

set_option maxHeartbeats 400000 in
/-- slices.Clone of a slice that is not nil. -/
theorem clone_any (w : World) (B g c : Nat) (bs : List Int) (o : Own w B g c bs) (hsz : bs.length ≤ 1000) :
    Calls Tryd.prog 10 #[.slice (some ⟨g, 0, none⟩) bs.length c] w (Made w.heap.size w bs) := by
  have hs : Src (w.alloc (.cells #[] 5)) (some ⟨g, 0, none⟩) bs.length c bs := o.src.below ((Below.refl _ _).alloc (Nat.le_refl _) _)
  have hn : Own (w.alloc (.cells #[] 5)) w.heap.size w.heap.size 0 [] := Own.new w _ [] (Nat.le_refl _) (by simp)
  have q : ∀ (w : World) (a : Option Addr) (n c n' c' : Nat), (binOp .eql 23 (.slice a n c) (.slice none n' c')).run Tryd.prog w = .ok (.bool a.isNone) w := fun w a n c n' c' => Lib.run_eql_slice_nil w _ _ a n c n' c' Tryd.underlying23
  go_enter Tryd.func10, Tryd.ntmps10
  go_wp2_with (at_builtin; refine wpList_app rfl (.tmp 5) (.tmp 6) rfl w.heap.size w.heap.size 0 [] rfl hn _ _ _ bs rfl hs (by simp; omega) (by simp) ?_; intro g3 c3 w3 o3 gr3 _)
  go_ret
  exact ⟨g3, c3, rfl, o3, (((Below.refl _ _).alloc (Nat.le_refl _) _).grown gr3 (by simp) (fun k hk => by cases hk; exact Nat.le_refl _))⟩

/-- spec.Numeral: a number as it stands at the front of instructions. -/
def numeral (v : Int) (wide : Bool) : List Int :=
  if wide = true then [28] ++ twoB v
  else if -107 ≤ v ∧ v ≤ 107 then [139 + v]
  else if 108 ≤ v ∧ v ≤ 1131 then [247 + (v - 108) / 256, (v - 108) % 256]
  else if -1131 ≤ v ∧ v ≤ -108 then [251 + (-v - 108) / 256, (-v - 108) % 256]
  else [28] ++ twoB v
theorem numeral_length (v : Int) (wide : Bool) : (numeral v wide).length ≤ 3 := by unfold numeral; split <;> (try split) <;> (try split) <;> (try split) <;> simp [twoB]

theorem numeral_28 (v : Int) (wide : Bool) (w : World) (h1 : -2147483648 ≤ v) (h2 : v ≤ 2147483647) (h : wide = true ∨ v < -1131 ∨ 1131 < v) : Calls Tryd.prog 5 #[.int .i64 v, .bool wide] w (Made w.heap.size w ([28] ++ twoB v)) := by
  have hn : Own (w.alloc (.cells #[.int .u8 28] 5)) w.heap.size w.heap.size 1 [28] := Own.new w _ [28] (Nat.le_refl _) (by simp [maxLen])
  rcases h with rfl | h | h
  all_goals try cases wide
  all_goals
    go_enter Tryd.func5, Tryd.ntmps5
    go_wp2_with fail
    refine (two_any _ _).mono ?_
    rintro e w2 ⟨g2, c2, rfl, o2, b2⟩
    have z2 := b2.size
    have k1 := hn.below b2
    simp only [World.size_alloc] at z2 b2
    go_wp2_with (at_builtin; refine wpList_app rfl (.tmp 52) (.tmp 54) rfl w.heap.size w.heap.size 1 [28] rfl k1 _ _ _ (twoB v) rfl o2.src (by simp [twoB]) (by omega) ?_; intro g3 c3 w3 o3 gr3 _)
    go_ret
    exact ⟨g3, c3, rfl, o3, (((Below.refl _ _).alloc (Nat.le_refl _) _).trans (b2.mono (by omega))).grown gr3 (by omega) (fun k hk => by cases hk; exact Nat.le_refl _)⟩
set_option maxHeartbeats 400000 in
theorem numeral_1 (v : Int) (w : World) (h1 : -107 ≤ v) (h2 : v ≤ 107) : Calls Tryd.prog 5 #[.int .i64 v, .bool false] w (Made w.heap.size w [139 + v]) := by
  go_enter Tryd.func5, Tryd.ntmps5
  go_wp2
  go_ret
  exact ⟨_, _, rfl, Own.new w _ [139 + v] (Nat.le_refl _) (by simp [maxLen]), (Below.refl _ _).alloc (Nat.le_refl _) _⟩
set_option maxHeartbeats 400000 in
theorem numeral_2 (v : Int) (w : World) (h1 : 108 ≤ v) (h2 : v ≤ 1131) : Calls Tryd.prog 5 #[.int .i64 v, .bool false] w (Made w.heap.size w [247 + (v - 108) / 256, (v - 108) % 256]) := by
  go_enter Tryd.func5, Tryd.ntmps5
  go_wp2
  go_ret
  exact ⟨_, _, rfl, Own.new w _ [247 + (v - 108) / 256, (v - 108) % 256] (Nat.le_refl _) (by simp [maxLen]), (Below.refl _ _).alloc (Nat.le_refl _) _⟩
set_option maxHeartbeats 400000 in
theorem numeral_3 (v : Int) (w : World) (h1 : -1131 ≤ v) (h2 : v ≤ -108) : Calls Tryd.prog 5 #[.int .i64 v, .bool false] w (Made w.heap.size w [251 + (-v - 108) / 256, (-v - 108) % 256]) := by
  go_enter Tryd.func5, Tryd.ntmps5
  go_wp2
  go_ret
  exact ⟨_, _, rfl, Own.new w _ [251 + (-v - 108) / 256, (-v - 108) % 256] (Nat.le_refl _) (by simp [maxLen]), (Below.refl _ _).alloc (Nat.le_refl _) _⟩
theorem numeral_any (v : Int) (wide : Bool) (w : World) (h1 : -2147483648 ≤ v) (h2 : v ≤ 2147483647) : Calls Tryd.prog 5 #[.int .i64 v, .bool wide] w (Made w.heap.size w (numeral v wide)) := by
  unfold numeral
  split
  · rename_i hw
    exact numeral_28 v wide w h1 h2 (.inl hw)
  rename_i hw
  obtain rfl : wide = false := by simpa using hw
  split
  · rename_i h; exact numeral_1 v w h.1 h.2
  split
  · rename_i h; exact numeral_2 v w h.1 h.2
  split
  · rename_i h; exact numeral_3 v w h.1 h.2
  · exact numeral_28 v false w h1 h2 (.inr (by omega))
end Go.Proofs.YtgcpabmbcjlbhaaDoor
