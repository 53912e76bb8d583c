/- The plain law: the bytes of a number, as spec.Numeral writes them, are that number to parseNumber; and the walks of the two laws: each returns true. -/
import Derived.Test.YtgcpabmbcjlbhaaDoorNumber
import Derived.Lib.Hide
namespace Go.Proofs.YtgcpabmbcjlbhaaDoor
open Go.RowKit

theorem front_numeral (ctx v : Int) (wide : Bool) (h1 : -32768 ≤ v) (h2 : v ≤ 32767) : Front ctx (numeral v wide) v := by
  have w28 : Front ctx ([28] ++ twoB v) v := by
    refine .inr (.inr (.inr (.inl ⟨v / 256 % 256, v % 256, rfl, by omega, by omega, by omega, by omega, ?_⟩)))
    have := back16 v h1 h2
    rw [IntWalk.i32_left] at this
    exact this.symm
  unfold numeral
  split
  · exact w28
  split
  · exact .inl ⟨139 + v, rfl, by omega, by omega, by omega⟩
  split
  · exact .inr (.inl ⟨_, _, rfl, by omega, by omega, by omega, by omega, by omega⟩)
  split
  · exact .inr (.inr (.inl ⟨_, _, rfl, by omega, by omega, by omega, by omega, by omega⟩))
  · exact w28
theorem front_four (ctx v : Int) (hx : (ctx != 2) = true) (h1 : -2147483648 ≤ v) (h2 : v ≤ 2147483647) : Front ctx ([29] ++ fourB v) v := by
  refine .inr (.inr (.inr (.inr ⟨v / 65536 / 256 % 256, v / 65536 % 256, v / 256 % 256, v % 256, rfl, hx, by omega, by omega, by omega, by omega, by omega, by omega, by omega, by omega, ?_⟩)))
  have := back32 v h1 h2
  rw [IntWalk.i32_left] at this
  exact this.symm

set_option maxHeartbeats 1000000 in
theorem law_long (v : Int) (wide : Bool) (A : Option Addr) (n c : Nat) (w : World) (hn : 100 < n) (hm : n ≤ 9223372036854775807) :
    Calls Tryd.prog 3 #[.int .i16 v, .bool wide, .slice A n c] w fun e w' => e = .returned (.bool true) ∧ Below w.heap.size w w' := by
  go_enter Tryd.func3, Tryd.ntmps3
  go_wp2_with fail
  all_goals go_ret
  all_goals exact ⟨rfl, Below.refl _ _⟩

set_option maxRecDepth 100000 in
set_option maxHeartbeats 1000000 in
theorem law_short (v : Int) (wide : Bool) (A : Option Addr) (n c : Nat) (tl : List Int) (w : World) (hn : n ≤ 100) (hs : Src w A n c tl) (h1 : -32768 ≤ v) (h2 : v ≤ 32767) :
    Calls Tryd.prog 3 #[.int .i16 v, .bool wide, .slice A n c] w fun e w' => e = .returned (.bool true) ∧ Below w.heap.size w w' := by
  obtain ⟨bs, hbs⟩ : ∃ bs, numeral v wide = bs := ⟨_, rfl⟩
  have hf : Front 2 bs v := hbs ▸ front_numeral 2 v wide h1 h2
  have hl : bs.length ≤ 3 := hbs ▸ numeral_length v wide
  have hnum := numeral_any v wide w (by omega) (by omega)
  rw [hbs] at hnum
  have HN := Lib.hid hnum
  clear hnum hbs
  go_enter Tryd.func3, Tryd.ntmps3
  go_wp2_with fail
  refine HN.out.mono ?_
  clear HN
  rintro e w1 ⟨g1, k1, rfl, o1, b1⟩
  have z1 := b1.size
  have eN : Own (w1.alloc (.cells #[] 5)) w.heap.size w1.heap.size 0 [] := Own.new w1 _ [] z1 (by simp)
  have oA := o1.below ((Below.refl w1.heap.size w1).alloc (Nat.le_refl _) (.cells #[] 5))
  have sT : Src (w1.alloc (.cells #[] 5)) A n c tl := (hs.below b1).below ((Below.refl _ _).alloc (Nat.le_refl _) _)
  have bA : Below w.heap.size w (w1.alloc (.cells #[] 5)) := b1.alloc z1 _
  have HS := Lib.hid hs
  clear hs sT
  have tok1 : True := trivial
  have tok2 : True := trivial
  go_wp2_with (first
    | (at_builtin; have _t := tok1; refine wpList_app rfl (.tmp 23) (.tmp 24) rfl w.heap.size w1.heap.size 0 [] rfl eN _ _ _ bs rfl oA.src (by simp; omega) (by simp; omega) ?_; intro g2 c2 w2 o2 gr2 _; have b2 : Below w.heap.size w w2 := bA.grown gr2 (by simp; omega) (fun k hk => by cases hk; exact z1); clear tok1 gr2; simp only [List.nil_append] at o2 ⊢)
    | (at_builtin; have _t := tok2; refine wpList_app rfl (.tmp 25) (.tmp 26) rfl w.heap.size g2 c2 bs rfl o2 A n c tl rfl (HS.out.below b2) (by omega) b2.size ?_; intro g3 c3 w3 o3 gr3 _; have b3 : Below w.heap.size w w3 := b2.grown gr3 b2.size (fun k hk => by cases hk; exact o2.facts.1); clear tok2 gr3))
  have hl3 : tl.length ≤ 100 := HS.out.1 ▸ hn
  have hN := number_any w.heap.size g3 c3 2 v bs tl w3 hf o3 (by omega) (by omega) (by omega)
  rw [List.length_append] at hN
  refine hN.mono ?_
  clear hN
  rintro e w4 ⟨rfl, b4⟩
  have b5 : Below w.heap.size w w4 := b3.trans (b4.mono b3.size)
  go_wp2_with fail
  go_ret
  exact ⟨rfl, b5⟩

set_option maxHeartbeats 1000000 in
theorem dict_long (v : Int) (wide priv : Bool) (A : Option Addr) (n c : Nat) (w : World) (hn : 100 < n) (hm : n ≤ 9223372036854775807) :
    Calls Tryd.prog 4 #[.int .i32 v, .bool wide, .bool priv, .slice A n c] w fun e w' => e = .returned (.bool true) ∧ Below w.heap.size w w' := by
  go_enter Tryd.func4, Tryd.ntmps4
  go_wp2_with fail
  all_goals go_ret
  all_goals exact ⟨rfl, Below.refl _ _⟩

set_option maxRecDepth 100000 in
set_option maxHeartbeats 1000000 in
theorem dict_short (v : Int) (wide priv : Bool) (A : Option Addr) (n c : Nat) (tl : List Int) (w : World) (hn : n ≤ 100) (hs : Src w A n c tl) (h1 : -32768 ≤ v) (h2 : v ≤ 32767) :
    Calls Tryd.prog 4 #[.int .i32 v, .bool wide, .bool priv, .slice A n c] w fun e w' => e = .returned (.bool true) ∧ Below w.heap.size w w' := by
  obtain ⟨bs, hbs⟩ : ∃ bs, numeral v wide = bs := ⟨_, rfl⟩
  have hf : ∀ ctx, Front ctx bs v := fun ctx => hbs ▸ front_numeral ctx v wide h1 h2
  have HF := Lib.hid hf
  clear hf
  have hl : bs.length ≤ 3 := hbs ▸ numeral_length v wide
  have hnum := numeral_any v wide w (by omega) (by omega)
  rw [hbs] at hnum
  have HN := Lib.hid hnum
  clear hnum hbs
  cases priv
  all_goals
    go_enter Tryd.func4, Tryd.ntmps4
    go_wp2_with fail
    refine HN.out.mono ?_
    clear HN
    rintro e w1 ⟨g1, k1, rfl, o1, b1⟩
    have z1 := b1.size
    have eN : Own (w1.alloc (.cells #[] 5)) w.heap.size w1.heap.size 0 [] := Own.new w1 _ [] z1 (by simp)
    have oA := o1.below ((Below.refl w1.heap.size w1).alloc (Nat.le_refl _) (.cells #[] 5))
    have bA : Below w.heap.size w (w1.alloc (.cells #[] 5)) := b1.alloc z1 _
    have HS := Lib.hid hs
    clear hs
    have tok1 : True := trivial
    have tok2 : True := trivial
    go_wp2_with (first
      | (at_builtin; have _t := tok1; refine wpList_app rfl (.tmp 39) (.tmp 40) rfl w.heap.size w1.heap.size 0 [] rfl eN _ _ _ bs rfl oA.src (by simp; omega) (by simp; omega) ?_; intro g2 c2 w2 o2 gr2 _; have b2 : Below w.heap.size w w2 := bA.grown gr2 (by simp; omega) (fun k hk => by cases hk; exact z1); clear tok1 gr2; simp only [List.nil_append] at o2 ⊢)
      | (at_builtin; have _t := tok2; refine wpList_app rfl (.tmp 41) (.tmp 42) rfl w.heap.size g2 c2 bs rfl o2 A n c tl rfl (HS.out.below b2) (by omega) b2.size ?_; intro g3 c3 w3 o3 gr3 _; have b3 : Below w.heap.size w w3 := b2.grown gr3 b2.size (fun k hk => by cases hk; exact o2.facts.1); clear tok2 gr3))
    have hl3 : tl.length ≤ 100 := HS.out.1 ▸ hn
    have hN := fun ctx => number_any w.heap.size g3 c3 ctx v bs tl w3 (HF.out ctx) o3 (by omega) (by omega) (by omega)
    simp only [List.length_append] at hN
    refine (hN _).mono ?_
    clear hN
    rintro e w4 ⟨rfl, b4⟩
    have b5 : Below w.heap.size w w4 := b3.trans (b4.mono b3.size)
    go_wp2_with fail
    go_ret
    exact ⟨rfl, b5⟩

set_option maxRecDepth 100000 in
set_option maxHeartbeats 1000000 in
theorem dict_wide (v : Int) (wide priv : Bool) (A : Option Addr) (n c : Nat) (tl : List Int) (w : World) (hn : n ≤ 100) (hs : Src w A n c tl) (h1 : -2147483648 ≤ v) (h2 : v ≤ 2147483647) (h : v < -32768 ∨ 32767 < v) :
    Calls Tryd.prog 4 #[.int .i32 v, .bool wide, .bool priv, .slice A n c] w fun e w' => e = .returned (.bool true) ∧ Below w.heap.size w w' := by
  obtain ⟨bs, hbs⟩ : ∃ bs, [29] ++ fourB v = bs := ⟨_, rfl⟩
  have hf : ∀ ctx : Int, (ctx != 2) = true → Front ctx bs v := fun ctx hx => hbs ▸ front_four ctx v hx h1 h2
  have HF := Lib.hid hf
  clear hf
  have hl : bs.length = 5 := by rw [← hbs]; rfl
  have HL := Lib.hid hl
  have HB := Lib.hid hbs
  clear hl hbs
  have HS := Lib.hid hs
  clear hs
  rcases h with h | h
  all_goals cases priv
  all_goals
    go_enter Tryd.func4, Tryd.ntmps4
    go_wp2_with fail
    refine (numeral_any v wide w (by omega) (by omega)).mono ?_
    rintro e w1 ⟨g0, k0, rfl, _, b1⟩
    have z1 := b1.size
    go_wp2_with fail
    have nN : Own (w1.alloc (.cells #[.int .u8 29] 5)) w.heap.size w1.heap.size 1 [29] := Own.new w1 _ [29] z1 (by simp [maxLen])
    refine (Four_any _ _).mono ?_
    rintro e w2 ⟨g2, k2, rfl, o2, b2⟩
    have z2 := b2.size
    have nM := nN.below b2
    simp only [World.size_alloc] at z2
    have bB : Below w.heap.size w w2 := (b1.alloc z1 _).trans (b2.mono (by simp only [World.size_alloc]; omega))
    clear b2 nN
    have tok1 : True := trivial
    have tok2 : True := trivial
    have tok3 : True := trivial
    go_wp2_with (first
      | (at_builtin; have _t := tok1; refine wpList_app rfl (.tmp 32) (.tmp 35) rfl w.heap.size w1.heap.size 1 [29] rfl nM _ _ _ (fourB v) rfl o2.src (by simp [fourB, twoB]) bB.size ?_; intro g3 c3 w3 o3 gr3 _; have b3 : Below w.heap.size w w3 := bB.grown gr3 bB.size (fun k hk => by cases hk; exact z1); rw [HB.out] at o3 ⊢; have z3 := b3.size; have eN : Own (w3.alloc (.cells #[] 5)) w.heap.size w3.heap.size 0 [] := Own.new w3 _ [] z3 (by simp); have oA := o3.below ((Below.refl w3.heap.size w3).alloc (Nat.le_refl _) (.cells #[] 5)); have bA : Below w.heap.size w (w3.alloc (.cells #[] 5)) := b3.alloc z3 _; clear tok1 gr3)
      | (at_builtin; have _t := tok2; refine wpList_app rfl (.tmp 39) (.tmp 40) rfl w.heap.size w3.heap.size 0 [] rfl eN _ _ _ bs rfl oA.src (by rw [HL.out]; simp) (by simp; omega) ?_; intro g4 c4 w4 o4 gr4 _; have b4 : Below w.heap.size w w4 := bA.grown gr4 (by simp; omega) (fun k hk => by cases hk; exact z3); clear tok2 gr4; simp only [List.nil_append] at o4 ⊢)
      | (at_builtin; have _t := tok3; refine wpList_app rfl (.tmp 41) (.tmp 42) rfl w.heap.size g4 c4 bs rfl o4 A n c tl rfl (HS.out.below b4) (by rw [HL.out]; omega) b4.size ?_; intro g5 c5 w5 o5 gr5 _; have b5 : Below w.heap.size w w5 := b4.grown gr5 b4.size (fun k hk => by cases hk; exact o4.facts.1); clear tok3 gr5))
    have hl3 : tl.length ≤ 100 := HS.out.1 ▸ hn
    have hN := fun ctx hx => number_any w.heap.size g5 c5 ctx v bs tl w5 (HF.out ctx hx) o5 (by rw [HL.out]; omega) (by omega) (by omega)
    simp only [List.length_append] at hN
    refine (hN _ (by decide)).mono ?_
    clear hN
    rintro e w6 ⟨rfl, b6⟩
    have b7 : Below w.heap.size w w6 := b5.trans (b6.mono b5.size)
    go_wp2_with fail
    go_ret
    exact ⟨rfl, b7⟩
end Go.Proofs.YtgcpabmbcjlbhaaDoor
