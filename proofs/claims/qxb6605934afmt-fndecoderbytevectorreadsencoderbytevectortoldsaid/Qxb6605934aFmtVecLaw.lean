/-
  THE WALK OF FnDecoderByteVectorReadsEncoderByteVector (4).
-/
import Derived.Test.Qxb6605934aFmtVec
namespace Go.Proofs.Qxb6605934aFmt
open Go.RowKit Go.Extern.Stop Go.Stop Go.Extern

/-- What the encoder holds: a's bytes, then b's. -/
def both (la : Nat) (fa fb : Nat → Int) : Nat → Int := fun i => if i < la then fa i else fb (i - la)

theorem both_left (la : Nat) (fa fb : Nat → Int) (i : Nat) (h : i < la) : both la fa fb i = fa i := by simp [both, h]
theorem both_right (la : Nat) (fa fb : Nat → Int) (i : Nat) : both la fa fb (la + i) = fb i := by
  unfold both
  rw [if_neg (by omega), show la + i - la = i by omega]
theorem both_cells (la lb : Nat) (fa fb : Nat → Int) (i : Nat) (hi : i < la + lb) : (cellsOfBytes la fa ++ cellsOfBytes lb fb)[i]? = some (.int .u8 (both la fa fb i)) := by
  by_cases h : i < la
  · rw [List.getElem?_append_left (by rw [cellsOfBytes_length]; exact h)]
    simp [cellsOfBytes, both, h]
  · rw [List.getElem?_append_right (by rw [cellsOfBytes_length]; omega), cellsOfBytes_length]
    simp [cellsOfBytes, both, h, show i - la < lb by omega]

theorem own_in {w : World} {base la lb : Nat} {v : Value} {fa fb : Nat → Int} (h : w.ownsRow base 5 1 v (la + lb) (cellsOfBytes la fa ++ cellsOfBytes lb fb)) :
    ∃ a c, v = .slice a (la + lb) c ∧ In w a (la + lb) c (both la fa fb) := by
  rcases h.2 with ⟨rfl, h0⟩ | ⟨g, cap, cur, rfl, _⟩
  · exact ⟨none, 0, by rw [h0], .inl ⟨rfl, h0, rfl⟩⟩
  · refine ⟨_, cap, rfl, .inr ⟨_, rfl, fun i hi => ?_⟩⟩
    rw [Go.WideShapes.add_plain, Nat.zero_add, h.cellAt i (by omega)]
    exact both_cells la lb fa fb i hi

theorem own_below {w w' : World} {base n : Nat} {v : Value} {xs : List Value} (h : w.ownsRow base 5 1 v n xs) (hb : Below w.heap.size w w') : w'.ownsRow base 5 1 v n xs :=
  h.kept (row := none) ⟨hb.os, hb.tape, hb.output, hb.size, fun k hk _ => hb.block k hk⟩ (by cases v.ownBlock <;> simp)

/-- Where a slice's bytes lie below B. -/
def Under (B : Nat) (a : Option Addr) (n : Nat) : Prop := 0 < n → ∀ g, a = some ⟨g, 0, none⟩ → g < B
theorem Sl.under {w : World} {a : Option Addr} {n c : Nat} {f : Nat → Int} (h : Sl w a n c f) : Under w.heap.size a n := by
  intro hn g hg
  rcases h with ⟨h1, _⟩ | ⟨g', h1, _, hc⟩
  · rw [h1] at hg; cases hg
  · rw [h1] at hg
    cases hg
    exact World.block_lt_of_cell? _ _ (hc 0 hn)
theorem Sl.keep {w w' : World} {B : Nat} {a : Option Addr} {n c : Nat} {f : Nat → Int} (h : Sl w a n c f) (hu : Under B a n) (hb : Below B w w') : Sl w' a n c f := by
  rcases h with h | ⟨g, h1, h2, hc⟩
  · exact .inl h
  · exact .inr ⟨g, h1, h2, fun i hi => (hb.cell (p := ⟨g, i, none⟩) (hu (by omega) g h1)).trans (hc i hi)⟩

theorem Sl.only {w w' : World} {D T : Nat} {a : Option Addr} {n c : Nat} {f : Nat → Int} (h : Sl w a n c f) (hu : Under D a n) (hDT : D ≤ T) (hO : Only D T w w') : Sl w' a n c f := by
  rcases h with h | ⟨g, h1, h2, hc⟩
  · exact .inl h
  · refine .inr ⟨g, h1, h2, fun i hi => ?_⟩
    have hg := hu (by omega) g h1
    rw [← hc i hi]
    exact World.cell?_of_block (hO.block g (World.block_lt_of_cell? _ _ (hc i hi)) (by omega) (by omega))

/-- d.ByteVector(dst), whatever the decoder reads: nil, or a row. -/
theorem vec_any (D T n p k c : Nat) (a : Option Addr) (vars : Value) (f : Nat → Int) (g : Nat → Value) (w : World) (hd : Dec w D (.slice a n c) p vars .nilIface) (hn : n ≤ 4194304) (hk : p + k ≤ n)
    (hS : Sl w a n c f) (hu : Under D a n) (hT : w.rowIs T 5 k g) (hDT : D < T) :
    Calls Tryf.prog 20 #[.pointer (some ⟨D, 0, none⟩), .slice (some ⟨T, 0, none⟩) k k] w fun e w' => e = .returned (.tuple #[]) ∧
      Dec w' D (.slice a n c) (p + k) vars .nilIface ∧ w'.rowIs T 5 k (fun i => .int .u8 (f (p + i))) ∧ Only D T w w' := by
  rcases hS with ⟨rfl, rfl, rfl⟩ | ⟨G, rfl, rfl, hG⟩
  · obtain rfl : p = 0 := by omega
    obtain rfl : k = 0 := by omega
    refine (vec_nil D T vars w hd).mono ?_
    rintro e w' ⟨rfl, hd1, hO⟩
    exact ⟨rfl, hd1, (hT.of_block (hO.block T hT.lt (by omega) (by omega))).congr (fun i hi => absurd hi (Nat.not_lt_zero _)), hO.widen T⟩
  · exact vec_ok D G T _ p k vars f g w hd hn hk hG hT (by omega) (fun h => by have := hu (by omega) G rfl; omega)

/-- The decoder is made, and two rows to read into. -/
theorem dec_start {w W : World} {a1 a2 a8 : Option Addr} {la lb c1 c2 c8 : Nat} {fa fb g : Nat → Int} (hA : Sl W a1 la c1 fa) (hB : Sl W a2 lb c2 fb) (hS : Sl W a8 (la + lb) c8 g) (hb : Below w.heap.size w W) :
    ∃ D W9, Dec W9 D (.slice a8 (la + lb) c8) 0 (.slice none 0 0) .nilIface ∧ W9.rowIs (D + 1) 5 la (fun _ => .int .u8 0) ∧ W9.rowIs (D + 1 + 1) 5 lb (fun _ => .int .u8 0) ∧ Below w.heap.size w W9 ∧
        Sl W9 a1 la c1 fa ∧ Sl W9 a2 lb c2 fb ∧ Sl W9 a8 (la + lb) c8 g ∧ Under D a1 la ∧ Under D a2 lb ∧ Under D a8 (la + lb) ∧ w.heap.size ≤ D ∧ W.heap.size = D ∧
        ((W.alloc (Obj.cells #[.slice a8 (la + lb) c8, .int .i64 0, .slice none 0 0, .nilIface] 55)).alloc (Obj.cells (madeCells #[.int .u8 0] la) 5)).alloc (Obj.cells (madeCells #[.int .u8 0] lb) 5) = W9 := by
  have hX : Below W.heap.size W (((W.alloc (Obj.cells #[.slice a8 (la + lb) c8, .int .i64 0, .slice none 0 0, .nilIface] 55)).alloc (Obj.cells (madeCells #[.int .u8 0] la) 5)).alloc (Obj.cells (madeCells #[.int .u8 0] lb) 5)) := (((Below.refl _ _).alloc (Nat.le_refl _) _).alloc (by simp) _).alloc (by simp; omega) _
  refine ⟨W.heap.size, _, ?_, ?_, ?_, hb.trans (hX.mono hb.size), hA.below hX, hB.below hX, hS.below hX, hA.under, hB.under, hS.under, hb.size, rfl, rfl⟩
  · unfold Dec
    rw [Below.heap_alloc _ _ _ (by simp; omega), Below.heap_alloc _ _ _ (by simp)]
    exact Deep.blk_alloc_new _ _
  · have h := World.rowIs_made (W.alloc (Obj.cells #[.slice a8 (la + lb) c8, .int .i64 0, .slice none 0 0, .nilIface] 55)) (.int .u8 0) la 5
    rw [World.size_alloc] at h
    exact h.alloc _
  · have h := World.rowIs_made ((W.alloc (Obj.cells #[.slice a8 (la + lb) c8, .int .i64 0, .slice none 0 0, .nilIface] 55)).alloc (Obj.cells (madeCells #[.int .u8 0] la) 5)) (.int .u8 0) lb 5
    rw [World.size_alloc, World.size_alloc] at h
    exact h

set_option maxHeartbeats 1600000 in
theorem vec_walk (F : Interp) (a0 b0 : Option Addr) (la ca lb cb : Nat) (fa fb : Nat → Int) (w : World) (hF : F.answers w.tape) (ha : In w a0 la ca fa) (hb : In w b0 lb cb fb) :
    Calls Tryf.prog 4 #[.slice a0 la ca, .slice b0 lb cb] w fun e w' => e = .returned (.bool true) ∧ Below w.heap.size w w' := by
  by_cases hsz : la + lb ≤ 1048576
  · have hs0 : (la : Int) ≤ 1048576 := by omega
    have hs1 : (lb : Int) ≤ 1048576 := by omega
    have hs2 : (la : Int) + (lb : Int) ≤ 1048576 := by omega
    have HT : Aside (F.answers w.tape) := hF
    clear hF
    go_enter Tryf.func4, Tryf.ntmps4
    go_wp2_with (go_at_call 17; go_in)
    refine (clone_row a0 la ca fa w (by omega) ha).mono ?_
    rintro e W1 ⟨a1, c1, rfl, hA1, hb1⟩
    have hB1 := hb.below hb1
    clear ha hb
    go_wp2_with fail
    refine (clone_row b0 lb cb fb W1 (by omega) hB1).mono ?_
    rintro e W2 ⟨a2, c2, rfl, hB2, hb2⟩
    have hA2 := hA1.below hb2
    have hbW : Below w.heap.size w W2 := hb1.trans (hb2.mono hb1.size)
    clear hA1 hB1 hb1 hb2
    go_wp2_with fail
    obtain ⟨E, W3, hu1, hu2, hE3, hbE, hA3, hB3, hEs, hEq, hW3⟩ : ∃ E W3, Under E a1 la ∧ Under E a2 lb ∧ W3.heap[E]? = some (.cells #[.slice none 0 0, .slice none 0 0, .slice none 0 0, .nilIface] 33 (0, 0)) ∧ Below w.heap.size w W3 ∧ Sl W3 a1 la c1 fa ∧ Sl W3 a2 lb c2 fb ∧ w.heap.size ≤ E ∧ W2.heap.size = E ∧
        W2.alloc (Obj.cells #[.slice none 0 0, .slice none 0 0, .slice none 0 0, .nilIface] 33) = W3 := by
      have hX : Below W2.heap.size W2 (W2.alloc (Obj.cells #[.slice none 0 0, .slice none 0 0, .slice none 0 0, .nilIface] 33)) := (Below.refl _ _).alloc (Nat.le_refl _) _
      exact ⟨W2.heap.size, _, hA2.under, hB2.under, Deep.blk_alloc_new _ _, hbW.trans (hX.mono hbW.size), hA2.below hX, hB2.below hX, hbW.size, rfl, rfl⟩
    rw [hEq, hW3]
    clear hEq hW3 hbW hA2 hB2
    refine (clone_row a1 la c1 fa W3 (by omega) hA3.into).mono ?_
    rintro e W4 ⟨a4, c4, rfl, hS4, hb4⟩
    have hE4 : W4.heap[E]? = _ := (hb4.block E (lt_of_block hE3)).trans hE3
    have hA4 := hA3.below hb4
    have hB4 := hB3.below hb4
    have hbF : Below w.heap.size w W4 := hbE.trans (hb4.mono hbE.size)
    have hElt := lt_of_block hE4
    clear hE3 hbE hA3 hB3 hb4
    go_wp2_with fail
    refine (enc_any E 0 (.slice none 0 0) (.slice none 0 0) (.slice none 0 0) .nilIface [] a4 la c4 fa W4 (by omega) hE4 (World.ownsRow_nil _ _ _ _) hS4).mono ?_
    rintro e W5 ⟨rfl, v5, hE5, hO5, hb5⟩
    have hA5 := hA4.keep hu1 hb5
    have hB5 := hB4.keep hu2 hb5
    have hbG : Below w.heap.size w W5 := hbF.trans (hb5.mono hEs)
    clear hE4 hA4 hB4 hS4 hb5 hbF hElt
    rw [Nat.zero_add, List.nil_append] at hO5
    go_wp2_with fail
    refine (clone_row a2 lb c2 fb W5 (by omega) hB5.into).mono ?_
    rintro e W6 ⟨a6, c6, rfl, hS6, hb6⟩
    have hE6 : W6.heap[E]? = _ := (hb6.block E (lt_of_block hE5)).trans hE5
    have hO6 : W6.ownsRow (E + 1) 5 1 v5 la (cellsOfBytes la fa) := own_below hO5 hb6
    have hA6 := hA5.below hb6
    have hB6 := hB5.below hb6
    have hbH : Below w.heap.size w W6 := hbG.trans (hb6.mono hbG.size)
    clear hE5 hO5 hA5 hB5 hb6 hbG
    go_wp2_with fail
    refine (enc_any E la v5 (.slice none 0 0) (.slice none 0 0) .nilIface _ a6 lb c6 fb W6 (by omega) hE6 hO6 hS6).mono ?_
    rintro e W7 ⟨rfl, v7, hE7, hO7, hb7⟩
    have hA7 := hA6.keep hu1 hb7
    have hB7 := hB6.keep hu2 hb7
    have hbI : Below w.heap.size w W7 := hbH.trans (hb7.mono hEs)
    clear hE6 hO6 hA6 hB6 hS6 hb7 hbH
    obtain ⟨d7, e7, rfl, hI7⟩ := own_in hO7
    have hcE := block_cell hE7 0
    have HE7 : Aside (E < W7.heap.size) := lt_of_block hE7
    clear hE7 hO7
    go_wp2_with (go_at_call 13; go_in)
    refine (clone_row d7 (la + lb) e7 (both la fa fb) W7 (by omega) hI7).mono ?_
    rintro e W8 ⟨a8, c8, rfl, hS8, hb8⟩
    have hA8 := hA7.below hb8
    have hB8 := hB7.below hb8
    have hbJ : Below w.heap.size w W8 := hbI.trans (hb8.mono hbI.size)
    clear hI7 hA7 hB7 hb8 hbI hcE HE7
    have hmk1 := fun W => run_make_row' (P := Tryf.prog) 29 5 (.int .u8 0) 1 Tryf.underlying29 info5 rfl .i64 .i64 la (by omega) (by omega) W
    have hmk2 := fun W => run_make_row' (P := Tryf.prog) 29 5 (.int .u8 0) 1 Tryf.underlying29 info5 rfl .i64 .i64 lb (by omega) (by omega) W
    go_wp2_with (go_at_call 19; go_in)
    clear hmk1 hmk2
    obtain ⟨D, W9, hd9, hr1, hr2, hbK, hA9, hB9, hS9, hv1, hv2, hv8, hDs, hEq, hW9⟩ := dec_start hA8 hB8 hS8 hbJ
    rw [hEq, hW9]
    clear hEq hW9 hbJ hA8 hB8 hS8
    refine (vec_any D (D + 1) (la + lb) 0 la c8 a8 _ (both la fa fb) _ W9 hd9 (by omega) (by omega) hS9 hv8 hr1 (by omega)).mono ?_
    rintro e W10 ⟨rfl, hd10, hr1', hO10⟩
    have hd10' : Dec W10 D (.slice a8 (la + lb) c8) la (.slice none 0 0) .nilIface := by rw [show (la : Int) = ((0 : Nat) : Int) + (la : Int) by omega]; exact hd10
    have hr2' : W10.rowIs (D + 1 + 1) 5 lb (fun _ => .int .u8 0) := hr2.of_block (hO10.block _ hr2.lt (by omega) (by omega))
    have hA10 := hA9.only hv1 (by omega) hO10
    have hB10 := hB9.only hv2 (by omega) hO10
    have hS10 := hS9.only hv8 (by omega) hO10
    have hbL : Below w.heap.size w W10 := hbK.trans (hO10.below hbK.size hDs (by omega))
    clear hd9 hr1 hr2 hO10 hA9 hB9 hS9 hbK
    go_wp2_with fail
    refine (vec_any D (D + 1 + 1) (la + lb) la lb c8 a8 _ (both la fa fb) _ W10 hd10' (by omega) (by omega) hS10 hv8 hr2' (by omega)).mono ?_
    rintro e W11 ⟨rfl, hd11, hr2'', hO11⟩
    have hr1'' := hr1'.of_block (hO11.block _ hr1'.lt (by omega) (by omega))
    have hA11 := hA10.only hv1 (by omega) hO11
    have hB11 := hB10.only hv2 (by omega) hO11
    have hbM : Below w.heap.size w W11 := hbL.trans (hO11.below hbL.size hDs (by omega))
    have hD1 : Row W11 (some ⟨D + 1, 0, none⟩) la fa := fun i hi => ⟨D + 1, rfl, by rw [hr1''.cell hi, both_left la fa fb (0 + i) (by omega), Nat.zero_add]⟩
    have hD2 : Row W11 (some ⟨D + 1 + 1, 0, none⟩) lb fb := fun i hi => ⟨D + 1 + 1, rfl, by rw [hr2''.cell hi, both_right]⟩
    clear hd10 hd10' hr1' hr2' hO11 hA10 hB10 hS10 hbL hr1'' hr2''
    go_wp2_with fail
    refine (eq_any (some ⟨D + 1, 0, none⟩) a1 la la c1 fa W11 (by omega) hD1 hA11.row).mono ?_
    rintro e W12 ⟨rfl, q12, rfl⟩
    go_wp2_with fail
    refine (eq_any (some ⟨D + 1 + 1, 0, none⟩) a2 lb lb c2 fb (W11.drewN q12) (by omega) hD2 hB11.row).mono ?_
    rintro e W13 ⟨rfl, q13, hw13⟩
    have hd13 : Dec W13 D (.slice a8 (la + lb) c8) (la + lb) (.slice none 0 0) .nilIface := by rw [hw13]; exact hd11
    have hbN : Below w.heap.size w W13 := by rw [hw13]; exact below_drawn (below_drawn hbM _) _
    clear hw13 hd11 hbM hA11 hB11 hD1 hD2
    have e1 := block_cell hd13 1
    have e3 := block_cell hd13 3
    have hDlt := lt_of_block hd13
    have HD13 : Aside (Dec W13 D (.slice a8 (la + lb) c8) (la + lb) (.slice none 0 0) .nilIface) := hd13
    clear hd13
    go_wp2_with (first | (go_at_call 21; go_in) | (go_at_call 22; go_in))
    obtain ⟨T, W14, hT14, hd14, hbO, hDT, hEq, hW14⟩ : ∃ T W14, W14.cell? ⟨T, 0, none⟩ = some (.int .u8 170) ∧ Dec W14 D (.slice a8 (la + lb) c8) ((la + lb : Nat) : Int) (.slice none 0 0) .nilIface ∧ Below w.heap.size w W14 ∧ D < T ∧ W13.heap.size = T ∧ W13.alloc (Obj.cells #[.int .u8 170] 5) = W14 := by
      refine ⟨_, _, ?_, ?_, hbN.alloc hbN.size _, hDlt, rfl, rfl⟩
      · rw [World.cell?_alloc_at _ _ _ _ rfl]; rfl
      · unfold Dec
        rw [Below.heap_alloc _ _ _ hDlt, Int.natCast_add]
        exact HD13.out
    rw [hEq, hW14]
    have hT14lt := World.block_lt_of_cell? _ _ hT14
    clear hEq hW14 hbN HD13 e1 e3 hDlt
    refine (vec_fail F D (la + lb) (la + lb) 1 c8 1 a8 (some ⟨T, 0, none⟩) _ W14 (by rw [hbO.tape]; exact HT.out) hd14 (by omega) (Nat.le_refl _) (by omega) (by omega)).mono ?_
    rintro e W15 ⟨rfl, t, x, hd15, hO15⟩
    have hbP : Below w.heap.size w W15 := hbO.trans (hO15.below hbO.size hDs hDs)
    have hT15 : W15.cell? ⟨T, 0, none⟩ = some (.int .u8 170) := (World.cell?_of_block (hO15.block T hT14lt (by omega) (by omega))).trans hT14
    have e1 := block_cell hd15 1
    have e3 := block_cell hd15 3
    clear hd15 hO15 hT14 hd14 hbO hT14lt
    go_wp2_with (first | (go_at_call 21; go_in) | (go_at_call 22; go_in))
    go_ret
    exact ⟨rfl, hbP⟩
  · go_enter Tryf.func4, Tryf.ntmps4
    go_wp2
    all_goals first | (exact absurd (by omega) hsz) | (go_ret; exact ⟨rfl, Below.refl _ _⟩)

end Go.Proofs.Qxb6605934aFmt
