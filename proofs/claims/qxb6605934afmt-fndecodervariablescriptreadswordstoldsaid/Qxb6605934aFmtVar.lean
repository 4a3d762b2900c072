/-
  THE WALKS OF (littleEndian).Uint32 (34), (*Decoder).variable (31), ZZcallVariable (24).
-/
import Derived.Test.Qxb6605934aFmtFail
import Derived.Deep.RegionHeld3
import Derived.Deep.AppendLies
namespace Go.Proofs.Qxb6605934aFmt
open Go.RowKit Go.Extern.Stop Go.Stop Go.Extern

/-- Four bytes as a word, as the walk spells it. -/
def word (x0 x1 x2 x3 : Int) : Int := bits BinOp.or IntKind.u32 (bits BinOp.or IntKind.u32 (bits BinOp.or IntKind.u32 (x0 % 4294967296) (x1 % 4294967296 * 256 % 4294967296)) (x2 % 4294967296 * 65536 % 4294967296)) (x3 % 4294967296 * 16777216 % 4294967296)

set_option maxHeartbeats 1600000 in
theorem uint32_any (G p c : Nat) (x0 x1 x2 x3 : Int) (w : World) (h0 : w.cell? ⟨G, p, none⟩ = some (.int .u8 x0)) (h1 : w.cell? ⟨G, p + 1, none⟩ = some (.int .u8 x1)) (h2 : w.cell? ⟨G, p + 2, none⟩ = some (.int .u8 x2)) (h3 : w.cell? ⟨G, p + 3, none⟩ = some (.int .u8 x3)) :
    Calls Tryf.prog 34 #[.agg #[], .slice (some ⟨G, p, none⟩) 4 c] w fun e w' => e = .returned (.int .u32 (word x0 x1 x2 x3)) ∧ ∃ q, w' = (w.alloc (.cells #[] 63)).drewN q := by
  have hlt := World.block_lt_of_cell? _ _ h0
  go_enter Tryf.func34, Tryf.ntmps34
  go_wp2
  go_quiet (fail)
  go_wp2
  go_ret
  exact ⟨rfl, _, rfl⟩

theorem info60 : (Tryf.prog.info? 60).map (fun i => (i.zero, i.size, i.bytes)) = some (some (.agg #[.int .i64 0, .nilFunc]), 2, 16) := by kernel_rfl

/-- The recorded fields, as cells. -/
def varCells (offs : List Int) : List Value := offs.flatMap (fun o => [.int .i64 o, .func (.func 32) #[] #[]])

theorem own_only {w w' : World} {base D e size n : Nat} {v : Value} {xs : List Value} (h : w.ownsRow base e size v n xs) (hO : Only D D w w') (hD : D < base) : w'.ownsRow base e size v n xs := by
  obtain ⟨h1, h2⟩ := h
  refine ⟨h1, ?_⟩
  rcases h2 with h2 | ⟨g, cap, cur, hv, hg, hh, r⟩
  · exact .inl h2
  · exact .inr ⟨g, cap, cur, hv, hg, (hO.block g (lt_of_block hh) (by omega) (by omega)).trans hh, r⟩

theorem own3 {w : World} {base e size n : Nat} {v : Value} {xs : List Value} (h : w.ownsRow base e size v n xs) (a : Obj) (q : Nat) (b : Obj) : (((w.alloc a).drewN q).alloc b).ownsRow base e size v n xs :=
  World.ownsRow.alloc (w := (w.alloc a).drewN q) (h.alloc a) b
theorem size3 (w : World) (a : Obj) (q : Nat) (b : Obj) : (((w.alloc a).drewN q).alloc b).heap.size = w.heap.size + 1 + 1 := by
  rw [World.size_alloc]
  show (w.alloc a).heap.size + 1 = _
  rw [World.size_alloc]
theorem two_new (w : World) (a : Obj) (q : Nat) (x y : Value) : ∀ j u, [x, y][j]? = some u → (((w.alloc a).drewN q).alloc (.cells #[x, y] 60)).cell? ((⟨w.heap.size + 1, 0, none⟩ : Addr).add j) = some u := by
  have h := World.news_of_block (w := ((w.alloc a).drewN q).alloc (.cells #[x, y] 60)) (B := w.heap.size + 1) (cs := #[x, y]) (t := 60) (fr := (0, 0)) (by
    have h := heap_alloc_new ((w.alloc a).drewN q) (.cells #[x, y] 60)
    have e : ((w.alloc a).drewN q).heap.size = w.heap.size + 1 := World.size_alloc w a
    rw [e] at h
    exact h)
  exact h

theorem dec_grown {w w2 : World} {D : Nat} {buf vars err : Value} {pos : Int} {a b : Obj} {q : Nat} {row : Option Nat} (hd : Dec w D buf pos vars err) (hg : (((w.alloc a).drewN q).alloc b).grownBy w2 row) (hn : some D ≠ row) : Dec w2 D buf pos vars err := by
  have hlt := lt_of_block hd
  unfold Dec
  rw [hg.block D (by show D < ((w.heap.push a).push b).size; simp; omega) hn, Below.heap_alloc _ _ _ (by show D < (w.heap.push a).size; simp; omega)]
  show (w.alloc a).heap[D]? = _
  rw [Below.heap_alloc _ _ _ hlt]
  exact hd

theorem var_own {w : World} {base k : Nat} {v : Value} {offs : List Int} {o : Int} (h : w.ownsRow base 60 2 v k (varCells offs ++ [.int .i64 o, .func (.func 32) #[] #[]])) : w.ownsRow base 60 2 v k (varCells (offs ++ [o])) := by
  have e : varCells (offs ++ [o]) = varCells offs ++ [.int .i64 o, .func (.func 32) #[] #[]] := by simp [varCells]
  rw [e]
  exact h
theorem below_var {w w1 w2 : World} {D q : Nat} {a b : Obj} {row : Option Nat} (hO : Only D D w w1) (hD : D ≤ w.heap.size) (hg : (((w1.alloc a).drewN q).alloc b).grownBy w2 row) (hr : ∀ j, row = some j → D ≤ j) : Below D w w2 := by
  have h1 : Below D w w1 := hO.below hD (Nat.le_refl D) (Nat.le_refl D)
  have h2 : D ≤ w1.heap.size := Nat.le_trans hD hO.size
  have h3 : Below D w (((w1.alloc a).drewN q).alloc b) := (below_drawn (h1.alloc h2 a) q).alloc (by show D ≤ (w1.alloc a).heap.size; rw [World.size_alloc]; omega) b
  exact h3.grown hg (by rw [size3]; omega) hr

set_option maxRecDepth 100000 in
set_option maxHeartbeats 3200000 in
theorem variable_ok (D G n p k : Nat) (vars : Value) (offs : List Int) (x0 x1 x2 x3 : Int) (w : World) (hd : Dec w D (.slice (some ⟨G, 0, none⟩) n n) p vars .nilIface) (hn : n ≤ 4194304) (hp : p + 4 ≤ n)
    (g0 : w.cell? ⟨G, p, none⟩ = some (.int .u8 x0)) (g1 : w.cell? ⟨G, p + 1, none⟩ = some (.int .u8 x1)) (g2 : w.cell? ⟨G, p + 2, none⟩ = some (.int .u8 x2)) (g3 : w.cell? ⟨G, p + 3, none⟩ = some (.int .u8 x3)) (hown : w.ownsRow (D + 1) 60 2 vars k (varCells offs)) (hk : k ≤ 65536) (hGD : G < D) :
    Calls Tryf.prog 31 #[.pointer (some ⟨D, 0, none⟩), .func (.func 32) #[] #[]] w fun e w' => e = .returned (.tuple #[]) ∧ ∃ v',
      Dec w' D (.slice (some ⟨G, 0, none⟩) n n) (p + 4) v' .nilIface ∧ w'.ownsRow (D + 1) 60 2 v' (k + 1) (varCells (offs ++ [IntKind.i64.wrap (word x0 x1 x2 x3)])) ∧ Below D w w' := by
  have hcon := fixed_ok D G n p 4 vars w hd hn hp
  have hneq := fun W => Lib.run_eql_slice_nil (P := Tryf.prog) W 29 5 (some ⟨G, p, none⟩) 4 (n - p) 0 0 Tryf.underlying29
  go_enter Tryf.func31, Tryf.ntmps31
  go_wp2_with (go_at_call 30; refine hcon.mono ?_; rintro e w1 ⟨x, rfl, hx, hd1, hO, hz⟩; obtain rfl := hx (by omega))
  have c2 : w1.cell? ⟨D, 2, none⟩ = some vars := block_cell hd1 2
  have f2 := block_free hd1 2
  have hw1 : w1.ownsRow (D + 1) 60 2 vars k (varCells offs) := own_only hown hO (Nat.lt_succ_self D)
  have hGc : w1.heap[G]? = w.heap[G]? := hO.block G (World.block_lt_of_cell? _ _ g0) (by omega) (by omega)
  have b0 := (World.cell?_of_block (a := ⟨G, p, none⟩) hGc).trans g0
  have b1 := (World.cell?_of_block (a := ⟨G, p + 1, none⟩) hGc).trans g1
  have b2 := (World.cell?_of_block (a := ⟨G, p + 2, none⟩) hGc).trans g2
  have b3 := (World.cell?_of_block (a := ⟨G, p + 3, none⟩) hGc).trans g3
  have HD1 : Aside (Dec w1 D (.slice (some ⟨G, 0, none⟩) n n) (p + 4) vars .nilIface) := hd1
  have hDlt := lt_of_block hd1
  have hDw : D ≤ w.heap.size := Nat.le_of_lt (lt_of_block hd)
  clear hcon hneq g0 g1 g2 g3 hd hown hGc hd1 hz
  obtain ⟨i0, hi, hz0, hz1, hz2⟩ := info_parts info60
  have hbase : D + 1 ≤ w1.heap.size + 1 + 1 := by omega
  have hnot : some D ≠ vars.ownBlock := fun e => by have := (hw1.lt D e.symm).1; omega
  have hrow : ∀ j, vars.ownBlock = some j → D ≤ j := fun j e => by have := (hw1.lt j e).1; omega
  rcases hw1.2 with ⟨hv, -⟩ | ⟨g', cap', cur', hv, -⟩
  all_goals
    subst hv
    go_region_law (first
      | (refine step_append_lies _ (by rfl) (.tmp 13) (.tmp 20) 53 (by rfl) (D + 1) 60 i0 _ 2 16 Tryf.underlying53 hi hz0 hz1 hz2 rfl (by omega) _ k (varCells offs) (by rfl) (own3 hw1 _ _ _) ⟨w1.heap.size + 1, 0, none⟩ 1 1 [.int .i64 (IntKind.i64.wrap (word x0 x1 x2 x3)), .func (.func 32) #[] #[]] (by rfl) (by rfl) (two_new _ _ _ _ _) (by simp [Value.oneCell']) (by omega) (by unfold maxLen; omega) (by omega) (by rw [size3]; exact hbase) (w1.heap.size + 1 + 1) (size3 _ _ _ _) ?_; intro gg cap w2 hown2 hgrow hat hlt; have hD2 := dec_grown HD1.out hgrow hnot; have d2 := block_cell hD2 2; have e2 := block_free hD2 2)
      | (go_simp; go_wp2_with (go_at_call 34; refine (uint32_any G p (n - p) x0 x1 x2 x3 _ ?_ ?_ ?_ ?_).mono ?_; (simp [*]); (simp [*]); (simp [*]); (simp [*]); rintro e w' ⟨rfl, q, rfl⟩)))
    all_goals go_wp2
    all_goals go_end0
    all_goals exact ⟨rfl, _, block_set (i := 2) hD2 _, ownsRow_setCell_below (var_own hown2) (Nat.lt_succ_self D) _, (below_var hO hDw hgrow hrow).setCell (p := ⟨D, 2, none⟩) (Nat.le_refl D) _⟩

end Go.Proofs.Qxb6605934aFmt
