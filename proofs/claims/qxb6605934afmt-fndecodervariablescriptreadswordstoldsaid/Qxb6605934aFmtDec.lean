/-
  THE WALKS OF (*Decoder).fixed (30), (*Decoder).ByteVector (20).
-/
import Derived.Test.Qxb6605934aFmtEnc
import Derived.Laws.CopyOwn
import Derived.Stop.CallBack
import Derived.Stop.IfaceNil
import GoSem.ClaimData
namespace Go.Proofs.Qxb6605934aFmt
open Go.RowKit Go.Extern.Stop Go.Stop Go.Extern

/-- But for the blocks D and T all that was there is as it was. -/
structure Only (D T : Nat) (w w' : World) : Prop where
  os : w'.os = w.os
  tape : w'.tape = w.tape
  output : w'.output = w.output
  size : w.heap.size ≤ w'.heap.size
  block : ∀ k, k < w.heap.size → k ≠ D → k ≠ T → w'.heap[k]? = w.heap[k]?
namespace Only
variable {D T : Nat} {w w' w'' : World}
theorem refl (D T : Nat) (w : World) : Only D T w w := ⟨rfl, rfl, rfl, Nat.le_refl _, fun _ _ _ _ => rfl⟩
theorem trans (h : Only D T w w') (k : Only D T w' w'') : Only D T w w'' :=
  ⟨k.os.trans h.os, k.tape.trans h.tape, k.output.trans h.output, Nat.le_trans h.size k.size, fun i hi h1 h2 => (k.block i (Nat.lt_of_lt_of_le hi h.size) h1 h2).trans (h.block i hi h1 h2)⟩
theorem drewN (h : Only D T w w') (n : Nat) : Only D T w (w'.drewN n) := ⟨h.os, h.tape, h.output, h.size, h.block⟩
theorem drew (h : Only D T w w') : Only D T w w'.drew := ⟨h.os, h.tape, h.output, h.size, h.block⟩
theorem alloc (h : Only D T w w') (o : Obj) : Only D T w (w'.alloc o) :=
  h.trans ⟨rfl, rfl, rfl, by simp, fun k hk _ _ => Below.heap_alloc _ _ _ hk⟩
theorem setCell (h : Only D T w w') {a : Addr} (ha : a.block = D ∨ a.block = T) (v : Value) : Only D T w (w'.setCell a v) :=
  h.trans ⟨rfl, rfl, rfl, by simp, fun k _ h1 h2 => Below.heap_setCell _ _ _ _ (by rcases ha with ha | ha <;> omega)⟩
theorem widen (h : Only D D w w') (T : Nat) : Only D T w w' := ⟨h.os, h.tape, h.output, h.size, fun k hk h1 _ => h.block k hk h1 h1⟩
theorem below (h : Only D T w w') {B : Nat} (hB : B ≤ w.heap.size) (hD : B ≤ D) (hT : B ≤ T) : Below B w w' := ⟨h.os, h.tape, h.output, h.size, fun k hk => h.block k (by omega) (by omega) (by omega)⟩
end Only

/-- Block D is a decoder. -/
def Dec (w : World) (D : Nat) (buf : Value) (pos : Int) (vars err : Value) : Prop := w.heap[D]? = some (.cells #[buf, .int .i64 pos, vars, err] 55 (0, 0))

theorem ret_slice {a : Option Addr} {l l' c c' : Nat} (h1 : l = l') (h2 : c = c') : Ending.returned (.slice a l c) = .returned (.slice a l' c') := by rw [h1, h2]

set_option maxHeartbeats 800000 in
/-- d.fixed(k) where k bytes are left. -/
theorem fixed_ok (D G n p k : Nat) (vars : Value) (w : World) (hd : Dec w D (.slice (some ⟨G, 0, none⟩) n n) p vars .nilIface) (hn : n ≤ 4194304) (hk : p + k ≤ n) :
    Calls Tryf.prog 30 #[.pointer (some ⟨D, 0, none⟩), .int .i64 k] w fun e w' => ∃ x : Addr, e = .returned (.slice (some x) k (n - p)) ∧ (p < n → x = ⟨G, p, none⟩) ∧
      Dec w' D (.slice (some ⟨G, 0, none⟩) n n) (p + k) vars .nilIface ∧ Only D D w w' ∧ w'.heap.size = w.heap.size := by
  have c0 := block_cell hd 0
  have c1 := block_cell hd 1
  have c3 := block_cell hd 3
  have f1 := block_free hd 1
  have HD : Aside (Dec w D (.slice (some ⟨G, 0, none⟩) n n) p vars .nilIface) := hd
  have hlt : ¬ (n : Int) - (p : Int) < (k : Int) := by omega
  have hp0 : (p : Int) ≤ (p : Int) + (k : Int) := by omega
  have hp1 : (p : Int) + (k : Int) ≤ (n : Int) := by omega
  clear hd
  by_cases hpn : n = p
  · subst hpn
    go_enter Tryf.func30, Tryf.ntmps30
    go_wp2
    go_quiet (fail)
    go_wp2
    go_quiet (fail)
    go_wp2
    go_ret
    exact ⟨⟨G, 0, none⟩, ret_slice (by omega) (by omega), fun h => absurd h (Nat.lt_irrefl _), block_set (w := w.drewN _) (i := 1) HD.out _, ((Only.refl D D w).drewN _).setCell (a := ⟨D, 1, none⟩) (.inl rfl) _, by simp⟩
  · go_enter Tryf.func30, Tryf.ntmps30
    go_wp2
    go_quiet (fail)
    go_wp2
    go_quiet (fail)
    go_wp2
    go_ret
    exact ⟨⟨G, p, none⟩, ret_slice (by omega) rfl, fun _ => rfl, block_set (w := w.drewN _) (i := 1) HD.out _, ((Only.refl D D w).drewN _).setCell (a := ⟨D, 1, none⟩) (.inl rfl) _, by simp⟩

set_option maxHeartbeats 800000 in
/-- d.fixed(0) over a nil slice: nil. -/
theorem fixed_nil (D : Nat) (vars : Value) (w : World) (hd : Dec w D (.slice none 0 0) 0 vars .nilIface) :
    Calls Tryf.prog 30 #[.pointer (some ⟨D, 0, none⟩), .int .i64 0] w fun e w' => e = .returned (.slice none 0 0) ∧
      Dec w' D (.slice none 0 0) 0 vars .nilIface ∧ Only D D w w' ∧ w'.heap.size = w.heap.size := by
  have c0 := block_cell hd 0
  have c1 := block_cell hd 1
  have c3 := block_cell hd 3
  have f1 := block_free hd 1
  have HD : Aside (Dec w D (.slice none 0 0) 0 vars .nilIface) := hd
  clear hd
  go_enter Tryf.func30, Tryf.ntmps30
  go_wp2
  go_quiet (fail)
  go_wp2
  go_quiet (fail)
  go_wp2
  go_ret
  exact ⟨rfl, block_set (w := w.drewN _) (i := 1) HD.out _, ((Only.refl D D w).drewN _).setCell (a := ⟨D, 1, none⟩) (.inl rfl) _, by simp⟩

end Go.Proofs.Qxb6605934aFmt
