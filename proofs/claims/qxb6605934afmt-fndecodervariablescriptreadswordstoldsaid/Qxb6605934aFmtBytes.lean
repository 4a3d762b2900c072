/-
  THE WALKS OF THE SMALL FUNCTIONS ON BYTES: cloneBytesSszB1 (11), eqBytesSszB1 (16).
-/
import Derived.Test.Qxb6605934aFmtRows
import Derived.WalkKit
import Derived.WalkSpells
import Derived.WalkLawsBesides
import Derived.Deep.OwnRows
import Derived.Deep.QuietTactic
import Derived.Deep.LoopGhost
import Derived.BigQuiet
import Derived.RegionTactic
namespace Go.Proofs.Qxb6605934aFmt
open Go.RowKit

theorem info5 : (Tryf.prog.info? 5).map (fun i => (i.zero, i.size, i.bytes)) = some (some (.int .u8 0), 1, 1) := by kernel_rfl

theorem below_drawn {B : Nat} {a w : World} (h : Below B a w) (n : Nat) : Below B a (w.drewN n) := ⟨h.os, h.tape, h.output, h.size, h.block⟩

/-- A slice of n bytes at the head of its block (or of none). -/
def Row (w : World) (a : Option Addr) (n : Nat) (f : Nat → Int) : Prop := ∀ i, i < n → ∃ g, a = some ⟨g, 0, none⟩ ∧ w.cell? ⟨g, i, none⟩ = some (.int .u8 (f i))
theorem Row.head {w : World} {a : Option Addr} {n : Nat} {f : Nat → Int} (h : Row w a n f) (hn : 0 < n) : ∃ g, a = some ⟨g, 0, none⟩ ∧ ∀ i, i < n → w.cell? ⟨g, i, none⟩ = some (.int .u8 (f i)) := by
  obtain ⟨g, rfl, _⟩ := h 0 hn
  refine ⟨g, rfl, fun i hi => ?_⟩
  obtain ⟨g', e, hc⟩ := h i hi
  simp at e
  subst e
  exact hc
theorem Row.below {w w' : World} {a : Option Addr} {n : Nat} {f : Nat → Int} (h : Row w a n f) (hb : Below w.heap.size w w') : Row w' a n f := by
  intro i hi
  obtain ⟨g, e, hc⟩ := h i hi
  exact ⟨g, e, (hb.cell (World.block_lt_of_cell? _ _ hc)).trans hc⟩

set_option maxHeartbeats 400000 in
theorem clone_nil (w : World) : Calls Tryf.prog 11 #[.slice none 0 0] w fun e w' => e = .returned (.slice none 0 0) ∧ w' = w := by
  have hnil := fun W => Lib.run_eql_slice_nil (P := Tryf.prog) W 29 5 none 0 0 0 0 Tryf.underlying29
  go_enter Tryf.func11, Tryf.ntmps11
  go_wp2
  go_ret
  exact ⟨rfl, rfl⟩

set_option maxHeartbeats 400000 in
/-- clone of a slice that is not nil: a new row with the same bytes. -/
theorem clone_some (x : Addr) (n c : Nat) (f : Nat → Int) (w : World) (hn : n ≤ 4194304) (hc : ∀ i, i < n → w.cell? (x.add i) = some (.int .u8 (f i))) :
    Calls Tryf.prog 11 #[.slice (some x) n c] w fun e w' => e = .returned (.slice (some ⟨w.heap.size, 0, none⟩) n n) ∧ w'.rowIs w.heap.size 5 n (fun i => .int .u8 (f i)) ∧ Below w.heap.size w w' ∧ w'.heap.size = w.heap.size + 1 := by
  have hmk := fun W => run_make_row' (P := Tryf.prog) 29 5 (.int .u8 0) 1 Tryf.underlying29 info5 rfl .i64 .i64 n (by omega) (by omega) W
  have hnil := fun W => Lib.run_eql_slice_nil (P := Tryf.prog) W 29 5 (some x) n c 0 0 Tryf.underlying29
  go_enter Tryf.func11, Tryf.ntmps11
  go_wp2
  go_loopw [4] (fun i wr => ∃ k : Nat, k ≤ n ∧ i = .int .i64 k ∧ wr.rowIs w.heap.size 5 n (fun j => .int .u8 (if j < k then f j else 0)) ∧ Below w.heap.size w wr ∧ wr.heap.size = w.heap.size + 1) (fun i _ => n - (intOf i).toNat)
  case atStart => exact ⟨0, Nat.zero_le _, rfl, (World.rowIs_made w (.int .u8 0) n 5).congr (fun j _ => by simp), (Below.refl _ _).alloc (Nat.le_refl _) _, by simp⟩
  case round =>
    obtain ⟨k, hk, rfl, hrow, hb, hsz⟩ := hrel
    by_cases hlt : k < n
    · obtain ⟨b, off, sp⟩ := x
      have hsp : sp = none := by simpa [Addr.add] using World.cell?_spot (hc 0 (by omega))
      subst hsp
      have hc0 : w.cell? ⟨b, off + k, none⟩ = some (.int .u8 (f k)) := by rw [← Go.WideShapes.add_plain]; exact hc k hlt
      have hbk : b < w.heap.size := World.block_lt_of_cell? _ _ hc0
      have hcx : wr.cell? ⟨b, off + k, none⟩ = some (.int .u8 (f k)) := (hb.cell (p := ⟨b, off + k, none⟩) hbk).trans hc0
      have hcw := hrow.cell hlt
      have hfw := hrow.frozen k
      have hltz : (k : Int) < (n : Int) := by omega
      clear hc0 hc hmk hnil
      go_wp2
      go_roundw
      case rel =>
        refine ⟨k + 1, by omega, by go_num, (hrow.set k (.int .u8 (f k))).congr (fun j hj => ?_), hb.setCell (Nat.le_refl _) _, by simpa using hsz⟩
        by_cases e : j = k
        · subst e; simp
        · have : (j < k + 1) = (j < k) := by simp; omega
          simp [e, this]
      case measure => simp [intOf]; omega
    · obtain rfl : k = n := by omega
      go_wp2
      go_ret
      exact ⟨rfl, hrow.congr (fun j hj => by simp [hj]), hb, hsz⟩

/-- A slice of bytes: nil, or at the head of a block, full. -/
def Sl (w : World) (a : Option Addr) (n c : Nat) (f : Nat → Int) : Prop := (a = none ∧ n = 0 ∧ c = 0) ∨ ∃ g, a = some ⟨g, 0, none⟩ ∧ c = n ∧ ∀ i, i < n → w.cell? ⟨g, i, none⟩ = some (.int .u8 (f i))
theorem Sl.row {w : World} {a : Option Addr} {n c : Nat} {f : Nat → Int} (h : Sl w a n c f) : Row w a n f := by
  intro i hi
  rcases h with ⟨_, rfl, _⟩ | ⟨g, rfl, _, hc⟩
  · exact absurd hi (Nat.not_lt_zero _)
  · exact ⟨g, rfl, hc i hi⟩
theorem Sl.below {w w' : World} {a : Option Addr} {n c : Nat} {f : Nat → Int} (h : Sl w a n c f) (hb : Below w.heap.size w w') : Sl w' a n c f := by
  rcases h with h | ⟨g, h1, h2, hc⟩
  · exact .inl h
  · exact .inr ⟨g, h1, h2, fun i hi => (hb.cell (World.block_lt_of_cell? _ _ (hc i hi))).trans (hc i hi)⟩
/-- The form in which clone asks it. -/
def In (w : World) (a : Option Addr) (n c : Nat) (f : Nat → Int) : Prop := (a = none ∧ n = 0 ∧ c = 0) ∨ ∃ x, a = some x ∧ ∀ i, i < n → w.cell? (x.add i) = some (.int .u8 (f i))
theorem In.below {w w' : World} {a : Option Addr} {n c : Nat} {f : Nat → Int} (h : In w a n c f) (hb : Below w.heap.size w w') : In w' a n c f := by
  rcases h with h | ⟨x, h1, h2⟩
  · exact .inl h
  · exact .inr ⟨x, h1, fun i hi => (hb.cell (World.block_lt_of_cell? _ _ (h2 i hi))).trans (h2 i hi)⟩
theorem Sl.into {w : World} {a : Option Addr} {n c : Nat} {f : Nat → Int} (h : Sl w a n c f) : In w a n c f := by
  rcases h with h | ⟨g, h1, _, hc⟩
  · exact .inl h
  · exact .inr ⟨_, h1, fun i hi => by rw [Go.WideShapes.add_plain, Nat.zero_add]; exact hc i hi⟩

/-- clone of whatever: nil, or a row of its own. -/
theorem clone_row (a : Option Addr) (n c : Nat) (f : Nat → Int) (w : World) (hn : n ≤ 4194304) (h : In w a n c f) :
    Calls Tryf.prog 11 #[.slice a n c] w fun e w' => ∃ a' c', e = .returned (.slice a' n c') ∧ Sl w' a' n c' f ∧ Below w.heap.size w w' := by
  rcases h with ⟨rfl, rfl, rfl⟩ | ⟨x, rfl, hx⟩
  · refine (clone_nil w).mono ?_
    rintro e w' ⟨rfl, rfl⟩
    exact ⟨none, 0, rfl, .inl ⟨rfl, rfl, rfl⟩, Below.refl _ _⟩
  · refine (clone_some x n c f w hn hx).mono ?_
    rintro e w' ⟨rfl, hrow, hb, _⟩
    exact ⟨_, n, rfl, .inr ⟨_, rfl, rfl, fun i hi => hrow.cell hi⟩, hb⟩

set_option maxHeartbeats 400000 in
/-- eqBytes of two rows that hold the same. -/
theorem eq_any (a b : Option Addr) (n c d : Nat) (f : Nat → Int) (w : World) (hn : n ≤ 4194304) (ha : Row w a n f) (hb : Row w b n f) :
    Calls Tryf.prog 16 #[.slice a n c, .slice b n d] w fun e w' => e = .returned (.bool true) ∧ ∃ q, w' = w.drewN q := by
  go_enter Tryf.func16, Tryf.ntmps16
  go_wp2
  go_loopw [5] (fun i wr => ∃ k q : Nat, k ≤ n ∧ i = .int .i64 k ∧ wr = w.drewN q) (fun i _ => n - (intOf i).toNat)
  case atStart => exact ⟨0, 0, Nat.zero_le _, rfl, rfl⟩
  case round =>
    obtain ⟨k, q, hk, rfl, rfl⟩ := hrel
    by_cases hlt : k < n
    · obtain ⟨g, rfl, h0⟩ := ha k hlt
      obtain ⟨g', rfl, h1⟩ := hb k hlt
      have hltz : (k : Int) < (n : Int) := by omega
      clear ha hb
      go_wp2
      go_quiet (fail)
      go_wp2
      go_roundw
      case rel => exact ⟨k + 1, q + nq, by omega, by go_num, by first | rfl | exact World.drewN_drewN ..⟩
      case measure => simp [intOf]; omega
    · go_wp2
      go_ret
      exact ⟨rfl, q, rfl⟩

end Go.Proofs.Qxb6605934aFmt
