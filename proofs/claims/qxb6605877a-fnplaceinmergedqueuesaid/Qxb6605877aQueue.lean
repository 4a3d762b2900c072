/-
  THE WALKS OF THE SMALL FUNCTIONS: cloneU64 (10), nondecreasing (11), newQueue (12) with ZZnewRequestSeq (13).
-/
import Derived.Test.Qxb6605877aRows
import Derived.WalkKit
import Derived.WalkSpells
import Derived.WalkLawsBesides
import Derived.Deep.OwnRows
import Derived.Deep.QuietTactic
import Derived.BigQuiet
import Derived.RegionTactic
import Derived.LaidEqlPtr
namespace Go.Proofs.Qxb6605877a
open Go.RowKit

theorem info22 : (Try.prog.info? 22).map (fun i => (i.zero, i.size, i.bytes)) = some (some (.int .u64 0), 1, 8) := by kernel_rfl
theorem info40 : (Try.prog.info? 40).map (fun i => (i.zero, i.size, i.bytes)) = some (some (.pointer none), 1, 8) := by kernel_rfl

set_option maxHeartbeats 400000 in
/-- cloneU64 of nil. -/
theorem clone_nil (w : World) : Calls Try.prog 10 #[.slice none 0 0] w fun e w' => e = .returned (.slice none 0 0) ∧ w' = w := by
  have hnil := fun W => Lib.run_eql_slice_nil (P := Try.prog) W 41 22 none 0 0 0 0 Try.underlying41
  go_enter Try.func10, Try.ntmps10
  go_wp2
  go_ret
  exact ⟨rfl, rfl⟩

set_option maxHeartbeats 400000 in
/-- cloneU64 of a slice that is not nil: a new row with the same numbers. -/
theorem clone_some (x : Addr) (n c : Nat) (f : Nat → Int) (w : World) (hn : n ≤ 1048576) (hc : ∀ i, i < n → w.cell? (x.add i) = some (.int .u64 (f i))) :
    Calls Try.prog 10 #[.slice (some x) n c] w fun e w' => e = .returned (.slice (some ⟨w.heap.size, 0, none⟩) n n) ∧ w'.rowIs w.heap.size 22 n (fun i => .int .u64 (f i)) ∧ Below w.heap.size w w' ∧ w'.heap.size = w.heap.size + 1 := by
  have hmk := fun W => run_make_row' (P := Try.prog) 41 22 (.int .u64 0) 8 Try.underlying41 info22 rfl .i64 .i64 n (by omega) (by omega) W
  have hnil := fun W => Lib.run_eql_slice_nil (P := Try.prog) W 41 22 (some x) n c 0 0 Try.underlying41
  go_enter Try.func10, Try.ntmps10
  go_wp2
  go_loopw [4] (fun i wr => ∃ k : Nat, k ≤ n ∧ i = .int .i64 k ∧ wr.rowIs w.heap.size 22 n (fun j => .int .u64 (if j < k then f j else 0)) ∧ Below w.heap.size w wr ∧ wr.heap.size = w.heap.size + 1) (fun i _ => n - (intOf i).toNat)
  case atStart => exact ⟨0, Nat.zero_le _, rfl, (World.rowIs_made w (.int .u64 0) n 22).congr (fun j _ => by simp), (Below.refl _ _).alloc (Nat.le_refl _) _, by simp⟩
  case round =>
    obtain ⟨k, hk, rfl, hrow, hb, hsz⟩ := hrel
    by_cases hlt : k < n
    · obtain ⟨b, off, sp⟩ := x
      have hsp : sp = none := by simpa [Addr.add] using World.cell?_spot (hc 0 (by omega))
      subst hsp
      have hc0 : w.cell? ⟨b, off + k, none⟩ = some (.int .u64 (f k)) := by rw [← Go.WideShapes.add_plain]; exact hc k hlt
      have hbk : b < w.heap.size := World.block_lt_of_cell? _ _ hc0
      have hcx : wr.cell? ⟨b, off + k, none⟩ = some (.int .u64 (f k)) := (hb.cell (p := ⟨b, off + k, none⟩) hbk).trans hc0
      have hcw := hrow.cell hlt
      have hfw := hrow.frozen k
      have hltz : (k : Int) < (n : Int) := by omega
      clear hc0 hc hmk hnil
      go_wp2
      go_roundw
      case rel =>
        refine ⟨k + 1, by omega, by go_num, (hrow.set k (.int .u64 (f k))).congr (fun j hj => ?_), hb.setCell (Nat.le_refl _) _, by simpa using hsz⟩
        by_cases e : j = k
        · subst e; simp
        · have : (j < k + 1) = (j < k) := by simp; omega
          simp [e, this]
      case measure => simp [intOf]; omega
    · obtain rfl : k = n := by omega
      go_wp2
      go_ret
      exact ⟨rfl, hrow.congr (fun j hj => by simp [hj]), hb, hsz⟩

/-- From steps to any two places. -/
theorem mono_of_steps (f : Nat → Int) (n : Nat) (h : ∀ m, m + 1 < n → f m ≤ f (m + 1)) : ∀ a b, a ≤ b → b < n → f a ≤ f b := by
  intro a b hab
  induction b with
  | zero => intro _; obtain rfl : a = 0 := by omega
            exact Int.le_refl _
  | succ b ih =>
    intro hb
    by_cases e : a = b + 1
    · subst e; exact Int.le_refl _
    · have h1 := ih (by omega) (by omega)
      have h2 := h b hb
      omega

set_option maxHeartbeats 400000 in
/-- nondecreasing of no element. -/
theorem nondec_none (a : Option Addr) (c : Nat) (w : World) : Calls Try.prog 11 #[.slice a 0 c] w fun e w' => e = .returned (.bool true) ∧ w' = w := by
  go_enter Try.func11, Try.ntmps11
  go_wp2
  refine wp_loop_rounds 1 ?_
  rw [rounds_succ]
  go_wp2
  go_ret
  exact ⟨rfl, rfl⟩

set_option maxHeartbeats 400000 in
/-- nondecreasing: if it says true the numbers ascend. -/
theorem nondec_some (g n c : Nat) (f : Nat → Int) (w : World) (hn : n ≤ 1048576) (hc : ∀ i, i < n → w.cell? ⟨g, i, none⟩ = some (.int .u64 (f i))) :
    Calls Try.prog 11 #[.slice (some ⟨g, 0, none⟩) n c] w fun e w' => ∃ r, e = .returned (.bool r) ∧ (r = true → ∀ a b, a ≤ b → b < n → f a ≤ f b) ∧ ∃ q, w' = w.drewN q := by
  go_enter Try.func11, Try.ntmps11
  go_wp2
  go_loopw [3] (fun i wr => ∃ m q : Nat, i = .int .i64 (m + 1) ∧ wr = w.drewN q ∧ (m = 0 ∨ m < n) ∧ Hid (∀ j, j < m → f j ≤ f (j + 1))) (fun i _ => n - (intOf i).toNat)
  case atStart => exact ⟨0, 0, rfl, rfl, Or.inl rfl, fun j hj => absurd hj (Nat.not_lt_zero _)⟩
  case round =>
    obtain ⟨m, q, rfl, rfl, hm, H⟩ := hrel
    by_cases hlt : m + 1 < n
    · have h0 := hc m (by omega)
      have h1 := hc (m + 1) hlt
      have hltz : (m : Int) + 1 < (n : Int) := by omega
      have hltz' : (m : Int) < (n : Int) := by omega
      clear hc
      go_wp2
      go_quiet (fail)
      go_wp2
      · go_ret
        exact ⟨false, rfl, (fun h => absurd h (by decide)), q + nq, World.drewN_drewN ..⟩
      · have hle : f m ≤ f (m + 1) := by assumption
        go_roundw
        case rel =>
          refine ⟨m + 1, q + nq, by go_num, rfl, Or.inr (by omega), fun j hj => ?_⟩
          by_cases e : j = m
          · subst e; exact hle
          · exact H.out j (by omega)
        case measure => simp [intOf]; omega
    · go_wp2
      go_ret
      exact ⟨true, rfl, fun _ => mono_of_steps f n (fun j hj => H.out j (by omega)), q, rfl⟩

/-- A slice of n numbers at the head of its block (or of none). -/
def Row (w : World) (a : Option Addr) (n : Nat) (f : Nat → Int) : Prop := ∀ i, i < n → ∃ g, a = some ⟨g, 0, none⟩ ∧ w.cell? ⟨g, i, none⟩ = some (.int .u64 (f i))
theorem Row.head {w : World} {a : Option Addr} {n : Nat} {f : Nat → Int} (h : Row w a n f) (hn : 0 < n) : ∃ g, a = some ⟨g, 0, none⟩ ∧ ∀ i, i < n → w.cell? ⟨g, i, none⟩ = some (.int .u64 (f i)) := by
  obtain ⟨g, rfl, _⟩ := h 0 hn
  refine ⟨g, rfl, fun i hi => ?_⟩
  obtain ⟨g', e, hc⟩ := h i hi
  simp at e
  subst e
  exact hc
theorem Row.below {w w' : World} {a : Option Addr} {n : Nat} {f : Nat → Int} (h : Row w a n f) (hb : Below w.heap.size w w') : Row w' a n f := by
  intro i hi
  obtain ⟨g, e, hc⟩ := h i hi
  exact ⟨g, e, (hb.cell (World.block_lt_of_cell? _ _ hc)).trans hc⟩

/-- cloneU64 of whatever came in. -/
theorem clone_row (a : Option Addr) (n c : Nat) (f : Nat → Int) (w : World) (hn : n ≤ 1048576) (h : (a = none ∧ n = 0 ∧ c = 0) ∨ ∃ x, a = some x ∧ ∀ i, i < n → w.cell? (x.add i) = some (.int .u64 (f i))) :
    Calls Try.prog 10 #[.slice a n c] w fun e w' => ∃ a' c', e = .returned (.slice a' n c') ∧ Row w' a' n f ∧ Below w.heap.size w w' := by
  rcases h with ⟨rfl, rfl, rfl⟩ | ⟨x, rfl, hx⟩
  · refine (clone_nil w).mono ?_
    rintro e w' ⟨rfl, rfl⟩
    exact ⟨none, 0, rfl, fun i hi => absurd hi (Nat.not_lt_zero _), Below.refl _ _⟩
  · refine (clone_some x n c f w hn hx).mono ?_
    rintro e w' ⟨rfl, hrow, hb, _⟩
    exact ⟨_, n, rfl, fun i hi => ⟨_, rfl, hrow.cell hi⟩, hb⟩

/-- nondecreasing of whatever row. -/
theorem nondec_row (a : Option Addr) (n c : Nat) (f : Nat → Int) (w : World) (hn : n ≤ 1048576) (h : Row w a n f) :
    Calls Try.prog 11 #[.slice a n c] w fun e w' => ∃ r, e = .returned (.bool r) ∧ (r = true → ∀ a b, a ≤ b → b < n → f a ≤ f b) ∧ ∃ q, w' = w.drewN q := by
  rcases Nat.eq_zero_or_pos n with rfl | hp
  · refine (nondec_none a c w).mono ?_
    rintro e w' ⟨rfl, rfl⟩
    exact ⟨true, rfl, fun _ _ b _ hb => absurd hb (Nat.not_lt_zero _), 0, rfl⟩
  · obtain ⟨g, rfl, hc⟩ := h.head hp
    exact nondec_some g n c f w hn hc

/-- Block b is a request, made at s. -/
def ReqAt (w : World) (b : Nat) (s : Int) : Prop := ∃ cs : Array Value, w.heap[b]? = some (.cells cs 33 (0, 0)) ∧ cs[10]? = some (.int .u64 s)
theorem ReqAt.cell {w : World} {b : Nat} {s : Int} (h : ReqAt w b s) : w.cell? ⟨b, 10, none⟩ = some (.int .u64 s) := by
  obtain ⟨cs, hb, hc⟩ := h
  simp [World.cell?, hb, hc]
theorem ReqAt.lt {w : World} {b : Nat} {s : Int} (h : ReqAt w b s) : b < w.heap.size := World.block_lt_of_cell? _ _ h.cell
theorem ReqAt.of_block {w w' : World} {b : Nat} {s : Int} (h : ReqAt w b s) (e : w'.heap[b]? = w.heap[b]?) : ReqAt w' b s := by
  obtain ⟨cs, hb, hc⟩ := h
  exact ⟨cs, e.trans hb, hc⟩
theorem ReqAt.below {w w' : World} {b : Nat} {s : Int} (h : ReqAt w b s) (hb : Below w.heap.size w w') : ReqAt w' b s := h.of_block (hb.block b h.lt)
theorem ReqAt.same {w : World} {b : Nat} {s t : Int} (h : ReqAt w b s) (k : ReqAt w b t) : s = t := by
  have h1 := h.cell
  rw [k.cell] at h1
  simpa using h1.symm
theorem reqAt_new (w : World) (cs : Array Value) (s : Int) (h : cs[10]? = some (.int .u64 s)) : ReqAt (w.alloc (.cells cs 33)) w.heap.size s :=
  ⟨cs, Deep.blk_alloc_new _ _, h⟩

/-- One round of newQueue, as memory sees it. -/
theorem queue_step {B n k : Nat} {f : Nat → Int} {w wr : World} {cs : Array Value} (hcs : cs[10]? = some (.int .u64 (f k)))
    (hrow : wr.rowIs B 40 n (fun j => .pointer (if j < k then some ⟨B + 1 + j, 0, none⟩ else none))) (hc : ∀ i, i < k → ReqAt wr (B + 1 + i) (f i)) (hb : Below B w wr) (hsz : wr.heap.size = B + 1 + k) :
    ((wr.setCell ⟨B, k, none⟩ (.pointer (some ⟨wr.heap.size, 0, none⟩))).alloc (.cells cs 33)).rowIs B 40 n (fun j => .pointer (if j < k + 1 then some ⟨B + 1 + j, 0, none⟩ else none)) ∧
    (∀ i, i < k + 1 → ReqAt ((wr.setCell ⟨B, k, none⟩ (.pointer (some ⟨wr.heap.size, 0, none⟩))).alloc (.cells cs 33)) (B + 1 + i) (f i)) ∧
    Below B w ((wr.setCell ⟨B, k, none⟩ (.pointer (some ⟨wr.heap.size, 0, none⟩))).alloc (.cells cs 33)) ∧
    ((wr.setCell ⟨B, k, none⟩ (.pointer (some ⟨wr.heap.size, 0, none⟩))).alloc (.cells cs 33)).heap.size = B + 1 + (k + 1) := by
  refine ⟨((hrow.set k _).alloc _).congr (fun j hj => ?_), fun i hi => ?_, (hb.setCell (Nat.le_refl _) _).alloc (by simp; omega) _, by simp; omega⟩
  · by_cases e : j = k
    · subst e; simp [hsz]
    · have : (j < k + 1) = (j < k) := by simp; omega
      simp [e, this]
  · by_cases e : i = k
    · subst e
      have h := reqAt_new (wr.setCell ⟨B, i, none⟩ (.pointer (some ⟨wr.heap.size, 0, none⟩))) cs (f i) hcs
      rw [← hsz]
      rwa [World.size_setCell] at h
    · have h := hc i (by omega)
      refine h.of_block ?_
      rw [Below.heap_alloc _ _ _ (by simp; omega), Below.heap_setCell _ _ _ _ (by simp; omega)]

set_option maxHeartbeats 400000 in
/-- newQueue: a new row of pointers, to one new block each, the number at place 10 of it. -/
theorem queue_any (a : Option Addr) (n c : Nat) (f : Nat → Int) (w : World) (hn : n ≤ 1048576) (ha : Row w a n f) :
    Calls Try.prog 12 #[.slice a n c] w fun e w' => e = .returned (.slice (some ⟨w.heap.size, 0, none⟩) n n) ∧ w'.rowIs w.heap.size 40 n (fun i => .pointer (some ⟨w.heap.size + 1 + i, 0, none⟩)) ∧
      (∀ i, i < n → ReqAt w' (w.heap.size + 1 + i) (f i)) ∧ Below w.heap.size w w' ∧ w'.heap.size = w.heap.size + 1 + n := by
  have hmk := fun W => run_make_row' (P := Try.prog) 45 40 (.pointer none) 8 Try.underlying45 info40 rfl .i64 .i64 n (by omega) (by omega) W
  go_enter Try.func12, Try.ntmps12
  go_wp2
  go_loopw [4] (fun i wr => ∃ k : Nat, k ≤ n ∧ i = .int .i64 k ∧ wr.rowIs w.heap.size 40 n (fun j => .pointer (if j < k then some ⟨w.heap.size + 1 + j, 0, none⟩ else none)) ∧
      (∀ i, i < k → ReqAt wr (w.heap.size + 1 + i) (f i)) ∧ Below w.heap.size w wr ∧ wr.heap.size = w.heap.size + 1 + k) (fun i _ => n - (intOf i).toNat)
  case atStart => exact ⟨0, Nat.zero_le _, rfl, (World.rowIs_made w (.pointer none) n 40).congr (fun j _ => by simp), fun i hi => absurd hi (Nat.not_lt_zero _), (Below.refl _ _).alloc (Nat.le_refl _) _, by simp⟩
  case round =>
    obtain ⟨k, hk, rfl, hrow, hcs, hb, hsz⟩ := hrel
    by_cases hlt : k < n
    · obtain ⟨g, rfl, hc0⟩ := ha k hlt
      have hbk : g < w.heap.size := World.block_lt_of_cell? _ _ hc0
      have hcx : wr.cell? ⟨g, k, none⟩ = some (.int .u64 (f k)) := (hb.cell (p := ⟨g, k, none⟩) hbk).trans hc0
      have hcw := hrow.cell hlt
      have hfw := hrow.frozen k
      have hltz : (k : Int) < (n : Int) := by omega
      have hbs : w.heap.size < wr.heap.size := by omega
      have HC : Hid (∀ i, i < k → ReqAt wr (w.heap.size + 1 + i) (f i)) := hcs
      have HS : Hid (wr.heap.size = w.heap.size + 1 + k) := hsz
      clear hc0 ha hmk hcs hsz
      go_wp2
      go_roundw
      case rel =>
        obtain ⟨r1, r2, r3, r4⟩ := queue_step (cs := #[.int .u64 0, .string ⟨#[]⟩, .string ⟨#[]⟩, .string ⟨#[]⟩, .bool false, .int .i64 0, .int .i64 0, .bool false, .bool false, .bool false, .int .u64 (f k), .int .u64 0, .pointer none]) rfl hrow HC.out hb HS.out
        exact ⟨k + 1, by omega, by go_num, r1, r2, r3, r4⟩
      case measure => simp [intOf]; omega
    · obtain rfl : k = n := by omega
      go_wp2
      go_ret
      exact ⟨rfl, hrow.congr (fun j hj => by simp [hj]), hcs, hb, hsz⟩
end Go.Proofs.Qxb6605877a
