/-
  THE WALK OF (*Decoder).fixed (30) WHERE TOO LITTLE IS LEFT: fmt.Errorf makes the error. The closed facts on fmt's stop first (after the guide's CheckFmt.lean, at this dump's numbers).
-/
import Derived.Test.Qxb6605934aFmtDec
namespace Go.Proofs.Qxb6605934aFmt
open Go.RowKit Go.Extern.Stop Go.Stop Go.Extern

theorem call35 (args : Array Value) (w : World) : (callFunc 35 args).run Tryf.prog w = ((FmtStop.errorf #[9, 65] #[31] args).run Tryf.prog w).andThen fun v w' => .ok (.value v) w' :=
  run_callFunc_extern Tryf.func35 (by kernel_rfl) (by kernel_rfl) (by kernel_rfl) (by kernel_rfl) args w
theorem guardAny (name : String) (w : World) : (FmtStop.guard name).run Tryf.prog w = .ok () w := by kernel_rfl
theorem fmt0 : FmtStop.printed? ⟨#[115, 115, 122, 58, 32, 105, 110, 112, 117, 116, 32, 111, 102, 32, 37, 100, 32, 98, 121, 116, 101, 115, 32, 101, 110, 100, 115, 32, 105, 110, 115, 105, 100, 101, 32, 116, 104, 101, 32, 102, 105, 120, 101, 100, 32, 112, 97, 114, 116]⟩ 1 = some [(0, 100, false)] := by kernel_rfl
theorem fmt0r (w : World) : (FmtDoors.printed ⟨#[115, 115, 122, 58, 32, 105, 110, 112, 117, 116, 32, 111, 102, 32, 37, 100, 32, 98, 121, 116, 101, 115, 32, 101, 110, 100, 115, 32, 105, 110, 115, 105, 100, 101, 32, 116, 104, 101, 32, 102, 105, 120, 101, 100, 32, 112, 97, 114, 116]⟩ 1).run Tryf.prog w = .ok [(0, 100, false)] w := by kernel_rfl
def shape3 : List UInt8 := [5, 3, 0, 0, 0, 0, 0, 0, 0, 105, 110, 116]
theorem op3_100w (name : String) (x : Int) (w : World) : (FmtStop.operand name true 100 false (.iface 3 (.int .i64 x))).run Tryf.prog w = .ok (shape3, Go.Extern.Stop.digits 8 (x % 2 ^ 64).toNat) w := by kernel_rfl
theorem op3_100 (name : String) (x : Int) (w : World) : (FmtStop.operand name false 100 false (.iface 3 (.int .i64 x))).run Tryf.prog w = .ok (shape3, Go.Extern.Stop.digits 8 (x % 2 ^ 64).toNat) w := by kernel_rfl
theorem ptr68 (w : World) : (FmtStop.ptrTo "errors.errorString").run Tryf.prog w = .ok 68 w := by kernel_rfl
theorem elem68 (w : World) : (elemOf 68).run Tryf.prog w = .ok 70 w := by kernel_rfl
theorem isError68 (w : World) : (FmtDoors.textMethod 68 "Error").run Tryf.prog w = .ok true w := by kernel_rfl

attribute [local go_sem] call35 guardAny fmt0 fmt0r op3_100w op3_100 ptr68 elem68 isError68

set_option maxHeartbeats 800000 in
/-- fmt.Errorf at the one format: a new error. -/
theorem errorf_any (F : Interp) (v : Nat) (x : Int) (w : World) (hF : F.answers w.tape) (hv : w.cell? ⟨v, 0, none⟩ = some (.iface 3 (.int .i64 x))) :
    Calls Tryf.prog 33 #[.string ⟨#[115, 115, 122, 58, 32, 105, 110, 112, 117, 116, 32, 111, 102, 32, 37, 100, 32, 98, 121, 116, 101, 115, 32, 101, 110, 100, 115, 32, 105, 110, 115, 105, 100, 101, 32, 116, 104, 101, 32, 102, 105, 120, 101, 100, 32, 112, 97, 114, 116]⟩, .slice (some ⟨v, 0, none⟩) 1 1] w fun e w' =>
      e = .returned (.iface 68 (.pointer (some ⟨w.heap.size, 0, none⟩))) ∧ ∃ s, w' = (w.alloc (.cells #[.string s] 70)).drew := by
  have hF' := answers_open hF
  go_enter Tryf.func33, Tryf.ntmps33
  go_wp2
  go_ret
  exact ⟨rfl, _, rfl⟩

set_option maxHeartbeats 800000 in
/-- d.fixed(k) where too little is left: nil, and the decoder bears an error. -/
theorem fixed_fail (F : Interp) (D n p k c : Nat) (a : Option Addr) (vars : Value) (w : World) (hF : F.answers w.tape) (hd : Dec w D (.slice a n c) p vars .nilIface) (_hn : n ≤ 4194304) (hp : p ≤ n) (hk : n < p + k) (hk2 : k ≤ 4194304) :
    Calls Tryf.prog 30 #[.pointer (some ⟨D, 0, none⟩), .int .i64 k] w fun e w' => e = .returned (.slice none 0 0) ∧ ∃ t x,
      Dec w' D (.slice a n c) p vars (.iface t x) ∧ Only D D w w' := by
  have c0 := block_cell hd 0
  have c1 := block_cell hd 1
  have c3 := block_cell hd 3
  have f3 := block_free hd 3
  have HD : Aside (Dec w D (.slice a n c) p vars .nilIface) := hd
  have hD : D < w.heap.size := lt_of_block hd
  have hlt : (n : Int) - (p : Int) < (k : Int) := by omega
  clear hd
  go_enter Tryf.func30, Tryf.ntmps30
  go_wp2
  go_quiet (fail)
  go_wp2_with fail
  refine (errorf_any F w.heap.size n ((w.drewN nq).alloc (.cells #[.iface 3 (.int .i64 n)] 20)) hF (by have h := World.cell?_alloc_at (w := w.drewN nq) #[Value.iface 3 (.int .i64 n)] 20 w.heap.size 0 rfl; exact h)).mono ?_
  rintro e w1 ⟨rfl, s, hw1⟩
  have hO : Only D D w w1 := by rw [hw1]; exact ((((Only.refl D D w).drewN nq).alloc _).alloc _).drew
  have hD1 : Dec w1 D (.slice a n c) p vars .nilIface := by
    rw [hw1]
    show ((((w.drewN nq).alloc _).alloc _)).heap[D]? = _
    rw [Below.heap_alloc _ _ _ (by simp; omega), Below.heap_alloc _ _ _ (by exact hD)]
    exact HD.out
  have d3 := block_cell hD1 3
  have g3 := block_free hD1 3
  have HD1 : Aside (Dec w1 D (.slice a n c) p vars .nilIface) := hD1
  clear hw1 hD1 c0 c1 c3 f3
  go_wp2
  go_ret
  exact ⟨rfl, _, _, block_set (i := 3) HD1.out _, hO.setCell (a := ⟨D, 3, none⟩) (.inl rfl) _⟩

set_option maxHeartbeats 400000 in
/-- d.fixed(k) once an error stands: nil; nothing turns. -/
theorem fixed_stuck (D t : Nat) (k : Int) (buf x vars : Value) (pos : Int) (w : World) (hd : Dec w D buf pos vars (.iface t x)) :
    Calls Tryf.prog 30 #[.pointer (some ⟨D, 0, none⟩), .int .i64 k] w fun e w' => e = .returned (.slice none 0 0) ∧ w' = w := by
  have c3 := block_cell hd 3
  go_enter Tryf.func30, Tryf.ntmps30
  go_wp2
  go_ret
  exact ⟨rfl, rfl⟩

end Go.Proofs.Qxb6605934aFmt
