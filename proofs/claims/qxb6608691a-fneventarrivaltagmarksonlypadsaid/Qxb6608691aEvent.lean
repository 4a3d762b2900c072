/-
  THE WALKS OF event (7), ZZevent (5), zzDecodeID (6); what they reckon.
-/
import Derived.Test.Qxb6608691aRows
import Derived.WalkKit
import Derived.WalkSpells
import Derived.WalkLawsBesides
import Derived.Deep.QuietTactic
import Derived.BigQuiet
import Derived.RegionTactic
import Derived.ProofKit
namespace Go.Proofs.Qxb6608691a
open Go.RowKit

/-- Two halves laid side by side. -/
theorem or_halves (a b : Int) (ha0 : 0 ≤ a) (ha : a < 4294967296) (hb0 : 0 ≤ b) (hb : b < 4294967296) : bits BinOp.or IntKind.u64 a (b * 4294967296) = a + b * 4294967296 := by
  obtain ⟨x, rfl⟩ : ∃ x : Nat, a = x := ⟨a.toNat, by omega⟩
  obtain ⟨y, rfl⟩ : ∃ y : Nat, b = y := ⟨b.toNat, by omega⟩
  have h : x ||| (y * 4294967296) = x + y * 4294967296 := by
    have e := Nat.shiftLeft_add_eq_or_of_lt (show x < 2 ^ 32 by omega) y
    rw [Nat.shiftLeft_eq] at e
    rw [Nat.or_comm, ← e]
    omega
  have e2 : (y : Int) * 4294967296 = ((y * 4294967296 : Nat) : Int) := by omega
  rw [e2, bits_or_u64_nat x (y * 4294967296) (by omega) (by omega), h]
  omega

/-- What wait reads back. -/
def dec (f p : Int) : Int := f % 4294967296 + p % 4294967296 * 4294967296

set_option maxHeartbeats 400000 in
theorem decode_any (f p : Int) (w : World) : Calls Try.prog 6 #[.int .i32 f, .int .i32 p] w fun e w' => e = .returned (.int .u64 (dec f p)) ∧ w' = w := by
  go_enter Try.func6, Try.ntmps6
  go_wp2
  go_ret
  refine ⟨?_, rfl⟩
  rw [dec, ← or_halves (f % 4294967296) (p % 4294967296) (by omega) (by omega) (by omega) (by omega)]
  rfl

set_option maxHeartbeats 400000 in
theorem event_any (ev id : Int) (w : World) (_h0 : 0 ≤ id) (_h1 : id ≤ 18446744073709551615) : Calls Try.prog 7 #[.int .u32 ev, .int .u64 id] w fun e w' =>
    e = .returned (.agg #[.int .u32 ev, .int .i32 (wrap32 id), .int .i32 (wrap32 (id / 4294967296))]) ∧ w' = w.alloc (.cells #[.int .u32 ev, .int .i32 (wrap32 id), .int .i32 (wrap32 (id / 4294967296))] 30) := by
  go_enter Try.func7, Try.ntmps7
  go_wp2
  exact bodyPost_ret (v := .agg #[.int .u32 ev, .int .i32 (wrap32 id), .int .i32 (wrap32 (id / 4294967296))]) (by simp [results, Try.results7, go_sem]) rfl ⟨rfl, rfl⟩

set_option maxHeartbeats 400000 in
theorem zzevent_any (ev id : Int) (w : World) (h0 : 0 ≤ id) (h1 : id ≤ 18446744073709551615) : Calls Try.prog 5 #[.int .u32 ev, .int .u64 id] w fun e w' =>
    e = .returned (.tuple #[.int .u32 ev, .int .i32 (wrap32 id), .int .i32 (wrap32 (id / 4294967296))]) ∧ ∃ A B q, w' = ((w.alloc (.cells A 30)).alloc (.cells B 30)).drewN q := by
  have hcon := event_any ev id w h0 h1
  generalize wrap32 id = f at *
  generalize wrap32 (id / 4294967296) = p at *
  go_enter Try.func5, Try.ntmps5
  go_wp2_with (go_at_call 7; refine hcon.mono ?_; rintro e w' ⟨rfl, rfl⟩)
  go_quiet (fail)
  go_wp2
  go_ret3
  exact ⟨rfl, _, _, _, rfl⟩

/-- An id is read back. -/
theorem dec_of (id : Int) (h0 : 0 ≤ id) (h1 : id ≤ 18446744073709551615) : dec (wrap32 id) (wrap32 (id / 4294967296)) = id := by
  unfold dec wrap32
  omega
/-- Two ids of the same halves are one. -/
theorem id_of_halves (x y : Int) (hx0 : 0 ≤ x) (hx1 : x ≤ 18446744073709551615) (hy0 : 0 ≤ y) (hy1 : y ≤ 18446744073709551615) (hf : wrap32 x = wrap32 y) (hp : wrap32 (x / 4294967296) = wrap32 (y / 4294967296)) : x = y := by
  rw [← dec_of x hx0 hx1, ← dec_of y hy0 hy1, hf, hp]

theorem grown_drewN {W w : World} (h : Grown W w) (n : Nat) : Grown W (w.drewN n) := h
theorem grown_four (w : World) (A1 B1 : Array Value) (q1 : Nat) (A2 B2 : Array Value) (q2 : Nat) :
    Grown w ((((((w.alloc (.cells A1 30)).alloc (.cells B1 30)).drewN q1).alloc (.cells A2 30)).alloc (.cells B2 30)).drewN q2) :=
  grown_drewN (((grown_drewN (((Grown.refl w).alloc A1 30).alloc B1 30) q1).alloc A2 30).alloc B2 30) q2

end Go.Proofs.Qxb6608691a
