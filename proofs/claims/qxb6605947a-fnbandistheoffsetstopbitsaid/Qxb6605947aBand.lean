/-
  THE WALK OF chord.Band (5).
-/
import Derived.Test.Qxb6605947aRows
import Derived.Test.Qxb6605947aShelf
import Derived.WalkKit
import Derived.WalkSpells
import Derived.WalkLawsBesides
import Derived.Lib.ItoaNum
namespace Go.Proofs.Qxb6605947a
open Go.RowKit

/-- The offset on the ring. -/
def off (x y : Int) : Int := (y - x) % 18446744073709551616
theorem off_bd (x y : Int) : 0 ≤ off x y ∧ off x y ≤ 18446744073709551615 := by unfold off; omega

theorem wrap_off (x y : Int) : IntKind.u64.wrap (y - x) = off x y := by
  rw [IntKind.wrap_u64]
  rfl
/-- How many bits the offset takes. -/
def len (x y : Int) : Nat := Lib.bitLen (off x y).toNat
theorem len_le (x y : Int) : len x y ≤ 64 := by
  have hb := off_bd x y
  exact Lib.bitLen_le (off x y).toNat 64 (by omega) (by omega)
/-- What the length says of an offset that is not 0. -/
theorem len_spec (x y : Int) (h : off x y ≠ 0) : 1 ≤ len x y ∧ 2 ^ (len x y - 1) ≤ (off x y).toNat ∧ (off x y).toNat < 2 ^ len x y := by
  have hb := off_bd x y
  exact Lib.bitLenAux_bounds 64 (off x y).toNat (by omega) (by omega)

set_option maxHeartbeats 400000 in
theorem band_any (x y : Int) (w : World) :
    Calls Try.prog 5 #[.int .u64 x, .int .u64 y] w fun e w' => e = .returned (.int .i64 ((len x y : Int) - 1)) ∧ w' = w := by
  have hw := wrap_off x y
  have hb := off_bd x y
  have hl : (len x y : Int) ≤ 64 := by have := len_le x y; omega
  have hcon := Try.bits_Len64 (off x y) w hb.1 hb.2
  change Calls Try.prog 6 #[.int .u64 (off x y)] w (fun e w' => e = .returned (.int .i64 (len x y : Int)) ∧ w' = w) at hcon
  generalize len x y = L at *
  go_enter Try.func5, Try.ntmps5
  go_wp2_with (first | (go_at_call 7; go_in) | (go_at_call 6; refine hcon.mono ?_; rintro e w' ⟨rfl, rfl⟩))
  go_ret
  exact ⟨rfl, rfl⟩

/-- The top bit alone is left. -/
theorem shift_one (d : Int) (j : Nat) (h0 : 0 ≤ d) (h1 : 2 ^ j ≤ d.toNat) (h2 : d.toNat < 2 ^ (j + 1)) : (d / 2 ^ j == 1) = true := by
  have e : d = (d.toNat : Int) := by omega
  have hq : d.toNat / 2 ^ j = 1 := by
    rw [Nat.pow_succ] at h2
    exact Nat.div_eq_of_lt_le (by omega) (by omega)
  have h : d / 2 ^ j = ((d.toNat / 2 ^ j : Nat) : Int) := by
    rw [Int.natCast_ediv, Int.natCast_pow, ← e]
    rfl
  rw [h, hq]
  rfl

/-- Both turned by c: the offset stays. -/
theorem off_rot (x y c : Int) : off (IntKind.u64.wrap (x + c)) (IntKind.u64.wrap (y + c)) = off x y := by
  rw [IntKind.wrap_u64, IntKind.wrap_u64]
  unfold off
  omega
/-- The offset doubled. -/
theorem off_dbl (x d : Int) (h0 : 0 ≤ d) (h1 : d < 9223372036854775808) : off x (IntKind.u64.wrap (x + 2 * d)) = 2 * d := by
  rw [IntKind.wrap_u64]
  unfold off
  omega
theorem band_rot (x y c : Int) (w : World) :
    Calls Try.prog 5 #[.int .u64 (IntKind.u64.wrap (x + c)), .int .u64 (IntKind.u64.wrap (y + c))] w fun e w' => e = .returned (.int .i64 ((len x y : Int) - 1)) ∧ w' = w := by
  have h := band_any (IntKind.u64.wrap (x + c)) (IntKind.u64.wrap (y + c)) w
  rw [show len (IntKind.u64.wrap (x + c)) (IntKind.u64.wrap (y + c)) = len x y by unfold len; rw [off_rot]] at h
  exact h
theorem band_dbl (x y : Int) (h0 : off x y ≠ 0) (h1 : off x y < 9223372036854775808) (w : World) :
    Calls Try.prog 5 #[.int .u64 x, .int .u64 (IntKind.u64.wrap (x + 2 * off x y))] w fun e w' => e = .returned (.int .i64 (len x y : Int)) ∧ w' = w := by
  have hb := off_bd x y
  have h := band_any x (IntKind.u64.wrap (x + 2 * off x y)) w
  have e : len x (IntKind.u64.wrap (x + 2 * off x y)) = len x y + 1 := by
    unfold len
    rw [off_dbl x (off x y) hb.1 h1]
    have hh := Lib.bitLen_half (2 * off x y).toNat (by omega) (by omega)
    rw [show (2 * off x y).toNat / 2 = (off x y).toNat by omega] at hh
    omega
  rw [e, show ((len x y + 1 : Nat) : Int) - 1 = (len x y : Int) by omega] at h
  exact h
/-- The top half of the ring. -/
theorem len_top (x y : Int) (h : 9223372036854775808 ≤ off x y) : len x y = 64 := by
  obtain ⟨h1, h2, h3⟩ := len_spec x y (by omega)
  have hl := len_le x y
  have hb : 2 ^ 63 ≤ (off x y).toNat := by omega
  rcases Nat.lt_or_ge (len x y) 64 with h4 | h4
  · have : 2 ^ len x y ≤ 2 ^ 63 := Nat.pow_le_pow_right (by omega) (by omega)
    omega
  · omega

end Go.Proofs.Qxb6605947a
