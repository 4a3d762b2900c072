/-
  'Rows.FnEventArrivalTagMarksOnlyPadSaid' PROVED. The frame is the shell that was given; the walk is ours.
-/
import Derived.Test.Qxb6608691aEvent
import Derived.OpenShut
import Derived.ShutString
namespace Go.Proofs.Qxb6608691a.fnEventArrivalTagMarksOnlyPad
open Go.ChangeShapes Go.WideShapes Go.ChangeAt Go.RowKit
open Go.ChangeMaps (open_string shut_string)
set_option linter.unusedVariables false      -- a walk need not use every 'w<i>' (that an integer argument fits its kind)

theorem own : ownKnob Try.prog.godebug = none := by kernel_rfl

/-- The tag is the top bit. -/
theorem or_tag (x : Int) (h0 : 0 ≤ x) (h1 : x < 9223372036854775808) : bits BinOp.or IntKind.u64 x 9223372036854775808 = x + 9223372036854775808 := by
  obtain ⟨n, rfl⟩ : ∃ n : Nat, x = n := ⟨x.toNat, by omega⟩
  have h : n ||| 9223372036854775808 = n + 9223372036854775808 := by
    have e := Nat.shiftLeft_add_eq_or_of_lt (show n < 2 ^ 63 by omega) 1
    rw [Nat.shiftLeft_eq, show 1 * 2 ^ 63 = 9223372036854775808 by omega] at e
    rw [Nat.or_comm]
    omega
  rw [show (9223372036854775808 : Int) = ((9223372036854775808 : Nat) : Int) by rfl, bits_or_u64_nat n 9223372036854775808 (by omega) (by omega), h]
  omega
theorem fd_tag (x : Int) : wrap32 (x + 9223372036854775808) = wrap32 x := by
  unfold wrap32
  omega
theorem pad_tag (x : Int) (h0 : 0 ≤ x) (h1 : x < 9223372036854775808) : wrap32 ((x + 9223372036854775808) / 4294967296) = wrap32 (x / 4294967296) - 2147483648 := by
  unfold wrap32
  omega
theorem pad_bd (x : Int) (h0 : 0 ≤ x) (h1 : x < 9223372036854775808) : 0 ≤ wrap32 (x / 4294967296) ∧ wrap32 (x / 4294967296) ≤ 2147483647 := by
  unfold wrap32
  omega
theorem dec_tag (x : Int) (h0 : 0 ≤ x) (h1 : x < 9223372036854775808) : dec (wrap32 x) (wrap32 (x / 4294967296) - 2147483648) = x + 9223372036854775808 := by
  unfold dec wrap32
  omega

/-! ### STEP 1: THE WALK: the Go text returns true. 'Grown w w'': the world has at most new blocks (Derived/RowKit3.lean). Part the cases AHEAD of 'go_enter' where a test parts the walk; take each callee by a contract of your own. -/
theorem walk (a0 : Int) (a1 : Int) (w0 : (Lit.int .u32 a0).wf = true) (w1 : (Lit.int .u64 a1).wf = true) (w : World) :
    Calls Try.prog 4 #[.int .u32 a0, .int .u64 a1] w fun e w' => e = .returned (.bool true) ∧ Grown w w' := by
  have b1 := bounds_u64 w1
  by_cases hid : a1 < 9223372036854775808
  · have hor : bits BinOp.or IntKind.u64 a1 9223372036854775808 = a1 + 9223372036854775808 := or_tag a1 b1.1 hid
    have z1 := zzevent_any a0 a1 w b1.1 b1.2
    have z2 := fun W => zzevent_any a0 (a1 + 9223372036854775808) W (by omega) (by omega)
    have d1 := fun W => decode_any (wrap32 a1) (wrap32 (a1 / 4294967296)) W
    have d2 := fun W => decode_any (wrap32 a1) (wrap32 (a1 / 4294967296) - 2147483648) W
    have hp := pad_bd a1 b1.1 hid
    rw [dec_of a1 b1.1 b1.2] at d1
    rw [dec_tag a1 b1.1 hid] at d2
    rw [fd_tag, pad_tag a1 b1.1 hid] at z2
    generalize wrap32 a1 = f at *
    generalize wrap32 (a1 / 4294967296) = p at *
    go_enter Try.func4, Try.ntmps4
    go_wp2_with fail
    refine z1.mono ?_
    rintro e W1 ⟨rfl, A1, B1, q1, rfl⟩
    go_wp2_with fail
    refine (z2 _).mono ?_
    rintro e W2 ⟨rfl, A2, B2, q2, rfl⟩
    go_wp2_with fail
    refine (d1 _).mono ?_
    rintro e W3 ⟨rfl, rfl⟩
    go_wp2_with fail
    refine (d2 _).mono ?_
    rintro e W4 ⟨rfl, rfl⟩
    go_wp2
    go_ret
    exact ⟨rfl, grown_four w A1 B1 q1 A2 B2 q2⟩
  · go_enter Try.func4, Try.ntmps4
    go_wp2
    go_ret
    exact ⟨rfl, Grown.refl _⟩

/-! ### THE ROW's STEP: WRITTEN OUT: LEAVE IT -/
set_option maxRecDepth 100000 in
theorem lifted (os : Os) (started : os.Started) (H : Type) (enc : TypeId × Value → H) :
    ReturnsInHanded {} Try.checked os 4 .any (Rows.fnEventArrivalTagMarksOnlyPadSpec.pre6 enc Try.prog Try.f4 Rows.fnEventArrivalTagMarksOnlyPadRow.domain false) (Rows.fnEventArrivalTagMarksOnlyPadSpec.post enc Try.prog Try.f4 false true false false) := by
  refine returnsInHanded_of_change (C := Try.checked) own started (by kernel_rfl) Try.func4
    (ChangeSpec.witness6 (enc := enc) (C := Try.checked) false ⟨#[], #[.int .u32 0, .int .u64 0], []⟩ 8 (by kernel_rfl) (by kernel_rfl) (by kernel_rfl) (by kernel_rfl)) ?_
  intro W base args ds gs before hval0 hW hcnd _
  have hval : ∀ (j : Nat) t v, Try.f4.params[j]? = some t → args[j]? = some v → Value.okWide Try.prog W .any base t v := hval0
  have hW' := hW
  obtain ⟨p, q, hA0, hV, rfl, hfz, hnd⟩ := hW
  have hA : DataW.TrodAll enc Try.prog W 0 (fun _ => true) true Try.f4.params.toList args.toList ds p := hA0
  rw [Try.params4] at hA hval
  obtain ⟨v0, vs0, d0, ds0, p0, q0, hargs, rfl, rfl, h0, r0⟩ := trodAll_cons hA
  obtain ⟨v1, vs1, d1, ds1, p1, q1, rfl, rfl, rfl, h1, r1⟩ := trodAll_cons r0
  obtain ⟨rfl, rfl, rfl⟩ := trodAll_nil r1
  obtain rfl : args = #[v0, v1] := by cases args; simp_all
  obtain ⟨rfl, rfl⟩ := trodVars_none hV
  obtain ⟨a0, rfl, rfl, rfl, w0⟩ := open_int Try.underlying22 (hval 0 22 v0 rfl rfl) h0
  obtain ⟨a1, rfl, rfl, rfl, w1⟩ := open_int Try.underlying23 (hval 1 23 v1 rfl rfl) h1
  clear hA0 hval0
  simp only [List.append_nil] at hW'
  refine (walk a0 a1 w0 w1 W).mono fun e W' ⟨he, hg⟩ => ?_
  subst he
  exact ⟨_, rfl, post_of_same (pa := []) (pv := []) hW' (fun _ _ _ => (trodAll_cons_mk (shut_bool Try.underlying4 _) trodAll_mk0)) (fun sp _ => (trodAll_cons_mk (shut_int Try.underlying22 w0) (trodAll_cons_mk (shut_int Try.underlying23 w1) trodAll_mk0))) (fun _ _ => rfl) rfl
    (hg.frame _) hg.2.1 (ok_one (by kernel_rfl) rfl (okWide_bool_mk Try.underlying4 _))⟩

theorem over : Rows.fnEventArrivalTagMarksOnlyPadRow.holds Try.pinned (OpenSpec.ofChange Rows.fnEventArrivalTagMarksOnlyPadSpec) :=
  OpenClaim.holds_of_wide 4 Try.f4 rfl rfl rfl rfl rfl rfl rfl ⟨rfl, rfl, rfl, rfl, rfl⟩ rfl rfl rfl rfl rfl (by kernel_rfl) Try.func4 (by kernel_rfl)
    (of_decide_eq_true (by kernel_rfl)) (by unfold Func.isWrapper; first | (rw [if_pos (by decide +kernel)]; kernel_rfl) | (rw [if_neg (by decide +kernel)]; exact ⟨rfl, rfl⟩))
    (fun os started H enc _ => lifted os started H enc)

/-- ████ THE STATEMENT ████ -/
theorem proved : Rows.FnEventArrivalTagMarksOnlyPadSaid :=
  over
end Go.Proofs.Qxb6608691a.fnEventArrivalTagMarksOnlyPad
