/-
  'Rows.FnEventInjectiveAndDecodesSaid' PROVED. The frame is the shell that was given; the walk is ours.
-/
import Derived.Test.Qxb6608691aEvent
import Derived.OpenShut
import Derived.ShutString
namespace Go.Proofs.Qxb6608691a.fnEventInjectiveAndDecodes
open Go.ChangeShapes Go.WideShapes Go.ChangeAt Go.RowKit
open Go.ChangeMaps (open_string shut_string)
set_option linter.unusedVariables false      -- a walk need not use every 'w<i>' (that an integer argument fits its kind)

theorem own : ownKnob Try.prog.godebug = none := by kernel_rfl

/-! ### STEP 1: THE WALK: the Go text returns true. 'Grown w w'': the world has at most new blocks (Derived/RowKit3.lean). Part the cases AHEAD of 'go_enter' where a test parts the walk; take each callee by a contract of your own. -/
theorem walk (a0 : Int) (a1 : Int) (a2 : Int) (a3 : Int) (w0 : (Lit.int .u32 a0).wf = true) (w1 : (Lit.int .u64 a1).wf = true) (w2 : (Lit.int .u32 a2).wf = true) (w3 : (Lit.int .u64 a3).wf = true) (w : World) :
    Calls Try.prog 3 #[.int .u32 a0, .int .u64 a1, .int .u32 a2, .int .u64 a3] w fun e w' => e = .returned (.bool true) ∧ Grown w w' := by
  have b1 := bounds_u64 w1
  have b3 := bounds_u64 w3
  have z1 := zzevent_any a0 a1 w b1.1 b1.2
  have z2 := fun W => zzevent_any a2 a3 W b3.1 b3.2
  have d1 := fun W => decode_any (wrap32 a1) (wrap32 (a1 / 4294967296)) W
  have d2 := fun W => decode_any (wrap32 a3) (wrap32 (a3 / 4294967296)) W
  rw [dec_of a1 b1.1 b1.2] at d1
  rw [dec_of a3 b3.1 b3.2] at d2
  have hid : wrap32 a1 = wrap32 a3 → wrap32 (a1 / 4294967296) = wrap32 (a3 / 4294967296) → a1 = a3 := id_of_halves a1 a3 b1.1 b1.2 b3.1 b3.2
  have hid2 : a1 = a3 → wrap32 a1 = wrap32 a3 ∧ wrap32 (a1 / 4294967296) = wrap32 (a3 / 4294967296) := fun h => by rw [h]; exact ⟨rfl, rfl⟩
  generalize wrap32 a1 = f1 at *
  generalize wrap32 (a1 / 4294967296) = p1 at *
  generalize wrap32 a3 = f2 at *
  generalize wrap32 (a3 / 4294967296) = p2 at *
  clear w0 w1 w2 w3 b1 b3
  by_cases hf : f1 = f2 ∧ p1 = p2
  · obtain ⟨rfl, rfl⟩ := hf
    obtain rfl := hid rfl rfl
    clear hid hid2
    by_cases he : a0 = a2
    · subst he
      go_enter Try.func3, Try.ntmps3
      go_wp2_with fail
      refine z1.mono ?_
      rintro e W1 ⟨rfl, A1, B1, q1, rfl⟩
      go_wp2_with fail
      refine (z2 _).mono ?_
      rintro e W2 ⟨rfl, A2, B2, q2, rfl⟩
      go_wp2_with fail
      refine (d1 _).mono ?_
      rintro e W3 ⟨rfl, rfl⟩
      go_wp2_with fail
      refine (d2 _).mono ?_
      rintro e W4 ⟨rfl, rfl⟩
      go_wp2
      go_ret
      exact ⟨rfl, grown_four w A1 B1 q1 A2 B2 q2⟩
    · have hne : (a0 == a2) = false := by simpa using he
      go_enter Try.func3, Try.ntmps3
      go_wp2_with fail
      refine z1.mono ?_
      rintro e W1 ⟨rfl, A1, B1, q1, rfl⟩
      go_wp2_with fail
      refine (z2 _).mono ?_
      rintro e W2 ⟨rfl, A2, B2, q2, rfl⟩
      go_wp2_with fail
      refine (d1 _).mono ?_
      rintro e W3 ⟨rfl, rfl⟩
      go_wp2_with fail
      refine (d2 _).mono ?_
      rintro e W4 ⟨rfl, rfl⟩
      go_wp2
      go_ret
      exact ⟨rfl, grown_four w A1 B1 q1 A2 B2 q2⟩
  · have hni : ¬ a1 = a3 := fun h => hf (hid2 h)
    have hne3 : (a1 == a3) = false := by simpa using hni
    clear hid hid2 hni
    by_cases he : a0 = a2
    · subst he
      by_cases hf1 : f1 = f2
      · have hp1 : (p1 == p2) = false := by simpa using fun h => hf ⟨hf1, h⟩
        subst hf1
        clear hf
        go_enter Try.func3, Try.ntmps3
        go_wp2_with fail
        refine z1.mono ?_
        rintro e W1 ⟨rfl, A1, B1, q1, rfl⟩
        go_wp2_with fail
        refine (z2 _).mono ?_
        rintro e W2 ⟨rfl, A2, B2, q2, rfl⟩
        go_wp2_with fail
        refine (d1 _).mono ?_
        rintro e W3 ⟨rfl, rfl⟩
        go_wp2_with fail
        refine (d2 _).mono ?_
        rintro e W4 ⟨rfl, rfl⟩
        go_wp2
        go_ret
        exact ⟨rfl, grown_four w A1 B1 q1 A2 B2 q2⟩
      · have hf2 : (f1 == f2) = false := by simpa using hf1
        clear hf
        go_enter Try.func3, Try.ntmps3
        go_wp2_with fail
        refine z1.mono ?_
        rintro e W1 ⟨rfl, A1, B1, q1, rfl⟩
        go_wp2_with fail
        refine (z2 _).mono ?_
        rintro e W2 ⟨rfl, A2, B2, q2, rfl⟩
        go_wp2_with fail
        refine (d1 _).mono ?_
        rintro e W3 ⟨rfl, rfl⟩
        go_wp2_with fail
        refine (d2 _).mono ?_
        rintro e W4 ⟨rfl, rfl⟩
        go_wp2
        go_ret
        exact ⟨rfl, grown_four w A1 B1 q1 A2 B2 q2⟩
    · have hne : (a0 == a2) = false := by simpa using he
      clear hf
      go_enter Try.func3, Try.ntmps3
      go_wp2_with fail
      refine z1.mono ?_
      rintro e W1 ⟨rfl, A1, B1, q1, rfl⟩
      go_wp2_with fail
      refine (z2 _).mono ?_
      rintro e W2 ⟨rfl, A2, B2, q2, rfl⟩
      go_wp2_with fail
      refine (d1 _).mono ?_
      rintro e W3 ⟨rfl, rfl⟩
      go_wp2_with fail
      refine (d2 _).mono ?_
      rintro e W4 ⟨rfl, rfl⟩
      go_wp2
      go_ret
      exact ⟨rfl, grown_four w A1 B1 q1 A2 B2 q2⟩

/-! ### THE ROW's STEP: WRITTEN OUT: LEAVE IT -/
set_option maxRecDepth 100000 in
theorem lifted (os : Os) (started : os.Started) (H : Type) (enc : TypeId × Value → H) :
    ReturnsInHanded {} Try.checked os 3 .any (Rows.fnEventInjectiveAndDecodesSpec.pre6 enc Try.prog Try.f3 Rows.fnEventInjectiveAndDecodesRow.domain false) (Rows.fnEventInjectiveAndDecodesSpec.post enc Try.prog Try.f3 false true false false) := by
  refine returnsInHanded_of_change (C := Try.checked) own started (by kernel_rfl) Try.func3
    (ChangeSpec.witness6 (enc := enc) (C := Try.checked) false ⟨#[], #[.int .u32 0, .int .u64 0, .int .u32 0, .int .u64 0], []⟩ 8 (by kernel_rfl) (by kernel_rfl) (by kernel_rfl) (by kernel_rfl)) ?_
  intro W base args ds gs before hval0 hW hcnd _
  have hval : ∀ (j : Nat) t v, Try.f3.params[j]? = some t → args[j]? = some v → Value.okWide Try.prog W .any base t v := hval0
  have hW' := hW
  obtain ⟨p, q, hA0, hV, rfl, hfz, hnd⟩ := hW
  have hA : DataW.TrodAll enc Try.prog W 0 (fun _ => true) true Try.f3.params.toList args.toList ds p := hA0
  rw [Try.params3] at hA hval
  obtain ⟨v0, vs0, d0, ds0, p0, q0, hargs, rfl, rfl, h0, r0⟩ := trodAll_cons hA
  obtain ⟨v1, vs1, d1, ds1, p1, q1, rfl, rfl, rfl, h1, r1⟩ := trodAll_cons r0
  obtain ⟨v2, vs2, d2, ds2, p2, q2, rfl, rfl, rfl, h2, r2⟩ := trodAll_cons r1
  obtain ⟨v3, vs3, d3, ds3, p3, q3, rfl, rfl, rfl, h3, r3⟩ := trodAll_cons r2
  obtain ⟨rfl, rfl, rfl⟩ := trodAll_nil r3
  obtain rfl : args = #[v0, v1, v2, v3] := by cases args; simp_all
  obtain ⟨rfl, rfl⟩ := trodVars_none hV
  obtain ⟨a0, rfl, rfl, rfl, w0⟩ := open_int Try.underlying22 (hval 0 22 v0 rfl rfl) h0
  obtain ⟨a1, rfl, rfl, rfl, w1⟩ := open_int Try.underlying23 (hval 1 23 v1 rfl rfl) h1
  obtain ⟨a2, rfl, rfl, rfl, w2⟩ := open_int Try.underlying22 (hval 2 22 v2 rfl rfl) h2
  obtain ⟨a3, rfl, rfl, rfl, w3⟩ := open_int Try.underlying23 (hval 3 23 v3 rfl rfl) h3
  clear hA0 hval0
  simp only [List.append_nil] at hW'
  refine (walk a0 a1 a2 a3 w0 w1 w2 w3 W).mono fun e W' ⟨he, hg⟩ => ?_
  subst he
  exact ⟨_, rfl, post_of_same (pa := []) (pv := []) hW' (fun _ _ _ => (trodAll_cons_mk (shut_bool Try.underlying4 _) trodAll_mk0)) (fun sp _ => (trodAll_cons_mk (shut_int Try.underlying22 w0) (trodAll_cons_mk (shut_int Try.underlying23 w1) (trodAll_cons_mk (shut_int Try.underlying22 w2) (trodAll_cons_mk (shut_int Try.underlying23 w3) trodAll_mk0))))) (fun _ _ => rfl) rfl
    (hg.frame _) hg.2.1 (ok_one (by kernel_rfl) rfl (okWide_bool_mk Try.underlying4 _))⟩

theorem over : Rows.fnEventInjectiveAndDecodesRow.holds Try.pinned (OpenSpec.ofChange Rows.fnEventInjectiveAndDecodesSpec) :=
  OpenClaim.holds_of_wide 3 Try.f3 rfl rfl rfl rfl rfl rfl rfl ⟨rfl, rfl, rfl, rfl, rfl⟩ rfl rfl rfl rfl rfl (by kernel_rfl) Try.func3 (by kernel_rfl)
    (of_decide_eq_true (by kernel_rfl)) (by unfold Func.isWrapper; first | (rw [if_pos (by decide +kernel)]; kernel_rfl) | (rw [if_neg (by decide +kernel)]; exact ⟨rfl, rfl⟩))
    (fun os started H enc _ => lifted os started H enc)

/-- ████ THE STATEMENT ████ -/
theorem proved : Rows.FnEventInjectiveAndDecodesSaid :=
  over
end Go.Proofs.Qxb6608691a.fnEventInjectiveAndDecodes
