/-
  'Rows.FnPlaceFindsRequestByIdentitySaid' PROVED. The frame is the shell that was given; the walk is ours.
-/
import Derived.Test.Qxb6605877aPlace
import Derived.ProofKit
import Derived.OpenShut
import Derived.ShutString
import Derived.ChangeOld
import Derived.Below
namespace Go.Proofs.Qxb6605877a.fnPlaceFindsRequestByIdentity
open Go.ChangeShapes Go.WideShapes Go.ChangeAt Go.RowKit
open Go.ChangeMaps (open_string shut_string)
set_option linter.unusedVariables false

theorem own : ownKnob Try.prog.godebug = none := by kernel_rfl
theorem laidOut : laidOutB Try.prog = true := by kernel_rfl

/-- WHAT THE WALK IS TOLD OF A SLICE OF INTEGERS THAT CAME IN: it is nil; or it leads to a row of 'cap' cells, the numbers 'zs' (the first 'len' are its elements, the rest its spare room), each fitting its kind. -/
def IsRow (k : IntKind) (w : World) (a : Option Addr) (len cap : Nat) (zs : List Int) : Prop :=
  (a = none ∧ len = 0 ∧ cap = 0 ∧ zs = []) ∨
  ∃ x, a = some x ∧ len ≤ cap ∧ cap ≤ maxLen ∧ zs.length = cap ∧ (∀ i, i < zs.length → w.cell? (x.add i) = some (.int k (zs.getD i 0))) ∧ ∀ n ∈ zs, (Lit.int k n).wf = true

/-- What the walk wants of the slice that came in. -/
theorem row_view {w : World} {a : Option Addr} {len cap : Nat} {zs : List Int} {f : Nat → Int} (h : IsRow .u64 w a len cap zs) (hf : ∀ i, f i = zs.getD i 0 := by intro i; rfl) :
    (a = none ∧ len = 0 ∧ cap = 0) ∨ ∃ x, a = some x ∧ ∀ i, i < len → w.cell? (x.add i) = some (.int .u64 (f i)) := by
  rcases h with ⟨h1, h2, h3, _⟩ | ⟨x, h1, h2, _, h4, h5, _⟩
  · exact .inl ⟨h1, h2, h3⟩
  · exact .inr ⟨x, h1, fun i hi => by rw [hf]; exact h5 i (by omega)⟩

/-! ### STEP 1: THE WALK: the Go text returns true, AND WRITES NOTHING THAT WAS THERE: 'Below w.heap.size w w'' (Derived/Below.lean: '.refl', '.alloc', '.drew', '.setCell' at a new block, '.trans'). Open each 'IsRow' by 'rcases' AHEAD of 'go_enter'; part every test ahead of the walk. -/
theorem walk (a0 : Option Addr) (len0 cap0 : Nat) (z0 : List Int) (a1 : Int) (a2 : Int) (w : World) (w0 : IsRow .u64 w a0 len0 cap0 z0) (w1 : (Lit.int .i64 a1).wf = true) (w2 : (Lit.int .u64 a2).wf = true) :
    Calls Try.prog 4 #[.slice a0 len0 cap0, .int .i64 a1, .int .u64 a2] w fun e w' => e = .returned (.bool true) ∧ Below w.heap.size w w' := by
  have hv := row_view (f := fun i => z0.getD i 0) w0
  by_cases h16 : len0 ≤ 65536
  · go_enter Try.func4, Try.ntmps4
    go_wp2_with (go_at_call 9; go_in)
    refine (clone_row a0 len0 cap0 (fun i => z0.getD i 0) w (by omega) hv).mono ?_
    rintro e w1' ⟨a', c', rfl, hrow, hb1⟩
    clear hv w0
    go_wp2_with fail
    refine (nondec_row a' len0 c' (fun i => z0.getD i 0) w1' (by omega) hrow).mono ?_
    rintro e w2' ⟨r, rfl, hmono, q, hw2⟩
    have hb2 : Below w.heap.size w w2' := by rw [hw2]; exact below_drawn hb1 _
    have hrow2 : Row w2' a' len0 (fun i => z0.getD i 0) := by rw [hw2]; exact hrow
    clear hw2 hrow hb1
    cases r
    · go_wp2
      go_ret
      exact ⟨rfl, hb2⟩
    have hm : ∀ a b, a ≤ b → b < len0 → z0.getD a 0 ≤ z0.getD b 0 := hmono rfl
    clear hmono
    go_wp2_with fail
    refine (queue_any a' len0 c' (fun i => z0.getD i 0) w2' (by omega) hrow2).mono ?_
    rintro e w3' ⟨rfl, hq, hreq, hb3, hs3⟩
    have hsz : w2'.heap.size < w3'.heap.size := by omega
    have hb : Below w.heap.size w w3' := hb2.trans (hb3.mono hb2.size)
    have HS : Hid (w3'.heap.size = w2'.heap.size + 1 + len0) := hs3
    have HM : Hid (∀ a b, a ≤ b → b < len0 → z0.getD a 0 ≤ z0.getD b 0) := hm
    clear hs3 hm hrow2 hb2 hb3
    have hX : ∀ o, Below w3'.heap.size w3' (w3'.alloc o) := fun o => (Below.refl _ _).alloc (Nat.le_refl _) o
    have HC : Hid (∀ o i, i < len0 → (w3'.alloc o).cell? ⟨w2'.heap.size, i, none⟩ = some (.pointer (some ⟨w2'.heap.size + 1 + i, 0, none⟩))) := fun o i hi => (hq.alloc o).cell hi
    have HQ : Hid (∀ o i, i < len0 → ReqAt (w3'.alloc o) (w2'.heap.size + 1 + i) (z0.getD i 0)) := fun o i hi => (hreq i hi).below (hX o)
    have HB : Hid (∀ o, Below w.heap.size w (w3'.alloc o)) := fun o => hb.alloc hb.size o
    clear hX hreq
    by_cases hpk : 0 ≤ a1 ∧ a1 < len0
    · obtain ⟨p, rfl⟩ : ∃ p : Nat, a1 = p := ⟨a1.toNat, by omega⟩
      have hp : p < len0 := by omega
      have hpz : (p : Int) < (len0 : Int) := by omega
      have hcp := hq.cell hp
      clear hpk hq
      go_wp2_with (first | (go_at_call 13; go_in) | (go_at_call 14; go_in))
      refine (place_any w2'.heap.size len0 len0 (w2'.heap.size + 1 + p) (fun i => w2'.heap.size + 1 + i) (fun i => z0.getD i 0) (z0.getD p 0) _ (by omega) p (fun i hi => HC.out _ i hi) (fun i hi => HQ.out _ i hi) (HQ.out _ p hp) HM.out (.inl ⟨p, hp, rfl, rfl, fun j _ e => by omega⟩)).mono ?_
      rintro e w4 ⟨rfl, hb4⟩
      go_wp2
      go_ret
      refine ⟨?_, (HB.out _).trans (hb4.mono (HB.out _).size)⟩
      simp
    · have hno : ∀ j, j < len0 → w2'.heap.size + 1 + j ≠ w3'.heap.size := fun j hj => by have := HS.out; omega
      have HN : Hid (∀ j, j < len0 → w2'.heap.size + 1 + j ≠ w3'.heap.size) := hno
      clear hq hno
      rcases (show (a1 < 0) ∨ (0 ≤ a1 ∧ (len0 : Int) ≤ a1) by omega) with hk | ⟨hk, hk2⟩
      all_goals
        clear hpk
        go_wp2_with (first | (go_at_call 13; go_in) | (go_at_call 14; go_in))
        refine (place_any w2'.heap.size len0 len0 w3'.heap.size (fun i => w2'.heap.size + 1 + i) (fun i => z0.getD i 0) a2 _ (by omega) (-1) (fun i hi => HC.out _ i hi) (fun i hi => HQ.out _ i hi) (reqAt_new _ _ _ rfl) HM.out (.inr ⟨rfl, HN.out⟩)).mono ?_
        rintro e w4 ⟨rfl, hb4⟩
        go_wp2
        go_ret
        refine ⟨?_, (HB.out _).trans (hb4.mono (HB.out _).size)⟩
        simp
  · go_enter Try.func4, Try.ntmps4
    by_cases h20 : len0 ≤ 1048576
    · go_wp2
      go_ret
      exact ⟨rfl, Below.refl _ _⟩
    · go_wp2
      go_ret
      exact ⟨rfl, Below.refl _ _⟩

/-! ### THE ROW's STEP: WRITTEN OUT: LEAVE IT -/
set_option maxRecDepth 100000 in
theorem lifted (os : Os) (started : os.Started) (H : Type) (enc : TypeId × Value → H) :
    ReturnsInHanded {} Try.checked os 4 .any (Rows.fnPlaceFindsRequestByIdentitySpec.pre6 enc Try.prog Try.f4 Rows.fnPlaceFindsRequestByIdentityRow.domain false) (Rows.fnPlaceFindsRequestByIdentitySpec.post enc Try.prog Try.f4 false true false false) := by
  refine returnsInHanded_of_change (C := Try.checked) own started (by kernel_rfl) Try.func4
    (ChangeSpec.witness6 (enc := enc) (C := Try.checked) false ⟨#[], #[.slice none 0 0, .int .i64 0, .int .u64 0], []⟩ 8 (by kernel_rfl) (by kernel_rfl) (by kernel_rfl) (by kernel_rfl)) ?_
  intro W base args ds gs before hval0 hW hcnd _
  have hval : ∀ (j : Nat) t v, Try.f4.params[j]? = some t → args[j]? = some v → Value.okWide Try.prog W .any base t v := hval0
  have hW' := hW
  obtain ⟨p, q, hA0, hV, rfl, hfz, hnd⟩ := hW
  have hA : DataW.TrodAll enc Try.prog W 0 (fun _ => true) true Try.f4.params.toList args.toList ds p := hA0
  rw [Try.params4] at hA hval
  obtain ⟨v0, vs0, d0, ds0, p0, q0, hargs, rfl, rfl, h0, r0⟩ := trodAll_cons hA
  obtain ⟨v1, vs1, d1, ds1, p1, q1, rfl, rfl, rfl, h1, r1⟩ := trodAll_cons r0
  obtain ⟨v2, vs2, d2, ds2, p2, q2, rfl, rfl, rfl, h2, r2⟩ := trodAll_cons r1
  obtain ⟨rfl, rfl, rfl⟩ := trodAll_nil r2
  obtain rfl : args = #[v0, v1, v2] := by cases args; simp_all
  obtain ⟨rfl, rfl⟩ := trodVars_none hV
  obtain ⟨a0, len0, cap0, rfl⟩ := okWide_slice Try.underlying41 (hval 0 41 v0 rfl rfl)
  have k0 := h0
  have lt0 : ∀ x ∈ p0, x.block < W.heap.size := by obtain ⟨m, hm⟩ := k0; exact DataW.trod_lt m _ _ _ hm
  obtain ⟨z0, w0⟩ : ∃ zs, IsRow .u64 W a0 len0 cap0 zs := by
    obtain ⟨fuel, hf⟩ := h0
    rcases open_ints Try.underlying41 Try.underlying22 (by kernel_rfl) hf with ⟨hcs, _⟩ | ⟨x, l, c, zs, hcs, _, hl, hm, hz, _, hcell, hwz⟩
    · simp [Value.cells] at hcs
      obtain ⟨rfl, rfl, rfl⟩ := hcs
      exact ⟨[], .inl ⟨rfl, rfl, rfl, rfl⟩⟩
    · simp [Value.cells] at hcs
      obtain ⟨rfl, rfl, rfl⟩ := hcs
      exact ⟨zs, .inr ⟨_, rfl, hl, hm, by simpa using hz, hcell, hwz⟩⟩
  obtain ⟨a1, rfl, rfl, rfl, w1⟩ := open_int Try.underlying3 (hval 1 3 v1 rfl rfl) h1
  obtain ⟨a2, rfl, rfl, rfl, w2⟩ := open_int Try.underlying22 (hval 2 22 v2 rfl rfl) h2
  clear hA0 hval0
  refine (walk a0 len0 cap0 z0 a1 a2 W w0 w1 w2).mono fun e W' ⟨he, bel⟩ => ?_
  subst he
  exact ⟨_, rfl, _, _, _, [], _, [], hW', trodAll_mk1 (shut_bool Try.underlying4 _), (trodAll_cons_mk (Below.trod laidOut (by kernel_rfl) (of_decide_eq_true (by kernel_rfl)) k0 bel lt0) (trodAll_cons_mk (shut_int Try.underlying3 w1) (trodAll_cons_mk (shut_int Try.underlying22 w2) trodAll_mk0))), rfl, bel.frame _, fun h => by cases h⟩

theorem over : Rows.fnPlaceFindsRequestByIdentityRow.holds Try.pinned (OpenSpec.ofChange Rows.fnPlaceFindsRequestByIdentitySpec) :=
  OpenClaim.holds_of_wide 4 Try.f4 rfl rfl rfl rfl rfl rfl rfl ⟨rfl, rfl, rfl, rfl, rfl⟩ rfl rfl rfl rfl rfl (by kernel_rfl) Try.func4 (by kernel_rfl)
    (of_decide_eq_true (by kernel_rfl)) (by unfold Func.isWrapper; first | (rw [if_pos (by decide +kernel)]; kernel_rfl) | (rw [if_neg (by decide +kernel)]; exact ⟨rfl, rfl⟩))
    (fun os started H enc _ => lifted os started H enc)

/-- ████ THE STATEMENT ████ -/
theorem proved : Rows.FnPlaceFindsRequestByIdentitySaid := over
end Go.Proofs.Qxb6605877a.fnPlaceFindsRequestByIdentity
