/-
  'Rows.FnPlaceInMergedQueueSaid' PROVED. The frame is the shell that was given; the walk is ours.
-/
import Derived.Test.Qxb6605877aMergeJoin
import Derived.ProofKit
import Derived.OpenShut
import Derived.ShutString
import Derived.ChangeOld
import Derived.Below
namespace Go.Proofs.Qxb6605877a.fnPlaceInMergedQueue
open Go.ChangeShapes Go.WideShapes Go.ChangeAt Go.RowKit
open Go.ChangeMaps (open_string shut_string)
set_option linter.unusedVariables false

theorem own : ownKnob Try.prog.godebug = none := by kernel_rfl
theorem laidOut : laidOutB Try.prog = true := by kernel_rfl

/-- WHAT THE WALK IS TOLD OF A SLICE OF INTEGERS THAT CAME IN: it is nil; or it leads to a row of 'cap' cells, the numbers 'zs' (the first 'len' are its elements, the rest its spare room), each fitting its kind. -/
def IsRow (k : IntKind) (w : World) (a : Option Addr) (len cap : Nat) (zs : List Int) : Prop :=
  (a = none ∧ len = 0 ∧ cap = 0 ∧ zs = []) ∨
  ∃ x, a = some x ∧ len ≤ cap ∧ cap ≤ maxLen ∧ zs.length = cap ∧ (∀ i, i < zs.length → w.cell? (x.add i) = some (.int k (zs.getD i 0))) ∧ ∀ n ∈ zs, (Lit.int k n).wf = true

/-- What the walk wants of the slice that came in. -/
theorem row_view {w : World} {a : Option Addr} {len cap : Nat} {zs : List Int} {f : Nat → Int} (h : IsRow .u64 w a len cap zs) (hf : ∀ i, f i = zs.getD i 0 := by intro i; rfl) :
    (a = none ∧ len = 0 ∧ cap = 0) ∨ ∃ x, a = some x ∧ ∀ i, i < len → w.cell? (x.add i) = some (.int .u64 (f i)) := by
  rcases h with ⟨h1, h2, h3, _⟩ | ⟨x, h1, h2, _, h4, h5, _⟩
  · exact .inl ⟨h1, h2, h3⟩
  · exact .inr ⟨x, h1, fun i hi => by rw [hf]; exact h5 i (by omega)⟩
theorem view_below {w w' : World} {a : Option Addr} {n c : Nat} {f : Nat → Int} (h : (a = none ∧ n = 0 ∧ c = 0) ∨ ∃ x, a = some x ∧ ∀ i, i < n → w.cell? (x.add i) = some (.int .u64 (f i))) (hb : Below w.heap.size w w') :
    (a = none ∧ n = 0 ∧ c = 0) ∨ ∃ x, a = some x ∧ ∀ i, i < n → w'.cell? (x.add i) = some (.int .u64 (f i)) := by
  rcases h with h | ⟨x, h1, h2⟩
  · exact .inl h
  · exact .inr ⟨x, h1, fun i hi => (hb.cell (World.block_lt_of_cell? _ _ (h2 i hi))).trans (h2 i hi)⟩

/-! ### STEP 1: THE WALK: the Go text returns true, AND WRITES NOTHING THAT WAS THERE: 'Below w.heap.size w w'' (Derived/Below.lean: '.refl', '.alloc', '.drew', '.setCell' at a new block, '.trans'). Open each 'IsRow' by 'rcases' AHEAD of 'go_enter'; part every test ahead of the walk. -/
set_option maxHeartbeats 1600000 in
theorem walk (a0 : Option Addr) (len0 cap0 : Nat) (z0 : List Int) (a1 : Option Addr) (len1 cap1 : Nat) (z1 : List Int) (a2 : Int) (w : World) (w0 : IsRow .u64 w a0 len0 cap0 z0) (w1 : IsRow .u64 w a1 len1 cap1 z1) (w2 : (Lit.int .i64 a2).wf = true) :
    Calls Try.prog 5 #[.slice a0 len0 cap0, .slice a1 len1 cap1, .int .i64 a2] w fun e w' => e = .returned (.bool true) ∧ Below w.heap.size w w' := by
  obtain ⟨f0, hv0⟩ : ∃ f0 : Nat → Int, (a0 = none ∧ len0 = 0 ∧ cap0 = 0) ∨ ∃ x, a0 = some x ∧ ∀ i, i < len0 → w.cell? (x.add i) = some (.int .u64 (f0 i)) := ⟨fun i => z0.getD i 0, row_view w0⟩
  obtain ⟨f1, hv1⟩ : ∃ f1 : Nat → Int, (a1 = none ∧ len1 = 0 ∧ cap1 = 0) ∨ ∃ x, a1 = some x ∧ ∀ i, i < len1 → w.cell? (x.add i) = some (.int .u64 (f1 i)) := ⟨fun i => z1.getD i 0, row_view w1⟩
  have hbd := bounds_i64 w2
  clear w0 w1
  by_cases hsz : len0 ≤ 65536 ∧ len1 ≤ 65536
  · obtain ⟨hs0, hs1⟩ := hsz
    have hsum : (len0 : Int) + (len1 : Int) ≤ 1048576 := by omega
    have hsum0 : (len0 : Int) ≤ 1048576 := by omega
    have hsum1 : (len1 : Int) ≤ 1048576 := by omega
    go_enter Try.func5, Try.ntmps5
    go_wp2_with (go_at_call 15; go_in)
    refine (clone_row a0 len0 cap0 f0 w (by omega) hv0).mono ?_
    rintro e W1 ⟨q', c0, rfl, hrow0, hb1⟩
    have hv1' : (a1 = none ∧ len1 = 0 ∧ cap1 = 0) ∨ ∃ x, a1 = some x ∧ ∀ i, i < len1 → W1.cell? (x.add i) = some (.int .u64 (f1 i)) := view_below hv1 hb1
    clear hv0 hv1
    go_wp2_with fail
    refine (clone_row a1 len1 cap1 f1 W1 (by omega) hv1').mono ?_
    rintro e W2 ⟨k', c1, rfl, hrow1, hb2⟩
    have hrow0' := hrow0.below hb2
    have hbB : Below w.heap.size w W2 := hb1.trans (hb2.mono hb1.size)
    clear hrow0 hb1 hb2 hv1'
    go_wp2_with fail
    refine (nondec_row q' len0 c0 f0 W2 (by omega) hrow0').mono ?_
    rintro e W3 ⟨r, rfl, hm0, qq, hw3⟩
    have hbC : Below w.heap.size w W3 := by rw [hw3]; exact below_drawn hbB _
    have hrA : Row W3 q' len0 f0 := by rw [hw3]; exact hrow0'
    have hrB : Row W3 k' len1 f1 := by rw [hw3]; exact hrow1
    clear hw3 hrow0' hrow1 hbB
    cases r
    · go_wp2
      go_ret
      exact ⟨rfl, hbC⟩
    have HM0 : Aside (∀ a b, a ≤ b → b < len0 → f0 a ≤ f0 b) := hm0 rfl
    clear hm0
    go_wp2_with fail
    refine (nondec_row k' len1 c1 f1 W3 (by omega) hrB).mono ?_
    rintro e W4 ⟨r, rfl, hm1, qq2, hw4⟩
    have hbD : Below w.heap.size w W4 := by rw [hw4]; exact below_drawn hbC _
    have hrA' : Row W4 q' len0 f0 := by rw [hw4]; exact hrA
    have hrB' : Row W4 k' len1 f1 := by rw [hw4]; exact hrB
    clear hw4 hrA hrB hbC
    cases r
    · go_wp2
      go_ret
      exact ⟨rfl, hbD⟩
    have HM1 : Aside (∀ a b, a ≤ b → b < len1 → f1 a ≤ f1 b) := hm1 rfl
    clear hm1
    go_wp2_with fail
    refine (queue_any q' len0 c0 f0 W4 (by omega) hrA').mono ?_
    rintro e W5 ⟨rfl, hq5, hreq5, hb5, hs5⟩
    have HQ0 : Aside (Queue W5 W4.heap.size (qlist W4.heap.size len0 f0)) := qlist_queue hq5 hreq5
    have hrA5 := hrA'.below hb5
    have hrB5 := hrB'.below hb5
    have hbE : Below w.heap.size w W5 := hbD.trans (hb5.mono hbD.size)
    have HS5 : Aside (W5.heap.size = W4.heap.size + 1 + len0) := hs5
    clear hq5 hreq5 hb5 hs5 hrA' hrB' hbD
    go_wp2_with fail
    refine (queue_any k' len1 c1 f1 W5 (by omega) hrB5).mono ?_
    rintro e W6 ⟨rfl, hq6, hreq6, hb6, hs6⟩
    have HQ1 : Aside (Queue W6 W5.heap.size (qlist W5.heap.size len1 f1)) := qlist_queue hq6 hreq6
    have HQ0' : Aside (Queue W6 W4.heap.size (qlist W4.heap.size len0 f0)) := HQ0.out.below hb6
    have hrA6 := hrA5.below hb6
    have hrB6 := hrB5.below hb6
    have hbF : Below w.heap.size w W6 := hbE.trans (hb6.mono hbE.size)
    have HS6 : Aside (W6.heap.size = W5.heap.size + 1 + len1) := hs6
    clear hq6 hreq6 hb6 hs6 hrA5 hrB5 hbE HQ0
    go_wp2_with (go_at_call 16; go_in)
    refine (merge_any W4.heap.size W5.heap.size len0 len1 _ _ W6 hs0 hs1 (qlist_length _ _ _) (qlist_length _ _ _) HQ0'.out HQ1.out).mono ?_
    rintro e W7 ⟨g, c, rfl, hq7, hb7⟩
    have hX : ∀ o, Below W7.heap.size W7 (W7.alloc o) := fun o => (Below.refl _ _).alloc (Nat.le_refl _) o
    have HQ : Aside (∀ o, Queue (W7.alloc o) g (mrg (len0 + len1) (qlist W4.heap.size len0 f0) (qlist W5.heap.size len1 f1))) := fun o => hq7.below (hX o)
    have hbG : Below w.heap.size w W7 := hbF.trans (hb7.mono hbF.size)
    have HB : Aside (∀ o, Below w.heap.size w (W7.alloc o)) := fun o => hbG.alloc hbG.size o
    have hZ : W6.heap.size ≤ W7.heap.size := hb7.size
    have h4 : W4.heap.size < W7.heap.size := by have := HS5.out; have := HS6.out; omega
    have h5 : W5.heap.size < W7.heap.size := by have := HS5.out; have := HS6.out; omega
    have HA : Aside (Asc (mrg (len0 + len1) (qlist W4.heap.size len0 f0) (qlist W5.heap.size len1 f1))) := mrg_asc _ _ _ (by rw [qlist_length, qlist_length]; exact Nat.le_refl _) (qlist_asc HM0.out) (qlist_asc HM1.out)
    have HD : Aside (Dist (mrg (len0 + len1) (qlist W4.heap.size len0 f0) (qlist W5.heap.size len1 f1))) := mrg_dist (by have := HS5.out; omega)
    have HL : Aside ((mrg (len0 + len1) (qlist W4.heap.size len0 f0) (qlist W5.heap.size len1 f1)).length = len0 + len1) := by show _ = _; rw [mrg_length, qlist_length, qlist_length]
    have hrA7 := hrA6.below hb7
    have hrB7 := hrB6.below hb7
    have HRA : Aside (∀ o, Row (W7.alloc o) q' len0 f0) := fun o => hrA7.below (hX o)
    have HRB : Aside (∀ o, Row (W7.alloc o) k' len1 f1) := fun o => hrB7.below (hX o)
    have HC0 : Aside (Queue W7 W4.heap.size (qlist W4.heap.size len0 f0)) := HQ0'.out.below hb7
    have HC1 : Aside (Queue W7 W5.heap.size (qlist W5.heap.size len1 f1)) := HQ1.out.below hb7
    clear hq7 hX hb7 hbF hbG hrA6 hrB6 HQ0' HQ1
    rcases (show (0 ≤ a2 ∧ a2 < len0) ∨ ((len0 : Int) ≤ a2 ∧ a2 - len0 < len1) ∨ (a2 < 0 ∨ (len0 : Int) + len1 ≤ a2) by omega) with hA | hB | hC
    · obtain ⟨p, rfl⟩ : ∃ p : Nat, a2 = p := ⟨a2.toNat, by omega⟩
      have hp : p < len0 := by omega
      have hpz : (p : Int) < (len0 : Int) := by omega
      obtain ⟨gq, rfl, hcq⟩ := hrA7 p hp
      have hgq : gq < W7.heap.size := World.block_lt_of_cell? _ _ hcq
      have hcp := (HC0.out p _ (qlist_get _ _ _ p hp)).1
      have hreq := (HC0.out p _ (qlist_get _ _ _ p hp)).2
      have HREQ : Aside (∀ o, ReqAt (W7.alloc o) (W4.heap.size + 1 + p) (f0 p)) := fun o => hreq.of_block (Below.heap_alloc _ _ _ hreq.lt)
      have HP := first_at (B := W4.heap.size) (C := W5.heap.size) HM0.out HM1.out hp
      have hcl := count_le (fun i => decide (f1 i < f0 p)) len1
      have hcon := fun o => below_any k' len1 c1 f1 (f0 p) (W7.alloc o) (by omega) (HRB.out o)
      obtain ⟨m, hm⟩ : ∃ m, m = (List.range len1).countP (fun i => decide (f1 i < f0 p)) := ⟨_, rfl⟩
      rw [← hm] at HP hcl
      simp only [← hm] at hcon
      have HPP : Aside _ := HP
      clear hm hA HP hreq hrA7 hrB7
      go_wp2_with (first | (go_at_call 13; go_in) | (go_at_call 14; go_in) | (go_at_call 17; refine (hcon _).mono ?_; rintro e w' ⟨rfl, rfl⟩))
      refine (place_queue g (len0 + len1) c (W4.heap.size + 1 + p) _ (f0 p) ((p : Int) + m) _ (by omega) HL.out (HQ.out _) (HREQ.out _) HA.out HD.out (.inl ⟨p + m, _, HPP.out, rfl, by omega⟩)).mono ?_
      rintro e W8 ⟨rfl, hb8⟩
      go_wp2
      go_ret
      refine ⟨?_, (HB.out _).trans (hb8.mono (HB.out _).size)⟩
      simp
    · obtain ⟨p, rfl⟩ : ∃ p : Nat, a2 = (len0 : Int) + p := ⟨(a2 - len0).toNat, by omega⟩
      have hp : p < len1 := by omega
      have hpz : (p : Int) < (len1 : Int) := by omega
      have hge : ¬ (len0 : Int) + (p : Int) < (len0 : Int) := by omega
      have hpos : (0 : Int) ≤ (len0 : Int) + (p : Int) := by omega
      obtain ⟨gq, rfl, hcq⟩ := hrB7 p hp
      have hgq : gq < W7.heap.size := World.block_lt_of_cell? _ _ hcq
      have hcp := (HC1.out p _ (qlist_get _ _ _ p hp)).1
      have hreq := (HC1.out p _ (qlist_get _ _ _ p hp)).2
      have HREQ : Aside (∀ o, ReqAt (W7.alloc o) (W5.heap.size + 1 + p) (f1 p)) := fun o => hreq.of_block (Below.heap_alloc _ _ _ hreq.lt)
      have HP := second_at (B := W4.heap.size) (C := W5.heap.size) HM0.out HM1.out hp
      have hcl := count_le (fun i => decide (f0 i ≤ f1 p)) len0
      have hcon := fun o => atmost_any q' len0 c0 f0 (f1 p) (W7.alloc o) (by omega) (HRA.out o)
      obtain ⟨m, hm⟩ : ∃ m, m = (List.range len0).countP (fun i => decide (f0 i ≤ f1 p)) := ⟨_, rfl⟩
      rw [← hm] at HP hcl
      simp only [← hm] at hcon
      have HPP : Aside _ := HP
      clear hm hB HP hreq hrA7 hrB7
      go_wp2_with (first | (go_at_call 13; go_in) | (go_at_call 14; go_in) | (go_at_call 18; refine (hcon _).mono ?_; rintro e w' ⟨rfl, rfl⟩))
      refine (place_queue g (len0 + len1) c (W5.heap.size + 1 + p) _ (f1 p) ((p : Int) + m) _ (by omega) HL.out (HQ.out _) (HREQ.out _) HA.out HD.out (.inl ⟨p + m, _, HPP.out, rfl, by omega⟩)).mono ?_
      rintro e W8 ⟨rfl, hb8⟩
      go_wp2
      go_ret
      refine ⟨?_, (HB.out _).trans (hb8.mono (HB.out _).size)⟩
      simp
      omega
    · have HN : Aside (∀ x ∈ mrg (len0 + len1) (qlist W4.heap.size len0 f0) (qlist W5.heap.size len1 f1), x.1 ≠ W7.heap.size) := fun x hx => by
        have h1 := mrg_mem hx
        have := HS5.out
        have := HS6.out
        omega
      clear hrA7 hrB7
      rcases (show a2 < 0 ∨ (0 ≤ a2 ∧ (len0 : Int) ≤ a2 ∧ (len1 : Int) ≤ a2 - len0) by omega) with hC | ⟨hC1, hC2, hC3⟩
      all_goals
        go_wp2_with (first | (go_at_call 13; go_in) | (go_at_call 14; go_in))
        refine (place_queue g (len0 + len1) c W7.heap.size _ 0 (-1) _ (by omega) HL.out (HQ.out _) (reqAt_new _ _ _ rfl) HA.out HD.out (.inr ⟨rfl, HN.out⟩)).mono ?_
        rintro e W8 ⟨rfl, hb8⟩
        go_wp2
        go_ret
        refine ⟨?_, (HB.out _).trans (hb8.mono (HB.out _).size)⟩
        simp
  · go_enter Try.func5, Try.ntmps5
    go_wp2
    all_goals first | (exact absurd ⟨by omega, by omega⟩ hsz) | (go_ret; exact ⟨rfl, Below.refl _ _⟩)

/-! ### THE ROW's STEP: WRITTEN OUT: LEAVE IT -/
set_option maxRecDepth 100000 in
theorem lifted (os : Os) (started : os.Started) (H : Type) (enc : TypeId × Value → H) :
    ReturnsInHanded {} Try.checked os 5 .any (Rows.fnPlaceInMergedQueueSpec.pre6 enc Try.prog Try.f5 Rows.fnPlaceInMergedQueueRow.domain false) (Rows.fnPlaceInMergedQueueSpec.post enc Try.prog Try.f5 false true false false) := by
  refine returnsInHanded_of_change (C := Try.checked) own started (by kernel_rfl) Try.func5
    (ChangeSpec.witness6 (enc := enc) (C := Try.checked) false ⟨#[], #[.slice none 0 0, .slice none 0 0, .int .i64 0], []⟩ 8 (by kernel_rfl) (by kernel_rfl) (by kernel_rfl) (by kernel_rfl)) ?_
  intro W base args ds gs before hval0 hW hcnd _
  have hval : ∀ (j : Nat) t v, Try.f5.params[j]? = some t → args[j]? = some v → Value.okWide Try.prog W .any base t v := hval0
  have hW' := hW
  obtain ⟨p, q, hA0, hV, rfl, hfz, hnd⟩ := hW
  have hA : DataW.TrodAll enc Try.prog W 0 (fun _ => true) true Try.f5.params.toList args.toList ds p := hA0
  rw [Try.params5] at hA hval
  obtain ⟨v0, vs0, d0, ds0, p0, q0, hargs, rfl, rfl, h0, r0⟩ := trodAll_cons hA
  obtain ⟨v1, vs1, d1, ds1, p1, q1, rfl, rfl, rfl, h1, r1⟩ := trodAll_cons r0
  obtain ⟨v2, vs2, d2, ds2, p2, q2, rfl, rfl, rfl, h2, r2⟩ := trodAll_cons r1
  obtain ⟨rfl, rfl, rfl⟩ := trodAll_nil r2
  obtain rfl : args = #[v0, v1, v2] := by cases args; simp_all
  obtain ⟨rfl, rfl⟩ := trodVars_none hV
  obtain ⟨a0, len0, cap0, rfl⟩ := okWide_slice Try.underlying41 (hval 0 41 v0 rfl rfl)
  have k0 := h0
  have lt0 : ∀ x ∈ p0, x.block < W.heap.size := by obtain ⟨m, hm⟩ := k0; exact DataW.trod_lt m _ _ _ hm
  obtain ⟨z0, w0⟩ : ∃ zs, IsRow .u64 W a0 len0 cap0 zs := by
    obtain ⟨fuel, hf⟩ := h0
    rcases open_ints Try.underlying41 Try.underlying22 (by kernel_rfl) hf with ⟨hcs, _⟩ | ⟨x, l, c, zs, hcs, _, hl, hm, hz, _, hcell, hwz⟩
    · simp [Value.cells] at hcs
      obtain ⟨rfl, rfl, rfl⟩ := hcs
      exact ⟨[], .inl ⟨rfl, rfl, rfl, rfl⟩⟩
    · simp [Value.cells] at hcs
      obtain ⟨rfl, rfl, rfl⟩ := hcs
      exact ⟨zs, .inr ⟨_, rfl, hl, hm, by simpa using hz, hcell, hwz⟩⟩
  obtain ⟨a1, len1, cap1, rfl⟩ := okWide_slice Try.underlying41 (hval 1 41 v1 rfl rfl)
  have k1 := h1
  have lt1 : ∀ x ∈ p1, x.block < W.heap.size := by obtain ⟨m, hm⟩ := k1; exact DataW.trod_lt m _ _ _ hm
  obtain ⟨z1, w1⟩ : ∃ zs, IsRow .u64 W a1 len1 cap1 zs := by
    obtain ⟨fuel, hf⟩ := h1
    rcases open_ints Try.underlying41 Try.underlying22 (by kernel_rfl) hf with ⟨hcs, _⟩ | ⟨x, l, c, zs, hcs, _, hl, hm, hz, _, hcell, hwz⟩
    · simp [Value.cells] at hcs
      obtain ⟨rfl, rfl, rfl⟩ := hcs
      exact ⟨[], .inl ⟨rfl, rfl, rfl, rfl⟩⟩
    · simp [Value.cells] at hcs
      obtain ⟨rfl, rfl, rfl⟩ := hcs
      exact ⟨zs, .inr ⟨_, rfl, hl, hm, by simpa using hz, hcell, hwz⟩⟩
  obtain ⟨a2, rfl, rfl, rfl, w2⟩ := open_int Try.underlying3 (hval 2 3 v2 rfl rfl) h2
  clear hA0 hval0
  refine (walk a0 len0 cap0 z0 a1 len1 cap1 z1 a2 W w0 w1 w2).mono fun e W' ⟨he, bel⟩ => ?_
  subst he
  exact ⟨_, rfl, _, _, _, [], _, [], hW', trodAll_mk1 (shut_bool Try.underlying4 _), (trodAll_cons_mk (Below.trod laidOut (by kernel_rfl) (of_decide_eq_true (by kernel_rfl)) k0 bel lt0) (trodAll_cons_mk (Below.trod laidOut (by kernel_rfl) (of_decide_eq_true (by kernel_rfl)) k1 bel lt1) (trodAll_cons_mk (shut_int Try.underlying3 w2) trodAll_mk0))), rfl, bel.frame _, fun h => by cases h⟩

theorem over : Rows.fnPlaceInMergedQueueRow.holds Try.pinned (OpenSpec.ofChange Rows.fnPlaceInMergedQueueSpec) :=
  OpenClaim.holds_of_wide 5 Try.f5 rfl rfl rfl rfl rfl rfl rfl ⟨rfl, rfl, rfl, rfl, rfl⟩ rfl rfl rfl rfl rfl (by kernel_rfl) Try.func5 (by kernel_rfl)
    (of_decide_eq_true (by kernel_rfl)) (by unfold Func.isWrapper; first | (rw [if_pos (by decide +kernel)]; kernel_rfl) | (rw [if_neg (by decide +kernel)]; exact ⟨rfl, rfl⟩))
    (fun os started H enc _ => lifted os started H enc)

/-- ████ THE STATEMENT ████ -/
theorem proved : Rows.FnPlaceInMergedQueueSaid := over
end Go.Proofs.Qxb6605877a.fnPlaceInMergedQueue
