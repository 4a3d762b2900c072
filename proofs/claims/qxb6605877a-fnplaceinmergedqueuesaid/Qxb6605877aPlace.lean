/-
  THE WALKS OF place$1 (23), sort.Search (22), place (20), ZZplace (14).
-/
import Derived.Test.Qxb6605877aQueue
import Derived.Deep.LoopGhost
namespace Go.Proofs.Qxb6605877a
open Go.RowKit

set_option maxHeartbeats 400000 in
/-- The closure: 'queue[i].seq >= req.seq'. -/
theorem closure_any (bq br g n c r a i : Nat) (y s : Int) (W : World) (hi : i < n)
    (hq : W.cell? ⟨bq, 0, none⟩ = some (.slice (some ⟨g, 0, none⟩) n c)) (hr : W.cell? ⟨br, 0, none⟩ = some (.pointer (some ⟨r, 0, none⟩)))
    (h1 : W.cell? ⟨g, i, none⟩ = some (.pointer (some ⟨a, 0, none⟩))) (h2 : W.cell? ⟨a, 10, none⟩ = some (.int .u64 y)) (h3 : W.cell? ⟨r, 10, none⟩ = some (.int .u64 s)) :
    Calls Try.prog 23 #[.int .i64 i, .pointer (some ⟨bq, 0, none⟩), .pointer (some ⟨br, 0, none⟩)] W fun e w' => e = .returned (.bool (decide (s ≤ y))) ∧ ∃ q, w' = W.drewN q := by
  have hiz : (i : Int) < (n : Int) := by omega
  go_enter Try.func23, Try.ntmps23
  go_wp2
  go_quiet (fail)
  go_wp2
  go_ret
  exact ⟨rfl, _, rfl⟩

set_option maxHeartbeats 800000 in
/-- sort.Search over a closure (23) that only reads: the place where 'p' turns true. -/
theorem search_any (bq br n : Nat) (p : Nat → Bool) (w : World) (hsz : n ≤ 4611686018427387903)
    (hf : ∀ m i : Nat, i < n → Calls Try.prog 23 #[.int .i64 i, .pointer (some ⟨bq, 0, none⟩), .pointer (some ⟨br, 0, none⟩)] (w.drewN m) fun e w' => e = .returned (.bool (p i)) ∧ ∃ q, w' = (w.drewN m).drewN q)
    (hmono : ∀ a b, a ≤ b → b < n → p a = true → p b = true) :
    Calls Try.prog 22 #[.int .i64 n, .func (.func 23) #[] #[.pointer (some ⟨bq, 0, none⟩), .pointer (some ⟨br, 0, none⟩)]] w fun e w' =>
      ∃ lo q : Nat, e = .returned (.int .i64 lo) ∧ lo ≤ n ∧ (∀ t, t < lo → p t = false) ∧ (∀ t, lo ≤ t → t < n → p t = true) ∧ w' = w.drewN q := by
  have HF : Aside _ := hf
  have M : Aside _ := hmono
  clear hf hmono
  go_enter Try.func22, Try.ntmps22
  go_wp2
  go_loopg [5, 6] n (fun kx s5 s6 wr => ∃ (lo hi q : Nat), s5 = .int .i64 lo ∧ s6 = .int .i64 hi ∧ lo ≤ hi ∧ hi ≤ n ∧ hi - lo ≤ kx ∧ wr = w.drewN q ∧
    Aside ((∀ t, t < lo → p t = false) ∧ (∀ t, hi ≤ t → t < n → p t = true)))
  case atStart => exact ⟨0, n, 0, rfl, rfl, Nat.zero_le _, Nat.le_refl _, by omega, rfl, (⟨fun t ht => absurd ht (Nat.not_lt_zero _), fun t h1 h2 => by omega⟩ : (∀ t, t < 0 → p t = false) ∧ (∀ t, n ≤ t → t < n → p t = true))⟩
  case round =>
    obtain ⟨lo, hi, q, rfl, rfl, hlh, hin, hg, rfl, I⟩ := hrel
    by_cases hlt : lo < hi
    · have hc := HF.out q ((lo + hi) / 2) (by omega)
      rw [show (((lo + hi) / 2 : Nat) : Int) = ((lo : Int) + (hi : Int)) / 2 by omega] at hc
      cases hp : p ((lo + hi) / 2) <;> rw [hp] at hc
      · have HP : Aside (p ((lo + hi) / 2) = false) := hp
        clear hp
        go_wp2_with (go_at_call 23; refine hc.mono ?_; rintro e w' ⟨rfl, nq, rfl⟩)
        go_roundg (hi - ((lo + hi) / 2 + 1))
        case measure => omega
        case rel =>
          have I2 : Aside ((∀ t, t < (lo + hi) / 2 + 1 → p t = false) ∧ (∀ t, hi ≤ t → t < n → p t = true)) := ⟨fun t ht => (by
            cases h : p t with
            | false => rfl
            | true => have := M.out t ((lo + hi) / 2) (by omega) (by omega) h; rw [HP.out] at this; cases this), I.out.2⟩
          exact ⟨(lo + hi) / 2 + 1, hi, q + nq, by rw [show ((lo : Int) + (hi : Int)) / 2 + 1 = (((lo + hi) / 2 + 1 : Nat) : Int) by omega], rfl, by omega, hin, Nat.le_refl _, by first | rfl | rw [World.drewN_drewN], I2⟩
      · have HP : Aside (p ((lo + hi) / 2) = true) := hp
        clear hp
        go_wp2_with (go_at_call 23; refine hc.mono ?_; rintro e w' ⟨rfl, nq, rfl⟩)
        go_roundg ((lo + hi) / 2 - lo)
        case measure => omega
        case rel =>
          have I2 : Aside ((∀ t, t < lo → p t = false) ∧ (∀ t, (lo + hi) / 2 ≤ t → t < n → p t = true)) := ⟨I.out.1, fun t ht htn => M.out ((lo + hi) / 2) t ht htn HP.out⟩
          exact ⟨lo, (lo + hi) / 2, q + nq, rfl, by rw [show ((lo : Int) + (hi : Int)) / 2 = (((lo + hi) / 2 : Nat) : Int) by omega], by omega, by omega, Nat.le_refl _, by first | rfl | rw [World.drewN_drewN], I2⟩
    · obtain rfl : hi = lo := by omega
      go_wp2
      go_ret
      exact ⟨hi, q, rfl, hin, I.out.1, I.out.2, rfl⟩

theorem below_drawn {B : Nat} {a w : World} (h : Below B a w) (n : Nat) : Below B a (w.drewN n) := ⟨h.os, h.tape, h.output, h.size, h.block⟩
theorem info33 : (Try.prog.info? 33).map (fun i => (i.size != 0)) = some true := by kernel_rfl
theorem sized33 : ∃ j, Try.prog.info? 33 = some j ∧ j.size ≠ 0 := by
  obtain ⟨j, hj, hz⟩ := Option.map_eq_some_iff.1 info33
  exact ⟨j, hj, by simpa using hz⟩

set_option maxHeartbeats 800000 in
/-- place: where the request lies in the queue, or -1. -/
theorem place_any (g n c r : Nat) (bs : Nat → Nat) (ss : Nat → Int) (s : Int) (w : World) (hn : n ≤ 4194304) (want : Int)
    (hc : ∀ i, i < n → w.cell? ⟨g, i, none⟩ = some (.pointer (some ⟨bs i, 0, none⟩))) (hs : ∀ i, i < n → ReqAt w (bs i) (ss i)) (hr : ReqAt w r s)
    (hm : ∀ a b, a ≤ b → b < n → ss a ≤ ss b)
    (hw : (∃ p : Nat, p < n ∧ want = p ∧ bs p = r ∧ ∀ j, j < n → bs j = r → j = p) ∨ (want = -1 ∧ ∀ j, j < n → bs j ≠ r)) :
    Calls Try.prog 20 #[.slice (some ⟨g, 0, none⟩) n c, .pointer (some ⟨r, 0, none⟩)] w fun e w' => e = .returned (.int .i64 want) ∧ Below w.heap.size w w' := by
  have hsr : ∀ t, t < n → bs t = r → ss t = s := fun t ht e => by
    have h := hs t ht
    rw [e] at h
    exact h.same hr
  obtain ⟨W0, hW0⟩ : ∃ W0, W0 = (w.alloc (.cells #[.slice (some ⟨g, 0, none⟩) n c] 45)).alloc (.cells #[.pointer (some ⟨r, 0, none⟩)] 40) := ⟨_, rfl⟩
  have hB0 : Below w.heap.size w W0 := by rw [hW0]; exact ((Below.refl _ w).alloc (Nat.le_refl _) _).alloc (by simp) _
  have cq : W0.cell? ⟨w.heap.size, 0, none⟩ = some (.slice (some ⟨g, 0, none⟩) n c) := by rw [hW0, World.cell?_alloc_past _ _ _ (by simp), World.cell?_alloc_at _ _ _ _ rfl]; rfl
  have cr : W0.cell? ⟨w.heap.size + 1, 0, none⟩ = some (.pointer (some ⟨r, 0, none⟩)) := by rw [hW0, World.cell?_alloc_at _ _ _ _ (by simp)]; rfl
  have old : ∀ a v, w.cell? a = some v → W0.cell? a = some v := fun a v h => (hB0.cell (World.block_lt_of_cell? _ _ h)).trans h
  have hS := search_any w.heap.size (w.heap.size + 1) n (fun i => decide (s ≤ ss i)) W0 (by omega)
    (fun m i hi => closure_any w.heap.size (w.heap.size + 1) g n c r (bs i) i (ss i) s (W0.drewN m) hi cq cr (old _ _ (hc i hi)) (old _ _ (hs i hi).cell) (old _ _ hr.cell))
    (fun a b hab hb h => by have := hm a b hab hb; simp at h ⊢; omega)
  have HC : Aside (∀ i, i < n → W0.cell? ⟨g, i, none⟩ = some (.pointer (some ⟨bs i, 0, none⟩))) := fun i hi => old _ _ (hc i hi)
  have HQ : Aside (∀ i, i < n → ReqAt W0 (bs i) (ss i)) := fun i hi => (hs i hi).below hB0
  have hr0 := old _ _ hr.cell
  have HRA : Aside (ReqAt W0 r s) := hr.below hB0
  have HR : Aside (∀ t, t < n → bs t = r → ss t = s) := hsr
  have HM : Aside (∀ a b, a ≤ b → b < n → ss a ≤ ss b) := hm
  have HW : Aside ((∃ p : Nat, p < n ∧ want = p ∧ bs p = r ∧ ∀ j, j < n → bs j = r → j = p) ∨ (want = -1 ∧ ∀ j, j < n → bs j ≠ r)) := hw
  clear hc hs hr hm hw hsr old
  go_enter Try.func20, Try.ntmps20
  go_wp2_with (go_at_call 22; rw [← hW0]; refine hS.mono ?_; rintro e w' ⟨lo, q, rfl, hlo, hlo1, hlo2, rfl⟩)
  rw [← hW0]
  clear hW0 hS
  have HL : Aside ((∀ t, t < lo → bs t ≠ r) ∧ ∀ t, lo ≤ t → t < n → s ≤ ss t) := by
    refine ⟨fun t ht e => ?_, fun t h1 h2 => by simpa using hlo2 t h1 h2⟩
    have h1 := hlo1 t ht
    have h2 := HR.out t (by omega) e
    simp at h1
    omega
  clear hlo1 hlo2
  go_loopg [5] n (fun kx si wr => ∃ k q : Nat, si = .int .i64 k ∧ k ≤ n ∧ n - k ≤ kx ∧ wr = W0.drewN q ∧ Aside ((∀ t, t < k → bs t ≠ r) ∧ ∀ t, k ≤ t → t < n → s ≤ ss t))
  case atStart => exact ⟨lo, q, rfl, hlo, by omega, rfl, HL⟩
  case round =>
    obtain ⟨k, q, rfl, hk, hg, rfl, I⟩ := hrel
    obtain ⟨j, hj, hjz⟩ := sized33
    by_cases hlt : k < n
    · have h1 := HC.out k hlt
      have h2 := (HQ.out k hlt).cell
      have hltz : (k : Int) < (n : Int) := by omega
      by_cases he : ss k = s
      · have he' : (ss k == s) = true := by simpa using he
        have HE : Aside (ss k = s) := he
        clear he
        by_cases hp : bs k = r
        · subst hp
          have hpe := fun m => run_eql_ptr_same (P := Try.prog) (W0.drewN m) (tp := 40) (te := 33) ⟨bs k, 0, none⟩ Try.underlying40 hj
          go_wp2
          go_quiet (fail)
          go_wp2
          go_quiet (fail)
          go_wp2
          go_ret
          refine ⟨?_, by repeat (first | exact hB0 | apply below_drawn)⟩
          rcases HW.out with ⟨p, hp, rfl, hpr, hj'⟩ | ⟨_, hno⟩
          · rw [hj' k hlt rfl]; rfl
          · exact absurd rfl (hno k hlt)
        · obtain ⟨ca, hca, _⟩ := HQ.out k hlt
          obtain ⟨cb, hcb, _⟩ := HRA.out
          have hpe := fun m => run_eql_ptr_other (P := Try.prog) (W0.drewN m) (tp := 40) (te := 33) (a := ⟨bs k, 0, none⟩) (b := ⟨r, 0, none⟩) Try.underlying40 hj hjz (fun h => hp (congrArg Addr.block h)) hca hcb
          go_wp2
          go_quiet (fail)
          go_wp2
          go_quiet (fail)
          go_wp2
          go_roundg (n - (k + 1))
          case measure => omega
          case rel =>
            refine ⟨k + 1, _, by go_num, by omega, Nat.le_refl _, rfl, fun t ht => ?_, fun t h1 h2 => I.out.2 t (by omega) h2⟩
            by_cases e : t = k
            · subst e; exact hp
            · exact I.out.1 t (by omega)
      · have he' : (ss k == s) = false := by simpa using he
        go_wp2
        go_quiet (fail)
        go_wp2
        go_ret
        refine ⟨?_, by repeat (first | exact hB0 | apply below_drawn)⟩
        rcases HW.out with ⟨p, hp, rfl, hpr, _⟩ | ⟨rfl, _⟩
        · have h1 := HR.out p hp hpr
          have h2 : k ≤ p := by
            rcases Nat.lt_or_ge p k with h | h
            · exact absurd hpr (I.out.1 p h)
            · exact h
          have h3 := HM.out k p h2 hp
          have h4 := I.out.2 k (Nat.le_refl _) hlt
          exact absurd (by omega) he
        · rfl
    · have hd : decide ((k : Int) < (n : Int)) = false := decide_eq_false (by omega)
      go_wp2
      go_quiet (fail)
      go_wp2
      go_ret
      refine ⟨?_, by repeat (first | exact hB0 | apply below_drawn)⟩
      rcases HW.out with ⟨p, hp, rfl, hpr, _⟩ | ⟨rfl, _⟩
      · exact absurd hpr (I.out.1 p (by omega))
      · rfl

end Go.Proofs.Qxb6605877a
