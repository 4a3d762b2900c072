/-
  JOINS: the queue that newQueue makes as a list; place over a merged queue. (No walk is run here.)
-/
import Derived.Test.Qxb6605877aMerge
namespace Go.Proofs.Qxb6605877a
open Go.RowKit

/-- The queue that newQueue makes at block B. -/
def qlist (B n : Nat) (f : Nat → Int) : List (Nat × Int) := (List.range n).map (fun i => (B + 1 + i, f i))
theorem qlist_length (B n : Nat) (f : Nat → Int) : (qlist B n f).length = n := by simp [qlist]
theorem qlist_get (B n : Nat) (f : Nat → Int) (i : Nat) (h : i < n) : (qlist B n f)[i]? = some (B + 1 + i, f i) := by simp [qlist, h]
theorem qlist_inv {B n : Nat} {f : Nat → Int} {i : Nat} {x : Nat × Int} (h : (qlist B n f)[i]? = some x) : i < n ∧ x = (B + 1 + i, f i) := by
  have hlt := (List.getElem?_eq_some_iff.1 h).1
  rw [qlist_length] at hlt
  rw [qlist_get B n f i hlt] at h
  exact ⟨hlt, (Option.some.inj h).symm⟩
theorem qlist_queue {w : World} {B n : Nat} {f : Nat → Int} (hrow : w.rowIs B 40 n (fun i => .pointer (some ⟨B + 1 + i, 0, none⟩))) (hreq : ∀ i, i < n → ReqAt w (B + 1 + i) (f i)) : Queue w B (qlist B n f) := by
  intro i x hx
  obtain ⟨hlt, rfl⟩ := qlist_inv hx
  exact ⟨hrow.cell hlt, hreq i hlt⟩
theorem qlist_asc {B n : Nat} {f : Nat → Int} (h : ∀ a b, a ≤ b → b < n → f a ≤ f b) : Asc (qlist B n f) := by
  refine List.pairwise_iff_getElem.2 fun i j hi hj hij => ?_
  rw [qlist_length] at hi hj
  simp only [qlist, List.getElem_map, List.getElem_range]
  exact h i j (by omega) hj

/-- No block twice. -/
def Dist (l : List (Nat × Int)) : Prop := l.Pairwise (fun a b => a.1 ≠ b.1)
theorem qlist_mem {B n : Nat} {f : Nat → Int} {x : Nat × Int} (h : x ∈ qlist B n f) : B < x.1 ∧ x.1 < B + 1 + n := by
  obtain ⟨i, hi⟩ := List.mem_iff_getElem?.1 h
  obtain ⟨hlt, rfl⟩ := qlist_inv hi
  exact ⟨by simp; omega, by simp; omega⟩
theorem qlist_dist (B n : Nat) (f : Nat → Int) : Dist (qlist B n f) := by
  refine List.pairwise_iff_getElem.2 fun i j hi hj hij => ?_
  simp only [qlist, List.getElem_map, List.getElem_range]
  omega
theorem mrg_dist {k B n C m : Nat} {f g : Nat → Int} (h : B + 1 + n ≤ C + 1) : Dist (mrg k (qlist B n f) (qlist C m g)) := by
  refine ((mrg_perm k _ _).pairwise_iff (fun h => fun e => h e.symm)).2 ?_
  refine List.pairwise_append.2 ⟨qlist_dist _ _ _, qlist_dist _ _ _, fun a ha b hb => ?_⟩
  have h1 := qlist_mem ha
  have h2 := qlist_mem hb
  omega
theorem mrg_mem {k B n C m : Nat} {f g : Nat → Int} {x : Nat × Int} (h : x ∈ mrg k (qlist B n f) (qlist C m g)) : (B < x.1 ∧ x.1 < B + 1 + n) ∨ (C < x.1 ∧ x.1 < C + 1 + m) := by
  rcases List.mem_append.1 ((mrg_perm k _ _).mem_iff.1 h) with h | h
  · exact .inl (qlist_mem h)
  · exact .inr (qlist_mem h)
theorem dist_eq {l : List (Nat × Int)} (h : Dist l) {a b : Nat} {x y : Nat × Int} (ha : l[a]? = some x) (hb : l[b]? = some y) (e : x.1 = y.1) : a = b := by
  obtain ⟨ha1, rfl⟩ := List.getElem?_eq_some_iff.1 ha
  obtain ⟨hb1, rfl⟩ := List.getElem?_eq_some_iff.1 hb
  rcases Nat.lt_trichotomy a b with hl | hl | hl
  · exact absurd e (List.pairwise_iff_getElem.1 h a b ha1 hb1 hl)
  · exact hl
  · exact absurd e.symm (List.pairwise_iff_getElem.1 h b a hb1 ha1 hl)

/-- place over a queue that is a list. -/
theorem place_queue (g n c r : Nat) (R : List (Nat × Int)) (s want : Int) (w : World) (hn : n ≤ 4194304) (hl : R.length = n) (hQ : Queue w g R) (hr : ReqAt w r s) (hA : Asc R) (hD : Dist R)
    (hw : (∃ (p : Nat) (x : Nat × Int), R[p]? = some x ∧ x.1 = r ∧ want = p) ∨ (want = -1 ∧ ∀ x ∈ R, x.1 ≠ r)) :
    Calls Try.prog 20 #[.slice (some ⟨g, 0, none⟩) n c, .pointer (some ⟨r, 0, none⟩)] w fun e w' => e = .returned (.int .i64 want) ∧ Below w.heap.size w w' := by
  have hget : ∀ i, i < n → R[i]? = some (R.getD i (0, 0)) := fun i hi => by
    rw [List.getElem?_eq_getElem (by omega), List.getD_eq_getElem?_getD, List.getElem?_eq_getElem (by omega)]
    rfl
  refine place_any g n c r (fun i => (R.getD i (0, 0)).1) (fun i => (R.getD i (0, 0)).2) s w hn want (fun i hi => (hQ i _ (hget i hi)).1) (fun i hi => (hQ i _ (hget i hi)).2) hr ?_ ?_
  · intro a b hab hb
    rcases Nat.lt_or_ge a b with h | h
    · obtain ⟨ha1, ha2⟩ := List.getElem?_eq_some_iff.1 (hget a (by omega))
      obtain ⟨hb1, hb2⟩ := List.getElem?_eq_some_iff.1 (hget b hb)
      show (R.getD a (0, 0)).2 ≤ (R.getD b (0, 0)).2
      rw [← ha2, ← hb2]
      exact List.pairwise_iff_getElem.1 hA a b ha1 hb1 h
    · obtain rfl : a = b := by omega
      exact Int.le_refl _
  · rcases hw with ⟨p, x, hx, hxr, rfl⟩ | ⟨rfl, hno⟩
    · have hp : p < n := by rw [← hl]; exact (List.getElem?_eq_some_iff.1 hx).1
      have hpx : R.getD p (0, 0) = x := Option.some.inj ((hget p hp).symm.trans hx)
      exact .inl ⟨p, hp, rfl, by show (R.getD p (0, 0)).1 = r; rw [hpx]; exact hxr, fun j hj e => dist_eq hD (hget j hj) hx (by rw [hxr]; exact e)⟩
    · exact .inr ⟨rfl, fun j hj => hno _ (List.mem_of_getElem? (hget j hj))⟩

/-- Where the first's p-th lies, in the walk's words. -/
theorem first_at {B n C m p : Nat} {f g : Nat → Int} (hf : ∀ a b, a ≤ b → b < n → f a ≤ f b) (hg : ∀ a b, a ≤ b → b < m → g a ≤ g b) (hp : p < n) :
    (mrg (n + m) (qlist B n f) (qlist C m g))[p + (List.range m).countP (fun i => decide (g i < f p))]? = some (B + 1 + p, f p) := by
  have h := mrg_first (n + m) (qlist B n f) (qlist C m g) (by rw [qlist_length, qlist_length]; exact Nat.le_refl _) (qlist_asc hf) (qlist_asc hg) p _ (qlist_get B n f p hp)
  rw [qlist, qlist, List.countP_map] at h
  exact h
theorem second_at {B n C m p : Nat} {f g : Nat → Int} (hf : ∀ a b, a ≤ b → b < n → f a ≤ f b) (hg : ∀ a b, a ≤ b → b < m → g a ≤ g b) (hp : p < m) :
    (mrg (n + m) (qlist B n f) (qlist C m g))[p + (List.range n).countP (fun i => decide (f i ≤ g p))]? = some (C + 1 + p, g p) := by
  have h := mrg_second (n + m) (qlist B n f) (qlist C m g) (by rw [qlist_length, qlist_length]; exact Nat.le_refl _) (qlist_asc hf) (qlist_asc hg) p _ (qlist_get C m g p hp)
  rw [qlist, qlist, List.countP_map] at h
  exact h

end Go.Proofs.Qxb6605877a
