/-
  PLAIN: the merge of two ascending lists (a block's number, the number it was made at), with fuel; where each element comes to lie. No Go in sight.
-/
namespace Go.Proofs.Qxb6605877a

/-- The merge: where the second's head is less it goes first. -/
def mrg : Nat → List (Nat × Int) → List (Nat × Int) → List (Nat × Int)
  | 0, xs, ys => xs ++ ys
  | _ + 1, [], ys => ys
  | _ + 1, x :: xs, [] => x :: xs
  | k + 1, x :: xs, y :: ys => if y.2 < x.2 then y :: mrg k (x :: xs) ys else x :: mrg k xs (y :: ys)

/-- Ascending. -/
def Asc (l : List (Nat × Int)) : Prop := l.Pairwise (fun a b => a.2 ≤ b.2)

theorem mrg_nil_left (k : Nat) (ys : List (Nat × Int)) : mrg k [] ys = ys := by cases k <;> simp [mrg]
theorem mrg_nil_right (k : Nat) (xs : List (Nat × Int)) : mrg k xs [] = xs := by cases k <;> cases xs <;> simp [mrg]
theorem mrg_cons (k : Nat) (x y : Nat × Int) (xs ys : List (Nat × Int)) : mrg (k + 1) (x :: xs) (y :: ys) = if y.2 < x.2 then y :: mrg k (x :: xs) ys else x :: mrg k xs (y :: ys) := rfl

theorem mrg_perm : ∀ (k : Nat) (xs ys : List (Nat × Int)), (mrg k xs ys).Perm (xs ++ ys)
  | 0, xs, ys => List.Perm.refl _
  | _ + 1, [], ys => List.Perm.refl _
  | _ + 1, x :: xs, [] => by simp [mrg]
  | k + 1, x :: xs, y :: ys => by
    rw [mrg_cons]
    split
    · exact ((mrg_perm k (x :: xs) ys).cons y).trans (List.perm_middle (l₁ := x :: xs)).symm
    · exact (mrg_perm k xs (y :: ys)).cons x

theorem mrg_length (k : Nat) (xs ys : List (Nat × Int)) : (mrg k xs ys).length = xs.length + ys.length := by
  rw [(mrg_perm k xs ys).length_eq, List.length_append]

theorem asc_tail {x : Nat × Int} {xs : List (Nat × Int)} (h : Asc (x :: xs)) : Asc xs := (List.pairwise_cons.1 h).2
theorem asc_head {x : Nat × Int} {xs : List (Nat × Int)} (h : Asc (x :: xs)) : ∀ z ∈ xs, x.2 ≤ z.2 := (List.pairwise_cons.1 h).1

theorem mrg_asc : ∀ (k : Nat) (xs ys : List (Nat × Int)), xs.length + ys.length ≤ k → Asc xs → Asc ys → Asc (mrg k xs ys)
  | 0, xs, ys => fun h _ _ => by
    have h1 : xs = [] := List.eq_nil_of_length_eq_zero (by omega)
    have h2 : ys = [] := List.eq_nil_of_length_eq_zero (by omega)
    subst h1 h2
    simp [mrg, Asc]
  | _ + 1, [], ys => fun _ _ h => h
  | _ + 1, x :: xs, [] => fun _ h _ => h
  | k + 1, x :: xs, y :: ys => fun hk hx hy => by
    simp only [List.length_cons] at hk
    rw [mrg_cons]
    split
    · rename_i hlt
      refine List.pairwise_cons.2 ⟨fun z hz => ?_, mrg_asc k (x :: xs) ys (by simp only [List.length_cons]; omega) hx (asc_tail hy)⟩
      rcases List.mem_append.1 ((mrg_perm k (x :: xs) ys).mem_iff.1 hz) with h | h
      · rcases List.mem_cons.1 h with rfl | h
        · omega
        · have := asc_head hx z h; omega
      · exact asc_head hy z h
    · rename_i hlt
      refine List.pairwise_cons.2 ⟨fun z hz => ?_, mrg_asc k xs (y :: ys) (by simp only [List.length_cons]; omega) (asc_tail hx) hy⟩
      rcases List.mem_append.1 ((mrg_perm k xs (y :: ys)).mem_iff.1 hz) with h | h
      · exact asc_head hx z h
      · rcases List.mem_cons.1 h with rfl | h
        · omega
        · have := asc_head hy z h; omega

/-- The first's p-th lies behind those of the second that are less. -/
theorem mrg_first : ∀ (k : Nat) (xs ys : List (Nat × Int)), xs.length + ys.length ≤ k → Asc xs → Asc ys → ∀ (p : Nat) (e : Nat × Int), xs[p]? = some e →
    (mrg k xs ys)[p + ys.countP (fun y => decide (y.2 < e.2))]? = some e
  | 0, xs, ys => fun h _ _ p e he => by
    have h1 : xs = [] := List.eq_nil_of_length_eq_zero (by omega)
    subst h1
    simp at he
  | _ + 1, [], ys => fun _ _ _ p e he => by simp at he
  | _ + 1, x :: xs, [] => fun _ _ _ p e he => by simpa [mrg] using he
  | k + 1, x :: xs, y :: ys => fun hk hx hy p e he => by
    simp only [List.length_cons] at hk
    rw [mrg_cons]
    split
    · rename_i hlt
      have hye : y.2 < e.2 := by
        have hm : e ∈ x :: xs := List.mem_of_getElem? he
        rcases List.mem_cons.1 hm with rfl | h
        · exact hlt
        · have := asc_head hx e h; omega
      have ih := mrg_first k (x :: xs) ys (by simp only [List.length_cons]; omega) hx (asc_tail hy) p e he
      rw [List.countP_cons_of_pos (by simpa using hye), ← Nat.add_assoc, List.getElem?_cons_succ]
      exact ih
    · rename_i hge
      cases p with
      | zero =>
        simp only [List.getElem?_cons_zero, Option.some.injEq] at he
        subst he
        have hz : (y :: ys).countP (fun z => decide (z.2 < x.2)) = 0 := by
          rw [List.countP_eq_zero]
          intro z hz
          rcases List.mem_cons.1 hz with rfl | h
          · simpa using hge
          · have := asc_head hy z h; simp; omega
        rw [hz]
        rfl
      | succ p =>
        rw [List.getElem?_cons_succ] at he
        have ih := mrg_first k xs (y :: ys) (by simp only [List.length_cons]; omega) (asc_tail hx) hy p e he
        rw [Nat.add_right_comm, List.getElem?_cons_succ]
        exact ih

/-- The second's p-th lies behind those of the first that are not greater. -/
theorem mrg_second : ∀ (k : Nat) (xs ys : List (Nat × Int)), xs.length + ys.length ≤ k → Asc xs → Asc ys → ∀ (p : Nat) (e : Nat × Int), ys[p]? = some e →
    (mrg k xs ys)[p + xs.countP (fun x => decide (x.2 ≤ e.2))]? = some e
  | 0, xs, ys => fun h _ _ p e he => by
    have h1 : ys = [] := List.eq_nil_of_length_eq_zero (by omega)
    subst h1
    simp at he
  | _ + 1, [], ys => fun _ _ _ p e he => by simpa [mrg] using he
  | _ + 1, x :: xs, [] => fun _ _ _ p e he => by simp at he
  | k + 1, x :: xs, y :: ys => fun hk hx hy p e he => by
    simp only [List.length_cons] at hk
    rw [mrg_cons]
    split
    · rename_i hlt
      cases p with
      | zero =>
        simp only [List.getElem?_cons_zero, Option.some.injEq] at he
        subst he
        have hz : (x :: xs).countP (fun z => decide (z.2 ≤ y.2)) = 0 := by
          rw [List.countP_eq_zero]
          intro z hz
          rcases List.mem_cons.1 hz with rfl | h
          · simpa using hlt
          · have := asc_head hx z h; simp; omega
        rw [hz]
        rfl
      | succ p =>
        rw [List.getElem?_cons_succ] at he
        have ih := mrg_second k (x :: xs) ys (by simp only [List.length_cons]; omega) hx (asc_tail hy) p e he
        rw [Nat.add_right_comm, List.getElem?_cons_succ]
        exact ih
    · rename_i hge
      have hxe : x.2 ≤ e.2 := by
        have hm : e ∈ y :: ys := List.mem_of_getElem? he
        rcases List.mem_cons.1 hm with rfl | h
        · omega
        · have := asc_head hy e h; omega
      have ih := mrg_second k xs (y :: ys) (by simp only [List.length_cons]; omega) (asc_tail hx) hy p e he
      rw [List.countP_cons_of_pos (by simpa using hxe), ← Nat.add_assoc, List.getElem?_cons_succ]
      exact ih

/-! ### The loop's steps -/
theorem drop_at {α : Type} {l : List α} {i : Nat} {x : α} (h : l[i]? = some x) : l.drop i = x :: l.drop (i + 1) := by
  obtain ⟨hlt, he⟩ := List.getElem?_eq_some_iff.1 h
  rw [List.drop_eq_getElem_cons hlt, he]

theorem step_kept {A B R xs : List (Nat × Int)} {i j k : Nat} {x y : Nat × Int} (hx : A[i]? = some x) (hy : B[j]? = some y) (hlt : y.2 < x.2) (h : xs ++ mrg (k + 1) (A.drop i) (B.drop j) = R) :
    xs ++ [y] ++ mrg k (A.drop i) (B.drop (j + 1)) = R := by
  rw [← h, drop_at hy, drop_at hx, mrg_cons, if_pos hlt, List.append_assoc]
  rfl
theorem step_queue {A B R xs : List (Nat × Int)} {i j k : Nat} {x y : Nat × Int} (hx : A[i]? = some x) (hy : B[j]? = some y) (hlt : ¬ y.2 < x.2) (h : xs ++ mrg (k + 1) (A.drop i) (B.drop j) = R) :
    xs ++ [x] ++ mrg k (A.drop (i + 1)) (B.drop j) = R := by
  rw [← h, drop_at hy, drop_at hx, mrg_cons, if_neg hlt, List.append_assoc]
  rfl
theorem step_end {A B R xs : List (Nat × Int)} {i j k : Nat} (hd : A.length ≤ i ∨ B.length ≤ j) (h : xs ++ mrg k (A.drop i) (B.drop j) = R) : xs ++ B.drop j ++ A.drop i = R := by
  rw [← h]
  rcases hd with hd | hd
  · rw [List.drop_eq_nil_of_le hd, mrg_nil_left, List.append_nil]
  · rw [List.drop_eq_nil_of_le hd, mrg_nil_right, List.append_nil]

end Go.Proofs.Qxb6605877a
