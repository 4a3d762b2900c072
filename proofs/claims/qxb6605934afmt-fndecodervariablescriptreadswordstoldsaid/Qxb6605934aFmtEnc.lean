/-
  THE WALK OF (*Encoder).ByteVector (18).
-/
import Derived.Test.Qxb6605934aFmtBytes
import Derived.Laws.AppendOwnNone
namespace Go.Proofs.Qxb6605934aFmt
open Go.RowKit

theorem block_cell {w : World} {b : Nat} {cs : Array Value} {t : TypeId} (h : w.heap[b]? = some (.cells cs t (0, 0))) (i : Nat) : w.cell? ⟨b, i, none⟩ = cs[i]? := by simp [World.cell?, h]
theorem block_free {w : World} {b : Nat} {cs : Array Value} {t : TypeId} (h : w.heap[b]? = some (.cells cs t (0, 0))) (i : Nat) : w.frozen? ⟨b, i, none⟩ = false := by simp [World.frozen?, h]
theorem block_set {w : World} {b i : Nat} {cs : Array Value} {t : TypeId} (h : w.heap[b]? = some (.cells cs t (0, 0))) (u : Value) : (w.setCell ⟨b, i, none⟩ u).heap[b]? = some (.cells (cs.setIfInBounds i u) t (0, 0)) := by
  simp [World.setCell, Array.getElem?_modify, h]

/-- The bytes as cells. -/
def cellsOfBytes (m : Nat) (f : Nat → Int) : List Value := (List.range m).map (fun i => .int .u8 (f i))
theorem cellsOfBytes_length (m : Nat) (f : Nat → Int) : (cellsOfBytes m f).length = m := by simp [cellsOfBytes]
theorem cellsOfBytes_one (m : Nat) (f : Nat → Int) : ∀ u ∈ cellsOfBytes m f, u.oneCell' = true := by
  intro u hu
  obtain ⟨_, _, rfl⟩ := List.mem_map.1 hu
  rfl
theorem cellsOfBytes_at {w : World} {g m : Nat} {f : Nat → Int} (h : ∀ i, i < m → w.cell? ⟨g, i, none⟩ = some (.int .u8 (f i))) : ∀ j u, (cellsOfBytes m f)[j]? = some u → w.cell? ((⟨g, 0, none⟩ : Addr).add j) = some u := by
  intro j u hu
  have hlt : j < m := by have := (List.getElem?_eq_some_iff.1 hu).1; rwa [cellsOfBytes_length] at this
  rw [Go.WideShapes.add_plain, Nat.zero_add, h j hlt, ← hu]
  simp [cellsOfBytes, hlt]

set_option maxHeartbeats 800000 in
/-- e.ByteVector(b). -/
theorem enc_any (E n : Nat) (v o1 o2 o3 : Value) (xs : List Value) (b : Option Addr) (m c : Nat) (f : Nat → Int) (w : World) (hn : n + m ≤ 4194304)
    (hE : w.heap[E]? = some (.cells #[v, o1, o2, o3] 33 (0, 0))) (hown : w.ownsRow (E + 1) 5 1 v n xs)
    (hsrc : Sl w b m c f) :
    Calls Tryf.prog 18 #[.pointer (some ⟨E, 0, none⟩), .slice b m c] w fun e w' => e = .returned (.tuple #[]) ∧ ∃ v', w'.heap[E]? = some (.cells #[v', o1, o2, o3] 33 (0, 0)) ∧
      w'.ownsRow (E + 1) 5 1 v' (n + m) (xs ++ cellsOfBytes m f) ∧ Below E w w' := by
  have hlt : E < w.heap.size := lt_of_block hE
  have hc0 : w.cell? ⟨E, 0, none⟩ = some v := block_cell hE 0
  have hf0 := block_free hE 0
  obtain ⟨i0, hi, hz0, hz1, hz2⟩ := info_parts info5
  have HE : Aside (w.heap[E]? = some (.cells #[v, o1, o2, o3] 33 (0, 0))) := hE
  clear hE
  rcases hsrc with ⟨rfl, rfl, rfl⟩ | ⟨g, rfl, -, hg⟩
  · -- nothing comes
    have hfin : w.ownsRow (E + 1) 5 1 v (n + 0) (xs ++ cellsOfBytes 0 f) := by simpa [cellsOfBytes] using hown
    have HF : Aside (w.ownsRow (E + 1) 5 1 v (n + 0) (xs ++ cellsOfBytes 0 f)) := hfin
    clear hfin
    rcases hown.2 with ⟨hv, -⟩ | ⟨g', cap', cur', hv, -⟩
    all_goals
      subst hv
      go_enter Tryf.func18, Tryf.ntmps18
      go_wp2_with (at_builtin; refine wpList_append_own_none rfl (.tmp 8) (.tmp 9) 29 rfl (E + 1) 5 i0 1 Tryf.underlying29 hi _ n xs rfl hown rfl ?_)
      go_end0
      exact ⟨rfl, _, block_set HE.out _, ownsRow_setCell_below HF.out (Nat.lt_succ_self _) _, (Below.refl E w).setCell (p := ⟨E, 0, none⟩) (Nat.le_refl E) _⟩
  · have hnot : some E ≠ v.ownBlock := fun e => by have := (hown.lt E e.symm).1; omega
    have hrow : ∀ k, v.ownBlock = some k → E ≤ k := fun k e => by have := (hown.lt k e).1; omega
    have HN : Aside _ := cellsOfBytes_at hg
    have hown' := hown
    clear hg
    rcases hown.2 with ⟨hv, -⟩ | ⟨g', cap', cur', hv, -⟩
    all_goals
      subst hv
      go_enter Tryf.func18, Tryf.ntmps18
      go_wp2_with (at_builtin; refine wpList_append_own _ rfl (.tmp 8) (.tmp 9) 29 rfl (E + 1) 5 i0 (.int .u8 0) 1 1 Tryf.underlying29 hi hz0 hz1 hz2 rfl (by decide) _ n xs rfl hown' ⟨g, 0, none⟩ m c (cellsOfBytes m f) rfl ((cellsOfBytes_length m f).trans (Nat.mul_one m).symm) HN.out (cellsOfBytes_one m f) (by unfold maxLen; omega) (by omega) (by omega) ?_)
      intro v' w1 hown1 hgrow _
      have hE1 : w1.heap[E]? = w.heap[E]? := hgrow.block E hlt hnot
      have hE2 := hE1.trans HE.out
      have hc1 := block_cell hE2 0
      have hf1 := block_free hE2 0
      have hb1 : Below E w w1 := (Below.refl E w).grown hgrow (by omega) hrow
      have HE2 : Aside (w1.heap[E]? = some (.cells _ 33 (0, 0))) := hE2
      clear hE1 hE2
      rcases hown1.2 with ⟨hv1, -⟩ | ⟨g1, cap1, cur1, hv1, -⟩
      all_goals
        subst hv1
        go_wp2
        go_end0
        exact ⟨rfl, _, block_set HE2.out _, ownsRow_setCell_below hown1 (Nat.lt_succ_self _) _, hb1.setCell (Nat.le_refl _) _⟩

end Go.Proofs.Qxb6605934aFmt
