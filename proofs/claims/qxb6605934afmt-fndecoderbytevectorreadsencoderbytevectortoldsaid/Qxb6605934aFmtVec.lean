/-
  THE WALK OF (*Decoder).ByteVector (20).
-/
import Derived.Test.Qxb6605934aFmtFail
namespace Go.Proofs.Qxb6605934aFmt
open Go.RowKit Go.Extern.Stop Go.Stop Go.Extern

theorem size5 : (Tryf.prog.info? 5).map (·.size) = some 1 := by kernel_rfl

theorem rowIs_list {w : World} {b n : Nat} {f : Nat → Value} (h : w.rowIs b 5 n f) : w.heap[b]? = some (.cells ((List.range n).map f).toArray 5 (0, 0)) := by
  obtain ⟨c, hb, hn, hc⟩ := h
  rw [hb]
  congr 2
  apply Array.ext_getElem?
  intro i
  by_cases hi : i < n
  · rw [hc i hi]
    simp [hi]
  · rw [Array.getElem?_eq_none (by omega), Array.getElem?_eq_none (by simp; omega)]

theorem rowIs_of_list {w : World} {b n : Nat} {f : Nat → Value} (h : w.heap[b]? = some (.cells ((List.range n).map f).toArray 5 (0, 0))) : w.rowIs b 5 n f :=
  ⟨_, h, by simp, fun i hi => by simp [hi]⟩

theorem Only.widen' {T : Nat} {w w' : World} (h : Only T T w w') (D : Nat) : Only D T w w' := ⟨h.os, h.tape, h.output, h.size, fun k hk _ h2 => h.block k hk h2 h2⟩

/-- copy(dst, src), dst a whole row, src as long. -/
theorem copy_row {w : World} {ops : Array Oper} {rest : List Oper} {o : Oper} {a : Act} {Q : Exit → Act → World → Prop} (hgd : o.guard = none) (d s : Operand)
    (ho : o.op = .call { callee := .builtin .copy, args := #[d, s], argTypes := #[29, 29] }) (T k c : Nat) (ad : Addr) (sCap : Nat) (g F : Nat → Value)
    (hd : a.eval d = .slice (some ⟨T, 0, none⟩) k c) (hs : a.eval s = .slice (some ad) k sCap) (hT : w.rowIs T 5 k g)
    (hsrc : ∀ j, j < k → w.cell? (ad.add j) = some (F j)) (h1 : ∀ j, (F j).oneCell' = true)
    (h : ∀ w', w'.rowIs T 5 k F → Only T T w w' → wpList Tryf.prog ops Q rest (a.put o.dst (goInt k)) w') : wpList Tryf.prog ops Q (o :: rest) a w := by
  obtain ⟨cur, hb, hn, _⟩ := hT
  have hl : ((List.range k).map F).length = k := by simp
  refine wpList_copy_own hgd d s 29 29 ho 5 Tryf.underlying29 size5 T 0 k c ad k sCap hd hs cur 5 hb ((List.range k).map F) (by simp) ?_ (by simp [hn]) ?_ ?_
  · intro j v hv
    have hlt : j < k := by have := (List.getElem?_eq_some_iff.1 hv).1; rwa [hl] at this
    rw [hsrc j hlt, ← hv]
    simp [hlt]
  · intro v hv
    obtain ⟨j, _, rfl⟩ := List.mem_map.1 hv
    exact h1 j
  · rw [hl]
    have e : (cur.toList.take 0 ++ ((List.range k).map F ++ cur.toList.drop (0 + k))) = (List.range k).map F := by
      rw [List.drop_eq_nil_of_le (by rw [Array.length_toList]; omega)]
      simp
    rw [e]
    exact h _ (rowIs_of_list (setRow_heap w T cur ((List.range k).map F).toArray 5 _ hb)) ⟨rfl, rfl, rfl, by simp [World.setRow], fun i _ hi _ => setRow_other w T i _ hi⟩

theorem src_cells {w w1 : World} {D G n p k : Nat} {f : Nat → Int} (h : ∀ i, i < n → w.cell? ⟨G, i, none⟩ = some (.int .u8 (f i))) (hDG : G ≠ D) (hO : Only D D w w1) (hk : p + k ≤ n) :
    ∀ j, j < k → w1.cell? ((⟨G, p, none⟩ : Addr).add j) = some (.int .u8 (f (p + j))) := by
  intro j hj
  have h0 := h (p + j) (by omega)
  rw [Go.WideShapes.add_plain, ← h0]
  exact World.cell?_of_block (hO.block G (World.block_lt_of_cell? _ _ h0) hDG hDG)

set_option maxHeartbeats 800000 in
/-- d.ByteVector(dst): as many bytes as dst takes go over. -/
theorem vec_ok (D G T n p k : Nat) (vars : Value) (f : Nat → Int) (g : Nat → Value) (w : World) (hd : Dec w D (.slice (some ⟨G, 0, none⟩) n n) p vars .nilIface) (hn : n ≤ 4194304) (hk : p + k ≤ n)
    (hG : ∀ i, i < n → w.cell? ⟨G, i, none⟩ = some (.int .u8 (f i))) (hT : w.rowIs T 5 k g) (hDT : D ≠ T) (hDG : 0 < k → G ≠ D) :
    Calls Tryf.prog 20 #[.pointer (some ⟨D, 0, none⟩), .slice (some ⟨T, 0, none⟩) k k] w fun e w' => e = .returned (.tuple #[]) ∧
      Dec w' D (.slice (some ⟨G, 0, none⟩) n n) (p + k) vars .nilIface ∧ w'.rowIs T 5 k (fun i => .int .u8 (f (p + i))) ∧ Only D T w w' := by
  have hcon := fixed_ok D G n p k vars w hd hn hk
  have hTlt := hT.lt
  have HT : Aside (w.rowIs T 5 k g) := hT
  have HG : Aside (∀ i, i < n → w.cell? ⟨G, i, none⟩ = some (.int .u8 (f i))) := hG
  clear hd hT hG
  have hneq := fun W x => run_neq_slice_nil_any (P := Tryf.prog) W 29 5 (some x) k (n - p) 0 0 Tryf.underlying29
  by_cases hk0 : k = 0
  · subst hk0
    go_enter Tryf.func20, Tryf.ntmps20
    go_wp2_with (first | (go_at_call 30; refine hcon.mono ?_; rintro e w1 ⟨x, rfl, hx, hd1, hO, hz⟩) | (refine wpList_copy_nothing rfl (.tmp 11) (.tmp 12) 29 29 rfl 5 Tryf.underlying29 size5 _ _ _ _ _ _ rfl rfl rfl ?_))
    go_end0
    refine ⟨rfl, hd1, ?_, hO.widen T⟩
    exact (HT.out.of_block (hO.block T hTlt (Ne.symm hDT) (Ne.symm hDT))).congr (fun i hi => absurd hi (Nat.not_lt_zero _))
  · go_enter Tryf.func20, Tryf.ntmps20
    go_wp2_with (first | (go_at_call 30; refine hcon.mono ?_; rintro e w1 ⟨x, rfl, hx, hd1, hO, hz⟩; obtain rfl := hx (by omega)) | (refine copy_row rfl (.tmp 11) (.tmp 12) rfl T k k ⟨G, p, none⟩ (n - p) g (fun i => .int .u8 (f (p + i))) rfl rfl (HT.out.of_block (hO.block T hTlt (Ne.symm hDT) (Ne.symm hDT))) (src_cells HG.out (hDG (by omega)) hO hk) (fun _ => rfl) ?_; intro w2 hT2 hO2))
    go_end0
    refine ⟨rfl, ?_, hT2, (hO.widen T).trans (hO2.widen' D)⟩
    exact (hO2.block D (lt_of_block hd1) hDT hDT).trans hd1

set_option maxHeartbeats 400000 in
/-- d.ByteVector of no byte, over nil. -/
theorem vec_nil (D T : Nat) (vars : Value) (w : World) (hd : Dec w D (.slice none 0 0) 0 vars .nilIface) :
    Calls Tryf.prog 20 #[.pointer (some ⟨D, 0, none⟩), .slice (some ⟨T, 0, none⟩) 0 0] w fun e w' => e = .returned (.tuple #[]) ∧ Dec w' D (.slice none 0 0) 0 vars .nilIface ∧ Only D D w w' := by
  have hcon := fixed_nil D vars w hd
  have hneq := fun W => run_neq_slice_nil_any (P := Tryf.prog) W 29 5 none 0 0 0 0 Tryf.underlying29
  clear hd
  go_enter Tryf.func20, Tryf.ntmps20
  go_wp2_with (go_at_call 30; refine hcon.mono ?_; rintro e w1 ⟨rfl, hd1, hO, hz⟩)
  go_end0
  exact ⟨rfl, hd1, hO⟩

set_option maxHeartbeats 400000 in
/-- d.ByteVector(dst) where too little is left: dst stays; an error stands. -/
theorem vec_fail (F : Interp) (D n p k c cap : Nat) (a b : Option Addr) (vars : Value) (w : World) (hF : F.answers w.tape) (hd : Dec w D (.slice a n c) p vars .nilIface) (hn : n ≤ 4194304) (hp : p ≤ n) (hk : n < p + k) (hk2 : k ≤ 4194304) :
    Calls Tryf.prog 20 #[.pointer (some ⟨D, 0, none⟩), .slice b k cap] w fun e w' => e = .returned (.tuple #[]) ∧ ∃ t x, Dec w' D (.slice a n c) p vars (.iface t x) ∧ Only D D w w' := by
  have hcon := fixed_fail F D n p k c a vars w hF hd hn hp hk hk2
  have hneq := fun W => run_neq_slice_nil_any (P := Tryf.prog) W 29 5 none 0 0 0 0 Tryf.underlying29
  clear hd hF
  go_enter Tryf.func20, Tryf.ntmps20
  go_wp2_with (go_at_call 30; refine hcon.mono ?_; rintro e w1 ⟨rfl, t, x, hd1, hO⟩)
  go_end0
  exact ⟨rfl, t, x, hd1, hO⟩

end Go.Proofs.Qxb6605934aFmt
