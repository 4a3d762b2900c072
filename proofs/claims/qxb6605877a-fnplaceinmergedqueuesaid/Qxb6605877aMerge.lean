/-
  THE WALKS OF merge (21), ZZmerge (16), countBelow (17), countAtMost (18).
-/
import Derived.Test.Qxb6605877aPlace
import Derived.Test.Qxb6605877aMergePlain
import Derived.Deep.RegionLaw
import Derived.Deep.Cut
namespace Go.Proofs.Qxb6605877a
open Go.RowKit

/-- append WITHIN THE CAPACITY onto a row of the call's own, as one step of a region that draws. -/
theorem step_append_fits {P : Program} {ops : Array Oper} {o : Oper} {a : Act} {w : World} {K : Act → World → Prop} {Q : Exit → Act → World → Prop} {E : Prop}
    (hg : o.guard = none) (s x : Operand) (t : TypeId) (hop : o.op = Op.call { callee := Callee.builtin Builtin.append, args := #[s, x], argTypes := #[t, t] })
    (base : Nat) (e : TypeId) (i : TypeInfo) (size : Nat) (h1 : P.underlying t = some (.slice e)) (h2 : P.info? e = some i) (h4 : i.size = size)
    (g k cap : Nat) (xs : List Value) (hs : a.eval s = .slice (some ⟨g, 0, none⟩) k cap) (hown : w.ownsRow base e size (.slice (some ⟨g, 0, none⟩) k cap) k xs)
    (ad : Addr) (m c : Nat) (news : List Value) (hx : a.eval x = .slice (some ad) m c) (hn : news.length = m * size) (hc : ∀ j u, news[j]? = some u → w.cell? (ad.add j) = some u) (h1c : ∀ u ∈ news, u.oneCell' = true)
    (b1 : k + m ≤ cap)
    (hK : ∀ w', w'.ownsRow base e size (.slice (some ⟨g, 0, none⟩) (k + m) cap) (k + m) (xs ++ news) → w.grownBy w' (some g) → K (a.put o.dst (.slice (some ⟨g, 0, none⟩) (k + m) cap)) w') :
    if Region.wanted o (yielded ops a.tmps) = true then Oper.wp P o a w K Q else E := by
  have hw : Region.wanted o (yielded ops a.tmps) = true := by simp [Region.wanted, hg]
  rw [if_pos hw]
  obtain ⟨w', hrun, r1, r2⟩ := run_append_fits (P := P) w base t o.type e i size h1 h2 h4 g k cap xs hown ad m c news hn hc h1c b1
  unfold Oper.wp
  simp [execOp, hop, resolve, invoke, builtin, hs, hx, hrun, Result.andThen]
  exact hK w' r1 r2

/-- A queue in memory: block g is the row of pointers, each to its request. -/
def Queue (w : World) (g : Nat) (L : List (Nat × Int)) : Prop := ∀ i x, L[i]? = some x → w.cell? ⟨g, i, none⟩ = some (.pointer (some ⟨x.1, 0, none⟩)) ∧ ReqAt w x.1 x.2
theorem Queue.below {w w' : World} {g : Nat} {L : List (Nat × Int)} (h : Queue w g L) (hb : Below w.heap.size w w') : Queue w' g L := fun i x hx =>
  ⟨(hb.cell (World.block_lt_of_cell? _ _ (h i x hx).1)).trans (h i x hx).1, (h i x hx).2.below hb⟩

/-- A pointer to a request. -/
def ptr (x : Nat × Int) : Value := .pointer (some ⟨x.1, 0, none⟩)

theorem one_new {W : World} {s : Nat} {v : Value} {t : TypeId} (hs : W.heap.size = s) : ∀ j u, [v][j]? = some u → (W.alloc (.cells #[v] t)).cell? ((⟨s, 0, none⟩ : Addr).add j) = some u := by
  intro j u h
  subst hs
  match j, h with
  | 0, h =>
    simp at h
    subst h
    simp [Addr.add]
theorem own_two {w : World} {base : Nat} {e : TypeId} {size : Nat} {v : Value} {n : Nat} {xs : List Value} (h : w.ownsRow base e size v n xs) (m : Nat) (o : Obj) : ((w.drewN m).alloc o).ownsRow base e size v n xs :=
  World.ownsRow.alloc (w := w.drewN m) h o

theorem own_next {w : World} {base g k cap : Nat} {xs : List (Nat × Int)} {y : Nat × Int} (h : w.ownsRow base 40 1 (.slice (some ⟨g, 0, none⟩) (k + 1) cap) (k + 1) (xs.map ptr ++ [.pointer (some ⟨y.1, 0, none⟩)])) :
    w.ownsRow base 40 1 (.slice (some ⟨g, 0, none⟩) (k + 1) cap) (k + 1) ((xs ++ [y]).map ptr) := by
  rw [List.map_append]
  exact h
theorem own_len {w : World} {base g k k' cap : Nat} {xs : List Value} (e : k = k') (h : w.ownsRow base 40 1 (.slice (some ⟨g, 0, none⟩) k cap) k xs) : w.ownsRow base 40 1 (.slice (some ⟨g, 0, none⟩) k' cap) k' xs := by
  rw [← e]
  exact h
theorem slice_len {a : Option Addr} {k k' c : Nat} (e : k = k') : Value.slice a k c = .slice a k' c := by rw [e]
theorem next_eq {j m n : Nat} (h : j + (m + 1) = n) : j + 1 + m = n := by omega
theorem grown_next {w wr w1 : World} {m : Nat} {o : Obj} (hb : Below w.heap.size w wr) (hg : ((wr.drewN m).alloc o).grownBy w1 (some w.heap.size)) : Below w.heap.size w w1 := by
  have h1 : Below w.heap.size w ((wr.drewN m).alloc o) := (below_drawn hb m).alloc hb.size o
  exact h1.grown hg (Nat.le_trans hb.size (by simp)) (fun k hk => by cases hk; exact Nat.le_refl _)
theorem cells_rest {w : World} {g i m : Nat} {L : List (Nat × Int)} {a : Addr} (ha : 0 < m → a = ⟨g, i, none⟩) (hq : Queue w g L) (hn : ((L.drop i).map ptr).length = m * 1) :
    ∀ ad, some a = some ad → ∀ t u, ((L.drop i).map ptr)[t]? = some u → w.cell? (ad.add t) = some u := by
  intro ad e t u hu
  cases e
  have hlt := (List.getElem?_eq_some_iff.1 hu).1
  rw [ha (by omega), Go.WideShapes.add_plain]
  simp only [List.getElem?_map, List.getElem?_drop, Option.map_eq_some_iff] at hu
  obtain ⟨x, hx, rfl⟩ := hu
  exact (hq (i + t) x hx).1
theorem ptr_one (L : List (Nat × Int)) : ∀ u ∈ L.map ptr, u.oneCell' = true := by
  intro u hu
  obtain ⟨x, _, rfl⟩ := List.mem_map.1 hu
  rfl

/-- What merge leaves is a queue. -/
theorem queue_of {w w2 : World} {base g n cap bq bk k : Nat} {Lq Lk : List (Nat × Int)} {vs : List Value} (hq : Queue w bq Lq) (hk : Queue w bk Lk) (hb : Below w.heap.size w w2)
    (hown : w2.ownsRow base 40 1 (.slice (some ⟨g, 0, none⟩) n cap) n vs) (e : vs = (mrg k Lq Lk).map ptr) : Queue w2 g (mrg k Lq Lk) := by
  intro t x hx
  have hlt := (List.getElem?_eq_some_iff.1 hx).1
  have hl : (mrg k Lq Lk).length = n * 1 := by rw [← hown.1, e, List.length_map]
  constructor
  · rw [hown.cellAt t (by omega), e, List.getElem?_map, hx]
    rfl
  · have hm : x ∈ Lq ++ Lk := (mrg_perm k Lq Lk).mem_iff.1 (List.mem_of_getElem? hx)
    rcases List.mem_append.1 hm with h | h
    · obtain ⟨i, hi⟩ := List.mem_iff_getElem?.1 h
      exact (hq i x hi).2.below hb
    · obtain ⟨i, hi⟩ := List.mem_iff_getElem?.1 h
      exact (hk i x hi).2.below hb

set_option maxHeartbeats 1600000 in
/-- merge. -/
theorem merge_any (bq bk lq lk : Nat) (Lq Lk : List (Nat × Int)) (w : World) (hnq : lq ≤ 65536) (hnk : lk ≤ 65536) (hlq : Lq.length = lq) (hlk : Lk.length = lk) (hq : Queue w bq Lq) (hk : Queue w bk Lk) :
    Calls Try.prog 21 #[.slice (some ⟨bq, 0, none⟩) lq lq, .slice (some ⟨bk, 0, none⟩) lk lk] w fun e w' =>
      ∃ g c, e = .returned (.slice (some ⟨g, 0, none⟩) (lq + lk) c) ∧ Queue w' g (mrg (lq + lk) Lq Lk) ∧ Below w.heap.size w w' := by
  have HQ : Aside (Queue w bq Lq) := hq
  have HK : Aside (Queue w bk Lk) := hk
  have HNQ : Aside (Lq.length = lq) := hlq
  have HNK : Aside (Lk.length = lk) := hlk
  clear hq hk hlq hlk
  by_cases hk1 : lk = 0
  · subst hk1
    go_enter Try.func21, Try.ntmps21
    go_wp2
    go_ret
    have e : Lk = [] := List.eq_nil_of_length_eq_zero HNK.out
    subst e
    exact ⟨bq, lq, rfl, by rw [mrg_nil_right]; exact HQ.out, Below.refl _ _⟩
  by_cases hq1 : lq = 0
  · subst hq1
    have hkz : ((lk : Int) == 0) = false := by simpa using hk1
    go_enter Try.func21, Try.ntmps21
    go_wp2
    go_ret
    have e : Lq = [] := List.eq_nil_of_length_eq_zero HNQ.out
    subst e
    exact ⟨bk, lk, by simp, by rw [mrg_nil_left]; exact HK.out, Below.refl _ _⟩
  have hkz : ((lk : Int) == 0) = false := by simpa using hk1
  have hqz : ((lq : Int) == 0) = false := by simpa using hq1
  obtain ⟨i0, hi, hz0, hz1, hz2⟩ := info_parts info40
  go_enter Try.func21, Try.ntmps21
  go_wp2_with (at_make; refine wpList_make_own _ rfl _ _ 45 rfl w.heap.size 40 i0 (.pointer none) 1 Try.underlying45 hi hz0 hz1 _ _ _ (lk + lq) rfl rfl (by omega) ?b2 ?b3 (Nat.le_refl _) ?_)
  case b2 => rw [hz2]; omega
  case b3 => unfold maxLen; omega
  intro w0 hown0 hgrow0
  go_wp2
  go_loopg [0, 1, 5] (lq + lk) (fun kx s0 s1 s5 wr => ∃ (i j mq mk k : Nat) (aq ak : Addr) (xs : List (Nat × Int)), s0 = .slice (some aq) mq mq ∧ s1 = .slice (some ak) mk mk ∧ s5 = .slice (some ⟨w.heap.size, 0, none⟩) (i + j) (lk + lq) ∧
      mq + mk ≤ kx ∧ Aside (i + mq = lq) ∧ Aside (j + mk = lk) ∧ (0 < mq → aq = ⟨bq, i, none⟩) ∧ (0 < mk → ak = ⟨bk, j, none⟩) ∧ wr.ownsRow w.heap.size 40 1 (.slice (some ⟨w.heap.size, 0, none⟩) (i + j) (lk + lq)) (i + j) (xs.map ptr) ∧
      Aside (xs ++ mrg k (Lq.drop i) (Lk.drop j) = mrg (lq + lk) Lq Lk ∧ mq + mk ≤ k) ∧ Below w.heap.size w wr)
  case atStart => exact ⟨0, 0, lq, lk, lq + lk, _, _, [], rfl, rfl, rfl, Nat.le_refl _, Nat.zero_add _, Nat.zero_add _, fun _ => rfl, fun _ => rfl, hown0, ⟨by simp, Nat.le_refl _⟩, (Below.refl _ _).grown hgrow0 (Nat.le_refl _) (fun k h => by cases h)⟩
  case round =>
    obtain ⟨i, j, mq, mk, k, aq, ak, xs, rfl, rfl, rfl, hkx, H1, H2, hq, hk, hown, HX, hb⟩ := hrel
    by_cases hboth : 0 < mq ∧ 0 < mk
    · obtain ⟨mq, rfl⟩ : ∃ m, mq = m + 1 := ⟨mq - 1, by omega⟩
      obtain ⟨mk, rfl⟩ : ∃ m, mk = m + 1 := ⟨mk - 1, by omega⟩
      obtain rfl := hq (by omega)
      obtain rfl := hk (by omega)
      obtain ⟨x, hx⟩ : ∃ x, Lq[i]? = some x := ⟨_, List.getElem?_eq_getElem (by have := H1.out; have := HNQ.out; omega)⟩
      obtain ⟨y, hy⟩ : ∃ y, Lk[j]? = some y := ⟨_, List.getElem?_eq_getElem (by have := H2.out; have := HNK.out; omega)⟩
      obtain ⟨x1, x2⟩ := HQ.out.below hb i x hx
      obtain ⟨y1, y2⟩ := HK.out.below hb j y hy
      have x3 := x2.cell
      have y3 := y2.cell
      have HXE : Aside (Lq[i]? = some x) := hx
      have HYE : Aside (Lk[j]? = some y) := hy
      obtain ⟨k, rfl⟩ : ∃ k', k = k' + 1 := ⟨k - 1, by have := HX.out.2; omega⟩
      clear hx hy hq hk hboth
      have hroom : i + j + 1 ≤ lk + lq := by have := H1.out; have := H2.out; omega
      have hmk1 : (1 : Int) ≤ (mk : Int) + 1 := by omega
      have hmq1 : (1 : Int) ≤ (mq : Int) + 1 := by omega
      by_cases hlt : y.2 < x.2
      · obtain ⟨ak, hak, hak'⟩ : ∃ a : Addr, (if mk = 0 then some (⟨bk, j, none⟩ : Addr) else some ⟨bk, j + 1, none⟩) = some a ∧ Aside (0 < mk → a = ⟨bk, j + 1, none⟩) := by
          by_cases h : mk = 0
          · exact ⟨⟨bk, j, none⟩, by rw [if_pos h], fun h' => by omega⟩
          · exact ⟨⟨bk, j + 1, none⟩, by rw [if_neg h], fun _ => rfl⟩
        go_wp2
        go_quiet (fail)
        go_wp2
        go_region_law (refine step_append_fits rfl (.tmp 41) (.tmp 45) 45 rfl w.heap.size 40 i0 1 Try.underlying45 hi hz1 w.heap.size (i + j) (lk + lq) (xs.map ptr) (by simp [Act.eval]) (own_two hown _ _) ⟨wr.heap.size, 0, none⟩ 1 1 [.pointer (some ⟨y.1, 0, none⟩)] (by simp [Act.eval]) rfl (one_new rfl) (by intro u hu; simp at hu; subst hu; rfl) hroom ?_; intro w1 hown1 hgrow1)
        go_wp2
        go_roundg (mq + 1 + mk)
        case measure => omega
        case rel => exact ⟨i, j + 1, mq + 1, mk, k, ⟨bq, i, none⟩, ak, xs ++ [y], rfl, rfl, rfl, Nat.le_refl _, H1.out, next_eq H2.out, fun _ => rfl, hak'.out, own_next hown1, ⟨step_kept HXE.out HYE.out hlt HX.out.1, by have := HX.out.2; omega⟩, grown_next hb hgrow1⟩
      · obtain ⟨aq, haq, haq'⟩ : ∃ a : Addr, (if mq = 0 then some (⟨bq, i, none⟩ : Addr) else some ⟨bq, i + 1, none⟩) = some a ∧ Aside (0 < mq → a = ⟨bq, i + 1, none⟩) := by
          by_cases h : mq = 0
          · exact ⟨⟨bq, i, none⟩, by rw [if_pos h], fun h' => by omega⟩
          · exact ⟨⟨bq, i + 1, none⟩, by rw [if_neg h], fun _ => rfl⟩
        have hle : x.2 ≤ y.2 := by omega
        go_wp2
        go_quiet (fail)
        go_wp2
        go_region_law (refine step_append_fits rfl (.tmp 49) (.tmp 53) 45 rfl w.heap.size 40 i0 1 Try.underlying45 hi hz1 w.heap.size (i + j) (lk + lq) (xs.map ptr) (by simp [Act.eval]) (own_two hown _ _) ⟨wr.heap.size, 0, none⟩ 1 1 [.pointer (some ⟨x.1, 0, none⟩)] (by simp [Act.eval]) rfl (one_new rfl) (by intro u hu; simp at hu; subst hu; rfl) hroom ?_; intro w1 hown1 hgrow1)
        go_wp2
        go_roundg (mq + (mk + 1))
        case measure => omega
        case rel => exact ⟨i + 1, j, mq, mk + 1, k, aq, ⟨bk, j, none⟩, xs ++ [x], rfl, rfl, slice_len (by omega), Nat.le_refl _, next_eq H1.out, H2.out, haq'.out, fun _ => rfl, own_len (by omega) (own_next hown1), ⟨step_queue HXE.out HYE.out (by omega) HX.out.1, by have := HX.out.2; omega⟩, grown_next hb hgrow1⟩
    · have hb0 := hb
      have hroom1 : i + j + mk ≤ lk + lq := by have := H1.out; have := H2.out; omega
      have hroom2 : i + j + mk + mq ≤ lk + lq := by have := H1.out; have := H2.out; omega
      have N1 : Aside (((Lk.drop j).map ptr).length = mk * 1) := by have := H2.out; have := HNK.out; simp [Aside]; omega
      have N2 : Aside (((Lq.drop i).map ptr).length = mq * 1) := by have := H1.out; have := HNQ.out; simp [Aside]; omega
      have C1 : Aside (∀ ad, some ak = some ad → ∀ t u, ((Lk.drop j).map ptr)[t]? = some u → wr.cell? (ad.add t) = some u) := cells_rest hk (HK.out.below hb) N1.out
      have C2 : Aside (∀ w', wr.grownBy w' (some w.heap.size) → ∀ ad, some aq = some ad → ∀ t u, ((Lq.drop i).map ptr)[t]? = some u → w'.cell? (ad.add t) = some u) := fun w' hg => cells_rest hq (HQ.out.below (hb.grown hg hb.size (fun k hk => by cases hk; exact Nat.le_refl _))) N2.out
      rcases (show mk = 0 ∨ (0 < mk ∧ mq = 0) by omega) with rfl | ⟨h0, rfl⟩
      all_goals
        go_wp2_with (first
          | (at_builtin; refine wpList_append_fits_any _ rfl (.tmp 57) (.tmp 58) 45 rfl w.heap.size 40 i0 1 Try.underlying45 hi hz1 w.heap.size (i + j) (lk + lq) _ rfl hown (some ak) _ _ ((Lk.drop j).map ptr) rfl N1.out (by intro h; cases h) C1.out (ptr_one _) hroom1 ?_; intro w1 hown1 hgrow1)
          | (at_builtin; refine wpList_append_fits_any _ rfl (.tmp 59) (.tmp 60) 45 rfl w.heap.size 40 i0 1 Try.underlying45 hi hz1 w.heap.size _ (lk + lq) _ rfl hown1 (some aq) _ _ ((Lq.drop i).map ptr) rfl N2.out (by intro h; cases h) (C2.out _ hgrow1) (ptr_one _) hroom2 ?_; intro w2 hown2 hgrow2))
        go_ret
        have hb1 : Below w.heap.size w w1 := hb.grown hgrow1 hb.size (fun k hk => by cases hk; exact Nat.le_refl _)
        have hb2 : Below w.heap.size w w2 := hb1.grown hgrow2 hb1.size (fun k hk => by cases hk; exact Nat.le_refl _)
        have hend := step_end (by have := H1.out; have := H2.out; have := HNQ.out; have := HNK.out; omega) HX.out.1
        refine ⟨w.heap.size, lk + lq, ?_, ?_, hb2⟩
        · exact congrArg Ending.returned (slice_len (by have := H1.out; have := H2.out; omega))
        · exact queue_of HQ.out HK.out hb2 hown2 (by rw [← hend]; simp)

/-! ### The two counts -/
theorem count_succ (p : Nat → Bool) (k : Nat) : (List.range (k + 1)).countP p = (List.range k).countP p + if p k then 1 else 0 := by
  rw [List.range_succ, List.countP_append]
  by_cases h : p k = true <;> simp [h]
theorem count_le (p : Nat → Bool) (k : Nat) : (List.range k).countP p ≤ k := by
  have := List.countP_le_length (p := p) (l := List.range k)
  simpa using this

set_option maxHeartbeats 400000 in
theorem below_any (a : Option Addr) (n c : Nat) (f : Nat → Int) (v : Int) (w : World) (hn : n ≤ 1048576) (h : Row w a n f) :
    Calls Try.prog 17 #[.slice a n c, .int .u64 v] w fun e w' => e = .returned (.int .i64 ((List.range n).countP (fun i => decide (f i < v)) : Nat)) ∧ w' = w := by
  go_enter Try.func17, Try.ntmps17
  go_wp2
  go_loop [5, 6] (fun t i => ∃ k : Nat, k ≤ n ∧ i = .int .i64 k ∧ t = .int .i64 ((List.range k).countP (fun i => decide (f i < v)) : Nat)) (fun _ i => n - (intOf i).toNat)
  case atStart => exact ⟨0, Nat.zero_le _, rfl, rfl⟩
  case round =>
    obtain ⟨k, hk, rfl, rfl⟩ := hrel
    have hs : Hid _ := count_succ (fun i => decide (f i < v)) k
    have hl := count_le (fun i => decide (f i < v)) k
    obtain ⟨m, hm⟩ : ∃ m, m = (List.range k).countP (fun i => decide (f i < v)) := ⟨_, rfl⟩
    rw [← hm] at hl hs ⊢
    have HM : Hid _ := hm
    clear hm
    by_cases hlt : k < n
    · obtain ⟨g, rfl, hc⟩ := h k hlt
      have hltz : (k : Int) < (n : Int) := by omega
      clear h
      go_wp2
      · have hv : f k < v := by assumption
        go_round
        case rel => exact ⟨k + 1, by omega, by go_num, by rw [hs.out]; simp [hv]⟩
        case measure => simp [intOf]; omega
      · have hv : ¬ f k < v := by first | assumption | (have h : v ≤ f k := by assumption
                                                        omega)
        go_round
        case rel => exact ⟨k + 1, by omega, by go_num, by rw [hs.out]; simp [hv]⟩
        case measure => simp [intOf]; omega
    · obtain rfl : k = n := by omega
      go_wp2
      go_ret
      exact ⟨by rw [HM.out]; rfl, rfl⟩

set_option maxHeartbeats 400000 in
theorem atmost_any (a : Option Addr) (n c : Nat) (f : Nat → Int) (v : Int) (w : World) (hn : n ≤ 1048576) (h : Row w a n f) :
    Calls Try.prog 18 #[.slice a n c, .int .u64 v] w fun e w' => e = .returned (.int .i64 ((List.range n).countP (fun i => decide (f i ≤ v)) : Nat)) ∧ w' = w := by
  go_enter Try.func18, Try.ntmps18
  go_wp2
  go_loop [5, 6] (fun t i => ∃ k : Nat, k ≤ n ∧ i = .int .i64 k ∧ t = .int .i64 ((List.range k).countP (fun i => decide (f i ≤ v)) : Nat)) (fun _ i => n - (intOf i).toNat)
  case atStart => exact ⟨0, Nat.zero_le _, rfl, rfl⟩
  case round =>
    obtain ⟨k, hk, rfl, rfl⟩ := hrel
    have hs : Hid _ := count_succ (fun i => decide (f i ≤ v)) k
    have hl := count_le (fun i => decide (f i ≤ v)) k
    obtain ⟨m, hm⟩ : ∃ m, m = (List.range k).countP (fun i => decide (f i ≤ v)) := ⟨_, rfl⟩
    rw [← hm] at hl hs ⊢
    have HM : Hid _ := hm
    clear hm
    by_cases hlt : k < n
    · obtain ⟨g, rfl, hc⟩ := h k hlt
      have hltz : (k : Int) < (n : Int) := by omega
      clear h
      go_wp2
      · have hv : f k ≤ v := by assumption
        go_round
        case rel => exact ⟨k + 1, by omega, by go_num, by rw [hs.out]; simp [hv]⟩
        case measure => simp [intOf]; omega
      · have hv : ¬ f k ≤ v := by first | assumption | (have h : v < f k := by assumption
                                                        omega)
        go_round
        case rel => exact ⟨k + 1, by omega, by go_num, by rw [hs.out]; simp [hv]⟩
        case measure => simp [intOf]; omega
    · obtain rfl : k = n := by omega
      go_wp2
      go_ret
      exact ⟨by rw [HM.out]; rfl, rfl⟩

end Go.Proofs.Qxb6605877a
