/-
  THE WALK OF FnDecoderVariableScriptReadsWords (5).
-/
import Derived.Test.Qxb6605934aFmtVar
namespace Go.Proofs.Qxb6605934aFmt
open Go.RowKit Go.Extern.Stop Go.Stop Go.Extern

set_option maxHeartbeats 400000 in
theorem variable_fail (F : Interp) (D n p c : Nat) (a : Option Addr) (vars : Value) (w : World) (hF : F.answers w.tape) (hd : Dec w D (.slice a n c) p vars .nilIface) (hn : n ≤ 4194304) (hp : p ≤ n) (hk : n < p + 4) :
    Calls Tryf.prog 31 #[.pointer (some ⟨D, 0, none⟩), .func (.func 32) #[] #[]] w fun e w' => e = .returned (.tuple #[]) ∧ ∃ t x, Dec w' D (.slice a n c) p vars (.iface t x) ∧ Only D D w w' := by
  have hcon := fixed_fail F D n p 4 c a vars w hF hd hn hp hk (by omega)
  have hneq := fun W => Lib.run_eql_slice_nil (P := Tryf.prog) W 29 5 none 0 0 0 0 Tryf.underlying29
  clear hd hF
  go_enter Tryf.func31, Tryf.ntmps31
  go_wp2_with (go_at_call 30; refine hcon.mono ?_; rintro e w1 ⟨rfl, t, x, hd1, hO⟩)
  refine bodyPost_ret (results_none rfl _ _ _) rfl ?_
  exact ⟨rfl, t, x, hd1, hO⟩

set_option maxHeartbeats 400000 in
theorem variable_stuck (D t : Nat) (buf x vars : Value) (pos : Int) (w : World) (hd : Dec w D buf pos vars (.iface t x)) :
    Calls Tryf.prog 31 #[.pointer (some ⟨D, 0, none⟩), .func (.func 32) #[] #[]] w fun e w' => e = .returned (.tuple #[]) ∧ w' = w := by
  have hcon := fixed_stuck D t 4 buf x vars pos w hd
  have hneq := fun W => Lib.run_eql_slice_nil (P := Tryf.prog) W 29 5 none 0 0 0 0 Tryf.underlying29
  clear hd
  go_enter Tryf.func31, Tryf.ntmps31
  go_wp2_with (go_at_call 30; refine hcon.mono ?_; rintro e w1 ⟨rfl, hw⟩)
  refine bodyPost_ret (results_none rfl _ _ _) rfl ?_
  exact ⟨rfl, rfl⟩

/-- The words that are read. -/
def offsOf (f : Nat → Int) (m : Nat) : List Int := (List.range m).map (fun j => IntKind.i64.wrap (word (f (4 * j)) (f (4 * j + 1)) (f (4 * j + 2)) (f (4 * j + 3))))
theorem offsOf_succ (f : Nat → Int) (m : Nat) : offsOf f (m + 1) = offsOf f m ++ [IntKind.i64.wrap (word (f (4 * m)) (f (4 * m + 1)) (f (4 * m + 2)) (f (4 * m + 3)))] := by simp [offsOf, List.range_succ]
theorem varCells_length (l : List Int) : (varCells l).length = l.length * 2 := by
  induction l with
  | nil => rfl
  | cons x l ih => simp [varCells] at ih ⊢; omega
theorem varCells_at (l : List Int) (j : Nat) (o : Int) (h : l[j]? = some o) : (varCells l)[j * 2]? = some (.int .i64 o) := by
  induction l generalizing j with
  | nil => simp at h
  | cons x l ih =>
    cases j with
    | zero => simp at h; subst h; rfl
    | succ j =>
      rw [List.getElem?_cons_succ] at h
      have := ih j h
      rw [show (j + 1) * 2 = j * 2 + 1 + 1 by omega]
      exact this

/-- The decoder's state behind i calls: m words read, of 'words' that there are. -/
def State (w : World) (D : Nat) (a : Option Addr) (n c words i : Nat) (f : Nat → Int) : Prop :=
  ∃ v e, Dec w D (.slice a n c) ((4 * min i words : Nat) : Int) v e ∧ ((e = .nilIface ∧ i ≤ words) ∨ ((∃ t x, e = .iface t x) ∧ words < i)) ∧ w.ownsRow (D + 1) 60 2 v (min i words) (varCells (offsOf f (min i words)))

theorem call_any (F : Interp) (D n c words i : Nat) (a : Option Addr) (f : Nat → Int) (w : World) (hF : F.answers w.tape) (hn : n ≤ 1048576) (hw : words = n / 4) (hi : i ≤ 65536)
    (hb : ∀ j, j < n → ∃ G, a = some ⟨G, 0, none⟩ ∧ c = n ∧ G < D ∧ w.cell? ⟨G, j, none⟩ = some (.int .u8 (f j))) (hs : State w D a n c words i f) :
    Calls Tryf.prog 31 #[.pointer (some ⟨D, 0, none⟩), .func (.func 32) #[] #[]] w fun e w' => e = .returned (.tuple #[]) ∧ State w' D a n c words (i + 1) f ∧ Below D w w' := by
  obtain ⟨v, e, hd, he, ho⟩ := hs
  have hDw : D ≤ w.heap.size := Nat.le_of_lt (lt_of_block hd)
  rcases he with ⟨rfl, hiw⟩ | ⟨⟨t, x, rfl⟩, hiw⟩
  · rcases Nat.lt_or_ge i words with hlt | hge
    · have em : min i words = i := by omega
      have em' : min (i + 1) words = i + 1 := by omega
      rw [em] at hd ho
      obtain ⟨G, rfl, rfl, hG, c0⟩ := hb (4 * i) (by omega)
      have hc : ∀ j, j < c → w.cell? ⟨G, j, none⟩ = some (.int .u8 (f j)) := fun j hj => by
        obtain ⟨G', e, _, _, h⟩ := hb j hj
        cases e
        exact h
      refine (variable_ok D G c (4 * i) i v (offsOf f i) (f (4 * i)) (f (4 * i + 1)) (f (4 * i + 2)) (f (4 * i + 3)) w hd (by omega) (by omega) c0 (hc _ (by omega)) (hc _ (by omega)) (hc _ (by omega)) ho hi hG).mono ?_
      rintro e w' ⟨rfl, v', hd', ho', hb'⟩
      refine ⟨rfl, ⟨v', .nilIface, ?_, .inl ⟨rfl, by omega⟩, ?_⟩, hb'⟩
      · rw [em', show ((4 * (i + 1) : Nat) : Int) = ((4 * i : Nat) : Int) + 4 by omega]
        exact hd'
      · rw [em', offsOf_succ]
        exact ho'
    · obtain rfl : i = words := by omega
      have em : min i i = i := by omega
      have em' : min (i + 1) i = i := by omega
      rw [em] at hd ho
      refine (variable_fail F D n (4 * i) c a v w hF hd (by omega) (by omega) (by omega)).mono ?_
      rintro e w' ⟨rfl, t, x, hd', hO⟩
      refine ⟨rfl, ⟨v, .iface t x, ?_, .inr ⟨⟨t, x, rfl⟩, by omega⟩, ?_⟩, hO.below hDw (Nat.le_refl D) (Nat.le_refl D)⟩
      · rw [em']; exact hd'
      · rw [em']; exact own_only ho hO (Nat.lt_succ_self D)
  · have em : min i words = words := by omega
    have em' : min (i + 1) words = words := by omega
    rw [em] at hd ho
    refine (variable_stuck D t _ x v _ w hd).mono ?_
    rintro e w' ⟨rfl, rfl⟩
    exact ⟨rfl, ⟨v, .iface t x, by rw [em']; exact hd, .inr ⟨⟨t, x, rfl⟩, by omega⟩, by rw [em']; exact ho⟩, Below.refl _ _⟩

set_option maxHeartbeats 400000 in
/-- ZZcallVariable(d). -/
theorem zz_any (D : Nat) (w : World) (R : World → Prop) (hcon : Calls Tryf.prog 31 #[.pointer (some ⟨D, 0, none⟩), .func (.func 32) #[] #[]] w fun e w' => e = .returned (.tuple #[]) ∧ R w') :
    Calls Tryf.prog 24 #[.pointer (some ⟨D, 0, none⟩)] w fun e w' => e = .returned (.tuple #[]) ∧ R w' := by
  go_enter Tryf.func24, Tryf.ntmps24
  go_wp2_with (go_at_call 31; refine hcon.mono ?_; rintro e w' ⟨rfl, hr⟩)
  go_end0
  exact ⟨rfl, hr⟩

set_option maxHeartbeats 400000 in
theorem newdec_any (a : Option Addr) (n c : Nat) (w : World) :
    Calls Tryf.prog 19 #[.slice a n c, .int .i64 0] w fun e w' => e = .returned (.pointer (some ⟨w.heap.size, 0, none⟩)) ∧ w' = w.alloc (.cells #[.slice a n c, .int .i64 0, .slice none 0 0, .nilIface] 55) := by
  go_enter Tryf.func19, Tryf.ntmps19
  go_wp2
  go_ret
  exact ⟨rfl, rfl⟩

/-- What the loop reads of the bytes. -/
def Bytes (w : World) (D : Nat) (a : Option Addr) (n c : Nat) (f : Nat → Int) : Prop := ∀ j, j < n → ∃ G, a = some ⟨G, 0, none⟩ ∧ c = n ∧ G < D ∧ w.cell? ⟨G, j, none⟩ = some (.int .u8 (f j))
theorem Bytes.below {w w' : World} {D : Nat} {a : Option Addr} {n c : Nat} {f : Nat → Int} (h : Bytes w D a n c f) (hb : Below D w w') : Bytes w' D a n c f := fun j hj => by
  obtain ⟨G, h1, h2, h3, h4⟩ := h j hj
  exact ⟨G, h1, h2, h3, (hb.cell (p := ⟨G, j, none⟩) h3).trans h4⟩

theorem byte_at {w : World} {D G n : Nat} {f : Nat → Int} (h : Bytes w D (some ⟨G, 0, none⟩) n n f) (j : Nat) (hj : j < n) : w.cell? ⟨G, j, none⟩ = some (.int .u8 (f j)) := by
  obtain ⟨G', e, _, _, h⟩ := h j hj
  cases e
  exact h

theorem dec_begin {w W : World} {a : Option Addr} {n c : Nat} {f : Nat → Int} (hS : Sl W a n c f) (hb : Below w.heap.size w W) (words : Nat) :
    ∃ D W2, State W2 D a n c words 0 f ∧ Bytes W2 D a n c f ∧ Below w.heap.size w W2 ∧ w.heap.size ≤ D ∧ W.heap.size = D ∧ W.alloc (.cells #[.slice a n c, .int .i64 0, .slice none 0 0, .nilIface] 55) = W2 := by
  refine ⟨W.heap.size, _, ⟨.slice none 0 0, .nilIface, ?_, .inl ⟨rfl, Nat.zero_le _⟩, ?_⟩, ?_, hb.alloc hb.size _, hb.size, rfl, rfl⟩
  · rw [Nat.zero_min]
    exact Deep.blk_alloc_new _ _
  · rw [Nat.zero_min]
    exact World.ownsRow_nil _ _ _ _
  · intro j hj
    rcases hS with ⟨_, h, _⟩ | ⟨G, rfl, rfl, hc⟩
    · omega
    · have hlt := World.block_lt_of_cell? _ _ (hc j hj)
      exact ⟨G, rfl, rfl, hlt, by rw [World.cell?_alloc_past _ _ _ hlt]; exact hc j hj⟩

/-- The recorded offsets, as they lie. -/
def VarsAt (w : World) (b : Option Addr) (m : Nat) (f : Nat → Int) : Prop := ∀ j, j < m → ∃ g, b = some ⟨g, 0, none⟩ ∧ w.cell? ⟨g, j * 2, none⟩ = some (.int .i64 (IntKind.i64.wrap (word (f (4 * j)) (f (4 * j + 1)) (f (4 * j + 2)) (f (4 * j + 3)))))

theorem state_open {w : World} {D : Nat} {a : Option Addr} {n c words i : Nat} {f : Nat → Int} (h : State w D a n c words i f) :
    ∃ (m : Nat) (b : Option Addr) (cap : Nat) (e : Value), w.cell? ⟨D, 1, none⟩ = some (.int .i64 (4 * (m : Int))) ∧ w.cell? ⟨D, 2, none⟩ = some (.slice b m cap) ∧ w.cell? ⟨D, 3, none⟩ = some e ∧
      ((e = .nilIface ∧ i = m ∧ i ≤ words) ∨ ((∃ t x, e = .iface t x) ∧ words = m ∧ words < i)) ∧ VarsAt w b m f := by
  obtain ⟨v, e, hd, he, ho⟩ := h
  obtain ⟨m, hm⟩ : ∃ m, m = min i words := ⟨_, rfl⟩
  rw [← hm] at hd ho
  have hv : ∃ b cap, v = .slice b m cap ∧ VarsAt w b m f := by
    rcases ho.2 with ⟨rfl, h0⟩ | ⟨g, cap, cur, rfl, _⟩
    · subst h0
      exact ⟨none, 0, rfl, fun j hj => absurd hj (Nat.not_lt_zero _)⟩
    · refine ⟨_, cap, rfl, fun j hj => ⟨g, rfl, ?_⟩⟩
      rw [ho.cellAt (j * 2) (by omega)]
      exact varCells_at _ j _ (by simp [offsOf, hj])
  obtain ⟨b, cap, rfl, hvs⟩ := hv
  refine ⟨m, b, cap, e, ?_, block_cell hd 2, block_cell hd 3, ?_, hvs⟩
  · rw [show 4 * (m : Int) = ((4 * m : Nat) : Int) by omega]
    exact block_cell hd 1
  · rcases he with ⟨h1, h2⟩ | ⟨h1, h2⟩
    · exact .inl ⟨h1, by omega, h2⟩
    · exact .inr ⟨h1, by omega, h2⟩

set_option maxHeartbeats 400000 in
/-- ZZdecoderVarOffset(d, j). -/
theorem off_any (D g m cap j : Nat) (o : Int) (w : World) (hj : j < m) (d2 : w.cell? ⟨D, 2, none⟩ = some (.slice (some ⟨g, 0, none⟩) m cap)) (hv : w.cell? ⟨g, j * 2, none⟩ = some (.int .i64 o)) :
    Calls Tryf.prog 26 #[.pointer (some ⟨D, 0, none⟩), .int .i64 j] w fun e w' => e = .returned (.int .i64 o) ∧ w' = w := by
  have hjz : (j : Int) < (m : Int) := by omega
  go_enter Tryf.func26, Tryf.ntmps26
  go_wp2
  go_ret
  exact ⟨rfl, rfl⟩

set_option maxHeartbeats 400000 in
theorem len_any (D m cap : Nat) (b : Option Addr) (w : World) (d2 : w.cell? ⟨D, 2, none⟩ = some (.slice b m cap)) : Calls Tryf.prog 25 #[.pointer (some ⟨D, 0, none⟩)] w fun e w' => e = .returned (.int .i64 m) ∧ w = w' := by
  go_enter Tryf.func25, Tryf.ntmps25
  go_wp2
  go_ret
  exact ⟨rfl, rfl⟩
set_option maxHeartbeats 400000 in
theorem pos_any (D : Nat) (p : Int) (w : World) (d1 : w.cell? ⟨D, 1, none⟩ = some (.int .i64 p)) : Calls Tryf.prog 22 #[.pointer (some ⟨D, 0, none⟩)] w fun e w' => e = .returned (.int .i64 p) ∧ w = w' := by
  go_enter Tryf.func22, Tryf.ntmps22
  go_wp2
  go_ret
  exact ⟨rfl, rfl⟩
set_option maxHeartbeats 400000 in
theorem err_none (D : Nat) (w : World) (d3 : w.cell? ⟨D, 3, none⟩ = some .nilIface) : Calls Tryf.prog 21 #[.pointer (some ⟨D, 0, none⟩)] w fun e w' => e = .returned .nilIface ∧ w = w' := by
  go_enter Tryf.func21, Tryf.ntmps21
  go_wp2
  go_ret
  exact ⟨rfl, rfl⟩
set_option maxHeartbeats 400000 in
theorem err_some (D t : Nat) (x : Value) (w : World) (d3 : w.cell? ⟨D, 3, none⟩ = some (.iface t x)) : Calls Tryf.prog 21 #[.pointer (some ⟨D, 0, none⟩)] w fun e w' => e = .returned (.iface t x) ∧ w = w' := by
  go_enter Tryf.func21, Tryf.ntmps21
  go_wp2
  go_ret
  exact ⟨rfl, rfl⟩

set_option maxHeartbeats 1600000 in
theorem var_walk (F : Interp) (a0 : Option Addr) (n c0 : Nat) (N : Int) (f : Nat → Int) (w : World) (hF : F.answers w.tape) (ha : In w a0 n c0 f) :
    Calls Tryf.prog 5 #[.slice a0 n c0, .int .i64 N] w fun e w' => e = .returned (.bool true) ∧ Below w.heap.size w w' := by
  by_cases hsz : n ≤ 1048576
  · by_cases hN : 0 ≤ N ∧ N ≤ 65536
    · obtain ⟨k, rfl⟩ : ∃ k : Nat, N = k := ⟨N.toNat, by omega⟩
      have hk : k ≤ 65536 := by omega
      have hs0 : (n : Int) ≤ 1048576 := by omega
      have hs1 : (k : Int) ≤ 65536 := by omega
      have HT : Aside (F.answers w.tape) := hF
      clear hF hN
      go_enter Tryf.func5, Tryf.ntmps5
      go_wp2_with (go_at_call 23; go_in)
      refine (clone_row a0 n c0 f w (by omega) ha).mono ?_
      rintro e W1 ⟨a, c, rfl, hS1, hb1⟩
      clear ha
      obtain ⟨words, hwords⟩ : ∃ words, words = n / 4 := ⟨_, rfl⟩
      have hw4 : (n : Int) / 4 = (words : Int) := by omega
      have HW : Aside (words = n / 4) := hwords
      clear hwords
      go_wp2_with fail
      refine (newdec_any a n c W1).mono ?_
      rintro e W2 ⟨rfl, hw2⟩
      obtain ⟨D, W2', hst, hby, hbB, hDs, hEq, hW2⟩ := dec_begin hS1 hb1 words
      rw [hW2] at hw2
      subst hw2
      rw [hEq]
      clear hEq hW2 hS1 hb1
      go_wp2
      go_loopw [6] (fun s6 wr => ∃ i : Nat, i ≤ k ∧ s6 = .int .i64 i ∧ State wr D a n c words i f ∧ Below D W2 wr) (fun s6 _ => k - (intOf s6).toNat)
      case atStart => exact ⟨0, Nat.zero_le _, rfl, hst, Below.refl _ _⟩
      case round =>
        obtain ⟨i, hi, rfl, hst', hb'⟩ := hrel
        have hbw : Below w.heap.size w wr := hbB.trans (hb'.mono hDs)
        by_cases hlt : i < k
        · have hltz : (i : Int) < (k : Int) := by omega
          have hcon := zz_any D wr (fun w' => State w' D a n c words (i + 1) f ∧ Below D wr w') (call_any F D n c words i a f wr (by rw [hbw.tape]; exact HT.out) hsz HW.out (by omega) (hby.below hb') hst')
          clear hst hst' hby
          go_wp2_with (go_at_call 24; refine hcon.mono ?_; rintro e w' ⟨rfl, hs2, hb2⟩)
          go_roundw
          case rel => exact ⟨i + 1, by omega, by go_num, hs2, hb'.trans hb2⟩
          case measure => simp [intOf]; omega
        · obtain rfl : i = k := by omega
          obtain ⟨m, b, cap, e, d1, d2, d3, he, hvs⟩ := state_open hst'
          have HBY : Aside (Bytes wr D a n c f) := hby.below hb'
          have HVS : Aside (VarsAt wr b m f) := hvs
          have HLE : Aside (4 * m ≤ n) := by have := HW.out; show 4 * m ≤ n; omega
          clear hst hst' hby hb' hbB hvs
          rcases he with ⟨rfl, hmi, hiw⟩ | ⟨⟨t, x, rfl⟩, rfl, hiw⟩
          · subst hmi
            have hnw : ¬ (words : Int) < (i : Int) := by omega
            have hdd : decide ((words : Int) < (i : Int)) = false := decide_eq_false hnw
            have hdn : decide (words < i) = false := decide_eq_false (by omega)
            go_wp2_with (first | (go_at_call 25; refine (len_any D _ _ _ _ d2).mono ?_; rintro e w' ⟨rfl, rfl⟩) | (go_at_call 22; refine (pos_any D _ _ d1).mono ?_; rintro e w' ⟨rfl, rfl⟩) | (go_at_call 21; refine (err_none D _ d3).mono ?_; rintro e w' ⟨rfl, rfl⟩))
            obtain ⟨wo, rfl⟩ : ∃ wo : World, wo = wr := ⟨_, rfl⟩
            go_loopw [9] (fun s9 w9 => ∃ j q : Nat, j ≤ i ∧ s9 = .int .i64 j ∧ w9 = wo.drewN q) (fun s9 _ => i - (intOf s9).toNat)
            case atStart => exact ⟨0, 0, Nat.zero_le _, rfl, rfl⟩
            case round =>
              obtain ⟨j, q, hj, rfl, rfl⟩ := hrel
              by_cases hlt2 : j < i
              · have hltz : (j : Int) < (i : Int) := by omega
                have hle := HLE.out
                obtain ⟨G, rfl, rfl, hG, b0⟩ := HBY.out (4 * j) (by omega)
                have b1 := byte_at HBY.out (4 * j + 1) (by omega)
                have b2 := byte_at HBY.out (4 * j + 2) (by omega)
                have b3 := byte_at HBY.out (4 * j + 3) (by omega)
                obtain ⟨g, rfl, hv⟩ := HVS.out j hlt2
                unfold word at hv
                have hi3 : 4 * (j : Int) + 3 < (c : Int) := by omega
                have hi2 : 4 * (j : Int) + 2 < (c : Int) := by omega
                have hi1 : 4 * (j : Int) + 1 < (c : Int) := by omega
                have hi0 : 4 * (j : Int) < (c : Int) := by omega
                generalize f (4 * j) = x0 at *
                generalize f (4 * j + 1) = x1 at *
                generalize f (4 * j + 2) = x2 at *
                generalize f (4 * j + 3) = x3 at *
                go_wp2
                go_quiet (fail)
                go_wp2_with (go_at_call 26; refine (off_any D g i cap j _ (wo.drewN (q + nq)) hlt2 d2 hv).mono ?_; rintro e w' ⟨rfl, rfl⟩)
                go_roundw
                case rel => first | exact ⟨j + 1, q + nq, by omega, by go_num, rfl⟩ | ((repeat apply Exists.intro); exact ⟨⟨j + 1, q + nq, by omega, by go_num, rfl⟩, rfl⟩)
                case measure => simp [intOf]; omega
              · go_wp2
                go_ret
                exact ⟨rfl, below_drawn hbw _⟩
          · have hnw : (words : Int) < (i : Int) := by omega
            go_wp2_with (first | (go_at_call 25; refine (len_any D _ _ _ _ d2).mono ?_; rintro e w' ⟨rfl, rfl⟩) | (go_at_call 22; refine (pos_any D _ _ d1).mono ?_; rintro e w' ⟨rfl, rfl⟩) | (go_at_call 21; refine (err_some D t x _ d3).mono ?_; rintro e w' ⟨rfl, rfl⟩))
            obtain ⟨wo, rfl⟩ : ∃ wo : World, wo = wr := ⟨_, rfl⟩
            go_loopw [9] (fun s9 w9 => ∃ j q : Nat, j ≤ words ∧ s9 = .int .i64 j ∧ w9 = wo.drewN q) (fun s9 _ => words - (intOf s9).toNat)
            case atStart => exact ⟨0, 0, Nat.zero_le _, rfl, rfl⟩
            case round =>
              obtain ⟨j, q, hj, rfl, rfl⟩ := hrel
              by_cases hlt2 : j < words
              · have hltz : (j : Int) < (words : Int) := by omega
                have hle := HLE.out
                obtain ⟨G, rfl, rfl, hG, b0⟩ := HBY.out (4 * j) (by omega)
                have b1 := byte_at HBY.out (4 * j + 1) (by omega)
                have b2 := byte_at HBY.out (4 * j + 2) (by omega)
                have b3 := byte_at HBY.out (4 * j + 3) (by omega)
                obtain ⟨g, rfl, hv⟩ := HVS.out j hlt2
                unfold word at hv
                have hi3 : 4 * (j : Int) + 3 < (c : Int) := by omega
                have hi2 : 4 * (j : Int) + 2 < (c : Int) := by omega
                have hi1 : 4 * (j : Int) + 1 < (c : Int) := by omega
                have hi0 : 4 * (j : Int) < (c : Int) := by omega
                generalize f (4 * j) = x0 at *
                generalize f (4 * j + 1) = x1 at *
                generalize f (4 * j + 2) = x2 at *
                generalize f (4 * j + 3) = x3 at *
                go_wp2
                go_quiet (fail)
                go_wp2_with (go_at_call 26; refine (off_any D g words cap j _ (wo.drewN (q + nq)) hlt2 d2 hv).mono ?_; rintro e w' ⟨rfl, rfl⟩)
                go_roundw
                case rel => first | exact ⟨j + 1, q + nq, by omega, by go_num, rfl⟩ | ((repeat apply Exists.intro); exact ⟨⟨j + 1, q + nq, by omega, by go_num, rfl⟩, rfl⟩)
                case measure => simp [intOf]; omega
              · go_wp2
                go_ret
                exact ⟨rfl, below_drawn hbw _⟩
    · go_enter Tryf.func5, Tryf.ntmps5
      rcases (show N < 0 ∨ (0 ≤ N ∧ 65536 < N) by omega) with h | ⟨h, h'⟩
      all_goals
        go_wp2
        go_ret
        exact ⟨rfl, Below.refl _ _⟩
  · go_enter Tryf.func5, Tryf.ntmps5
    go_wp2
    go_ret
    exact ⟨rfl, Below.refl _ _⟩

end Go.Proofs.Qxb6605934aFmt
