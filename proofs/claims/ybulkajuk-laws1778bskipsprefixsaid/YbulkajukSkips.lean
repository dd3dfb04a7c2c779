import Derived.Test.YbulkajukSkipRun
import Derived.Deep.CutBlock
namespace Go.Proofs.Ybulkajuk.B
open Go.RowKit C S A

set_option maxRecDepth 100000 in
set_option maxHeartbeats 2000000 in
theorem walk5_long0 (a0 a1 : Option Addr) (len0 cap0 len1 cap1 : Nat) (t k : Int) (w : World) (hl : 1024 < len0) :
    Calls Yba.prog 5 #[.slice a0 len0 cap0, .slice a1 len1 cap1, .int .i64 t, .int .u8 k] w fun e w' => e = .returned (.bool true) ∧ Below w.heap.size w w' := by
  have hI : (1024 : Int) < (len0 : Int) := by omega
  have hd : decide (1024 < (len0 : Int)) = true := by simp; omega
  go_enter Yba.func5, Yba.ntmps5
  go_wp2_with fail
  go_ret
  exact ⟨rfl, by repeat (first | exact Below.refl _ _ | refine Below.alloc ?_ (by first | omega | (simp; done) | (simp; omega)) _)⟩
set_option maxRecDepth 100000 in
set_option maxHeartbeats 2000000 in
theorem walk5_long1 (a0 a1 : Option Addr) (len0 cap0 len1 cap1 : Nat) (t k : Int) (w : World) (hl0 : len0 ≤ 1024) (hl : 1024 < len1) :
    Calls Yba.prog 5 #[.slice a0 len0 cap0, .slice a1 len1 cap1, .int .i64 t, .int .u8 k] w fun e w' => e = .returned (.bool true) ∧ Below w.heap.size w w' := by
  have hd0 : decide (1024 < (len0 : Int)) = false := by simp; omega
  have hd : decide (1024 < (len1 : Int)) = true := by simp; omega
  go_enter Yba.func5, Yba.ntmps5
  go_wp2_with fail
  go_ret
  exact ⟨rfl, by repeat (first | exact Below.refl _ _ | refine Below.alloc ?_ (by first | omega | (simp; done) | (simp; omega)) _)⟩

theorem ex_lim (k : Int) (n : Nat) (hn : n ≤ 1024) : ∃ lim : Nat, wrap64 (k % ((n : Int) + 1) + 1) = (lim : Int) ∧ 1 ≤ lim ∧ lim ≤ n + 1 := by
  have a := Int.emod_nonneg k (show (n : Int) + 1 ≠ 0 by omega)
  have b := Int.emod_lt_of_pos k (show (0 : Int) < (n : Int) + 1 by omega)
  refine ⟨(k % ((n : Int) + 1) + 1).toNat, ?_, by omega, by omega⟩
  rw [IntWalk.wrap64_in _ (by omega)]
  omega
theorem ex_first (ks : List Int) (t : Int) : ∀ n : Nat, ∃ J, J ≤ n ∧ (∀ j, j < J → ks[j]?.getD 0 < t) ∧ (J < n → ¬ ks[J]?.getD 0 < t)
  | 0 => ⟨0, Nat.le_refl _, fun j h => absurd h (Nat.not_lt_zero _), fun h => absurd h (Nat.not_lt_zero _)⟩
  | n + 1 => by
    obtain ⟨J, h1, h2, h3⟩ := ex_first ks t n
    by_cases hJ : J < n
    · exact ⟨J, by omega, h2, fun _ => h3 hJ⟩
    · have e : J = n := by omega
      subst e
      by_cases hk : ks[J]?.getD 0 < t
      · refine ⟨J + 1, Nat.le_refl _, fun j hj => ?_, fun h => by omega⟩
        by_cases hjJ : j = J
        · subst hjJ; exact hk
        · exact h2 j (by omega)
      · exact ⟨J, by omega, h2, fun _ => hk⟩

theorem wrap1 (a : Nat) (h : a ≤ 5000) : wrap64 (a : Int) = (a : Int) := IntWalk.wrap64_in _ (by omega)
theorem wrap2 (a b : Nat) (h : a + b ≤ 5000) : wrap64 ((a : Int) + (b : Int)) = (a : Int) + (b : Int) := IntWalk.wrap64_in _ (by omega)
theorem wrapS (a b : Nat) (h : b ≤ a) (h2 : a ≤ 5000) : wrap64 ((a : Int) - (b : Int)) = (a : Int) - (b : Int) := IntWalk.wrap64_in _ (by omega)
theorem heapA (W : World) (o : Obj) (k : Nat) : (W.alloc o).heap[k]? = if k = W.heap.size then some o else W.heap[k]? := by
  show (W.heap.push o)[k]? = _
  rw [Array.getElem?_push]

abbrev W10 (w : World) (kv vv : Value) (t : Int) (n lim : Nat) : World := (((((((((w.alloc (.cells #[kv] 22)).alloc (.cells #[vv] 29)).alloc (.cells #[.int .i64 t] 3)).alloc (.cells #[.int .i64 n] 3)).alloc (.cells #[.int .i64 0] 3)).alloc (.cells #[.slice none 0 0] 22)).alloc (.cells #[.slice none 0 0] 29)).alloc (.cells #[.int .i64 lim] 3)).alloc (.cells #[.slice none 0 0] 22)).alloc (.cells #[.slice none 0 0] 29)
abbrev W14 (w : World) (kv vv : Value) (t : Int) (n lim : Nat) : World := ((((W10 w kv vv t n lim).alloc (.cells #[s12 w.heap.size] 37)).alloc (.cells #[dF w.heap.size] 35)).alloc (.cells #[yF w.heap.size] 35)).alloc (.cells #[.bool true] 4)

theorem start5 (w : World) (kv vv : Value) (t : Int) (n lim : Nat) (ks : List Int) (ss : List ByteArray) (J : Nat) : At w.heap.size w (W14 w kv vv t n lim) kv vv t n lim ks ss J 0 := by
  have e1 : min 0 (J + 1) = 0 := by omega
  have e2 : decide (0 ≤ J) = true := by simp
  rw [At, e1, e2]
  simp only [List.take_zero, List.drop_nil]
  have nilRow : ∀ M e, (W14 w kv vv t n lim).ownsRow M e 1 (.slice none 0 0) ([] : List Value).length [] := fun M e => ⟨rfl, .inl ⟨rfl, rfl⟩⟩
  have b0 : Boxed (W14 w kv vv t n lim) w.heap.size 22 kv := ((((((((((((((Boxed.new w 22 kv).alloc _).alloc _).alloc _).alloc _).alloc _).alloc _).alloc _).alloc _).alloc _).alloc _).alloc _).alloc _).alloc _)
  refine ⟨b0, ?_, ?_, ?_, ?_, ?_, ?_, ?_, ?_, ⟨.slice none 0 0, .slice none 0 0, .slice none 0 0, .slice none 0 0, ⟨?_, nilRow _ _⟩, ⟨?_, nilRow _ _⟩, ⟨?_, nilRow _ _⟩, ⟨?_, nilRow _ _⟩, fun g h => by simp [Value.ownBlock] at h, fun g h => by simp [Value.ownBlock] at h⟩, ?_, by simp⟩
  all_goals first
    | (unfold Boxed; simp only [heapA]; simp; done)
    | (repeat (first | exact Below.refl _ _ | refine Below.alloc ?_ (by first | omega | (simp; done) | (simp; omega)) _))

theorem rw_int {M : Nat} {w : World} {b t : Nat} {v : Value} {L : List Int} (h : Rw M w b t 3 v (ints L)) (n : Nat) (hn : L.length = n) : ∃ a c, v = .slice a n c ∧ ∀ i, i < n → ∃ g, a = some ⟨g, 0, none⟩ ∧ w.cell? ⟨g, i, none⟩ = some (.int .i64 (L[i]?.getD 0)) := by
  have hl : (ints L).length = n := by simpa using hn
  have ho := h.own
  rw [hl] at ho
  rcases ho.2 with ⟨rfl, h0⟩ | ⟨g, c, cur, rfl, r⟩
  · subst h0
    exact ⟨none, 0, rfl, fun i hi => absurd hi (Nat.not_lt_zero _)⟩
  · refine ⟨_, c, rfl, fun i hi => ⟨g, rfl, ?_⟩⟩
    have := own_cell ho hi
    rwa [List.getD_eq_getElem?_getD] at this
theorem own_cellS {w : World} {N n cap g i : Nat} {out : List ByteArray} (h : w.ownsRow N 9 1 (.slice (some ⟨g, 0, none⟩) n cap) n (strs out)) (hi : i < n) : w.cell? ⟨g, i, none⟩ = some (.string (out[i]?.getD ⟨#[]⟩)) := by
  obtain ⟨hl, h2⟩ := h
  rcases h2 with ⟨h0, _⟩ | ⟨g', c', cur, hv, _, hg, hle, _, hsz, htk⟩
  · cases h0
  · simp at hv
    obtain ⟨rfl, rfl⟩ := hv
    simp at hl hsz htk
    have hc : i < cur.size := by omega
    have : (strs out)[i]? = cur.toList[i]? := by rw [← htk, List.getElem?_take_of_lt hi]
    simp [World.cell?, hg]
    have e1 : cur[i]? = some (.string (out[i]?.getD ⟨#[]⟩)) := by
      have e2 : cur.toList[i]? = cur[i]? := by simp
      rw [← e2, ← this]
      simp [strs, List.getElem?_eq_getElem (show i < out.length by omega)]
    simpa using e1
theorem rw_str {M : Nat} {w : World} {b t : Nat} {v : Value} {L : List ByteArray} (h : Rw M w b t 9 v (strs L)) (n : Nat) (hn : L.length = n) : ∃ a c, v = .slice a n c ∧ ∀ i, i < n → ∃ g, a = some ⟨g, 0, none⟩ ∧ w.cell? ⟨g, i, none⟩ = some (.string (L[i]?.getD ⟨#[]⟩)) := by
  have hl : (strs L).length = n := by simpa using hn
  have ho := h.own
  rw [hl] at ho
  rcases ho.2 with ⟨rfl, h0⟩ | ⟨g, c, cur, rfl, r⟩
  · subst h0
    exact ⟨none, 0, rfl, fun i hi => absurd hi (Nat.not_lt_zero _)⟩
  · exact ⟨_, c, rfl, fun i hi => ⟨g, rfl, own_cellS ho hi⟩⟩

set_option maxRecDepth 100000 in
set_option maxHeartbeats 2000000 in
theorem walk5_short (a0 a1 : Option Addr) (len0 cap0 len1 cap1 n : Nat) (ks : List Int) (ss : List ByteArray) (t k : Int) (w : World) (l0 : len0 ≤ 1024) (l1 : len1 ≤ 1024) (hK : Src w.heap.size w a0 len0 ks) (hV : SrcS w.heap.size w a1 len1 ss) (hk0 : 0 ≤ k) (hk1 : k ≤ 255) (hnn : n = if len1 < len0 then len1 else len0) :
    Calls Yba.prog 5 #[.slice a0 len0 cap0, .slice a1 len1 cap1, .int .i64 t, .int .u8 k] w fun e w' => e = .returned (.bool true) ∧ Below w.heap.size w w' := by
  have hd0 : decide (1024 < (len0 : Int)) = false := by simp; omega
  have hd1 : decide (1024 < (len1 : Int)) = false := by simp; omega
  have HK : Hid (Src w.heap.size w a0 len0 ks) := hK
  have HV : Hid (SrcS w.heap.size w a1 len1 ss) := hV
  have HAr : Hid (len0 ≤ 1024 ∧ len1 ≤ 1024 ∧ 0 ≤ k ∧ k ≤ 255 ∧ n ≤ len0 ∧ n ≤ len1) := ⟨l0, l1, hk0, hk1, by split at hnn <;> omega, by split at hnn <;> omega⟩
  clear hK hV
  go_enter Yba.func5, Yba.ntmps5
  go_upto_if 36 with fail
  go_cut [] (fun wx => (((w.alloc (.cells #[.slice a0 len0 cap0] 22)).alloc (.cells #[.slice a1 len1 cap1] 29)).alloc (.cells #[.int .i64 t] 3)).alloc (.cells #[.int .i64 n] 3) = wx)
  case first =>
    by_cases hc : len1 < len0
    · have q1 : decide (len1 < len0) = true := by simpa using hc
      have e : n = len1 := by rw [hnn, if_pos hc]
      go_wp2_with fail
      go_meet
      rw [e]
    · have q1 : decide (len1 < len0) = false := by simpa using hc
      have e : n = len0 := by rw [hnn, if_neg hc]
      go_wp2_with fail
      go_meet
      rw [e]
  case rest =>
    subst hcut
    clear hnn l0 l1
    have hw0 : wrap64 ((n : Int) + 1) = (n : Int) + 1 := wrapk n (by have := HAr.out; omega)
    have hz0 : ¬ ((n : Int) + 1 = 0) := by omega
    obtain ⟨lim, hlm, hl1, hl2⟩ := ex_lim k n (by have := HAr.out; omega)
    obtain ⟨J, hJ1, hJ2, hJ3⟩ := ex_first ks t n
    obtain ⟨F, hF⟩ : ∃ F, F = if J + lim < n then J + lim else n := ⟨_, rfl⟩
    have HJ : Hid (J ≤ n ∧ (∀ j, j < J → ks[j]?.getD 0 < t) ∧ (J < n → t ≤ ks[J]?.getD 0) ∧ (F = if J + lim < n then J + lim else n) ∧ 1 ≤ lim ∧ lim ≤ n + 1) := ⟨hJ1, hJ2, fun h => Int.not_lt.1 (hJ3 h), hF, hl1, hl2⟩
    clear hJ1 hJ2 hJ3 hF hl1 hl2
    go_wp2_with fail
    refine (skip14 _ _ _ _ _ _ _).mono ?_
    rintro e w' ⟨rfl, rfl⟩
    go_wp2_with fail
    obtain ⟨j1, j2, j3, j4, j5, j6⟩ := HJ.out
    obtain ⟨r1, r2, r3, r4, r5, r6⟩ := HAr.out
    refine (skip23 w.heap.size w _ a0 a1 len0 cap0 len1 cap1 t n lim ks ss J F HK.out HV.out (by omega) r5 r6 j5 j1 j2 (fun h => Int.not_lt.2 (j3 h)) j4 (by simp) (by simp [go_sem]) (start5 w _ _ t n lim ks ss J)).mono ?_
    rintro e w' ⟨rfl, hA⟩
    clear j1 j2 j3 j4 j5 j6 r1 r2 r3 r4 r5 r6
    have HA : Hid (At w.heap.size w w' (.slice a0 len0 cap0) (.slice a1 len1 cap1) t n lim ks ss J F) := hA
    obtain ⟨kz, Hkx⟩ : ks.length ≥ len0 ∧ (∀ i, i < len0 → ∃ x, a0 = some x ∧ ∀ wr, Below w.heap.size w wr → wr.cell? (x.add i) = some (.int .i64 (ks[i]?.getD 0))) := by
      obtain ⟨h1, h2 | ⟨x, hx, hh⟩⟩ := HK.out
      · exact ⟨h1, fun i hi => by omega⟩
      · exact ⟨h1, fun i hi => ⟨x, hx, fun wr hb => by have := hh wr hb i hi; rwa [List.getD_eq_getElem?_getD] at this⟩⟩
    obtain ⟨vz, Hvx⟩ : ss.length ≥ len1 ∧ (∀ i, i < len1 → ∃ x, a1 = some x ∧ ∀ wr, Below w.heap.size w wr → wr.cell? (x.add i) = some (.string (ss[i]?.getD ⟨#[]⟩))) := by
      obtain ⟨h1, h2 | ⟨x, hx, hh⟩⟩ := HV.out
      · exact ⟨h1, fun i hi => by omega⟩
      · exact ⟨h1, fun i hi => ⟨x, hx, fun wr hb => hh wr hb i hi⟩⟩
    obtain ⟨m, hm⟩ : ∃ m, m = F - J := ⟨_, rfl⟩
    obtain ⟨C, hC⟩ : ∃ C, C = min F (J + 1) := ⟨_, rfl⟩
    have HZ : Hid (F = J + m ∧ C = (if J < n then J + 1 else J) ∧ m = (if lim < n - J then lim else n - J) ∧ F ≤ n ∧ J ≤ n ∧ n ≤ 1024 ∧ n ≤ len0 ∧ n ≤ len1 ∧ 1 ≤ lim ∧ len0 ≤ 1024) := by
      have h1 := HJ.out
      have h2 := HAr.out
      have h3 := h1.2.2.2.1
      rw [Hid]
      refine ⟨?_, ?_, ?_, ?_, h1.1, by omega, by omega, by omega, h1.2.2.2.2.1, by omega⟩
      all_goals (split at h3 <;> (try split) <;> omega)
    obtain ⟨v1, v2, v3, v4, r1, r2, r3, r4, _, _⟩ := hA.rows
    obtain ⟨ad, cd, e1, x1⟩ := rw_int r1 C (by rw [← hC, List.length_take]; have := HZ.out; split at this <;> omega)
    obtain ⟨ae, ce, e2, x2⟩ := rw_str r2 C (by rw [← hC, List.length_take]; have := HZ.out; split at this <;> omega)
    obtain ⟨ao, co, e3, x3⟩ := rw_int r3 m (by rw [List.length_drop, List.length_take]; have := HZ.out; omega)
    obtain ⟨ap, cp, e4, x4⟩ := rw_str r4 m (by rw [List.length_drop, List.length_take]; have := HZ.out; omega)
    subst e1 e2 e3 e4
    have X1 : Hid (∀ i, i < C → ∃ g, ad = some ⟨g, 0, none⟩ ∧ w'.cell? ⟨g, i, none⟩ = some (.int .i64 (ks[i]?.getD 0))) := fun i hi => by
      obtain ⟨g, e, hh⟩ := x1 i hi
      rw [List.getElem?_take_of_lt (by omega)] at hh
      exact ⟨g, e, hh⟩
    have X2 : Hid (∀ i, i < C → ∃ g, ae = some ⟨g, 0, none⟩ ∧ w'.cell? ⟨g, i, none⟩ = some (.string (ss[i]?.getD ⟨#[]⟩))) := fun i hi => by
      obtain ⟨g, e, hh⟩ := x2 i hi
      rw [List.getElem?_take_of_lt (by omega)] at hh
      exact ⟨g, e, hh⟩
    have X3 : Hid (∀ i, i < m → ∃ g, ao = some ⟨g, 0, none⟩ ∧ w'.cell? ⟨g, i, none⟩ = some (.int .i64 (ks[J + i]?.getD 0))) := fun i hi => by
      obtain ⟨g, e, hh⟩ := x3 i hi
      rw [List.getElem?_drop, List.getElem?_take_of_lt (by omega)] at hh
      exact ⟨g, e, hh⟩
    have X4 : Hid (∀ i, i < m → ∃ g, ap = some ⟨g, 0, none⟩ ∧ w'.cell? ⟨g, i, none⟩ = some (.string (ss[J + i]?.getD ⟨#[]⟩))) := fun i hi => by
      obtain ⟨g, e, hh⟩ := x4 i hi
      rw [List.getElem?_drop, List.getElem?_take_of_lt (by omega)] at hh
      exact ⟨g, e, hh⟩
    have c0 : w'.cell? ⟨w.heap.size, 0, none⟩ = some (.slice a0 len0 cap0) := hA.k.cell
    have c1 : w'.cell? ⟨w.heap.size + 1, 0, none⟩ = some (.slice a1 len1 cap1) := hA.v.cell
    have c2 : w'.cell? ⟨w.heap.size + 1 + 1, 0, none⟩ = some (.int .i64 t) := hA.t.cell
    have c3 : w'.cell? ⟨w.heap.size + 1 + 1 + 1, 0, none⟩ = some (.int .i64 n) := hA.n.cell
    have c4 : w'.cell? ⟨w.heap.size + 1 + 1 + 1 + 1, 0, none⟩ = some (.int .i64 F) := hA.p.cell
    have c5 : w'.cell? ⟨w.heap.size + 1 + 1 + 1 + 1 + 1, 0, none⟩ = some (.slice ad C cd) := r1.box.cell
    have c6 : w'.cell? ⟨w.heap.size + 1 + 1 + 1 + 1 + 1 + 1, 0, none⟩ = some (.slice ae C ce) := r2.box.cell
    have c7 : w'.cell? ⟨w.heap.size + 1 + 1 + 1 + 1 + 1 + 1 + 1, 0, none⟩ = some (.int .i64 lim) := hA.lim.cell
    have c8 : w'.cell? ⟨w.heap.size + 1 + 1 + 1 + 1 + 1 + 1 + 1 + 1, 0, none⟩ = some (.slice ao m co) := r3.box.cell
    have c9 : w'.cell? ⟨w.heap.size + 1 + 1 + 1 + 1 + 1 + 1 + 1 + 1 + 1, 0, none⟩ = some (.slice ap m cp) := r4.box.cell
    have HB : Hid (Below w.heap.size w w') := hA.bel
    have HSz : Hid (w.heap.size ≤ w'.heap.size) := by have := hA.size; rw [Hid]; omega
    have HKx : Hid (∀ i, i < len0 → ∃ x, a0 = some x ∧ ∀ wr, Below w.heap.size w wr → wr.cell? (x.add i) = some (.int .i64 (ks[i]?.getD 0))) := Hkx
    have HVx : Hid (∀ i, i < len1 → ∃ x, a1 = some x ∧ ∀ wr, Below w.heap.size w wr → wr.cell? (x.add i) = some (.string (ss[i]?.getD ⟨#[]⟩))) := Hvx
    clear Hkx Hvx x1 x2 x3 x4 r1 r2 r3 r4 hA HA hm hC kz vz HK HV hk0 hk1 hw0 hz0 hlm
    generalize hNN : w.heap.size = N at c0 c1 c2 c3 c4 c5 c6 c7 c8 c9 HB HSz HKx HVx ⊢
    have HNN : Hid (N = w.heap.size) := hNN.symm
    clear hNN
    go_upto_block 0 with fail
    go_cut [18] (fun s wx => s = .int .i64 J ∧ Below w'.heap.size w' wx)
    case first =>
      go_wp2_with fail
      go_loopw [18] (fun u wr => ∃ j : Nat, u = .int .i64 j ∧ j ≤ J ∧ Below w'.heap.size w' wr) (fun u _ => J - (intOf u).toNat)
      case atStart => exact ⟨0, rfl, Nat.zero_le _, Below.refl _ _⟩
      case round =>
        obtain ⟨j, rfl, hj, hb⟩ := hrel
        have Hb : Hid (Below w'.heap.size w' wr) := hb
        have k0 := cell_later hb c0
        have k2 := cell_later hb c2
        have k3 := cell_later hb c3
        have hbw := HB.out.trans (hb.mono HSz.out)
        by_cases hjJ : j < J
        · obtain ⟨x, rfl, hx⟩ := HKx.out j (by have := HZ.out; omega)
          have e1 := hx _ hbw
          have p1 : (j : Int) < (len0 : Int) := by have := HZ.out; omega
          have q1 : decide (j < n) = true := by have := HZ.out; simp; omega
          have q1b : (j : Int) < (n : Int) := by have := HZ.out; omega
          have q2 : decide (ks[j]?.getD 0 < t) = true := by simpa using HJ.out.2.1 j hjJ
          have hj1k : j ≤ 1024 := by have := HZ.out; omega
          have hw1 : wrap64 ((j : Int) + 1) = (j : Int) + 1 := wrapk j hj1k
          have HjJ : Hid (j < J) := hjJ
          clear hj1k
          clear hx hb hbw hj hjJ
          go_wp2_with fail
          go_quiet (fail)
          go_wp2_with fail
          rw [hw1]
          exact ⟨⟨j + 1, rfl, HjJ.out, below_dn Hb.out⟩, meas HjJ.out⟩
        · have ej : j = J := by omega
          subst ej
          by_cases hJn : j < n
          · obtain ⟨x, rfl, hx⟩ := HKx.out j (by have := HZ.out; omega)
            have e1 := hx _ hbw
            have p1 : (j : Int) < (len0 : Int) := by have := HZ.out; omega
            have q1 : decide (j < n) = true := by simpa using hJn
            have q1b : (j : Int) < (n : Int) := by omega
            have q2 : decide (ks[j]?.getD 0 < t) = false := by have := HJ.out.2.2.1 hJn; simpa using this
            clear hx hb hbw hj hjJ hJn
            go_wp2_with fail
            go_quiet (fail)
            go_wp2_with fail
            go_meet
            exact ⟨rfl, below_dn Hb.out⟩
          · have q1 : decide (j < n) = false := by simpa using hJn
            clear hb hbw hj hjJ hJn
            go_wp2_with fail
            go_quiet (fail)
            go_wp2_with fail
            go_meet
            exact ⟨rfl, below_dn Hb.out⟩
    case rest =>
      obtain ⟨rfl, hbc⟩ := hcut
      have Hbc : Hid (Below w'.heap.size w' wc) := hbc
      have d0 := cell_later hbc c0
      have d1 := cell_later hbc c1
      have d3 := cell_later hbc c3
      have d4 := cell_later hbc c4
      have d5 := cell_later hbc c5
      have d6 := cell_later hbc c6
      have d7 := cell_later hbc c7
      have d8 := cell_later hbc c8
      have d9 := cell_later hbc c9
      have hJn : J ≤ n ∧ n ≤ 5000 := by have := HZ.out; omega
      have hwm : wrap64 ((n : Int) - (J : Int)) = (n : Int) - (J : Int) := wrapS n J hJn.1 hJn.2
      clear hbc hJn
      go_upto_if 70 with fail
      clear hwm
      go_cut [19] (fun s wx => s = .int .i64 m ∧ wc = wx)
      case first =>
        by_cases hc : (lim : Int) < (n : Int) - (J : Int)
        · have q1 : decide ((lim : Int) < (n : Int) - (J : Int)) = true := by simpa using hc
          have em : m = lim := by have := HZ.out.2.2.1; split at this <;> omega
          go_wp2_with fail
          go_meet
          exact ⟨by rw [em], rfl⟩
        · have q1 : decide ((lim : Int) < (n : Int) - (J : Int)) = false := by simpa using hc
          have sm : m ≤ 5000 := by have := HZ.out; omega
          have em : (n : Int) - (J : Int) = m := by
            have h1 := HZ.out.2.2.1
            have h2 := HZ.out.2.2.2.2.1
            split at h1 <;> omega
          go_wp2_with fail
          go_meet
          refine ⟨congrArg (Value.int .i64) ?_, rfl⟩
          first | exact em | exact wrap1 m sm
      case rest =>
        obtain ⟨rfl, rfl⟩ := hcut
        go_wp2_with fail
        go_loopw [20] (fun u wr => ∃ i : Nat, u = .int .i64 i ∧ i ≤ m ∧ Below wc.heap.size wc wr) (fun u _ => m - (intOf u).toNat)
        case atStart => exact ⟨0, rfl, Nat.zero_le _, Below.refl _ _⟩
        case round =>
          obtain ⟨i, rfl, hi, hb⟩ := hrel
          have Hb : Hid (Below wc.heap.size wc wr) := hb
          have g0 := cell_later hb d0
          have g1 := cell_later hb d1
          have g3 := cell_later hb d3
          have g4 := cell_later hb d4
          have g5 := cell_later hb d5
          have g6 := cell_later hb d6
          have g8 := cell_later hb d8
          have g9 := cell_later hb d9
          have hbw : Below N w wr := (HB.out.trans (Hbc.out.mono HSz.out)).trans (hb.mono (Nat.le_trans HSz.out Hbc.out.size))
          have hbx : Below w'.heap.size w' wr := Hbc.out.trans (hb.mono Hbc.out.size)
          by_cases him : i < m
          · obtain ⟨x, rfl, hx⟩ := HKx.out (J + i) (by have := HZ.out; omega)
            obtain ⟨y, rfl, hy⟩ := HVx.out (J + i) (by have := HZ.out; omega)
            obtain ⟨ga, rfl, xa⟩ := X3.out i him
            obtain ⟨gb, rfl, xb⟩ := X4.out i him
            have f1 := hx _ hbw
            have f2 := hy _ hbw
            have f3 := cell_later hbx xa
            have f4 := cell_later hbx xb
            have p1 : (J : Int) + (i : Int) < (len0 : Int) := by have := HZ.out; omega
            have p2 : (J : Int) + (i : Int) < (len1 : Int) := by have := HZ.out; omega
            have p3 : (i : Int) < (m : Int) := by omega
            have q1 : decide (i < m) = true := by simpa using him
            have s1 : J + i ≤ 5000 ∧ i ≤ 1024 := by have := HZ.out; omega
            have Him : Hid (i < m) := him
            have hwi : wrap64 ((J : Int) + (i : Int)) = (J : Int) + (i : Int) := wrap2 J i s1.1
            have hwj : wrap64 ((i : Int) + 1) = (i : Int) + 1 := wrapk i s1.2
            clear hx hy xa xb hb hbw hbx hi him s1
            go_wp2_with fail
            go_quiet (fail)
            go_wp2_with fail
            rw [hwj]
            exact ⟨⟨i + 1, rfl, Him.out, below_dn Hb.out⟩, meas Him.out⟩
          · have ei : i = m := by omega
            subst ei
            obtain ⟨wo, ewo⟩ : ∃ wo, wo = wr := ⟨_, rfl⟩
            subst ewo
            have q1 : decide (i < i) = false := by simp
            have Hbx : Hid (Below w'.heap.size w' wo) := hbx
            have Hbw : Hid (Below N w wo) := hbw
            have sJ : J ≤ 1024 := by have := HZ.out; omega
            have hwJ : wrap64 ((J : Int) + 1) = (J : Int) + 1 := wrapk J sJ
            clear hb hbx hbw hi him sJ
            go_upto_if 114 with fail
            go_cut [21] (fun s wx => s = .int .i64 C ∧ wo = wx)
            case first =>
              by_cases hc : J < n
              · have q2 : decide (J < n) = true := by simpa using hc
                have eC : C = J + 1 := by have h1 := HZ.out.2.1; rw [if_pos hc] at h1; exact h1
                go_wp2_with fail
                go_meet
                exact ⟨by rw [eC, hwJ]; rfl, rfl⟩
              · have q2 : decide (J < n) = false := by simpa using hc
                have eC : C = J := by have h1 := HZ.out.2.1; rw [if_neg hc] at h1; exact h1
                go_wp2_with fail
                go_meet
                exact ⟨by rw [eC], rfl⟩
            case rest =>
              obtain ⟨rfl, rfl⟩ := hcut
              go_wp2_with fail
              go_loopw [22] (fun u wr => ∃ l : Nat, u = .int .i64 l ∧ l ≤ C ∧ Below wo.heap.size wo wr) (fun u _ => C - (intOf u).toNat)
              case atStart => exact ⟨0, rfl, Nat.zero_le _, Below.refl _ _⟩
              case round =>
                obtain ⟨l, rfl, hl, hb⟩ := hrel
                have Hb3 : Hid (Below wo.heap.size wo wr) := hb
                have m0 := cell_later hb g0
                have m1 := cell_later hb g1
                have m4 := cell_later hb g4
                have m5 := cell_later hb g5
                have m6 := cell_later hb g6
                have hbw : Below N w wr := Hbw.out.trans (hb.mono (by have h1 := HSz.out; have h2 := Hbx.out.size; omega))
                have hbx : Below w'.heap.size w' wr := Hbx.out.trans (hb.mono Hbx.out.size)
                clear hwJ
                by_cases hlC : l < C
                · have sC : C ≤ n := by
                    have h1 := HZ.out.2.1
                    have h2 := HZ.out.2.2.2.2.1
                    split at h1 <;> omega
                  obtain ⟨x, rfl, hx⟩ := HKx.out l (by have := HZ.out; omega)
                  obtain ⟨y, rfl, hy⟩ := HVx.out l (by have := HZ.out; omega)
                  obtain ⟨ga, rfl, xa⟩ := X1.out l hlC
                  obtain ⟨gb, rfl, xb⟩ := X2.out l hlC
                  have f1 := hx _ hbw
                  have f2 := hy _ hbw
                  have f3 := cell_later hbx xa
                  have f4 := cell_later hbx xb
                  have p1 : (l : Int) < (len0 : Int) := by have := HZ.out; omega
                  have p2 : (l : Int) < (len1 : Int) := by have := HZ.out; omega
                  have p3 : (l : Int) < (C : Int) := by omega
                  have q2 : decide (l < C) = true := by simpa using hlC
                  have s1 : l ≤ 1024 := by have := HZ.out; omega
                  have HlC : Hid (l < C) := hlC
                  have hwl : wrap64 ((l : Int) + 1) = (l : Int) + 1 := wrapk l s1
                  clear hx hy xa xb hb hbw hbx hl hlC s1 sC
                  go_wp2_with fail
                  go_quiet (fail)
                  go_wp2_with fail
                  rw [hwl]
                  exact ⟨⟨l + 1, rfl, HlC.out, below_dn Hb3.out⟩, meas HlC.out⟩
                · have el : l = C := by omega
                  subst el
                  have q2 : decide (l < l) = false := by simp
                  have eF : (F : Int) = (J : Int) + (i : Int) := by have := HZ.out.1; omega
                  have sJ : J + i ≤ 5000 := by have := HZ.out; omega
                  have hwi : wrap64 ((J : Int) + (i : Int)) = (J : Int) + (i : Int) := wrap2 J i sJ
                  have Hbw3 : Hid (Below N w wr) := hbw
                  rw [eF] at m4
                  clear hb hbw hbx hl hlC sJ eF
                  go_wp2_with fail
                  go_ret
                  have hf := Hbw3.out
                  rw [HNN.out] at hf
                  exact ⟨by simp, hf⟩

/-- The walk of LawS1778BSkipsPrefix. -/
theorem walk5 (a0 a1 : Option Addr) (len0 cap0 len1 cap1 : Nat) (ks : List Int) (ss : List ByteArray) (t k : Int) (w : World) (hK : Src w.heap.size w a0 len0 ks) (hV : SrcS w.heap.size w a1 len1 ss) (hk0 : 0 ≤ k) (hk1 : k ≤ 255) :
    Calls Yba.prog 5 #[.slice a0 len0 cap0, .slice a1 len1 cap1, .int .i64 t, .int .u8 k] w fun e w' => e = .returned (.bool true) ∧ Below w.heap.size w w' := by
  by_cases l0 : len0 ≤ 1024
  · by_cases l1 : len1 ≤ 1024
    · exact walk5_short a0 a1 len0 cap0 len1 cap1 _ ks ss t k w l0 l1 hK hV hk0 hk1 rfl
    · exact walk5_long1 a0 a1 len0 cap0 len1 cap1 t k w l0 (by omega)
  · exact walk5_long0 a0 a1 len0 cap0 len1 cap1 t k w (by omega)
end Go.Proofs.Ybulkajuk.B
