import Derived.Test.YbulkajukPrefix
import Derived.Deep.DeepCutAuto
namespace Go.Proofs.Ybulkajuk.C
open Go.RowKit

set_option maxRecDepth 100000 in
set_option maxHeartbeats 1000000 in
/-- The consumer of LawS1778CEarlyStop: out = append(out, v); len(out) below kk. -/
theorem yield20 (N : Nat) (w0 w : World) (bx bp bq bo bm bl : Nat) (xv yv : Value) (p q l : Int) (out : List Int) (v : Int) (b : Bool) (A : Ap N bx bp bq bo bm bl) (h : St N w0 w bx bp bq bo bm bl xv yv p q l out) (hl : out.length ≤ 2000) (hbq : decide ((out.length : Int) + 1 < q) = b) :
    Calls Yba.prog 20 #[.int .i64 v, .pointer (some ⟨bo, 0, none⟩), .pointer (some ⟨bq, 0, none⟩)] w fun e w' => e = .returned (.bool b) ∧ St N w0 w' bx bp bq bo bm bl xv yv p q l (out ++ [v]) := by
  obtain ⟨i0, hi, hz, hs, hby⟩ := info_parts info3
  obtain ⟨g, cap, hb, hr, g1, g2, g3⟩ := h.o
  have c0 := hb.cell
  have c1 := hb.frozen
  have hlt := hb.lt
  have HA : Hid (Ap N bx bp bq bo bm bl) := A
  have HS : Hid (St N w0 w bx bp bq bo bm bl xv yv p q l out) := h
  have HB : Hid (Boxed w bo 22 (.slice (some ⟨g, 0, none⟩) out.length cap)) := hb
  have HQ : Hid (Boxed w bq 3 (.int .i64 q)) := h.q
  have HR : Hid (w.ownsRow N 3 1 (.slice (some ⟨g, 0, none⟩) out.length cap) out.length (ints out)) := hr
  have hN : Hid (N ≤ w.heap.size) := h.size
  have G1 : Hid (g ≠ bp) := g1
  have G2 : Hid (g ≠ bq) := g2
  have G3 : Hid (g ≠ bl) := g3
  have hne : bo ≠ bq := by have := A.a3; omega
  have hne2 : bq ≠ bo := by have := A.a3; omega
  clear h hb hr A g1 g2 g3
  go_enter Yba.func20, Yba.ntmps20
  go_wp2_with (first | (at_builtin; go_must (refine wpList_append_lies _ rfl _ _ 22 rfl N 3 i0 (.int .i64 0) 1 8 Yba.underlying22 hi hz hs hby rfl (by decide) (.slice (some ⟨g, 0, none⟩) out.length cap) out.length (ints out) rfl (HR.out.alloc _) ⟨w.heap.size, 0, none⟩ 1 1 [.int .i64 v] rfl rfl (cell_one_at _ _ _ _ rfl) (by simp [Value.oneCell']) (by decide) (by unfold maxLen; omega) (by omega) (by have := hN.out; simp; omega) (w.heap.size + 1) (by simp) ?_); intro g' cap' w1 hown hgrow hat hlt'; have d := (HB.out.alloc _).kept hgrow (HB.out.not_row (by decide) HR.out); have d0 := d.cell; have d1 := d.frozen; have dq := ((HQ.out.alloc _).kept hgrow (fun e => G2.out (by simpa [Value.ownBlock] using e.symm))).cell; have HO : Hid (w1.ownsRow N 3 1 (.slice (some ⟨g', 0, none⟩) (out.length + 1) cap') (out.length + 1) (ints out ++ [.int .i64 v])) := hown; have HG : Hid ((w.alloc (.cells #[.int .i64 v] 3)).grownBy w1 (Value.ownBlock (.slice (some ⟨g, 0, none⟩) out.length cap))) := hgrow; have HT : Hid (Value.ownBlock (.slice (some ⟨g, 0, none⟩) out.length cap) = some g' ∨ g' = w.heap.size + 1) := hat; clear hown hgrow hat d))
  go_ret
  exact ⟨by simp, HS.out.appended HA.out HB.out HR.out G1.out G2.out G3.out HO.out HG.out HT.out⟩

abbrev y20 (bo bq : Nat) : Value := .func (.func 20) #[] #[.pointer (some ⟨bo, 0, none⟩), .pointer (some ⟨bq, 0, none⟩)]

set_option maxRecDepth 100000 in
set_option maxHeartbeats 1000000 in
theorem lim26e (N : Nat) (w0 w : World) (bx bp bq bo bm bl : Nat) (xv : Value) (p q l : Int) (out : List Int) (v : Int) (b : Bool) (A : Ap N bx bp bq bo bm bl) (h : St N w0 w bx bp bq bo bm bl xv (y20 bo bq) p q l out) (hl : out.length ≤ 2000) (hpos : 0 < l) (hwf : l < 9223372036854775808) (hb : (decide ((out.length : Int) + 1 < q) && decide (0 < l - 1)) = b) :
    Calls Yba.prog 26 #[.int .i64 v, .pointer (some ⟨bl, 0, none⟩), .pointer (some ⟨bm, 0, none⟩)] w fun e w' => e = .returned (.bool b) ∧ St N w0 w' bx bp bq bo bm bl xv (y20 bo bq) p q (l - 1) (out ++ [v]) := by
  have c0 := h.l.cell
  have c1 := h.l.frozen
  have c2 := h.y.cell
  have hne : bl ≠ bm := by have := A.a5; omega
  have hw : wrap64 (l - 1) = l - 1 := IntWalk.wrap64_in _ (by omega)
  have hd : decide (l ≤ 0) = false := by simp; omega
  have HA : Hid (Ap N bx bp bq bo bm bl) := A
  have HS : Hid (St N w0 w bx bp bq bo bm bl xv (y20 bo bq) p q l out) := h
  have HBb : Hid ((decide ((out.length : Int) + 1 < q) && decide (0 < l - 1)) = b) := hb
  clear h A hb
  go_enter Yba.func26, Yba.ntmps26
  go_wp2_with fail
  refine (checkStop_no _ w).mono ?_
  rintro e w' ⟨rfl, rfl⟩
  go_wp2_with fail
  cases hq : decide ((out.length : Int) + 1 < q)
  · refine (yield20 N w0 _ bx bp bq bo bm bl xv (y20 bo bq) p q (l - 1) out v false HA.out (HS.out.setL HA.out (l - 1)) hl hq).mono ?_
    rintro e w1 ⟨rfl, h1⟩
    have d0 := h1.l.cell
    have H1 : Hid (St N w0 w1 bx bp bq bo bm bl xv (y20 bo bq) p q (l - 1) (out ++ [v])) := h1
    have HQ : Hid (decide ((out.length : Int) + 1 < q) = false) := hq
    clear h1 hq
    go_wp2_with fail
    go_ret
    refine ⟨?_, H1.out⟩
    have := HBb.out
    rw [HQ.out] at this
    simp at this
    simp [← this]
  · refine (yield20 N w0 _ bx bp bq bo bm bl xv (y20 bo bq) p q (l - 1) out v true HA.out (HS.out.setL HA.out (l - 1)) hl hq).mono ?_
    rintro e w1 ⟨rfl, h1⟩
    have d0 := h1.l.cell
    have H1 : Hid (St N w0 w1 bx bp bq bo bm bl xv (y20 bo bq) p q (l - 1) (out ++ [v])) := h1
    have HQ : Hid (decide ((out.length : Int) + 1 < q) = true) := hq
    clear h1 hq
    go_wp2_with fail
    go_ret
    refine ⟨?_, H1.out⟩
    have := HBb.out
    rw [HQ.out] at this
    simp at this
    simp [← this]

/-- How many values are read: m is the least of the length, the limit, and the consumer's stop (at least one). -/
structure Least (m len n t : Nat) : Prop where
  l0 : m ≤ len
  l1 : m ≤ n
  l2 : m ≤ t
  l3 : m = len ∨ m = n ∨ m = t

set_option maxRecDepth 100000 in
set_option maxHeartbeats 1000000 in
theorem seq19 (N : Nat) (w0 w : World) (bx bp bq bo bm bl : Nat) (a0 : Option Addr) (len cap n m k t : Nat) (zs : List Int) (A : Ap N bx bp bq bo bm bl) (hS : Src N w0 a0 len zs) (hn : 0 < n) (hlen : len ≤ 1024) (hbig : (n : Int) < 9223372036854775808) (ht : t = if k < 1 then 1 else k) (hm : Least m len n t)
    (h : St N w0 w bx bp bq bo bm bl (.slice a0 len cap) (y20 bo bq) 0 k n []) :
    Calls Yba.prog 19 #[y26 bl bm, .pointer (some ⟨bx, 0, none⟩), .pointer (some ⟨bp, 0, none⟩)] w fun e w' => e = .returned (.tuple #[]) ∧ ∃ l, St N w0 w' bx bp bq bo bm bl (.slice a0 len cap) (y20 bo bq) m k l (zs.take m) := by
  have HA : Hid (Ap N bx bp bq bo bm bl) := A
  have HS : Hid (St N w0 w bx bp bq bo bm bl (.slice a0 len cap) (y20 bo bq) 0 k n []) := h
  have HSrc : Hid (Src N w0 a0 len zs) := hS
  have HM : Hid (Least m len n t) := hm
  have HT : Hid (t = if k < 1 then 1 else k) := ht
  have HI : Hid (0 < n ∧ len ≤ 1024 ∧ (n : Int) < 9223372036854775808) := ⟨hn, hlen, hbig⟩
  clear h A hS hm ht hn hbig
  go_enter Yba.func19, Yba.ntmps19
  go_wp2_with fail
  go_loopw [4] (fun t wr => ∃ j : Nat, t = .int .i64 j ∧ j ≤ len ∧ j < n ∧ (j = 0 ∨ j < k) ∧ St N w0 wr bx bp bq bo bm bl (.slice a0 len cap) (y20 bo bq) j k ((n : Int) - j) (zs.take j)) (fun t _ => len - (intOf t).toNat)
  case atStart => exact ⟨0, rfl, Nat.zero_le _, HI.out.1, .inl rfl, by simpa using HS.out⟩
  case round =>
    obtain ⟨j, rfl, hj, hjn, hjk, hSt⟩ := hrel
    have HSt : Hid (St N w0 wr bx bp bq bo bm bl (.slice a0 len cap) (y20 bo bq) j k ((n : Int) - j) (zs.take j)) := hSt
    have k0 := hSt.x.cell
    have k1 := hSt.p.cell
    have k2 := hSt.p.frozen
    have hpx : bp ≠ bx := by have := HA.out.a1; omega
    have HJ : Hid (j = 0 ∨ j < k) := hjk
    clear hjk
    by_cases hjm : j < len
    · obtain ⟨hl, h0 | ⟨x, rfl, hx⟩⟩ := HSrc.out
      · omega
      · have HSt2 : Hid (St N w0 (wr.setCell ⟨bp, 0, none⟩ (.int .i64 ((j : Int) + 1))) bx bp bq bo bm bl (.slice (some x) len cap) (y20 bo bq) (j + 1) k ((n : Int) - j) (zs.take j)) := HSt.out.setP HA.out _
        have e0 := hx _ HSt2.out.bel j hjm
        have hjI : (j : Int) < (len : Int) := by omega
        have hw1 : wrap64 ((j : Int) + 1) = (j : Int) + 1 := IntWalk.wrap64_in _ (by omega)
        clear hSt
        have hout : Hid ((zs.take j).length ≤ 2000) := by rw [Hid, List.length_take]; omega
        have hstep : Hid (zs.take j ++ [zs[j]?.getD 0] = zs.take (j + 1)) := take_step zs j (by omega)
        have hlj : (zs.take j).length = j := by rw [List.length_take]; omega
        by_cases hc : j + 1 < n ∧ j + 1 < k
        · have hd : Hid ((decide (((zs.take j).length : Int) + 1 < (k : Int)) && decide (0 < (n : Int) - j - 1)) = true) := by rw [Hid, hlj]; simp; omega
          clear hlj hx
          go_wp2_with (first | (go_at_call 26; refine (lim26e N w0 _ bx bp bq bo bm bl _ _ _ _ _ _ true HA.out HSt2.out hout.out (by omega) (by have := HI.out.2.2; omega) hd.out).mono ?_; rw [hstep.out]; rintro e w2 ⟨rfl, hs2⟩; have HS2 : Hid (St N w0 w2 bx bp bq bo bm bl (.slice (some x) len cap) (y20 bo bq) (j + 1) k ((n : Int) - j - 1) (zs.take (j + 1))) := hs2; clear hs2))
          refine ⟨⟨j + 1, rfl, by omega, hc.1, .inr hc.2, ?_⟩, ?_⟩
          · have := HS2.out
            rw [show (n : Int) - j - 1 = (n : Int) - ((j + 1 : Nat) : Int) by omega] at this
            exact this
          · simp only [intOf]
            omega
        · have hd : Hid ((decide (((zs.take j).length : Int) + 1 < (k : Int)) && decide (0 < (n : Int) - j - 1)) = false) := by rw [Hid, hlj]; simp; omega
          clear hlj hx
          go_wp2_with (first | (go_at_call 26; refine (lim26e N w0 _ bx bp bq bo bm bl _ _ _ _ _ _ false HA.out HSt2.out hout.out (by omega) (by have := HI.out.2.2; omega) hd.out).mono ?_; rw [hstep.out]; rintro e w2 ⟨rfl, hs2⟩; have HS2 : Hid (St N w0 w2 bx bp bq bo bm bl (.slice (some x) len cap) (y20 bo bq) (j + 1) k ((n : Int) - j - 1) (zs.take (j + 1))) := hs2; clear hs2))
          have hmj : m = j + 1 := by
            obtain ⟨m0, m1, m2, m3⟩ := HM.out
            have h1 := HT.out
            have h2 := HJ.out
            split at h1 <;> omega
          exact bodyPost_ret (results_none rfl _ _ _) rfl ⟨rfl, _, by rw [hmj]; exact HS2.out⟩
    · clear hSt
      have hjI : decide ((j : Int) < (len : Int)) = false := by simp; omega
      go_wp2_with fail
      go_end0
      have hmj : m = j := by
        obtain ⟨m0, m1, m2, m3⟩ := HM.out
        have h1 := HT.out
        have h2 := HJ.out
        split at h1 <;> omega
      exact ⟨rfl, _, by rw [hmj]; exact HSt.out⟩

abbrev s19 (bx bp : Nat) : Value := .func (.func 19) #[] #[.pointer (some ⟨bx, 0, none⟩), .pointer (some ⟨bp, 0, none⟩)]

set_option maxRecDepth 100000 in
set_option maxHeartbeats 1000000 in
theorem lim25e_none (bo bq bn bs : Nat) (n : Int) (w : World) (hn : w.cell? ⟨bn, 0, none⟩ = some (.int .i64 n)) (h0 : n ≤ 0) :
    Calls Yba.prog 25 #[y20 bo bq, .pointer (some ⟨bn, 0, none⟩), .pointer (some ⟨bs, 0, none⟩)] w fun e w' => e = .returned (.tuple #[]) ∧ Below w.heap.size w w' := by
  have hb := World.block_lt_of_cell? _ _ hn
  have hd : decide (n ≤ 0) = true := by simpa using h0
  go_enter Yba.func25, Yba.ntmps25
  go_wp2_with fail
  exact bodyPost_ret (results_none rfl _ _ _) rfl ⟨rfl, (Below.refl _ _).alloc (Nat.le_refl _) _⟩

set_option maxRecDepth 100000 in
set_option maxHeartbeats 1000000 in
theorem lim25e (N : Nat) (w0 w : World) (bx bp bq bo bn bs : Nat) (a0 : Option Addr) (len cap n m kk t : Nat) (zs : List Int) (h1 : N ≤ bx) (h2 : bx < bp) (h3 : bp < bq) (h4 : bq < bo) (hS : Src N w0 a0 len zs) (hn : 0 < n) (hlen : len ≤ 1024) (hbig : (n : Int) < 9223372036854775808) (ht : t = if kk < 1 then 1 else kk) (hm : Least m len n t)
    (h : St0 N w0 w bx bp bq bo (.slice a0 len cap) 0 kk []) (cn : w.cell? ⟨bn, 0, none⟩ = some (.int .i64 n)) (cs : w.cell? ⟨bs, 0, none⟩ = some (s19 bx bp)) :
    Calls Yba.prog 25 #[y20 bo bq, .pointer (some ⟨bn, 0, none⟩), .pointer (some ⟨bs, 0, none⟩)] w fun e w' => e = .returned (.tuple #[]) ∧ St0 N w0 w' bx bp bq bo (.slice a0 len cap) m kk (zs.take m) := by
  have hb : bn < w.heap.size := World.block_lt_of_cell? _ _ cn
  have hb2 : bs < w.heap.size := World.block_lt_of_cell? _ _ cs
  have hb3 : bs < w.heap.size + 1 := by omega
  have hb4 : bn < w.heap.size + 1 := by omega
  have hb5 : bs ≠ w.heap.size + 1 := by omega
  have hb6 : w.heap.size ≠ w.heap.size + 1 := by omega
  have hbo : bo < w.heap.size := by
    obtain ⟨g, cap, hbo, _⟩ := h.o
    exact hbo.lt
  have hd : decide ((n : Int) ≤ 0) = false := by simp; omega
  have HS : Hid (St0 N w0 w bx bp bq bo (.slice a0 len cap) 0 kk []) := h
  have HSrc : Hid (Src N w0 a0 len zs) := hS
  have HM : Hid (Least m len n t) := hm
  have HT : Hid (t = if kk < 1 then 1 else kk) := ht
  have HO : Hid (N ≤ bx ∧ bx < bp ∧ bp < bq ∧ bq < bo) := ⟨h1, h2, h3, h4⟩
  have HI : Hid (0 < n ∧ len ≤ 1024 ∧ (n : Int) < 9223372036854775808) := ⟨hn, hlen, hbig⟩
  obtain ⟨k, hk⟩ : ∃ k : Int, k = n := ⟨_, rfl⟩
  rw [← hk] at hd cn
  have HK : Hid (k = n) := hk
  clear h hS hm ht h1 h2 h3 h4 hn hlen hbig hk
  go_enter Yba.func25, Yba.ntmps25
  go_wp2_with fail
  have hbel : Below w.heap.size w ((w.alloc (.cells #[y20 bo bq] 40)).alloc (.cells #[.int .i64 k] 3)) := ((Below.refl _ _).alloc (Nat.le_refl _) _).alloc (by simp) _
  have hy : Boxed ((w.alloc (.cells #[y20 bo bq] 40)).alloc (.cells #[.int .i64 k] 3)) w.heap.size 40 (y20 bo bq) := (Boxed.new w 40 (y20 bo bq)).alloc _
  have hl : Boxed ((w.alloc (.cells #[y20 bo bq] 40)).alloc (.cells #[.int .i64 k] 3)) (w.heap.size + 1) 3 (.int .i64 k) := by
    have := Boxed.new (w.alloc (.cells #[y20 bo bq] 40)) 3 (.int .i64 k)
    simpa using this
  obtain ⟨o1, o2, o3, o4⟩ := HO.out
  obtain ⟨i1, i2, i3⟩ := HI.out
  have hst := HS.out.more hbel (by omega) hy hl
  rw [HK.out] at hst ⊢
  refine (seq19 N w0 _ bx bp bq bo w.heap.size (w.heap.size + 1) a0 len cap n m kk t zs ⟨o1, o2, o3, o4, hbo, by omega⟩ HSrc.out i1 i2 i3 HT.out HM.out hst).mono ?_
  rintro e w' ⟨rfl, l, hst2⟩
  go_wp2_with fail
  go_end0
  exact ⟨rfl, hst2.less⟩

set_option maxRecDepth 100000 in
set_option maxHeartbeats 2000000 in
theorem walk7_long (a0 : Option Addr) (len cap : Nat) (n k : Int) (w : World) (hl : 1024 < len) :
    Calls Yba.prog 7 #[.slice a0 len cap, .int .i64 n, .int .u8 k] w fun e w' => e = .returned (.bool true) ∧ Below w.heap.size w w' := by
  have hd : decide (1024 < (len : Int)) = true := by simp; omega
  go_enter Yba.func7, Yba.ntmps7
  go_wp2_with fail
  go_ret
  exact ⟨rfl, (Below.refl _ _).alloc (Nat.le_refl _) _⟩

set_option maxRecDepth 100000 in
set_option maxHeartbeats 2000000 in
theorem walk7_none (a0 : Option Addr) (len cap : Nat) (n k : Int) (w : World) (hl : len ≤ 1024) (hn : n ≤ 0) (hk : 0 ≤ k) (hk2 : k ≤ 255) :
    Calls Yba.prog 7 #[.slice a0 len cap, .int .i64 n, .int .u8 k] w fun e w' => e = .returned (.bool true) ∧ Below w.heap.size w w' := by
  have hd : decide (1024 < (len : Int)) = false := by simp; omega
  have hd2 : decide (0 < n) = false := by simp; omega
  have hw : wrap64 k = k := IntWalk.wrap64_in _ (by omega)
  have HN : Hid (n ≤ 0) := hn
  clear hn
  go_enter Yba.func7, Yba.ntmps7
  go_wp2_with fail
  refine (lim17 _ _ _ n _).mono ?_
  rintro e w' ⟨rfl, rfl⟩
  go_wp2_with fail
  refine (lim25e_none _ _ _ _ n _ (by simp [go_sem]) HN.out).mono ?_
  rintro e w' ⟨rfl, hb⟩
  have h1 := (start w (.slice a0 len cap) 0 k).later (((Below.refl _ _).alloc (Nat.le_refl _) (.cells #[s19 w.heap.size (w.heap.size + 1)] 41)).alloc (by simp) (.cells #[.int .i64 n] 3))
  have h2 := h1.later hb
  clear h1 hb
  have c0 := h2.p.cell
  have c1 := h2.q.cell
  obtain ⟨g, c, hbo, _⟩ := h2.o
  have c2 := hbo.cell
  have HB : Hid (Below w.heap.size w w') := h2.bel
  clear hbo h2
  simp only [List.length_nil] at c2
  go_wp2_with fail
  refine wp_loop_rounds 1 ?_
  rw [rounds_succ]
  go_wp2_with fail
  go_ret
  exact ⟨rfl, HB.out⟩
end Go.Proofs.Ybulkajuk.C
