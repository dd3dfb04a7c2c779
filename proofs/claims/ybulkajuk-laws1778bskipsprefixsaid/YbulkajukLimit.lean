import Derived.Test.YbulkajukRows
import Derived.WalkKit
import Derived.WalkSpells
import Derived.WalkLawsBesides
import Derived.BigQuiet
import Derived.RegionTactic
import Derived.Deep.RegionWith
import Derived.Deep.RegionHeld3
import Derived.Below
import Derived.RangeFuncBox
import Derived.Deep.AppendLies
namespace Go.Proofs.Ybulkajuk.C
open Go.RowKit

theorem info3 : (Yba.prog.info? 3).map (fun i => (i.zero, i.size, i.bytes)) = some (some (.int .i64 0), 1, 8) := by kernel_rfl
theorem info_parts {P : Program} {t : TypeId} {z : Value} {a b : Nat} (h : (P.info? t).map (fun i => (i.zero, i.size, i.bytes)) = some (some z, a, b)) : ∃ i, P.info? t = some i ∧ i.zero = some z ∧ i.size = a ∧ i.bytes = b := by
  cases hi : P.info? t with
  | none => rw [hi] at h; cases h
  | some i =>
    rw [hi] at h
    simp at h
    exact ⟨i, rfl, h.1, h.2.1, h.2.2⟩

abbrev ints (L : List Int) : List Value := L.map (Value.int .i64)

/-- The boxes of one run: the slice, two numbers, the collected row, the yield, what is left. Their order of making keeps them apart. -/
structure Ap (N bx bp bq bo bm bl : Nat) : Prop where
  a0 : N ≤ bx
  a1 : bx < bp
  a2 : bp < bq
  a3 : bq < bo
  a4 : bo < bm
  a5 : bm < bl

/-- The state of the run. -/
structure St (N : Nat) (w0 w : World) (bx bp bq bo bm bl : Nat) (xv yv : Value) (p q l : Int) (out : List Int) : Prop where
  x : Boxed w bx 22 xv
  p : Boxed w bp 3 (.int .i64 p)
  q : Boxed w bq 3 (.int .i64 q)
  y : Boxed w bm 40 yv
  l : Boxed w bl 3 (.int .i64 l)
  o : ∃ g cap, Boxed w bo 22 (.slice (some ⟨g, 0, none⟩) out.length cap) ∧ w.ownsRow N 3 1 (.slice (some ⟨g, 0, none⟩) out.length cap) out.length (ints out) ∧ g ≠ bp ∧ g ≠ bq ∧ g ≠ bl
  bel : Below N w0 w

theorem bset {W : World} {B b : Nat} {t : TypeId} {v u : Value} (h : Boxed W B t v) (hne : B ≠ b) : Boxed (W.setCell ⟨b, 0, none⟩ u) B t v :=
  h.kept (grownBy_setCell' W b u) (fun e => hne (by injection e))
theorem own_setOther {w : World} {base n cap g b : Nat} {e : TypeId} {k : Nat} {xs : List Value} {v : Value} (h : w.ownsRow base e k (.slice (some ⟨g, 0, none⟩) n cap) n xs) (hne : g ≠ b) : (w.setCell ⟨b, 0, none⟩ v).ownsRow base e k (.slice (some ⟨g, 0, none⟩) n cap) n xs :=
  h.kept (grownBy_setCell' w b v) (.inr (fun e => hne (by simpa [Value.ownBlock] using e)))

section
variable {N : Nat} {w0 w : World} {bx bp bq bo bm bl : Nat} {xv yv : Value} {p q l : Int} {out : List Int}
theorem St.size (h : St N w0 w bx bp bq bo bm bl xv yv p q l out) : N ≤ w.heap.size := by
  obtain ⟨g, cap, hb, hr, _⟩ := h.o
  obtain ⟨_, h2⟩ := hr
  rcases h2 with ⟨h0, _⟩ | ⟨g', c', cur, hv, hN, hg, _⟩
  · cases h0
  · have := (Array.getElem?_eq_some_iff.1 hg).1
    omega
theorem St.setL (A : Ap N bx bp bq bo bm bl) (h : St N w0 w bx bp bq bo bm bl xv yv p q l out) (l' : Int) : St N w0 (w.setCell ⟨bl, 0, none⟩ (.int .i64 l')) bx bp bq bo bm bl xv yv p q l' out := by
  obtain ⟨a0, a1, a2, a3, a4, a5⟩ := A
  obtain ⟨g, cap, hb, hr, g1, g2, g3⟩ := h.o
  exact ⟨bset h.x (by omega), bset h.p (by omega), bset h.q (by omega), bset h.y (by omega), h.l.set _, ⟨g, cap, bset hb (by omega), own_setOther hr g3, g1, g2, g3⟩, h.bel.setCell (p := ⟨bl, 0, none⟩) (by show N ≤ bl; omega) _⟩
theorem St.setQ (A : Ap N bx bp bq bo bm bl) (h : St N w0 w bx bp bq bo bm bl xv yv p q l out) (q' : Int) : St N w0 (w.setCell ⟨bq, 0, none⟩ (.int .i64 q')) bx bp bq bo bm bl xv yv p q' l out := by
  obtain ⟨a0, a1, a2, a3, a4, a5⟩ := A
  obtain ⟨g, cap, hb, hr, g1, g2, g3⟩ := h.o
  exact ⟨bset h.x (by omega), bset h.p (by omega), h.q.set _, bset h.y (by omega), bset h.l (by omega), ⟨g, cap, bset hb (by omega), own_setOther hr g2, g1, g2, g3⟩, h.bel.setCell (p := ⟨bq, 0, none⟩) (by show N ≤ bq; omega) _⟩
theorem St.setP (A : Ap N bx bp bq bo bm bl) (h : St N w0 w bx bp bq bo bm bl xv yv p q l out) (p' : Int) : St N w0 (w.setCell ⟨bp, 0, none⟩ (.int .i64 p')) bx bp bq bo bm bl xv yv p' q l out := by
  obtain ⟨a0, a1, a2, a3, a4, a5⟩ := A
  obtain ⟨g, cap, hb, hr, g1, g2, g3⟩ := h.o
  exact ⟨bset h.x (by omega), h.p.set _, bset h.q (by omega), bset h.y (by omega), bset h.l (by omega), ⟨g, cap, bset hb (by omega), own_setOther hr g1, g1, g2, g3⟩, h.bel.setCell (p := ⟨bp, 0, none⟩) (by show N ≤ bp; omega) _⟩

/-- Behind 'out = append(out, v)'. -/
theorem St.appended (A : Ap N bx bp bq bo bm bl) (h : St N w0 w bx bp bq bo bm bl xv yv p q l out) {w1 : World} {g cap g' cap' : Nat} {v : Int} {tmp : Obj}
    (hb : Boxed w bo 22 (.slice (some ⟨g, 0, none⟩) out.length cap)) (hr : w.ownsRow N 3 1 (.slice (some ⟨g, 0, none⟩) out.length cap) out.length (ints out)) (g1 : g ≠ bp) (g2 : g ≠ bq) (g3 : g ≠ bl)
    (hown : w1.ownsRow N 3 1 (.slice (some ⟨g', 0, none⟩) (out.length + 1) cap') (out.length + 1) (ints out ++ [.int .i64 v])) (hgrow : (w.alloc tmp).grownBy w1 (Value.ownBlock (.slice (some ⟨g, 0, none⟩) out.length cap))) (hat : Value.ownBlock (.slice (some ⟨g, 0, none⟩) out.length cap) = some g' ∨ g' = w.heap.size + 1) :
    St N w0 (w1.setCell ⟨bo, 0, none⟩ (.slice (some ⟨g', 0, none⟩) (out.length + 1) cap')) bx bp bq bo bm bl xv yv p q l (out ++ [v]) := by
  obtain ⟨a0, a1, a2, a3, a4, a5⟩ := A
  have lp := h.p.lt
  have lq := h.q.lt
  have ll := h.l.lt
  obtain ⟨k1, k2, k3, _, k5⟩ := hb.appended (by decide) hr h.size (by omega) hown hgrow
  have hg' : g' = g ∨ g' = w.heap.size + 1 := by
    rcases hat with e | e
    · left; simpa [Value.ownBlock] using e.symm
    · exact .inr e
  have keep : ∀ {B t u}, Boxed w B t u → g ≠ B → Boxed w1 B t u := fun hB hne => (hB.alloc tmp).kept hgrow (fun e => hne (by simpa [Value.ownBlock] using e.symm))
  have gx : g ≠ bx := fun e => h.x.not_row (by decide) hr (by rw [e]; rfl)
  have gm : g ≠ bm := fun e => h.y.not_row (by decide) hr (by rw [e]; rfl)
  have hlen : (out ++ [v]).length = out.length + 1 := by simp
  have hmap : ints (out ++ [v]) = ints out ++ [.int .i64 v] := by simp [ints]
  refine ⟨bset (keep h.x gx) (by omega), bset (keep h.p g1) (by omega), bset (keep h.q g2) (by omega), bset (keep h.y gm) (by omega), bset (keep h.l g3) (by omega), ⟨g', cap', ?_, ?_, ?_, ?_, ?_⟩, h.bel.trans k5⟩
  · rw [hlen]; exact k2
  · rw [hlen, hmap]; exact k3
  all_goals omega
end

theorem cell_one_at (w : World) (x : Value) (t : TypeId) (n : Nat) (hn : n = w.heap.size) : ∀ j u, [x][j]? = some u → (w.alloc (.cells #[x] t)).cell? ((⟨n, 0, none⟩ : Addr).add j) = some u := by
  subst hn
  intro j u hj
  match j, hj with
  | 0, hj => simpa [Addr.add] using hj
  | j + 1, hj => simp at hj

set_option maxRecDepth 100000 in
set_option maxHeartbeats 1000000 in
/-- The consumer of LawS1778CPrefix: out = append(out, v); true. -/
theorem yield18 (N : Nat) (w0 w : World) (bx bp bq bo bm bl : Nat) (xv yv : Value) (p q l : Int) (out : List Int) (v : Int) (A : Ap N bx bp bq bo bm bl) (h : St N w0 w bx bp bq bo bm bl xv yv p q l out) (hl : out.length ≤ 2000) :
    Calls Yba.prog 18 #[.int .i64 v, .pointer (some ⟨bo, 0, none⟩)] w fun e w' => e = .returned (.bool true) ∧ St N w0 w' bx bp bq bo bm bl xv yv p q l (out ++ [v]) := by
  obtain ⟨i0, hi, hz, hs, hby⟩ := info_parts info3
  obtain ⟨g, cap, hb, hr, g1, g2, g3⟩ := h.o
  have c0 := hb.cell
  have c1 := hb.frozen
  have hlt := hb.lt
  have HA : Hid (Ap N bx bp bq bo bm bl) := A
  have HS : Hid (St N w0 w bx bp bq bo bm bl xv yv p q l out) := h
  have HB : Hid (Boxed w bo 22 (.slice (some ⟨g, 0, none⟩) out.length cap)) := hb
  have HR : Hid (w.ownsRow N 3 1 (.slice (some ⟨g, 0, none⟩) out.length cap) out.length (ints out)) := hr
  have hN : Hid (N ≤ w.heap.size) := h.size
  have G1 : Hid (g ≠ bp) := g1
  have G2 : Hid (g ≠ bq) := g2
  have G3 : Hid (g ≠ bl) := g3
  clear h hb hr A g1 g2 g3
  go_enter Yba.func18, Yba.ntmps18
  go_wp2_with (first | (at_builtin; go_must (refine wpList_append_lies _ rfl _ _ 22 rfl N 3 i0 (.int .i64 0) 1 8 Yba.underlying22 hi hz hs hby rfl (by decide) (.slice (some ⟨g, 0, none⟩) out.length cap) out.length (ints out) rfl (HR.out.alloc _) ⟨w.heap.size, 0, none⟩ 1 1 [.int .i64 v] rfl rfl (cell_one_at _ _ _ _ rfl) (by simp [Value.oneCell']) (by decide) (by unfold maxLen; omega) (by omega) (by have := hN.out; simp; omega) (w.heap.size + 1) (by simp) ?_); intro g' cap' w1 hown hgrow hat hlt'; have d := (HB.out.alloc _).kept hgrow (HB.out.not_row (by decide) HR.out); have d0 := d.cell; have d1 := d.frozen; have HO : Hid (w1.ownsRow N 3 1 (.slice (some ⟨g', 0, none⟩) (out.length + 1) cap') (out.length + 1) (ints out ++ [.int .i64 v])) := hown; have HG : Hid ((w.alloc (.cells #[.int .i64 v] 3)).grownBy w1 (Value.ownBlock (.slice (some ⟨g, 0, none⟩) out.length cap))) := hgrow; have HT : Hid (Value.ownBlock (.slice (some ⟨g, 0, none⟩) out.length cap) = some g' ∨ g' = w.heap.size + 1) := hat; clear hown hgrow hat d))
  go_ret
  exact ⟨rfl, HS.out.appended HA.out HB.out HR.out G1.out G2.out G3.out HO.out HG.out HT.out⟩

set_option maxRecDepth 100000 in
theorem checkStop_no (s : ByteArray) (w : World) : Calls Yba.prog 27 #[.string s, .bool false] w fun e w' => e = .returned (.tuple #[]) ∧ w' = w := by
  go_enter Yba.func27, Yba.ntmps27
  go_wp2_with fail
  go_end0
  exact ⟨rfl, rfl⟩

abbrev y18 (bo : Nat) : Value := .func (.func 18) #[] #[.pointer (some ⟨bo, 0, none⟩)]

set_option maxRecDepth 100000 in
set_option maxHeartbeats 1000000 in
theorem lim26 (N : Nat) (w0 w : World) (bx bp bq bo bm bl : Nat) (xv : Value) (p q l : Int) (out : List Int) (v : Int) (A : Ap N bx bp bq bo bm bl) (h : St N w0 w bx bp bq bo bm bl xv (y18 bo) p q l out) (hl : out.length ≤ 2000) (hpos : 0 < l) (hwf : l < 9223372036854775808) :
    Calls Yba.prog 26 #[.int .i64 v, .pointer (some ⟨bl, 0, none⟩), .pointer (some ⟨bm, 0, none⟩)] w fun e w' => e = .returned (.bool (decide (0 < l - 1))) ∧ St N w0 w' bx bp bq bo bm bl xv (y18 bo) p q (l - 1) (out ++ [v]) := by
  have c0 := h.l.cell
  have c1 := h.l.frozen
  have c2 := h.y.cell
  have hne : bl ≠ bm := by have := A.a5; omega
  have hw : wrap64 (l - 1) = l - 1 := IntWalk.wrap64_in _ (by omega)
  have hd : decide (l ≤ 0) = false := by simp; omega
  have HA : Hid (Ap N bx bp bq bo bm bl) := A
  have HS : Hid (St N w0 w bx bp bq bo bm bl xv (y18 bo) p q l out) := h
  clear h A
  go_enter Yba.func26, Yba.ntmps26
  go_wp2_with fail
  refine (checkStop_no _ w).mono ?_
  rintro e w' ⟨rfl, rfl⟩
  go_wp2_with fail
  refine (yield18 N w0 _ bx bp bq bo bm bl xv (y18 bo) p q (l - 1) out v HA.out (HS.out.setL HA.out (l - 1)) hl).mono ?_
  rintro e w1 ⟨rfl, h1⟩
  have d0 := h1.l.cell
  have H1 : Hid (St N w0 w1 bx bp bq bo bm bl xv (y18 bo) p q (l - 1) (out ++ [v])) := h1
  clear h1
  go_wp2_with fail
  go_ret
  exact ⟨by simp, H1.out⟩

/-- The slice that came in: its first len elements, in every world that left the elder blocks alone. -/
def Src (N : Nat) (w0 : World) (a : Option Addr) (len : Nat) (zs : List Int) : Prop :=
  len ≤ zs.length ∧ ((a = none ∧ len = 0) ∨ ∃ x, a = some x ∧ ∀ wr, Below N w0 wr → ∀ i, i < len → wr.cell? (x.add i) = some (.int .i64 (zs.getD i 0)))

abbrev y26 (bl bm : Nat) : Value := .func (.func 26) #[] #[.pointer (some ⟨bl, 0, none⟩), .pointer (some ⟨bm, 0, none⟩)]

theorem take_step (zs : List Int) (i : Nat) (h : i < zs.length) : zs.take i ++ [zs.getD i 0] = zs.take (i + 1) := by
  rw [List.take_succ_eq_append_getElem h]
  simp [List.getD, List.getElem?_eq_getElem h]

set_option maxRecDepth 100000 in
set_option maxHeartbeats 1000000 in
theorem seq16 (N : Nat) (w0 w : World) (bx bp bq bo bm bl : Nat) (a0 : Option Addr) (len cap n m : Nat) (zs : List Int) (A : Ap N bx bp bq bo bm bl) (hS : Src N w0 a0 len zs) (hn : 0 < n) (hlen : len ≤ 1024) (hbig : (n : Int) < 9223372036854775808) (hm : m = if n < len then n else len)
    (h : St N w0 w bx bp bq bo bm bl (.slice a0 len cap) (y18 bo) 0 0 n []) :
    Calls Yba.prog 16 #[y26 bl bm, .pointer (some ⟨bp, 0, none⟩), .pointer (some ⟨bx, 0, none⟩), .pointer (some ⟨bq, 0, none⟩)] w fun e w' => e = .returned (.tuple #[]) ∧ ∃ l, St N w0 w' bx bp bq bo bm bl (.slice a0 len cap) (y18 bo) 1 m l (zs.take m) := by
  have c0 := h.p.cell
  have c1 := h.p.frozen
  have HA : Hid (Ap N bx bp bq bo bm bl) := A
  have HS : Hid (St N w0 w bx bp bq bo bm bl (.slice a0 len cap) (y18 bo) 0 0 n []) := h
  have HSrc : Hid (Src N w0 a0 len zs) := hS
  have HM : Hid (m = if n < len then n else len) := hm
  clear h A hS hm
  go_enter Yba.func16, Yba.ntmps16
  go_wp2_with fail
  have HS1 : Hid (St N w0 (w.setCell ⟨bp, 0, none⟩ (.int .i64 1)) bx bp bq bo bm bl (.slice a0 len cap) (y18 bo) 1 0 n []) := HS.out.setP HA.out 1
  generalize w.setCell ⟨bp, 0, none⟩ (.int .i64 1) = w1 at HS1 ⊢
  go_loopw [5] (fun t wr => ∃ j : Nat, t = .int .i64 j ∧ j ≤ len ∧ j < n ∧ St N w0 wr bx bp bq bo bm bl (.slice a0 len cap) (y18 bo) 1 j ((n : Int) - j) (zs.take j)) (fun t _ => len - (intOf t).toNat)
  case atStart => exact ⟨0, rfl, Nat.zero_le _, hn, by simpa using HS1.out⟩
  case round =>
    obtain ⟨j, rfl, hj, hjn, hSt⟩ := hrel
    have HSt : Hid (St N w0 wr bx bp bq bo bm bl (.slice a0 len cap) (y18 bo) 1 j ((n : Int) - j) (zs.take j)) := hSt
    have k0 := hSt.x.cell
    have k1 := hSt.q.cell
    have k2 := hSt.q.frozen
    have hqx : bq ≠ bx := by have := HA.out.a1; have := HA.out.a2; omega
    by_cases hjm : j < len
    · obtain ⟨hl, h0 | ⟨x, rfl, hx⟩⟩ := HSrc.out
      · omega
      · have HSt2 : Hid (St N w0 (wr.setCell ⟨bq, 0, none⟩ (.int .i64 ((j : Int) + 1))) bx bp bq bo bm bl (.slice (some x) len cap) (y18 bo) 1 (j + 1) ((n : Int) - j) (zs.take j)) := HSt.out.setQ HA.out _
        have e0 := hx _ HSt2.out.bel j hjm
        have hjI : (j : Int) < (len : Int) := by omega
        have hw1 : wrap64 ((j : Int) + 1) = (j : Int) + 1 := IntWalk.wrap64_in _ (by omega)
        clear hSt
        have hout : Hid ((zs.take j).length ≤ 2000) := by rw [Hid, List.length_take]; omega
        have hstep : Hid (zs.take j ++ [zs[j]?.getD 0] = zs.take (j + 1)) := take_step zs j (by omega)
        by_cases hc : j + 1 < n
        · have hd : decide (0 < (n : Int) - j - 1) = true := by simp; omega
          go_wp2_with (first | (go_at_call 26; refine (lim26 N w0 _ bx bp bq bo bm bl _ _ _ _ _ _ HA.out HSt2.out hout.out (by omega) (by omega)).mono ?_; rw [hd, hstep.out]; rintro e w2 ⟨rfl, hs2⟩; have HS2 : Hid (St N w0 w2 bx bp bq bo bm bl (.slice (some x) len cap) (y18 bo) 1 (j + 1) ((n : Int) - j - 1) (zs.take (j + 1))) := hs2; clear hs2))
          go_round
          · refine ⟨j + 1, by simp, by omega, hc, ?_⟩
            have := HS2.out
            rw [show (n : Int) - j - 1 = (n : Int) - ((j + 1 : Nat) : Int) by omega] at this
            exact this
          · simp [intOf]; omega
        · have hd : decide (0 < (n : Int) - j - 1) = false := by simp; omega
          go_wp2_with (first | (go_at_call 26; refine (lim26 N w0 _ bx bp bq bo bm bl _ _ _ _ _ _ HA.out HSt2.out hout.out (by omega) (by omega)).mono ?_; rw [hd, hstep.out]; rintro e w2 ⟨rfl, hs2⟩; have HS2 : Hid (St N w0 w2 bx bp bq bo bm bl (.slice (some x) len cap) (y18 bo) 1 (j + 1) ((n : Int) - j - 1) (zs.take (j + 1))) := hs2; clear hs2))
          have hmj : m = j + 1 := by rw [HM.out]; split <;> omega
          exact bodyPost_ret (results_none rfl _ _ _) rfl ⟨rfl, _, by rw [hmj]; exact HS2.out⟩
    · clear hSt
      have hjI : decide ((j : Int) < (len : Int)) = false := by simp; omega
      go_wp2_with fail
      go_end0
      have hmj : m = j := by rw [HM.out]; split <;> omega
      exact ⟨rfl, _, by rw [hmj]; exact HSt.out⟩

/-- The state without the boxes of the run of Limit. -/
structure St0 (N : Nat) (w0 w : World) (bx bp bq bo : Nat) (xv : Value) (p q : Int) (out : List Int) : Prop where
  x : Boxed w bx 22 xv
  p : Boxed w bp 3 (.int .i64 p)
  q : Boxed w bq 3 (.int .i64 q)
  o : ∃ g cap, Boxed w bo 22 (.slice (some ⟨g, 0, none⟩) out.length cap) ∧ w.ownsRow N 3 1 (.slice (some ⟨g, 0, none⟩) out.length cap) out.length (ints out) ∧ g ≠ bp ∧ g ≠ bq
  bel : Below N w0 w

theorem own_later {w w' : World} {B e size n : Nat} {v : Value} {xs : List Value} (h : w.ownsRow B e size v n xs) (hb : Below w.heap.size w w') : w'.ownsRow B e size v n xs := by
  refine ⟨h.1, ?_⟩
  rcases h.2 with h0 | ⟨g, cap, cur, hv, hB, hg, r⟩
  · exact .inl h0
  · exact .inr ⟨g, cap, cur, hv, hB, (hb.block g (Array.getElem?_eq_some_iff.1 hg).1).trans hg, r⟩
theorem box_later {w w' : World} {b : Nat} {t : TypeId} {v : Value} (h : Boxed w b t v) (hb : Below w.heap.size w w') : Boxed w' b t v := (hb.block b h.lt).trans h

section
variable {N : Nat} {w0 w : World} {bx bp bq bo bm bl : Nat} {xv yv : Value} {p q l : Int} {out : List Int}
theorem St.less (h : St N w0 w bx bp bq bo bm bl xv yv p q l out) : St0 N w0 w bx bp bq bo xv p q out := by
  obtain ⟨g, cap, hb, hr, g1, g2, _⟩ := h.o
  exact ⟨h.x, h.p, h.q, ⟨g, cap, hb, hr, g1, g2⟩, h.bel⟩
theorem St0.size (h : St0 N w0 w bx bp bq bo xv p q out) : N ≤ w.heap.size := by
  obtain ⟨g, cap, hb, hr, _⟩ := h.o
  obtain ⟨_, h2⟩ := hr
  rcases h2 with ⟨h0, _⟩ | ⟨g', c', cur, hv, hN, hg, _⟩
  · cases h0
  · have := (Array.getElem?_eq_some_iff.1 hg).1
    omega
theorem St0.later {w' : World} (h : St0 N w0 w bx bp bq bo xv p q out) (hb : Below w.heap.size w w') : St0 N w0 w' bx bp bq bo xv p q out := by
  obtain ⟨g, cap, hbo, hr, g1, g2⟩ := h.o
  exact ⟨box_later h.x hb, box_later h.p hb, box_later h.q hb, ⟨g, cap, box_later hbo hb, own_later hr hb, g1, g2⟩, h.bel.trans (hb.mono h.size)⟩
theorem St0.more {w' : World} (h : St0 N w0 w bx bp bq bo xv p q out) (hb : Below w.heap.size w w') (hbl : w.heap.size ≤ bl) (hy : Boxed w' bm 40 yv) (hl : Boxed w' bl 3 (.int .i64 l)) : St N w0 w' bx bp bq bo bm bl xv yv p q l out := by
  have h' := h.later hb
  obtain ⟨g, cap, hbo, hr, g1, g2⟩ := h.o
  obtain ⟨_, r2⟩ := hr
  have hg : g < w.heap.size := by
    rcases r2 with ⟨h0, _⟩ | ⟨g', c', cur, hv, hN, hg, _⟩
    · cases h0
    · have := (Array.getElem?_eq_some_iff.1 hg).1
      simp at hv
      omega
  refine ⟨h'.x, h'.p, h'.q, hy, hl, ⟨g, cap, box_later hbo hb, own_later (And.intro ‹_› r2) hb, g1, g2, by omega⟩, h'.bel⟩
end

abbrev s16 (bp bx bq : Nat) : Value := .func (.func 16) #[] #[.pointer (some ⟨bp, 0, none⟩), .pointer (some ⟨bx, 0, none⟩), .pointer (some ⟨bq, 0, none⟩)]

set_option maxRecDepth 100000 in
set_option maxHeartbeats 1000000 in
theorem lim25_none (bo bn bs : Nat) (n : Int) (w : World) (hn : w.cell? ⟨bn, 0, none⟩ = some (.int .i64 n)) (h0 : n ≤ 0) :
    Calls Yba.prog 25 #[y18 bo, .pointer (some ⟨bn, 0, none⟩), .pointer (some ⟨bs, 0, none⟩)] w fun e w' => e = .returned (.tuple #[]) ∧ Below w.heap.size w w' := by
  have hb := World.block_lt_of_cell? _ _ hn
  have hd : decide (n ≤ 0) = true := by simpa using h0
  go_enter Yba.func25, Yba.ntmps25
  go_wp2_with fail
  exact bodyPost_ret (results_none rfl _ _ _) rfl ⟨rfl, (Below.refl _ _).alloc (Nat.le_refl _) _⟩

set_option maxRecDepth 100000 in
set_option maxHeartbeats 1000000 in
theorem lim25 (N : Nat) (w0 w : World) (bx bp bq bo bn bs : Nat) (a0 : Option Addr) (len cap n m : Nat) (zs : List Int) (h1 : N ≤ bx) (h2 : bx < bp) (h3 : bp < bq) (h4 : bq < bo) (hS : Src N w0 a0 len zs) (hn : 0 < n) (hlen : len ≤ 1024) (hbig : (n : Int) < 9223372036854775808) (hm : m = if n < len then n else len)
    (h : St0 N w0 w bx bp bq bo (.slice a0 len cap) 0 0 []) (cn : w.cell? ⟨bn, 0, none⟩ = some (.int .i64 n)) (cs : w.cell? ⟨bs, 0, none⟩ = some (s16 bp bx bq)) :
    Calls Yba.prog 25 #[y18 bo, .pointer (some ⟨bn, 0, none⟩), .pointer (some ⟨bs, 0, none⟩)] w fun e w' => e = .returned (.tuple #[]) ∧ St0 N w0 w' bx bp bq bo (.slice a0 len cap) 1 m (zs.take m) := by
  have hb : bn < w.heap.size := World.block_lt_of_cell? _ _ cn
  have hb2 : bs < w.heap.size := World.block_lt_of_cell? _ _ cs
  have hb3 : bs < w.heap.size + 1 := by omega
  have hb4 : bn < w.heap.size + 1 := by omega
  have hb5 : bs ≠ w.heap.size + 1 := by omega
  have hb6 : w.heap.size ≠ w.heap.size + 1 := by omega
  have hbo : bo < w.heap.size := by
    obtain ⟨g, cap, hbo, _⟩ := h.o
    exact hbo.lt
  have hd : decide ((n : Int) ≤ 0) = false := by simp; omega
  have HS : Hid (St0 N w0 w bx bp bq bo (.slice a0 len cap) 0 0 []) := h
  have HSrc : Hid (Src N w0 a0 len zs) := hS
  have HM : Hid (m = if n < len then n else len) := hm
  have HO : Hid (N ≤ bx ∧ bx < bp ∧ bp < bq ∧ bq < bo) := ⟨h1, h2, h3, h4⟩
  have HI : Hid (0 < n ∧ len ≤ 1024 ∧ (n : Int) < 9223372036854775808) := ⟨hn, hlen, hbig⟩
  obtain ⟨k, hk⟩ : ∃ k : Int, k = n := ⟨_, rfl⟩
  rw [← hk] at hd cn
  have HK : Hid (k = n) := hk
  clear h hS hm h1 h2 h3 h4 hn hlen hbig hk
  go_enter Yba.func25, Yba.ntmps25
  go_wp2_with fail
  have hbel : Below w.heap.size w ((w.alloc (.cells #[y18 bo] 40)).alloc (.cells #[.int .i64 k] 3)) := ((Below.refl _ _).alloc (Nat.le_refl _) _).alloc (by simp) _
  have hy : Boxed ((w.alloc (.cells #[y18 bo] 40)).alloc (.cells #[.int .i64 k] 3)) w.heap.size 40 (y18 bo) := (Boxed.new w 40 (y18 bo)).alloc _
  have hl : Boxed ((w.alloc (.cells #[y18 bo] 40)).alloc (.cells #[.int .i64 k] 3)) (w.heap.size + 1) 3 (.int .i64 k) := by
    have := Boxed.new (w.alloc (.cells #[y18 bo] 40)) 3 (.int .i64 k)
    simpa using this
  obtain ⟨o1, o2, o3, o4⟩ := HO.out
  obtain ⟨i1, i2, i3⟩ := HI.out
  have hst := HS.out.more hbel (by omega) hy hl
  rw [HK.out] at hst ⊢
  refine (seq16 N w0 _ bx bp bq bo w.heap.size (w.heap.size + 1) a0 len cap n m zs ⟨o1, o2, o3, o4, hbo, by omega⟩ HSrc.out i1 i2 i3 HM.out hst).mono ?_
  rintro e w' ⟨rfl, l, hst2⟩
  go_wp2_with fail
  go_end0
  exact ⟨rfl, hst2.less⟩

set_option maxRecDepth 100000 in
theorem lim17 (f : Fn) (cs bs : Array Value) (n : Int) (w : World) :
    Calls Yba.prog 17 #[.func f cs bs, .int .i64 n] w fun e w' => e = .returned (.func (.func 25) #[] #[.pointer (some ⟨w.heap.size + 1, 0, none⟩), .pointer (some ⟨w.heap.size, 0, none⟩)]) ∧ w' = (w.alloc (.cells #[.func f cs bs] 41)).alloc (.cells #[.int .i64 n] 3) := by
  go_enter Yba.func17, Yba.ntmps17
  go_wp2_with fail
  go_ret
  exact ⟨rfl, rfl⟩
end Go.Proofs.Ybulkajuk.C
