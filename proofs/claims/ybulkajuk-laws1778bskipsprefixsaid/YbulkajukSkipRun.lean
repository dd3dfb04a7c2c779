import Derived.Test.YbulkajukSkipFn
namespace Go.Proofs.Ybulkajuk.B
open Go.RowKit C S A

abbrev y24 (N : Nat) : Value := .func (.func 24) #[] #[.pointer (some ⟨N + 13, 0, none⟩), .pointer (some ⟨N + 11, 0, none⟩), .pointer (some ⟨N + 12, 0, none⟩)]

theorem drop_step {α : Type} (L : List α) (i J : Nat) (x : α) (h : i < L.length) (hx : L.take i ++ [x] = L.take (i + 1)) (hJ : J ≤ i) : (L.take i).drop J ++ [x] = (L.take (i + 1)).drop J := by
  rw [← hx, List.drop_append_of_le_length (by rw [List.length_take]; omega)]
theorem drop_short {α : Type} (L : List α) (i J : Nat) (h : i ≤ J) : (L.take i).drop J = [] := by
  apply List.drop_eq_nil_of_le
  rw [List.length_take]
  omega
theorem drop_len {α : Type} (L : List α) (i J : Nat) (h : i ≤ L.length) : ((L.take i).drop J).length = i - J := by
  rw [List.length_drop, List.length_take, Nat.min_eq_left h]
theorem takeK_step (zs : List Int) (i : Nat) (h : i < zs.length) : zs.take i ++ [zs[i]?.getD 0] = zs.take (i + 1) := by
  have := take_step zs i h
  rwa [List.getD_eq_getElem?_getD] at this

theorem St.drew {N : Nat} {w0 w : World} {kv vv dF yF : Value} {t n p lim : Int} {dk ok : List Int} {dv ov : List ByteArray} {dr : Bool} (h : St N w0 w kv vv dF yF t n p lim dk dv ok ov dr) : St N w0 w.drew kv vv dF yF t n p lim dk dv ok ov dr := by
  obtain ⟨v1, v2, v3, v4, r1, r2, r3, r4, a1, a2⟩ := h.rows
  exact ⟨h.k, h.v, h.t, h.n, h.p, h.lim, h.d, h.y, h.r, ⟨v1, v2, v3, v4, ⟨r1.box, r1.own⟩, ⟨r2.box, r2.own⟩, ⟨r3.box, r3.own⟩, ⟨r4.box, r4.own⟩, a1, a2⟩, h.bel.drew, h.size⟩

/-- The state when i pairs have been pulled: J is the first index whose key is not below t. -/
abbrev At (N : Nat) (w0 w : World) (kv vv : Value) (t : Int) (n lim : Nat) (ks : List Int) (ss : List ByteArray) (J i : Nat) : Prop :=
  St N w0 w kv vv (dF N) (yF N) t n i lim (ks.take (min i (J + 1))) (ss.take (min i (J + 1))) ((ks.take i).drop J) ((ss.take i).drop J) (decide (i ≤ J))

/-- One pair handed to SkipWhile2's inner function. -/
theorem pair24 (N : Nat) (w0 w : World) (kv vv : Value) (t : Int) (n lim : Nat) (ks : List Int) (ss : List ByteArray) (J i : Nat) (b : Bool) (hn : n ≤ 1024) (hk : n ≤ ks.length) (hs : n ≤ ss.length) (hin : i < n) (hlim : 1 ≤ lim)
    (hJ2 : ∀ j, j < J → ks[j]?.getD 0 < t) (hJ3 : J < n → ¬ ks[J]?.getD 0 < t) (hb : decide (i + 1 < J + lim) = b)
    (h : St N w0 w kv vv (dF N) (yF N) t n ((i : Int) + 1) lim (ks.take (min i (J + 1))) (ss.take (min i (J + 1))) ((ks.take i).drop J) ((ss.take i).drop J) (decide (i ≤ J))) :
    Calls Yba.prog 24 #[.int .i64 (ks[i]?.getD 0), .string (ss[i]?.getD ⟨#[]⟩), .pointer (some ⟨N + 13, 0, none⟩), .pointer (some ⟨N + 11, 0, none⟩), .pointer (some ⟨N + 12, 0, none⟩)] w fun e w' => e = .returned (.bool b) ∧ At N w0 w' kv vv t n lim ks ss J (i + 1) := by
  have lk : ∀ m, (ks.take m).length ≤ m := fun m => by rw [List.length_take]; omega
  have ls : ∀ m, (ss.take m).length ≤ m := fun m => by rw [List.length_take]; omega
  have stepk := takeK_step ks i (by omega)
  have steps := takeS_step ss i (by omega)
  have okl := drop_len ks i J (by omega)
  have ovl := drop_len ss i J (by omega)
  rcases Nat.lt_trichotomy i J with hij | hij | hij
  · have e1 : min i (J + 1) = i := by omega
    have e2 : min (i + 1) (J + 1) = i + 1 := by omega
    have e3 : decide (i ≤ J) = true := by simp; omega
    have e4 : decide (i + 1 ≤ J) = true := by simp; omega
    rw [e1, e3, drop_short ks i J (by omega), drop_short ss i J (by omega)] at h
    have hbt : b = true := by rw [← hb]; simp; omega
    rw [hbt]
    refine (skipA N w0 w kv vv t n _ lim _ _ _ _ _ _ h (by have := lk i; omega) (by have := ls i; omega) (hJ2 i hij)).mono ?_
    rintro e w' ⟨rfl, h'⟩
    rw [stepk, steps] at h'
    refine ⟨rfl, ?_⟩
    rw [At, e2, e4, drop_short ks (i + 1) J (by omega), drop_short ss (i + 1) J (by omega)]
    exact h'
  · subst hij
    have e1 : min i (i + 1) = i := by omega
    have e2 : min (i + 1) (i + 1) = i + 1 := by omega
    have e3 : decide (i ≤ i) = true := by simp
    have e4 : decide (i + 1 ≤ i) = false := by simp
    have d1 := drop_step ks i i _ (by omega) stepk (Nat.le_refl _)
    have d2 := drop_step ss i i _ (by omega) steps (Nat.le_refl _)
    rw [e1, e3] at h
    refine (skipB N w0 w kv vv t n _ lim _ _ _ _ _ _ b h (by have := lk i; omega) (by have := ls i; omega) (by omega) (by omega) (hJ3 hin) ?_).mono ?_
    · rw [okl, ← hb]
      congr 1
      simp
      omega
    · rintro e w' ⟨rfl, h'⟩
      rw [stepk, steps, d1, d2] at h'
      refine ⟨rfl, ?_⟩
      rw [At, e2, e4]
      exact h'
  · have e1 : min i (J + 1) = J + 1 := by omega
    have e2 : min (i + 1) (J + 1) = J + 1 := by omega
    have e3 : decide (i ≤ J) = false := by simp; omega
    have e4 : decide (i + 1 ≤ J) = false := by simp; omega
    have d1 := drop_step ks i J _ (by omega) stepk (by omega)
    have d2 := drop_step ss i J _ (by omega) steps (by omega)
    rw [e1, e3] at h
    refine (skipC N w0 w kv vv t n _ lim _ _ _ _ _ _ b h (by omega) (by omega) ?_).mono ?_
    · rw [okl, ← hb]
      congr 1
      simp
      omega
    · rintro e w' ⟨rfl, h'⟩
      rw [d1, d2] at h'
      refine ⟨rfl, ?_⟩
      rw [At, e2, e4]
      exact h'

set_option maxRecDepth 100000 in
set_option maxHeartbeats 2000000 in
theorem seq12 (N : Nat) (w0 w : World) (ka va : Option Addr) (klen kcap vlen vcap : Nat) (t : Int) (n lim : Nat) (ks : List Int) (ss : List ByteArray) (J F : Nat) (hK : Src N w0 ka klen ks) (hV : SrcS N w0 va vlen ss) (hn : n ≤ 1024) (hkl : n ≤ klen) (hvl : n ≤ vlen) (hlim : 1 ≤ lim) (hJ : J ≤ n)
    (hJ2 : ∀ j, j < J → ks[j]?.getD 0 < t) (hJ3 : J < n → ¬ ks[J]?.getD 0 < t) (hF : F = if J + lim < n then J + lim else n)
    (h : At N w0 w (.slice ka klen kcap) (.slice va vlen vcap) t n lim ks ss J 0) :
    Calls Yba.prog 12 #[y24 N, .pointer (some ⟨N + 3, 0, none⟩), .pointer (some ⟨N + 4, 0, none⟩), .pointer (some ⟨N, 0, none⟩), .pointer (some ⟨N + 1, 0, none⟩)] w fun e w' => e = .returned (.tuple #[]) ∧ At N w0 w' (.slice ka klen kcap) (.slice va vlen vcap) t n lim ks ss J F := by
  have H : Hid (At N w0 w (.slice ka klen kcap) (.slice va vlen vcap) t n lim ks ss J 0) := h
  have HK : Hid (Src N w0 ka klen ks) := hK
  have HV : Hid (SrcS N w0 va vlen ss) := hV
  have HAr : Hid (n ≤ 1024 ∧ n ≤ klen ∧ n ≤ vlen ∧ 1 ≤ lim ∧ J ≤ n) := ⟨hn, hkl, hvl, hlim, hJ⟩
  have HJ2 : Hid (∀ j, j < J → ks[j]?.getD 0 < t) := hJ2
  have HJ3 : Hid (J < n → ¬ ks[J]?.getD 0 < t) := hJ3
  have HF : Hid (F = if J + lim < n then J + lim else n) := hF
  clear h hK hV hn hkl hvl hlim hJ hJ2 hJ3 hF
  go_enter Yba.func12, Yba.ntmps12
  go_wp2_with fail
  go_loopw [6] (fun u wr => ∃ j : Nat, u = .int .i64 j ∧ j ≤ n ∧ j < J + lim ∧ At N w0 wr (.slice ka klen kcap) (.slice va vlen vcap) t n lim ks ss J j) (fun u _ => n - (intOf u).toNat)
  case atStart => exact ⟨0, rfl, Nat.zero_le _, by have := HAr.out; omega, H.out⟩
  case round =>
    obtain ⟨j, rfl, hj, hjl, hA⟩ := hrel
    have HA : Hid (At N w0 wr (.slice ka klen kcap) (.slice va vlen vcap) t n lim ks ss J j) := hA
    have k1 := hA.n.cell
    have k2 := hA.p.cell
    have k3 := hA.p.frozen
    have n1 : N + 4 ≠ N + 3 := by omega
    have n2 : N + 4 ≠ N := by omega
    have n3 : N + 4 ≠ N + 1 := by omega
    clear hA
    by_cases hjn : j < n
    · have q1 : decide (j < n) = true := by simpa using hjn
      have hw1 : wrap64 ((j : Int) + 1) = (j : Int) + 1 := wrapk j (by have := HAr.out; omega)
      have HA2 := HA.out.setP ((j : Int) + 1)
      have HA3 : Hid (St N w0 (wr.setCell ⟨N + 4, 0, none⟩ (.int .i64 ((j : Int) + 1))) (.slice ka klen kcap) (.slice va vlen vcap) (dF N) (yF N) t n ((j : Int) + 1) lim (ks.take (min j (J + 1))) (ss.take (min j (J + 1))) ((ks.take j).drop J) ((ss.take j).drop J) (decide (j ≤ J))) := HA2
      clear HA2
      obtain ⟨kz, hk0 | ⟨xk, rfl, hxk⟩⟩ := HK.out
      · have := HAr.out; omega
      · obtain ⟨vz, hv0 | ⟨xv, rfl, hxv⟩⟩ := HV.out
        · have := HAr.out; omega
        · have e1 := hxk _ HA3.out.bel j (by have := HAr.out; omega)
          have e2 := hxv _ HA3.out.bel j (by have := HAr.out; omega)
          rw [List.getD_eq_getElem?_getD] at e1
          have e3 := HA3.out.k.cell
          have e4 := HA3.out.v.cell
          have HX : Hid ((∀ wr, Below N w0 wr → ∀ i, i < klen → wr.cell? (xk.add i) = some (.int .i64 (ks.getD i 0))) ∧ (∀ wr, Below N w0 wr → ∀ i, i < vlen → wr.cell? (xv.add i) = some (.string (ss[i]?.getD ⟨#[]⟩)))) := ⟨hxk, hxv⟩
          have p1 : (j : Int) < (klen : Int) := by have := HAr.out; omega
          have p2 : (j : Int) < (vlen : Int) := by have := HAr.out; omega
          have HJn : Hid (j < n ∧ j < J + lim ∧ n ≤ ks.length ∧ n ≤ ss.length) := ⟨hjn, hjl, by have := HAr.out; omega, by have := HAr.out; omega⟩
          clear hxk hxv hj hjl kz vz hjn
          obtain ⟨b, hb⟩ : ∃ b, decide (j + 1 < J + lim) = b := ⟨_, rfl⟩
          have Hb : Hid (decide (j + 1 < J + lim) = b) := hb
          clear hb
          go_wp2_with fail
          generalize wr.setCell ⟨N + 4, 0, none⟩ (.int .i64 ((j : Int) + 1)) = W2 at HA3 e1 e2 e3 e4 ⊢
          clear k1 k2 k3 HA
          go_region_held3 (fun w' => w'.cell? ⟨N, 0, none⟩ = some (.slice (some xk) klen kcap) ∧ w'.cell? ⟨N + 1, 0, none⟩ = some (.slice (some xv) vlen vcap) ∧ w'.cell? (xk.add j) = some (.int .i64 (ks[j]?.getD 0)) ∧ w'.cell? (xv.add j) = some (.string (ss[j]?.getD ⟨#[]⟩))) ((repeat' apply And.intro) <;> (first | assumption | (simp [go_sem, *]; done)))
            (first | (go_at_call 24; refine (pair24 N w0 _ (.slice (some xk) klen kcap) (.slice (some xv) vlen vcap) t n lim ks ss J j b HAr.out.1 HJn.out.2.2.1 HJn.out.2.2.2 HJn.out.1 HAr.out.2.2.2.1 HJ2.out (fun h => Int.not_lt.2 (HJ3.out h)) Hb.out HA3.out.drew).mono ?_; rintro e w2 ⟨rfl, h2⟩; have f1 := h2.k.cell; have f2 := h2.v.cell; have f3 := HX.out.1 _ h2.bel j (by have := HAr.out; have := HJn.out; omega); have f4 := HX.out.2 _ h2.bel j (by have := HAr.out; have := HJn.out; omega); rw [List.getD_eq_getElem?_getD] at f3; have H2 : Hid (At N w0 w2 (.slice (some xk) klen kcap) (.slice (some xv) vlen vcap) t n lim ks ss J (j + 1)) := h2; clear h2))
          cases b
          · go_wp2_with fail
            have hFj : F = j + 1 := by
              have h1 := HF.out
              have h2 := Hb.out
              have h3 := HJn.out
              simp at h2
              split at h1 <;> omega
            exact bodyPost_ret (results_none rfl _ _ _) rfl ⟨rfl, by rw [hFj]; exact H2.out⟩
          · go_wp2_with fail
            have h2 := Hb.out
            simp at h2
            have h3 := HJn.out
            rw [hw1]
            exact ⟨⟨j + 1, rfl, h3.1, h2, H2.out⟩, meas h3.1⟩
    · have q1 : decide (j < n) = false := by simpa using hjn
      go_wp2_with fail
      go_end0
      have hFj : F = j := by
        have h1 := HF.out
        split at h1 <;> omega
      exact ⟨rfl, by rw [hFj]; exact HA.out⟩

abbrev s12 (N : Nat) : Value := .func (.func 12) #[] #[.pointer (some ⟨N + 3, 0, none⟩), .pointer (some ⟨N + 4, 0, none⟩), .pointer (some ⟨N, 0, none⟩), .pointer (some ⟨N + 1, 0, none⟩)]

set_option maxRecDepth 100000 in
set_option maxHeartbeats 1000000 in
theorem skip23 (N : Nat) (w0 w : World) (ka va : Option Addr) (klen kcap vlen vcap : Nat) (t : Int) (n lim : Nat) (ks : List Int) (ss : List ByteArray) (J F : Nat) (hK : Src N w0 ka klen ks) (hV : SrcS N w0 va vlen ss) (hn : n ≤ 1024) (hkl : n ≤ klen) (hvl : n ≤ vlen) (hlim : 1 ≤ lim) (hJ : J ≤ n)
    (hJ2 : ∀ j, j < J → ks[j]?.getD 0 < t) (hJ3 : J < n → ¬ ks[J]?.getD 0 < t) (hF : F = if J + lim < n then J + lim else n) (hsz : w.heap.size = N + 12) (hc : w.cell? ⟨N + 10, 0, none⟩ = some (s12 N))
    (h : At N w0 ((w.alloc (.cells #[yF N] 35)).alloc (.cells #[.bool true] 4)) (.slice ka klen kcap) (.slice va vlen vcap) t n lim ks ss J 0) :
    Calls Yba.prog 23 #[yF N, .pointer (some ⟨N + 10, 0, none⟩), .pointer (some ⟨N + 11, 0, none⟩)] w fun e w' => e = .returned (.tuple #[]) ∧ At N w0 w' (.slice ka klen kcap) (.slice va vlen vcap) t n lim ks ss J F := by
  have l1 : N + 10 < w.heap.size := by omega
  have l2 : N + 10 < w.heap.size + 1 := by omega
  have HAll : Hid (_ ∧ _ ∧ _ ∧ _ ∧ _ ∧ _ ∧ _ ∧ _ ∧ _ ∧ _) := ⟨hK, hV, hn, hkl, hvl, hlim, hJ, hJ2, hJ3, hF⟩
  have H : Hid (At N w0 ((w.alloc (.cells #[yF N] 35)).alloc (.cells #[.bool true] 4)) (.slice ka klen kcap) (.slice va vlen vcap) t n lim ks ss J 0) := h
  have HZ : Hid (w.heap.size = N + 12) := hsz
  clear hK hV hn hkl hvl hlim hJ hJ2 hJ3 hF h hsz
  go_enter Yba.func23, Yba.ntmps23
  go_wp2_with fail
  rw [HZ.out]
  obtain ⟨a1, a2, a3, a4, a5, a6, a7, a8, a9, a10⟩ := HAll.out
  refine (seq12 N w0 _ ka va klen kcap vlen vcap t n lim ks ss J F a1 a2 a3 a4 a5 a6 a7 a8 (fun h => Int.not_lt.2 (a9 h)) a10 H.out).mono ?_
  rintro e w' ⟨rfl, h'⟩
  have H' : Hid (_) := h'
  clear h' a8 a9 a10 a1 a2
  go_wp2_with fail
  go_end0
  exact ⟨rfl, H'.out⟩

set_option maxRecDepth 100000 in
theorem skip14 (f f' : Fn) (cs bs cs' bs' : Array Value) (w : World) :
    Calls Yba.prog 14 #[.func f cs bs, .func f' cs' bs'] w fun e w' => e = .returned (.func (.func 23) #[] #[.pointer (some ⟨w.heap.size, 0, none⟩), .pointer (some ⟨w.heap.size + 1, 0, none⟩)]) ∧ w' = (w.alloc (.cells #[.func f cs bs] 37)).alloc (.cells #[.func f' cs' bs'] 35) := by
  go_enter Yba.func14, Yba.ntmps14
  go_wp2_with fail
  go_ret
  exact ⟨rfl, rfl⟩
end Go.Proofs.Ybulkajuk.B
