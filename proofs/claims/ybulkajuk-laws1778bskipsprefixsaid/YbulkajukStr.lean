import Derived.Test.YbulkajukSeqInt
import Derived.Laws.Cover1
import Derived.Deep.QuietTactic
import Derived.BigQuiet
namespace Go.Proofs.Ybulkajuk.S
open Go.RowKit Go.Shelf C A
attribute [local go_sem] Oper.semAt_some

/-! The order of byte strings. -/
theorem bl_tri : ∀ x y : List UInt8, Op.bytesLess x y = true ∨ Op.bytesLess y x = true ∨ x = y
  | [], [] => .inr (.inr rfl)
  | [], _ :: _ => .inl rfl
  | _ :: _, [] => .inr (.inl rfl)
  | a :: x, b :: y => by
    unfold Op.bytesLess
    rcases Nat.lt_trichotomy a.toNat b.toNat with h | h | h
    · left
      have : a < b := UInt8.lt_iff_toNat_lt.2 h
      simp [this]
    · have : a = b := UInt8.toNat_inj.1 h
      subst this
      rcases bl_tri x y with h1 | h1 | h1
      · left; simp [h1]
      · right; left; simp [h1]
      · right; right; rw [h1]
    · right; left
      have : b < a := UInt8.lt_iff_toNat_lt.2 h
      simp [this]
theorem bl_trans : ∀ x y z : List UInt8, Op.bytesLess x y = true → Op.bytesLess y z = true → Op.bytesLess x z = true
  | _, _, [], _, h => by simp [Op.bytesLess] at h
  | [], _, _ :: _, _, _ => rfl
  | a :: x, [], _, h, _ => by simp [Op.bytesLess] at h
  | a :: x, b :: y, c :: z, h1, h2 => by
    unfold Op.bytesLess at h1 h2 ⊢
    simp only [Bool.or_eq_true, Bool.and_eq_true, decide_eq_true_eq, beq_iff_eq] at h1 h2 ⊢
    rcases h1 with h1 | ⟨rfl, h1⟩
    · rcases h2 with h2 | ⟨rfl, h2⟩
      · left; exact UInt8.lt_trans h1 h2
      · left; exact h1
    · rcases h2 with h2 | ⟨rfl, h2⟩
      · left; exact h2
      · right; exact ⟨rfl, bl_trans x y z h1 h2⟩

def pick (a b : ByteArray) : ByteArray := if Op.bytesLess a.toList b.toList = true then b else a
/-- The greatest of a list of strings, as Max reckons it. -/
def mxs : List ByteArray → ByteArray
  | [] => ⟨#[]⟩
  | x :: r => r.foldl pick x
theorem mxs_snoc (y : ByteArray) (r : List ByteArray) (x : ByteArray) : mxs (y :: r ++ [x]) = pick (mxs (y :: r)) x := by
  simp only [mxs, List.cons_append, List.foldl_append, List.foldl_cons, List.foldl_nil]
/-- s is at most t. -/
def Le (s t : ByteArray) : Prop := Op.bytesLess s.toList t.toList = true ∨ s.toList = t.toList
theorem Le.trans {a b c : ByteArray} (h : Le a b) (k : Le b c) : Le a c := by
  rcases h with h | h
  · rcases k with k | k
    · exact .inl (bl_trans _ _ _ h k)
    · left; rw [← k]; exact h
  · rcases k with k | k
    · left; rw [h]; exact k
    · right; rw [h]; exact k
theorem le_pick (a b : ByteArray) : Le a (pick a b) ∧ Le b (pick a b) ∧ (pick a b = a ∨ pick a b = b) := by
  unfold pick
  by_cases h : Op.bytesLess a.toList b.toList = true
  · rw [if_pos h]
    exact ⟨.inl h, .inr rfl, .inr rfl⟩
  · rw [if_neg h]
    refine ⟨.inr rfl, ?_, .inl rfl⟩
    rcases bl_tri a.toList b.toList with h1 | h1 | h1
    · exact absurd h1 h
    · exact .inl h1
    · exact .inr h1.symm
theorem fold_spec : ∀ (r : List ByteArray) (x : ByteArray), (∀ s ∈ x :: r, Le s (r.foldl pick x)) ∧ r.foldl pick x ∈ x :: r
  | [], x => ⟨fun s hs => by simp at hs; rw [hs]; exact .inr rfl, by simp⟩
  | y :: r, x => by
    obtain ⟨h1, h2⟩ := fold_spec r (pick x y)
    obtain ⟨p1, p2, p3⟩ := le_pick x y
    simp only [List.foldl_cons]
    refine ⟨fun s hs => ?_, ?_⟩
    · simp only [List.mem_cons] at hs
      rcases hs with rfl | rfl | hs
      · exact p1.trans (h1 _ (by simp))
      · exact p2.trans (h1 _ (by simp))
      · exact h1 s (by simp [hs])
    · simp only [List.mem_cons] at h2 ⊢
      rcases h2 with h2 | h2
      · rcases p3 with p3 | p3
        · left; rw [h2, p3]
        · right; left; rw [h2, p3]
      · right; right; exact h2
theorem mxs_spec {L : List ByteArray} (h : L ≠ []) : (∀ s ∈ L, Le s (mxs L)) ∧ mxs L ∈ L := by
  cases L with
  | nil => exact absurd rfl h
  | cons x r => exact fold_spec r x

theorem run_max_str (P : Program) (ts : Array TypeId) (t : TypeId) (x y : ByteArray) (w : World) : (Builtin.max_ ts t #[.string x, .string y]).run P w = .ok (.string (pick x y)) w := by
  simp [Builtin.max_, Builtin.max2, Op.stringOp, pick, asBool]
  by_cases h : Op.bytesLess x.toList y.toList = true <;> simp [h]

/-- The slice of strings that came in, in every world that left the elder blocks alone. -/
def SrcS (N : Nat) (w0 : World) (a : Option Addr) (len : Nat) (ss : List ByteArray) : Prop :=
  len ≤ ss.length ∧ ((a = none ∧ len = 0) ∨ ∃ x, a = some x ∧ ∀ wr, Below N w0 wr → ∀ i, i < len → wr.cell? (x.add i) = some (.string (ss[i]?.getD ⟨#[]⟩)))

def Is (N : Nat) (w0 : World) (bs bg bf : Nat) (sv : Value) (pre : List ByteArray) (W : World) : Prop :=
  ((Boxed W bg 9 (.string (mxs pre)) ∧ Boxed W bf 4 (.bool (!pre.isEmpty))) ∧ Boxed W bs 29 sv) ∧ Below N w0 W

theorem Is_own {N : Nat} {w0 : World} {bs bg bf B : Nat} {sv : Value} (h1 : N ≤ B) (h2 : N ≤ w0.heap.size) : OwnFrom B (Is N w0 bs bg bf sv) :=
  OwnFrom.and (OwnFrom.and (OwnFrom.and (Own.from (boxed_own _ _ _) _) (Own.from (boxed_own _ _ _) _)) (Own.from (boxed_own _ _ (fun _ => sv)) _)) (ownFrom_below (by omega) (by omega))

theorem takeS_step (ss : List ByteArray) (i : Nat) (h : i < ss.length) : ss.take i ++ [ss[i]?.getD ⟨#[]⟩] = ss.take (i + 1) := by
  rw [List.take_succ_eq_append_getElem h]
  simp [List.getElem?_eq_getElem h]

set_option maxRecDepth 100000 in
set_option maxHeartbeats 1000000 in
theorem seq22 (n D N : Nat) (w0 : World) (bs bg bf len cap : Nat) (a0 : Option Addr) (ss : List ByteArray) (hS : SrcS N w0 a0 len ss) (hl : len ≤ 1024) (r : Loop) (W : World)
    (hI : Is N w0 bs bg bf (.slice a0 len cap) [] W) (hL : W.heap[D + 1]? = some (.loop r)) (hK : W.heap[D]? = some (.deferred (some [])))
    (hY : ∀ pre x W1, Is N w0 bs bg bf (.slice a0 len cap) pre W1 → W1.heap[D + 1]? = some (.loop r) → W1.heap[D]? = some (.deferred (some [])) →
        YieldAt Fence.wide (n - 1) Yba.prog (D + 1) #[.string x] W1 fun e W' => e = .returned (.bool true) ∧ Is N w0 bs bg bf (.slice a0 len cap) (pre ++ [x]) W' ∧ W'.heap[D + 1]? = some (.loop r) ∧ W'.heap[D]? = some (.deferred (some []))) :
    CallsIn Fence.wide n Yba.prog 22 (#[.func (.yield (D + 1)) #[] #[], .pointer (some ⟨bs, 0, none⟩)]) W fun e W' => (∃ v, e = .returned v) ∧ Is N w0 bs bg bf (.slice a0 len cap) (ss.take len) W' ∧ W'.heap[D + 1]? = some (.loop r) ∧ W'.heap[D]? = some (.deferred (some [])) := by
  have HY : Hid (∀ m pre x W1, Is N w0 bs bg bf (.slice a0 len cap) pre W1 → W1.heap[D + 1]? = some (.loop r) → W1.heap[D]? = some (.deferred (some [])) →
        YieldAt Fence.wide m Yba.prog (D + 1) #[.string x] W1 fun e W' => e = .returned (.bool true) ∧ Is N w0 bs bg bf (.slice a0 len cap) (pre ++ [x]) W' ∧ W'.heap[D + 1]? = some (.loop r) ∧ W'.heap[D]? = some (.deferred (some []))) := fun m pre x W1 h1 h2 h3 => yieldAt_any rfl m (hY pre x W1 h1 h2 h3)
  have HI : Hid (Is N w0 bs bg bf (.slice a0 len cap) [] W ∧ W.heap[D + 1]? = some (.loop r) ∧ W.heap[D]? = some (.deferred (some []))) := ⟨hI, hL, hK⟩
  have HSrc : Hid (SrcS N w0 a0 len ss) := hS
  have HLn : Hid (len ≤ 1024) := hl
  clear hY hI hL hK hS hl
  refine callsIn_of_wp Yba.func22 rfl trivial ?_ rfl
  simp only [Yba.ntmps22, List.size_toArray, List.length_cons, List.length_nil, Nat.reduceAdd, Nat.reduceSub, Array.replicate_succ, Array.replicate_zero, List.push_toArray, List.append_toArray, List.nil_append, List.cons_append]
  gi_wp2
  gi_loopw [3] (fun i wr => ∃ k : Nat, i = .int .i64 k ∧ k ≤ len ∧ Is N w0 bs bg bf (.slice a0 len cap) (ss.take k) wr ∧ wr.heap[D + 1]? = some (.loop r) ∧ wr.heap[D]? = some (.deferred (some []))) (fun i _ => len - (intOf i).toNat)
  case atStart => exact ⟨0, rfl, Nat.zero_le _, HI.out⟩
  case round =>
    obtain ⟨k, rfl, hk, hIk, hLk, hKk⟩ := hrel
    have c4 := hIk.1.2.cell
    have HIk : Hid (Is N w0 bs bg bf (.slice a0 len cap) (ss.take k) wr ∧ wr.heap[D + 1]? = some (.loop r) ∧ wr.heap[D]? = some (.deferred (some []))) := ⟨hIk, hLk, hKk⟩
    clear hIk hLk hKk
    by_cases hkl : k < len
    · obtain ⟨hzl, h0 | ⟨x, rfl, hx⟩⟩ := HSrc.out
      · omega
      · have e0 := hx _ HIk.out.1.2 k hkl
        have hkI : (k : Int) < (len : Int) := Int.ofNat_lt.2 hkl
        have hw1 : wrap64 ((k : Int) + 1) = (k : Int) + 1 := wrapk k (Nat.le_trans hk HLn.out)
        have q1 : decide (k < len) = true := by simpa using hkl
        obtain ⟨fn, tmps, assign, body, hy, hR⟩ := HY.out (n - 1) (ss.take k) (ss[k]?.getD ⟨#[]⟩) _ HIk.out.1 HIk.out.2.1 HIk.out.2.2
        have Hst : Hid (ss.take k ++ [ss[k]?.getD ⟨#[]⟩] = ss.take (k + 1)) := takeS_step ss k (Nat.lt_of_lt_of_le hkl hzl)
        have HR : Hid (RoundIn Fence.wide (n - 1) Yba.prog (D + 1) fn tmps assign body wr _) := hR
        have HAr : Hid (k < len) := hkl
        clear hx hR hk hkl hzl
        gi_wp2_with fail
        refine ⟨fun h => (by cases h), RoundIn.mono HR.out ?_⟩
        rintro e W3 ⟨rfl, hI3, hL3, hK3⟩
        gi_wp2_with fail
        rw [Hst.out] at hI3
        rw [hw1]
        exact ⟨⟨k + 1, rfl, HAr.out, hI3, hL3, hK3⟩, meas HAr.out⟩
    · have q1 : decide (k < len) = false := by simpa using hkl
      have HAr : Hid (k = len) := Nat.le_antisymm hk (Nat.le_of_not_lt hkl)
      clear hk hkl
      gi_wp2_with fail
      go_end0
      have e := HAr.out
      subst e
      exact ⟨⟨_, rfl⟩, HIk.out⟩

set_option maxRecDepth 100000 in
set_option maxHeartbeats 1000000 in
theorem maxStr (N : Nat) (w0 w : World) (bs len cap : Nat) (a0 : Option Addr) (ss : List ByteArray) (hS : SrcS N w0 a0 len ss) (hl : len ≤ 1024) (hN : N ≤ bs) (hN0 : N ≤ w0.heap.size) (d3 : bs < w.heap.size)
    (b4 : Boxed w bs 29 (.slice a0 len cap)) (hB : Below N w0 w) :
    Calls Yba.prog 10 #[.func (.func 22) #[] #[.pointer (some ⟨bs, 0, none⟩)]] w fun e w' => e = .returned (.tuple #[.string (mxs (ss.take len)), .bool (!(ss.take len).isEmpty)]) ∧ Below N w0 w' := by
  have hmx := run_max_str Yba.prog
  refine (callsIn_wide (n := 5)).1 ?_
  refine callsIn_of_wp_marks Yba.func10 rfl trivial ?_ rfl
  simp only [Yba.ntmps10, List.size_toArray, List.length_cons, List.length_nil, Nat.reduceAdd, Nat.reduceSub, Array.replicate_succ, Array.replicate_zero, List.push_toArray, List.append_toArray, List.nil_append, List.cons_append]
  have hI0 : Is N w0 bs w.heap.size (w.heap.size + 1) (.slice a0 len cap) [] ((w.alloc (.cells #[.string ⟨#[]⟩] 9)).alloc (.cells #[.bool false] 4)) := by
    refine ⟨⟨⟨(Boxed.new w 9 _).alloc _, C.Boxed.at' _ 4 _ _ (by simp)⟩, (b4.alloc _).alloc _⟩, (hB.alloc (by omega) _).alloc (by simp; omega) _⟩
  have HI0 : Hid (_) := hI0
  clear hI0 b4 hB
  gi_wp2_with fail
  have hsz : ((w.alloc (.cells #[.string ⟨#[]⟩] 9)).alloc (.cells #[.bool false] 4)).heap.size = w.heap.size + 1 + 1 := by simp
  have HI1 := HI0.out
  clear HI0
  generalize (w.alloc (.cells #[.string ⟨#[]⟩] 9)).alloc (.cells #[.bool false] 4) = w2 at hsz HI1 ⊢
  obtain ⟨bg, hbg⟩ : ∃ bg, bg = w.heap.size := ⟨_, rfl⟩
  rw [← hbg] at hsz HI1 d3 ⊢
  clear hbg
  have hNw : N ≤ w2.heap.size := by omega
  refine rangeFunc_wr (F := Fence.wide) (n := 5) rfl (by omega) (gf := 22) (lb := #[.pointer (some ⟨bs, 0, none⟩)]) rfl trivial (enters_of Yba.func22 (by kernel_rfl) rfl) (encs := fun x : ByteArray => #[.string x]) (fun _ => rfl)
    (Is N w0 bs bg (bg + 1) (.slice a0 len cap)) (Is N w0 bs bg (bg + 1) (.slice a0 len cap)) (Is_own hNw hN0) (Is_own hNw hN0) HI1 (fun x => { tmps := #[.func (.func 22) #[] #[.pointer (some ⟨bs, 0, none⟩)], undef, .string ⟨#[]⟩, .bool false, .pointer (some ⟨bg, 0, none⟩), .pointer (some ⟨bg + 1, 0, none⟩), .string x, .func (.func 22) #[] #[.pointer (some ⟨bs, 0, none⟩)], .string x, undef, undef, undef, undef, undef, undef, undef, undef], defers := [] }) (ss.take len) ?seq ?assign ?body ?done
  case seq =>
    intro r W h1 h2 h3 h4
    exact seq22 (5 - 1) w2.heap.size N w0 bs bg (bg + 1) len cap a0 ss hS hl r W h1 h2 h3 (fun pre x W1 k1 k2 k3 => h4 pre x W1 k1 k2 k3)
  case assign =>
    intro l x W K hK
    gi_wp2_with fail
    exact hK
  case body =>
    intro l pre x W hI
    obtain ⟨⟨⟨b2, b3⟩, b4⟩, hB⟩ := hI
    have m2 : bs ≠ bg := by omega
    have m5 : bs ≠ bg + 1 := by omega
    have m7 : N ≤ bg := by omega
    have m8 : N ≤ bg + 1 := by omega
    have m9 : bg ≠ bg + 1 := by omega
    have m10 : bg + 1 ≠ bg := by omega
    have c2 := b2.cell
    have f2 := b2.frozen
    have c3 := b3.cell
    have f3 := b3.frozen
    have HB : Hid (_) := And.intro b4 (And.intro hB (And.intro b2 b3))
    clear b2 b3 b4 hB HI1 hS hl hN hN0 d3 hsz hNw
    cases pre with
    | nil =>
      simp only [List.isEmpty_nil, Bool.not_true] at c3
      gi_wp2_with fail
      obtain ⟨b4, hB, b2, b3⟩ := HB.out
      refine ⟨((KeepsOthers.setCell _ _ _).trans (KeepsOthers.setCell _ _ _)).from _, ⟨⟨⟨bset (b2.set _) m9, (bset b3 m10).set _⟩, bset (bset b4 m2) m5⟩, (hB.setCell (p := ⟨bg, 0, none⟩) m7 _).setCell (p := ⟨bg + 1, 0, none⟩) m8 _⟩⟩
    | cons y t =>
      have hst := mxs_snoc y t x
      simp only [List.isEmpty_cons, Bool.not_false] at c3
      have Hst : Hid (_) := hst
      clear hst
      generalize hM : mxs (y :: t) = M at c2 Hst
      gi_wp2_with fail
      obtain ⟨b4, hB, b2, b3⟩ := HB.out
      refine ⟨(KeepsOthers.setCell _ _ _).from _, ⟨⟨⟨?_, bset b3 m10⟩, bset b4 m2⟩, hB.setCell (p := ⟨bg, 0, none⟩) m7 _⟩⟩
      have e := Hst.out
      rw [List.cons_append] at e
      rw [e]
      exact b2.set _
  case done =>
    intro D W hD hI hK
    obtain ⟨⟨⟨b2, b3⟩, b4⟩, hB⟩ := hI
    have c2 := b2.cell
    have c3 := b3.cell
    have HB : Hid (_) := And.intro hB (And.intro hK (Nat.le_trans hNw hD))
    clear b2 b3 b4 hB HI1 hS hl hN hN0 d3 hsz hNw
    gi_wp2_with fail
    refine wpIn_wide.2 ?_
    go_quiet (fail)
    gi_wp2_with fail
    obtain ⟨hB, hK', hND⟩ := HB.out
    refine ⟨by simp, .inl ⟨_, _, rfl, run_takeDeferred (w := W.drewN nq) hK', ?_⟩⟩
    refine ⟨_, results_tmp2 rfl _ _ _, rfl, ?_⟩
    exact (below_dn hB).trans ((Below.refl N (W.drewN nq)).grown (grownBy_putObj' (W.drewN nq) D _) (Nat.le_trans hND (Nat.le_of_lt (Array.getElem?_eq_some_iff.1 hK').1)) (fun k e => by cases e; exact hND))
end Go.Proofs.Ybulkajuk.S
