import Derived.Test.YbulkajsuGet
import Derived.Laws.CopyOwn
namespace Go.Proofs.Ybulkajsu.C
open Go.RowKit

/-! ### copy at elements of k cells (the kit's own laws are at one cell) -/
theorem run_copy_rowK {P : Program} (w : World) (dT sT ty elem : TypeId) (k g o dLen dCap : Nat) (a : Addr) (sLen sCap : Nat) (cur : Array Value) (t : TypeId) (cs : List Value)
    (hu : P.underlying dT = some (.slice elem)) (hs : (P.info? elem).map (·.size) = some k)
    (hg : w.heap[g]? = some (.cells cur t (0, 0))) (hn : cs.length = Nat.min sLen dLen * k)
    (hsrc : ∀ j v, cs[j]? = some v → w.cell? (a.add j) = some v) (hfit : o + cs.length ≤ cur.size) (h1 : ∀ v ∈ cs, v.oneCell' = true) :
    (Builtin.copy_ #[dT, sT] ty #[.slice (some ⟨g, o, none⟩) dLen dCap, .slice (some a) sLen sCap]).run P w =
      .ok (goInt (Nat.min sLen dLen)) (w.setRow g (cur.toList.take o ++ cs ++ cur.toList.drop (o + cs.length)).toArray) := by
  have hl := run_loadCells_list (P := P) w a cs hsrc
  have hst := run_storeCells_at P g o t cs 0 cur w hg (by simpa using hfit) h1
  cases hq : P.info? elem with
  | none => simp [hq] at hs
  | some i =>
    have hi : i.size = k := by simpa [hq] using hs
    simp [Builtin.copy_, run_underlying hu, Builtin.lenOf, Builtin.firstCells, sizeOf, typeInfo, hq, hi, ← hn, hl, hst]

theorem run_copy_noneK {P : Program} (w : World) (dT sT ty elem : TypeId) (k : Nat) (d a : Option Addr) (dLen dCap sLen sCap : Nat) (hu : P.underlying dT = some (.slice elem)) (hs : (P.info? elem).map (·.size) = some k) (hn : Nat.min sLen dLen = 0) :
    (Builtin.copy_ #[dT, sT] ty #[.slice d dLen dCap, .slice a sLen sCap]).run P w = .ok (goInt 0) w := by
  cases hq : P.info? elem with
  | none => simp [hq] at hs
  | some i =>
    have hl : ∀ (x : Addr), (loadCells x 0).run P w = .ok #[] w := fun x => by simpa using run_loadCells_list (P := P) w x [] (by simp)
    cases d <;> cases a <;> simp [Builtin.copy_, run_underlying hu, Builtin.lenOf, Builtin.firstCells, sizeOf, typeInfo, hq, hn, storeCells, hl]

theorem wpList_copy_spliceK {P : Program} {w : World} {ops : Array Oper} {rest : List Oper} {o : Oper} {a : Act} {Q : Exit → Act → World → Prop} (hgd : o.guard = none) (d s : Operand) (dT sT : TypeId)
    (ho : o.op = .call { callee := .builtin .copy, args := #[d, s], argTypes := #[dT, sT] }) (elem : TypeId) (k : Nat) (hu : P.underlying dT = some (.slice elem)) (hsz : (P.info? elem).map (·.size) = some k)
    (dp sp : Option Addr) (dLen dCap sLen sCap : Nat) (hd : a.eval d = .slice dp dLen dCap) (hs : a.eval s = .slice sp sLen sCap)
    (g off : Nat) (cur : List Value) (t : TypeId) (hg : w.heap[g]? = some (.cells cur.toArray t (0, 0))) (cs : List Value) (hn : cs.length = Nat.min sLen dLen * k)
    (hpos : 0 < Nat.min sLen dLen → dp = some ⟨g, off, none⟩ ∧ ∃ ad, sp = some ad ∧ ∀ j v, cs[j]? = some v → w.cell? (ad.add j) = some v)
    (hfit : off + cs.length ≤ cur.length) (h1 : ∀ v ∈ cs, v.oneCell' = true) (B : Nat) (w0 : World) (hb : Below B w0 w) (hBg : B ≤ g)
    (h : ∀ w', Hid (w'.heap[g]? = some (.cells (splice cur off cs).toArray t (0, 0))) → Below B w0 w' → wpList P ops Q rest (a.put o.dst (goInt (Nat.min sLen dLen))) w') :
    wpList P ops Q (o :: rest) a w := by
  refine wpList_plain hgd fun K hK => ?_
  by_cases h0 : Nat.min sLen dLen = 0
  · obtain rfl : cs = [] := List.eq_nil_of_length_eq_zero (by rw [hn, h0, Nat.zero_mul])
    have hrun := run_copy_noneK (P := P) w dT sT o.type elem k dp sp dLen dCap sLen sCap hu hsz h0
    have h' := h w (show _ = _ by simpa [splice] using hg) hb
    rw [h0] at h'
    unfold Oper.wp
    simp [execOp, ho, resolve, invoke, builtin, hd, hs, hrun, Result.andThen]
    exact hK _ _ h'
  · obtain ⟨rfl, ad, rfl, hsrc⟩ := hpos (by omega)
    have hrun := run_copy_rowK (P := P) w dT sT o.type elem k g off dLen dCap ad sLen sCap cur.toArray t cs hu hsz hg hn hsrc (by simpa using hfit) h1
    have h' := h _ (show _ = _ by simpa [splice] using setRow_heap w g _ _ t _ hg) (below_setRow hb hBg _)
    unfold Oper.wp
    simp [execOp, ho, resolve, invoke, builtin, hd, hs, hrun, Result.andThen]
    exact hK _ _ h'

theorem step_copy_spliceK {P : Program} {ops : Array Oper} {o : Oper} {a : Act} {w : World} {K : Act → World → Prop} {Q : Exit → Act → World → Prop} {E : Prop} (hgd : o.guard = none) (d s : Operand) (dT sT : TypeId)
    (ho : o.op = .call { callee := .builtin .copy, args := #[d, s], argTypes := #[dT, sT] }) (elem : TypeId) (k : Nat) (hu : P.underlying dT = some (.slice elem)) (hsz : (P.info? elem).map (·.size) = some k)
    (dp sp : Option Addr) (dLen dCap sLen sCap : Nat) (hd : a.eval d = .slice dp dLen dCap) (hs : a.eval s = .slice sp sLen sCap)
    (g off : Nat) (cur : List Value) (t : TypeId) (hg : w.heap[g]? = some (.cells cur.toArray t (0, 0))) (cs : List Value) (hn : cs.length = Nat.min sLen dLen * k)
    (hpos : 0 < Nat.min sLen dLen → dp = some ⟨g, off, none⟩ ∧ ∃ ad, sp = some ad ∧ ∀ j v, cs[j]? = some v → w.cell? (ad.add j) = some v)
    (hfit : off + cs.length ≤ cur.length) (h1 : ∀ v ∈ cs, v.oneCell' = true) (B : Nat) (w0 : World) (hb : Below B w0 w) (hBg : B ≤ g)
    (h : ∀ w', Hid (w'.heap[g]? = some (.cells (splice cur off cs).toArray t (0, 0))) → Below B w0 w' → K (a.put o.dst (goInt (Nat.min sLen dLen))) w') :
    if Region.wanted o (yielded ops a.tmps) = true then Oper.wp P o a w K Q else E := by
  have hw : Region.wanted o (yielded ops a.tmps) = true := by simp [Region.wanted, hgd]
  rw [if_pos hw]
  by_cases h0 : Nat.min sLen dLen = 0
  · obtain rfl : cs = [] := List.eq_nil_of_length_eq_zero (by rw [hn, h0, Nat.zero_mul])
    have hrun := run_copy_noneK (P := P) w dT sT o.type elem k dp sp dLen dCap sLen sCap hu hsz h0
    have h' := h w (show _ = _ by simpa [splice] using hg) hb
    rw [h0] at h'
    unfold Oper.wp
    simp [execOp, ho, resolve, invoke, builtin, hd, hs, hrun, Result.andThen]
    exact h'
  · obtain ⟨rfl, ad, rfl, hsrc⟩ := hpos (by omega)
    have hrun := run_copy_rowK (P := P) w dT sT o.type elem k g off dLen dCap ad sLen sCap cur.toArray t cs hu hsz hg hn hsrc (by simpa using hfit) h1
    have h' := h _ (show _ = _ by simpa [splice] using setRow_heap w g _ _ t _ hg) (below_setRow hb hBg _)
    unfold Oper.wp
    simp [execOp, ho, resolve, invoke, builtin, hd, hs, hrun, Result.andThen]
    exact h'

/-! ### The cells of entries -/
def cellsE (es : Es) : List Value := es.flatMap fun e => [.string (keyB e.1), .int .u64 e.2]
theorem cellsE_len : ∀ es : Es, (cellsE es).length = es.length * 2
  | [] => rfl
  | e :: r => by
    have := cellsE_len r
    simp only [cellsE, List.flatMap_cons, List.length_append, List.length_cons, List.length_nil] at this ⊢
    omega
theorem cellsE_append (a b : Es) : cellsE (a ++ b) = cellsE a ++ cellsE b := by simp [cellsE]
theorem cellsE_one : ∀ es : Es, ∀ v ∈ cellsE es, v.oneCell' = true := by
  intro es v hv
  simp [cellsE] at hv
  obtain ⟨a, b, _, h | h⟩ := hv <;> subst h <;> rfl
theorem cellsE_at : ∀ (es : Es) (j : Nat), j < es.length → (cellsE es)[j * 2]? = some (.string (keyB (es.getD j (0, 0)).1)) ∧ (cellsE es)[j * 2 + 1]? = some (.int .u64 (es.getD j (0, 0)).2)
  | [], j, h => by simp at h
  | e :: r, 0, _ => by simp [cellsE]
  | e :: r, j + 1, h => by
    have := cellsE_at r j (by simpa using h)
    rw [show (j + 1) * 2 = j * 2 + 1 + 1 by omega]
    simpa [cellsE] using this
theorem cellsE_of : ∀ (es : Es) (i : Nat) (v : Value), (cellsE es)[i]? = some v → ∃ j, j < es.length ∧ ((i = j * 2 ∧ v = .string (keyB (es.getD j (0, 0)).1)) ∨ (i = j * 2 + 1 ∧ v = .int .u64 (es.getD j (0, 0)).2)) := by
  intro es i v h
  have hi : i < (cellsE es).length := by
    rcases Nat.lt_or_ge i (cellsE es).length with h' | h'
    · exact h'
    · rw [List.getElem?_eq_none h'] at h; cases h
  rw [cellsE_len] at hi
  refine ⟨i / 2, by omega, ?_⟩
  obtain ⟨a, b⟩ := cellsE_at es (i / 2) (by omega)
  rcases Nat.mod_two_eq_zero_or_one i with h2 | h2
  · left
    have e : i = i / 2 * 2 := by omega
    rw [e, a] at h
    exact ⟨e, by simpa using h.symm⟩
  · right
    have e : i = i / 2 * 2 + 1 := by omega
    rw [e, b] at h
    exact ⟨e, by simpa using h.symm⟩

theorem add_at (c j : Nat) : (⟨c, 0, none⟩ : Addr).add j = ⟨c, j, none⟩ := by
  unfold Addr.add; split <;> simp_all

theorem Ents.cells {w : World} {c : Nat} {es : Es} (h : Ents w c es) : ∀ j v, (cellsE es)[j]? = some v → w.cell? ((⟨c, 0, none⟩ : Addr).add j) = some v := by
  intro i v hi
  obtain ⟨j, hj, ⟨rfl, rfl⟩ | ⟨rfl, rfl⟩⟩ := cellsE_of es i v hi
  · rw [add_at]; exact (h j hj).1
  · rw [add_at]; exact (h j hj).2
theorem Ents.of_block {w : World} {c : Nat} {es : Es} {L : List Value} {t : TypeId} (hg : w.heap[c]? = some (.cells L.toArray t (0, 0))) (hL : L.take (es.length * 2) = cellsE es) : Ents w c es := by
  have key : ∀ i v, (cellsE es)[i]? = some v → w.cell? ⟨c, i, none⟩ = some v := by
    intro i v h
    rw [← hL] at h
    have : L[i]? = some v := by
      rw [List.getElem?_take] at h
      split at h
      · exact h
      · cases h
    simp [World.cell?, hg, this]
  intro j hj
  exact ⟨key _ _ (cellsE_at es j hj).1, key _ _ (cellsE_at es j hj).2⟩

theorem own_row {w : World} {base n : Nat} {e : TypeId} {v : Value} {xs : List Value} (h : w.ownsRow base e 2 v n xs) (hn : 0 < n) :
    ∃ g cap L, v = .slice (some ⟨g, 0, none⟩) n cap ∧ base ≤ g ∧ w.heap[g]? = some (.cells (List.toArray L) e (0, 0)) ∧ L.take (n * 2) = xs ∧ n ≤ cap := by
  rcases h.2 with ⟨_, h0⟩ | ⟨g, cap, cur, hv, hb, hc, hle, _, _, ht⟩
  · omega
  · exact ⟨g, cap, cur.toList, hv, hb, by simpa using hc, ht, hle⟩

theorem own_full {w : World} {base m g : Nat} {e : TypeId} {xs : List Value} (h : w.ownsRow base e 2 (.slice (some ⟨g, 0, none⟩) m m) m xs) :
    ∃ L, w.heap[g]? = some (.cells (List.toArray L) e (0, 0)) ∧ L.length = m * 2 := by
  rcases h.2 with ⟨h0, _⟩ | ⟨g', cap, cur, hv, hb, hc, hle, _, hsz, ht⟩
  · cases h0
  · simp at hv
    obtain ⟨rfl, rfl⟩ := hv
    exact ⟨cur.toList, by simpa using hc, by simpa using hsz⟩

theorem info50 : (Yba.prog.info? 50).map (fun i => (i.zero, i.size, i.bytes)) = some (some (.agg #[.string ⟨#[]⟩, .int .u64 0]), 2, 24) := by kernel_rfl

set_option maxRecDepth 100000 in
set_option maxHeartbeats 1000000 in
theorem clone (c cap n : Nat) (es : Es) (hn : es.length = n) (hpos : 0 < n) (h31 : n ≤ 31) (w : World) (hE : Ents w c es) :
    Calls Yba.prog 39 #[.slice (some ⟨c, 0, none⟩) n cap] w fun e w' =>
      ∃ g cap' L, e = .returned (.slice (some ⟨g, 0, none⟩) n cap') ∧ w.heap.size ≤ g ∧ w'.heap[g]? = some (.cells (List.toArray L) 50 (0, 0)) ∧ L.take (n * 2) = cellsE es ∧ n ≤ cap' ∧ Below w.heap.size w w' := by
  obtain ⟨i0, hi, hz0, hz1, hz2⟩ := info_parts info50
  have hq := fun (w : World) (a : Option Addr) (n c : Nat) => Lib.run_eql_slice_nil (P := Yba.prog) w 75 50 a n c 0 0 Yba.underlying75
  have HE : Hid (Ents w c es) := hE
  have HN : Hid (es.length = n) := hn
  clear hE hn
  go_enter Yba.func39, Yba.ntmps39
  have hown : (w.alloc (.cells #[] 50)).ownsRow w.heap.size 50 2 (.slice (some ⟨w.heap.size, 0, none⟩) 0 0) 0 [] := World.ownsRow_made w #[] 0 (Nat.le_refl _) (by decide) (by simp)
  have Hown : Hid ((w.alloc (.cells #[] 50)).ownsRow w.heap.size 50 2 (.slice (some ⟨w.heap.size, 0, none⟩) 0 0) 0 []) := hown
  have HC : Hid (∀ j v, (cellsE es)[j]? = some v → (w.alloc (.cells #[] 50)).cell? ((⟨c, 0, none⟩ : Addr).add j) = some v) := (HE.out.below ((Below.refl w.heap.size w).alloc (Nat.le_refl _) _)).cells
  have HLn : Hid ((cellsE es).length = n * 2) := by rw [Hid, cellsE_len, HN.out]
  have H1 : Hid (∀ u ∈ cellsE es, u.oneCell' = true) := cellsE_one es
  clear hown
  generalize cellsE es = L0 at *
  go_wp2_with (first | (at_builtin; go_must (refine wpList_append_own _ rfl _ _ 75 rfl w.heap.size 50 i0 _ 2 24 Yba.underlying75 hi hz0 hz1 hz2 rfl (by decide) _ 0 [] rfl Hown.out ⟨c, 0, none⟩ n cap L0 rfl HLn.out HC.out H1.out (by unfold maxLen; omega) (by omega) (by simp) ?_); intro v' w1 hown' hgrow _; obtain ⟨g, cap', L, rfl, hge, hgh, htk, hcp⟩ := own_row hown' (by omega); have HGH : Hid (_) := hgh; have HTK : Hid (_) := htk; clear hown' hgh htk))
  go_ret
  refine ⟨g, cap', L, by simp, hge, HGH.out, by simpa using HTK.out, by omega, ?_⟩
  exact ((Below.refl w.heap.size w).alloc (Nat.le_refl _) _).grown hgrow (by simp) (fun k hk => by cases hk; exact Nat.le_refl _)

end Go.Proofs.Ybulkajsu.C
