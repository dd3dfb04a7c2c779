import Derived.Test.YbulkajsuWalkB
import Derived.Test.YbulkajsuNewTree
import Derived.Deep.DeepCutAuto
namespace Go.Proofs.Ybulkajsu.C
open Go.RowKit

def lenF (ra n : Nat) (r : Option Addr) : Int := if r = some ⟨ra, 0, none⟩ then n else 1
theorem Tree.later {w w' : World} {root : Option Addr} {es : Es} (h : Tree w root es) (hb : Below w.heap.size w w') : Tree w' root es := by
  rcases h with h0 | ⟨hp, g, c, cap, hr, hN⟩
  · exact .inl h0
  · exact .inr ⟨hp, g, c, cap, hr, hN.below hb⟩

theorem len_at (w W : World) (ra rb n r : Nat) (d : Int) (es : Es) (root : Option Addr) (hne : ra ≠ rb) (h1 : Tree w (some ⟨ra, 0, none⟩) es) (h2 : Tree w (some ⟨rb, 0, none⟩) [(r, d)]) (hn : es.length = n) (hB : Below w.heap.size w W) (hr : root = some ⟨ra, 0, none⟩ ∨ root = some ⟨rb, 0, none⟩) :
    Calls Yba.prog 25 #[.agg #[.pointer root]] W fun e w' => e = .returned (.int .i64 (lenF ra n root)) ∧ w' = W.alloc (.cells #[.pointer root] 36) := by
  rcases hr with rfl | rfl
  · have := len_any _ es W (h1.later hB)
    simpa [lenF, hn] using this
  · have := len_any _ [(r, d)] W (h2.later hB)
    have e : rb ≠ ra := fun h => hne h.symm
    simpa [lenF, e] using this

theorem make_row (cap : Nat) (h0 : 2 ≤ cap) (h1 : cap ≤ 5) : ∃ Z : Array Value, Z.size = cap * 2 ∧ ∀ w : World, (Instr.makeSlice 75 (.int .i64 0) (.int .i64 cap)).run Yba.prog w = .ok (.slice (some ⟨w.heap.size, 0, none⟩) 0 cap) (w.alloc (.cells Z 50)) := by
  obtain rfl | rfl | rfl | rfl : cap = 2 ∨ cap = 3 ∨ cap = 4 ∨ cap = 5 := by omega
  · exact ⟨#[.string ⟨#[]⟩, .int .u64 0, .string ⟨#[]⟩, .int .u64 0], rfl, fun _ => by kernel_rfl⟩
  · exact ⟨#[.string ⟨#[]⟩, .int .u64 0, .string ⟨#[]⟩, .int .u64 0, .string ⟨#[]⟩, .int .u64 0], rfl, fun _ => by kernel_rfl⟩
  · exact ⟨#[.string ⟨#[]⟩, .int .u64 0, .string ⟨#[]⟩, .int .u64 0, .string ⟨#[]⟩, .int .u64 0, .string ⟨#[]⟩, .int .u64 0], rfl, fun _ => by kernel_rfl⟩
  · exact ⟨#[.string ⟨#[]⟩, .int .u64 0, .string ⟨#[]⟩, .int .u64 0, .string ⟨#[]⟩, .int .u64 0, .string ⟨#[]⟩, .int .u64 0, .string ⟨#[]⟩, .int .u64 0], rfl, fun _ => by kernel_rfl⟩

theorem heapA (W : World) (o : Obj) (k : Nat) : (W.alloc o).heap[k]? = if k = W.heap.size then some o else W.heap[k]? := by
  show (W.heap.push o)[k]? = _
  rw [Array.getElem?_push]
theorem heapD (W : World) : W.drew.heap = W.heap := rfl

set_option maxRecDepth 100000 in
set_option maxHeartbeats 4000000 in
theorem mergeM (ga gb c cx c2 cy n r : Nat) (d : Int) (es : Es) (w : World) (hA : Node w ga c cx es) (hG : Node w gb c2 cy [(r, d)]) (hne : ga ≠ gb) (ha : Asc es) (hr : r < 4) (hn : es.length = n) (hn4 : n ≤ 4) (hpos : 0 < n)
    (hd : ∀ k, k < n → (es.getD k (0, 0)).1 = r → (es.getD k (0, 0)).2 < d) :
    Calls Yba.prog 41 #[.agg #[.pointer (some ⟨ga, 0, none⟩)], .agg #[.pointer (some ⟨gb, 0, none⟩)], .func (.func 22) #[] #[]] w fun e w' => ∃ bm g, e = .returned (.slice (some ⟨g, 0, none⟩) (ins es r d).length (n + 1)) ∧ Mrg w' bm g (n + 1) (ins es r d) ∧ w.heap.size ≤ g ∧ Below w.heap.size w w' := by
  obtain ⟨Z, hZ, hmk⟩ := make_row (n + 1) (by omega) (by omega)
  rw [Int.natCast_add, Int.natCast_one] at hmk
  have T1 : Hid (Tree w (some ⟨ga, 0, none⟩) es) := .inr ⟨by omega, ga, c, cx, rfl, hA⟩
  have T2 : Hid (Tree w (some ⟨gb, 0, none⟩) [(r, d)]) := .inr ⟨by simp, gb, c2, cy, rfl, hG⟩
  have q1 : lenF ga n (some ⟨ga, 0, none⟩) = n := by simp [lenF]
  have q2 : lenF ga n (some ⟨gb, 0, none⟩) = 1 := by rw [lenF, if_neg (by simp)]
  have hw : IntKind.i64.wrap ((n : Int) + 1) = (n : Int) + 1 := IntWalk.i64_in _ (by omega)
  have HA : Hid (Node w ga c cx es) := hA
  have HG : Hid (Node w gb c2 cy [(r, d)]) := hG
  have HAsc : Hid (Asc es) := ha
  have HN : Hid (es.length = n) := hn
  have HD : Hid (∀ k, k < n → (es.getD k (0, 0)).1 = r → (es.getD k (0, 0)).2 < d) := hd
  have HZ : Hid (Z.size = (n + 1) * 2) := hZ
  clear hA hG ha hn hd hZ
  go_enter Yba.func41, Yba.ntmps41
  go_wp2_with fail
  go_cut [7] (fun s7 wx => ∃ bm g, s7 = .pointer (some ⟨bm, 0, none⟩) ∧ wx.cell? ⟨bm, 0, none⟩ = some (.slice (some ⟨g, 0, none⟩) 0 (n + 1)) ∧ wx.frozen? ⟨bm, 0, none⟩ = false ∧ wx.heap[g]? = some (.cells Z 50 (0, 0)) ∧ bm ≠ g ∧ w.heap.size + 1 + 1 + 1 ≤ bm ∧ w.heap.size + 1 + 1 + 1 ≤ g ∧ Below (w.heap.size + 1 + 1 + 1) (((w.alloc (.cells #[.pointer (some ⟨ga, 0, none⟩)] 36)).alloc (.cells #[.pointer (some ⟨gb, 0, none⟩)] 36)).alloc (.cells #[.func (.func 22) #[] #[]] 63)) wx)
  case first =>
    go_region_with (go_at_call 25; refine (len_at w _ ga gb n r d es _ hne T1.out T2.out HN.out ?_ (by simp)).mono ?_; (focus (repeat (first | exact Below.refl _ _ | refine Below.drew ?_ | refine below_dn ?_ | refine Below.alloc ?_ (by first | omega | (simp; done) | (simp; omega)) _))); rintro e w' ⟨rfl, rfl⟩)
    all_goals (go_wp2_with fail; go_meet)
    all_goals first
      | (refine ⟨_, w.heap.size + 1 + 1 + 1 + 1 + 1 + 1, rfl, ?_, ?_, ?_, ?_, ?_, ?_, ?_⟩
         · simp [go_sem]
         · simp [go_sem]
         · simp only [heapA, heapD]
           simp
         · omega
         · omega
         · omega
         · repeat (first | exact Below.refl _ _ | refine Below.drew ?_ | refine below_dn ?_ | refine Below.alloc ?_ (by first | omega | (simp; done) | (simp; omega)) _))
      | (refine ⟨_, w.heap.size + 1 + 1 + 1 + 1 + 1, rfl, ?_, ?_, ?_, ?_, ?_, ?_, ?_⟩
         · simp [go_sem]
         · simp [go_sem]
         · simp only [heapA, heapD]
           simp
         · omega
         · omega
         · omega
         · repeat (first | exact Below.refl _ _ | refine Below.drew ?_ | refine below_dn ?_ | refine Below.alloc ?_ (by first | omega | (simp; done) | (simp; omega)) _))
  case rest =>
    obtain ⟨bm, g, rfl, k0, k1, k2, k3, k4, k5, k6⟩ := hcut
    have hM : Mrg wc bm g (n + 1) [] := ⟨k0, k1, ⟨rfl, .inr ⟨g, n + 1, Z, rfl, Nat.zero_le _, k2, Nat.zero_le _, by unfold maxLen; omega, HZ.out, rfl⟩⟩, k3⟩
    have HM : Hid (Mrg wc bm g (n + 1) []) := hM
    have x0 : wc.cell? ⟨w.heap.size, 0, none⟩ = some (.pointer (some ⟨ga, 0, none⟩)) := (k6.cell (p := ⟨w.heap.size, 0, none⟩) (by show w.heap.size < w.heap.size + 1 + 1 + 1; omega)).trans (by simp [go_sem])
    have x1 : wc.cell? ⟨w.heap.size + 1, 0, none⟩ = some (.pointer (some ⟨gb, 0, none⟩)) := (k6.cell (p := ⟨w.heap.size + 1, 0, none⟩) (by show w.heap.size + 1 < w.heap.size + 1 + 1 + 1; omega)).trans (by simp [go_sem])
    have x2 : wc.cell? ⟨w.heap.size + 1 + 1, 0, none⟩ = some (.func (.func 22) #[] #[]) := (k6.cell (p := ⟨w.heap.size + 1 + 1, 0, none⟩) (by show w.heap.size + 1 + 1 < w.heap.size + 1 + 1 + 1; omega)).trans (by simp [go_sem])
    have hsz : w.heap.size + 1 + 1 + 1 ≤ wc.heap.size := by have := k6.size; simp at this; omega
    have K6 : Hid (Below w.heap.size w wc) := by
      refine Below.trans ?_ (k6.mono (by omega))
      repeat (first | exact Below.refl _ _ | refine Below.alloc ?_ (by first | omega | (simp; done) | (simp; omega)) _)
    clear k2 k6 hM k0 k1 hmk
    have l0 : w.heap.size < wc.heap.size := by omega
    have l1 : w.heap.size + 1 < wc.heap.size := by omega
    have l2 : w.heap.size + 1 + 1 < wc.heap.size := by omega
    have lm : bm < wc.heap.size := World.block_lt_of_cell? _ _ HM.out.box
    have lg : g < wc.heap.size := HM.out.lt
    go_wp2_with fail
    have hbA : Below w.heap.size w (wc.alloc (.cells #[keepF bm] 60)) := K6.out.alloc (by omega) _
    have e0 : (wc.alloc (.cells #[keepF bm] 60)).cell? ⟨wc.heap.size, 0, none⟩ = some (keepF bm) := by simp [go_sem]
    have e2 : (wc.alloc (.cells #[keepF bm] 60)).cell? ⟨w.heap.size + 1 + 1, 0, none⟩ = some (.func (.func 22) #[] #[]) := cell_later ((Below.refl _ _).alloc (Nat.le_refl _) _) x2
    have a1 : ga < w.heap.size := World.block_lt_of_cell? _ _ HA.out.chunk
    have a2 : gb < w.heap.size := World.block_lt_of_cell? _ _ HG.out.chunk
    have a3 : c < w.heap.size := World.block_lt_of_cell? _ _ (HA.out.ents 0 (by rw [HN.out]; exact hpos)).1
    have a4 : c2 < w.heap.size := World.block_lt_of_cell? _ _ (HG.out.ents 0 (by simp)).1
    refine (walk_any w.heap.size bm g (n + 1) wc.heap.size (w.heap.size + 1 + 1) ga gb c cx c2 cy n r d es _ (HA.out.below hbA) (HG.out.below hbA) HAsc.out hr HN.out (by omega) hpos HD.out (HM.out.turn0 ((Below.refl _ _).alloc (Nat.le_refl _) _)) (Nat.le_refl _) e0 e2 (by omega) (by omega) a1 a2 a3 a4 (by omega) (by omega)).mono ?_
    rintro e w2 ⟨rfl, hM2, hb2⟩
    have y0 := hM2.box
    have HM2 : Hid (Mrg w2 bm g (n + 1) (ins es r d)) := hM2
    have Hb2 : Hid (Below w.heap.size (wc.alloc (.cells #[keepF bm] 60)) w2) := hb2
    have HbA : Hid (Below w.heap.size w (wc.alloc (.cells #[keepF bm] 60))) := hbA
    clear hM2 hb2 hbA e0 e2 x0 x1 x2
    go_wp2_with fail
    go_ret
    exact ⟨bm, g, rfl, HM2.out, by omega, HbA.out.trans Hb2.out⟩
end Go.Proofs.Ybulkajsu.C
