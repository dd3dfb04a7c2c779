import Derived.Test.YbulkajsuSearch
namespace Go.Proofs.Ybulkajsu.C
open Go.RowKit

theorem searchI (nm : String) (hmc : ∀ w : World, (method 238 51 (.agg #[]) nm).run Yba.prog w = .ok (90, .agg #[]) w) (c n cap r i : Nat) (v : Int) (es : Es) (w : World) (hE : Ents w c es) (ha : Asc es) (hr : r < 4) (hn : es.length = n) (hn4 : n ≤ 31) (hi : lo es r = i) :
    Calls Yba.prog 38 #[.slice (some ⟨c, 0, none⟩) n cap, .agg #[.string (keyB r), .int .u64 v], .func (.method nm) #[.iface 51 (.agg #[])] #[]] w fun e w' =>
      e = .returned (.tuple #[.int .i64 i, .bool (has es r)]) ∧ Below w.heap.size w w' := by
  rw [← hi]; exact search nm hmc c n cap r v es w hE ha hr hn hn4

/-- A node at block g, its chunk at block c. -/
structure Node (w : World) (g c cap : Nat) (es : Es) : Prop where
  chunk : w.cell? ⟨g, 0, none⟩ = some (.slice (some ⟨c, 0, none⟩) es.length cap)
  left : w.cell? ⟨g, 1, none⟩ = some (.pointer none)
  right : w.cell? ⟨g, 2, none⟩ = some (.pointer none)
  size : w.cell? ⟨g, 3, none⟩ = some (.int .i64 es.length)
  count : w.cell? ⟨g, 4, none⟩ = some (.int .i64 1)
  ents : Ents w c es
  room : es.length ≤ cap
theorem Node.below {w w' : World} {g c cap : Nat} {es : Es} (h : Node w g c cap es) (hb : Below w.heap.size w w') : Node w' g c cap es :=
  ⟨cell_later hb h.chunk, cell_later hb h.left, cell_later hb h.right, cell_later hb h.size, cell_later hb h.count, h.ents.below hb, h.room⟩

theorem lts {g s : Nat} (h : g < s) : g < s + 1 ∧ g < s + 1 + 1 ∧ g < s + 1 + 1 + 1 ∧ g < s + 1 + 1 + 1 + 1 ∧ g < s + 1 + 1 + 1 + 1 + 1 ∧ g < s + 1 + 1 + 1 + 1 + 1 + 1 ∧ g < s + 1 + 1 + 1 + 1 + 1 + 1 + 1 ∧ g < s + 1 + 1 + 1 + 1 + 1 + 1 + 1 + 1 ∧ g < s + 1 + 1 + 1 + 1 + 1 + 1 + 1 + 1 + 1 ∧ g < s + 1 + 1 + 1 + 1 + 1 + 1 + 1 + 1 + 1 + 1 ∧ g < s + 1 + 1 + 1 + 1 + 1 + 1 + 1 + 1 + 1 + 1 + 1 ∧ g < s + 1 + 1 + 1 + 1 + 1 + 1 + 1 + 1 + 1 + 1 + 1 + 1 ∧ g < s + 1 + 1 + 1 + 1 + 1 + 1 + 1 + 1 + 1 + 1 + 1 + 1 + 1 := by
  refine ⟨?_, ?_, ?_, ?_, ?_, ?_, ?_, ?_, ?_, ?_, ?_, ?_, ?_⟩ <;> omega

def Tree (w : World) (root : Option Addr) (es : Es) : Prop :=
  (es = [] ∧ root = none) ∨ (0 < es.length ∧ ∃ g c cap, root = some ⟨g, 0, none⟩ ∧ Node w g c cap es)
theorem Tree.below {w w' : World} {root : Option Addr} {es : Es} (h : Tree w root es) (hb : Below w.heap.size w w') : Tree w' root es := by
  rcases h with h | ⟨h0, g, c, cap, hr, hn⟩
  · exact .inl h
  · exact .inr ⟨h0, g, c, cap, hr, hn.below hb⟩

theorem wr_len (n : Nat) (h : n ≤ 1000000) : IntKind.i64.wrap (n : Int) = n ∧ IntKind.i64.wrap ((n : Int) + 1 - 1) = n := by
  rw [IntKind.wrap_i64, IntKind.wrap_i64]; omega

set_option maxRecDepth 100000 in
set_option maxHeartbeats 1000000 in
theorem first_nil (r : Nat) (v : Int) (w : World) :
    Calls Yba.prog 34 #[.agg #[.pointer none], .agg #[.string (keyB r), .int .u64 v]] w fun e w' =>
      e = .returned (.tuple #[.agg #[.string (keyB 0), .int .u64 0], .bool false]) ∧ Below w.heap.size w w' := by
  go_enter Yba.func34, Yba.ntmps34
  go_wp2_with fail
  refine wp_loop_rounds 1 ?_
  rw [rounds_succ]
  go_wp2_with fail
  refine bodyPost_ret (v := .tuple #[.agg #[.string (keyB 0), .int .u64 0], .bool false]) (by simp [results, Yba.results34, go_sem, keyB]) rfl ⟨rfl, ?_⟩
  repeat (first | exact Below.refl _ _ | refine Below.drew ?_ | refine Below.alloc ?_ (by first | omega | (simp; done) | (simp; omega)) _)

set_option maxRecDepth 100000 in
set_option maxHeartbeats 1000000 in
theorem first_lt (r g c cap n k : Nat) (v y : Int) (w : World) (h0 : w.cell? ⟨g, 0, none⟩ = some (.slice (some ⟨c, 0, none⟩) n cap)) (h1 : w.cell? ⟨g, 1, none⟩ = some (.pointer none)) (hn : 0 < n)
    (e0 : w.cell? ⟨c, 0, none⟩ = some (.string (keyB k))) (e1 : w.cell? ⟨c, 1, none⟩ = some (.int .u64 y)) (hr : r < 4) (hk : k < 4) (hlt : r < k) :
    Calls Yba.prog 34 #[.agg #[.pointer (some ⟨g, 0, none⟩)], .agg #[.string (keyB r), .int .u64 v]] w fun e w' =>
      e = .returned (.tuple #[.agg #[.string (keyB k), .int .u64 y], .bool true]) ∧ Below w.heap.size w w' := by
  have hmc := method_cmp
  simp only [Yba.t51, List.map, List.headD] at hmc
  have hsg := sgn_lt hlt
  have hnI : (0 : Int) < (n : Int) := by omega
  have hg : g < w.heap.size := World.block_lt_of_cell? _ _ h0
  have hgs := lts hg
  have hc : c < w.heap.size := World.block_lt_of_cell? _ _ e0
  go_enter Yba.func34, Yba.ntmps34
  go_wp2_with fail
  refine wp_loop_rounds 2 ?_
  rw [rounds_succ]
  go_wp2_with fail
  go_region_held3 (fun w' => w'.cell? ⟨g, 0, none⟩ = some (.slice (some ⟨c, 0, none⟩) n cap) ∧ w'.cell? ⟨c, 0, none⟩ = some (.string (keyB k)) ∧ w'.cell? ⟨c, 1, none⟩ = some (.int .u64 y) ∧ w'.cell? ⟨w.heap.size + 1, 0, none⟩ = some (.string (keyB r)) ∧ w'.cell? ⟨w.heap.size + 1, 1, none⟩ = some (.int .u64 v)) ((repeat' apply And.intro) <;> (first | (refine cell_later (w := w) ?_ (by assumption); (repeat (first | exact Below.refl _ _ | refine Below.drew ?_ | refine Below.alloc ?_ (by first | omega | (simp; done) | (simp; omega)) _)); done) | (simp [go_sem]; done)))
    (first | (go_at_call 90; refine (compareK r k hr hk v y _).mono ?_; rintro e w' ⟨rfl, rfl⟩))
  go_wp2_with fail
  rw [rounds_succ]
  go_wp2_with fail
  refine bodyPost_ret (v := .tuple #[.agg #[.string (keyB k), .int .u64 y], .bool true]) (by simp [results, Yba.results34, go_sem]) rfl ⟨rfl, ?_⟩
  repeat (first | exact Below.refl _ _ | refine Below.drew ?_ | refine Below.alloc ?_ (by first | omega | (simp; done) | (simp; omega)) _)

set_option maxRecDepth 100000 in
set_option maxHeartbeats 1000000 in
theorem first_gt (r g c cap n k m : Nat) (v y z : Int) (w : World) (h0 : w.cell? ⟨g, 0, none⟩ = some (.slice (some ⟨c, 0, none⟩) (n + 1) cap)) (h2 : w.cell? ⟨g, 2, none⟩ = some (.pointer none)) (hn : n ≤ 31)
    (e0 : w.cell? ⟨c, 0, none⟩ = some (.string (keyB k))) (e1 : w.cell? ⟨c, 1, none⟩ = some (.int .u64 y)) 
    (l0 : w.cell? ⟨c, n * 2, none⟩ = some (.string (keyB m))) (l1 : w.cell? ⟨c, n * 2 + 1, none⟩ = some (.int .u64 z)) (hr : r < 4) (hk : k < 4) (hm : m < 4) (hlt : k < r) (hgt : m < r) :
    Calls Yba.prog 34 #[.agg #[.pointer (some ⟨g, 0, none⟩)], .agg #[.string (keyB r), .int .u64 v]] w fun e w' =>
      e = .returned (.tuple #[.agg #[.string (keyB 0), .int .u64 0], .bool false]) ∧ Below w.heap.size w w' := by
  have hmc := method_cmp
  simp only [Yba.t51, List.map, List.headD] at hmc
  have hsg := sgn_gt hlt
  have hsg2 := sgn_gt hgt
  have hnI : (0 : Int) < (n : Int) + 1 := by omega
  have hn0 : (0 : Int) ≤ (n : Int) := by omega
  have hn1 : (n : Int) < (n : Int) + 1 := by omega
  have hwr := wr_len n (by omega)
  have hg : g < w.heap.size := World.block_lt_of_cell? _ _ h0
  have hgs := lts hg
  have hc : c < w.heap.size := World.block_lt_of_cell? _ _ e0
  go_enter Yba.func34, Yba.ntmps34
  go_wp2_with fail
  refine wp_loop_rounds 2 ?_
  rw [rounds_succ]
  go_wp2_with fail
  go_region_held3 (fun w' => w'.cell? ⟨g, 0, none⟩ = some (.slice (some ⟨c, 0, none⟩) (n + 1) cap) ∧ w'.cell? ⟨c, 0, none⟩ = some (.string (keyB k)) ∧ w'.cell? ⟨c, 1, none⟩ = some (.int .u64 y) ∧ w'.cell? ⟨w.heap.size + 1, 0, none⟩ = some (.string (keyB r)) ∧ w'.cell? ⟨w.heap.size + 1, 1, none⟩ = some (.int .u64 v)) ((repeat' apply And.intro) <;> (first | (refine cell_later (w := w) ?_ (by assumption); (repeat (first | exact Below.refl _ _ | refine Below.drew ?_ | refine Below.alloc ?_ (by first | omega | (simp; done) | (simp; omega)) _)); done) | (simp [go_sem]; done)))
    (first | (go_at_call 90; refine (compareK r k hr hk v y _).mono ?_; rintro e w' ⟨rfl, rfl⟩))
  go_wp2_with fail
  go_region_held3 (fun w' => w'.cell? ⟨g, 0, none⟩ = some (.slice (some ⟨c, 0, none⟩) (n + 1) cap) ∧ w'.cell? ⟨c, n * 2, none⟩ = some (.string (keyB m)) ∧ w'.cell? ⟨c, n * 2 + 1, none⟩ = some (.int .u64 z) ∧ w'.cell? ⟨w.heap.size + 1, 0, none⟩ = some (.string (keyB r)) ∧ w'.cell? ⟨w.heap.size + 1, 1, none⟩ = some (.int .u64 v)) ((repeat' apply And.intro) <;> (first | (refine cell_later (w := w) ?_ (by assumption); (repeat (first | exact Below.refl _ _ | refine Below.drew ?_ | refine Below.alloc ?_ (by first | omega | (simp; done) | (simp; omega)) _)); done) | (simp [go_sem]; done)))
    (first | (go_at_call 90; refine (compareK r m hr hm v z _).mono ?_; rintro e w' ⟨rfl, rfl⟩))
  go_wp2_with fail
  rw [rounds_succ]
  go_wp2_with fail
  refine bodyPost_ret (v := .tuple #[.agg #[.string (keyB 0), .int .u64 0], .bool false]) (by simp [results, Yba.results34, go_sem, keyB]) rfl ⟨rfl, ?_⟩
  repeat (first | exact Below.refl _ _ | refine Below.drew ?_ | refine Below.alloc ?_ (by first | omega | (simp; done) | (simp; omega)) _)

set_option maxRecDepth 100000 in
set_option maxHeartbeats 2000000 in
theorem first_in (r g c cap n k m i ki : Nat) (v y z yi : Int) (es : Es) (w : World) (h0 : w.cell? ⟨g, 0, none⟩ = some (.slice (some ⟨c, 0, none⟩) (n + 1) cap)) (hn : n ≤ 30) (hE : Ents w c es) (ha : Asc es) (hl : es.length = n + 1)
    (e0 : w.cell? ⟨c, 0, none⟩ = some (.string (keyB k))) (e1 : w.cell? ⟨c, 1, none⟩ = some (.int .u64 y))
    (l0 : w.cell? ⟨c, n * 2, none⟩ = some (.string (keyB m))) (l1 : w.cell? ⟨c, n * 2 + 1, none⟩ = some (.int .u64 z))
    (i0 : w.cell? ⟨c, i * 2, none⟩ = some (.string (keyB ki))) (i1 : w.cell? ⟨c, i * 2 + 1, none⟩ = some (.int .u64 yi)) (hin : i < n + 1) (hlo : lo es r = i)
    (hr : r < 4) (hk : k < 4) (hm : m < 4) (hlt : 0 ≤ sgn r k) (hgt : sgn r m ≤ 0) :
    Calls Yba.prog 34 #[.agg #[.pointer (some ⟨g, 0, none⟩)], .agg #[.string (keyB r), .int .u64 v]] w fun e w' =>
      e = .returned (.tuple #[.agg #[.string (keyB ki), .int .u64 yi], .bool true]) ∧ Below w.heap.size w w' := by
  have hmc := method_cmp
  simp only [Yba.t51, List.map, List.headD] at hmc
  have hnI : (0 : Int) < (n : Int) + 1 := by omega
  have hn0 : (0 : Int) ≤ (n : Int) := by omega
  have hn1 : (n : Int) < (n : Int) + 1 := by omega
  have hwr := wr_len n (by omega)
  have hi0 : (0 : Int) ≤ (i : Int) := by omega
  have hi1 : (i : Int) < (n : Int) + 1 := by omega
  have hg : g < w.heap.size := World.block_lt_of_cell? _ _ h0
  have hgs := lts hg
  have hc : c < w.heap.size := World.block_lt_of_cell? _ _ e0
  have HE : Hid (Ents w c es) := hE
  have HA : Hid (Asc es) := ha
  have HL : Hid (es.length = n + 1) := hl
  have HLo : Hid (lo es r = i) := hlo
  clear hE ha hl hlo
  go_enter Yba.func34, Yba.ntmps34
  go_wp2_with fail
  refine wp_loop_rounds 1 ?_
  rw [rounds_succ]
  go_wp2_with fail
  go_region_held3 (fun w' => w'.cell? ⟨g, 0, none⟩ = some (.slice (some ⟨c, 0, none⟩) (n + 1) cap) ∧ w'.cell? ⟨c, 0, none⟩ = some (.string (keyB k)) ∧ w'.cell? ⟨c, 1, none⟩ = some (.int .u64 y) ∧ w'.cell? ⟨w.heap.size + 1, 0, none⟩ = some (.string (keyB r)) ∧ w'.cell? ⟨w.heap.size + 1, 1, none⟩ = some (.int .u64 v)) ((repeat' apply And.intro) <;> (first | (refine cell_later (w := w) ?_ (by assumption); (repeat (first | exact Below.refl _ _ | refine Below.drew ?_ | refine Below.alloc ?_ (by first | omega | (simp; done) | (simp; omega)) _)); done) | (simp [go_sem]; done)))
    (first | (go_at_call 90; refine (compareK r k hr hk v y _).mono ?_; rintro e w' ⟨rfl, rfl⟩))
  go_wp2_with fail
  go_region_held3 (fun w' => w'.cell? ⟨g, 0, none⟩ = some (.slice (some ⟨c, 0, none⟩) (n + 1) cap) ∧ w'.cell? ⟨c, n * 2, none⟩ = some (.string (keyB m)) ∧ w'.cell? ⟨c, n * 2 + 1, none⟩ = some (.int .u64 z) ∧ w'.cell? ⟨w.heap.size + 1, 0, none⟩ = some (.string (keyB r)) ∧ w'.cell? ⟨w.heap.size + 1, 1, none⟩ = some (.int .u64 v)) ((repeat' apply And.intro) <;> (first | (refine cell_later (w := w) ?_ (by assumption); (repeat (first | exact Below.refl _ _ | refine Below.drew ?_ | refine Below.alloc ?_ (by first | omega | (simp; done) | (simp; omega)) _)); done) | (simp [go_sem]; done)))
    (first | (go_at_call 90; refine (compareK r m hr hm v z _).mono ?_; rintro e w' ⟨rfl, rfl⟩))
  go_wp2_with fail
  go_region_held3 (fun w' => w'.cell? ⟨g, 0, none⟩ = some (.slice (some ⟨c, 0, none⟩) (n + 1) cap) ∧ w'.cell? ⟨c, i * 2, none⟩ = some (.string (keyB ki)) ∧ w'.cell? ⟨c, i * 2 + 1, none⟩ = some (.int .u64 yi) ∧ w'.cell? ⟨w.heap.size + 1, 0, none⟩ = some (.string (keyB r)) ∧ w'.cell? ⟨w.heap.size + 1, 1, none⟩ = some (.int .u64 v) ∧
      w'.cell? ⟨w.heap.size + 1 + 1, 0, none⟩ = some (.string ⟨#[]⟩) ∧ w'.cell? ⟨w.heap.size + 1 + 1, 1, none⟩ = some (.int .u64 0) ∧ w'.frozen? ⟨w.heap.size + 1 + 1, 0, none⟩ = false ∧ w'.frozen? ⟨w.heap.size + 1 + 1, 1, none⟩ = false) ((repeat' apply And.intro) <;> (first | (refine cell_later (w := w) ?_ (by assumption); (repeat (first | exact Below.refl _ _ | refine Below.drew ?_ | refine Below.alloc ?_ (by first | omega | (simp; done) | (simp; omega)) _ | refine Below.trans ?_ (hb.mono (by first | omega | (simp; done) | (simp; omega))))); done) | (simp [go_sem]; done) | (refine cell_later hb ?_; simp [go_sem]; done) | (refine (hb.frozen ?_).trans ?_ <;> simp [go_sem]; done)))
    (first | (go_at_call 38; refine (searchI _ hmc c (n + 1) cap r i v es _ ?_ HA.out hr HL.out (by omega) HLo.out).mono ?_; (focus (refine HE.out.below ?_; (repeat (first | exact Below.refl _ _ | refine Below.drew ?_ | refine Below.alloc ?_ (by first | omega | (simp; done) | (simp; omega)) _)))); rintro e w' ⟨rfl, hb⟩))
  go_wp2_with fail
  refine bodyPost_ret (v := .tuple #[.agg #[.string (keyB ki), .int .u64 yi], .bool true]) (by simp [results, Yba.results34, go_sem, *]) rfl ⟨rfl, ?_⟩
  repeat (first | exact Below.refl _ _ | refine Below.drew ?_ | refine Below.alloc ?_ (by first | omega | (simp; done) | (simp; omega)) _ | refine Below.setCell ?_ (by first | omega | (simp; done) | (simp; omega)) _ | refine Below.trans ?_ (hb.mono (by first | omega | (simp; done) | (simp; omega))))

end Go.Proofs.Ybulkajsu.C
