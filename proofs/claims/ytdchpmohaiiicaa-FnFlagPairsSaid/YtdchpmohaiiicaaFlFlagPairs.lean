/- FnFlagPairs: of two comparisons that are contrary to one another exactly one is told, behind a difference, a sum and a logical operation of int64; no condition. The walk of the law. -/
import Derived.Test.YtdchpmohaiiicaaFlAdd64
import Derived.Test.YtdchpmohaiiicaaFlSub64
import Derived.Deep.MidRow
namespace Go.Proofs.Ytdchpmohaiiicaa.Fl
open Go.RowKit Go.Proofs.YtdchpmohaiiicaaW.PrintWords Go.Proofs.YtdchpmohaiiicaaW.PrintLast Go.Proofs.Ytdchpmohaiiicaa.Kit Go.Proofs.Ytdchpmohaiiicaa.PFnSubFlags32
theorem range_of_row (w : World) (g : Nat) (A : Array Value) (t : TypeId) (o : Nat) (L : List Value) (hg : w.heap[g]? = some (.cells A t (0, 0))) (h : (A.toList.drop o).take L.length = L) : w.rangeAt g o L := by
  intro j v hv
  rw [cell_of_row w g (o + j) A t (0, 0) hg]
  rw [← h, List.getElem?_take] at hv
  split at hv
  · rw [List.getElem?_drop] at hv
    simpa using hv
  · cases hv
set_option maxHeartbeats 8000000 in
set_option maxRecDepth 100000 in
theorem pairs_walk (a b : Int) (f0 f2 f3 f4 f5 f6 f7 f8 f9 f10 f11 f12 f13 f14 f15 f16 f17 g0 g2 g3 g4 g5 g6 g7 g8 g9 g10 g11 g12 g13 g14 g15 g16 g17 h0 h2 h3 h4 h5 h6 h7 h8 h9 h10 h11 h12 h13 h14 h15 h16 h17 : Bool) (W : World)
    (qf0 : (f4 == f5) = false) (qf1 : (f6 == f9) = false) (qf2 : (f8 == f7) = false) (qf3 : (f10 == f13) = false) (qf4 : (f12 == f11) = false)  (qg0 : (g4 == g5) = false) (qg1 : (g6 == g9) = false) (qg2 : (g8 == g7) = false) (qg3 : (g10 == g13) = false) (qg4 : (g12 == g11) = false)  (qh0 : (h4 == h5) = false) (qh1 : (h6 == h9) = false) (qh2 : (h8 == h7) = false) (qh3 : (h10 == h13) = false) (qh4 : (h12 == h11) = false) 
    (H8 : Hid (∀ w, Calls Try.prog 10 #[.int .i64 a, .int .i64 b] w fun e w' => e = .returned (.agg #[.bool f0, .bool f4, .bool f2, .bool f3, .bool f4, .bool f5, .bool f6, .bool f7, .bool f8, .bool f9, .bool f10, .bool f11, .bool f12, .bool f13, .bool f14, .bool f15, .bool f16, .bool f17]) ∧ Below w.heap.size w w'))
    (H10 : Hid (∀ w, Calls Try.prog 8 #[.int .i64 a, .int .i64 b] w fun e w' => e = .returned (.agg #[.bool g0, .bool g4, .bool g2, .bool g3, .bool g4, .bool g5, .bool g6, .bool g7, .bool g8, .bool g9, .bool g10, .bool g11, .bool g12, .bool g13, .bool g14, .bool g15, .bool g16, .bool g17]) ∧ Below w.heap.size w w'))
    (H11 : Hid (∀ w, Calls Try.prog 11 #[.int .i64 a] w fun e w' => e = .returned (.agg #[.bool h0, .bool h4, .bool h2, .bool h3, .bool h4, .bool h5, .bool h6, .bool h7, .bool h8, .bool h9, .bool h10, .bool h11, .bool h12, .bool h13, .bool h14, .bool h15, .bool h16, .bool h17]) ∧ Below w.heap.size w w')) :
    Calls Try.prog 7 #[.int .i64 a, .int .i64 b] W fun e W' => e = .returned (.bool true) ∧ Below W.heap.size W W' := by
  go_enter Try.func7, Try.ntmps7
  go_wp2_with (first
    | (go_at_call 10; refine (H8.out _).mono ?_; rintro e v1 ⟨rfl, hb⟩)
    | (go_at_call 8; refine (H10.out _).mono ?_; rintro e v2 ⟨rfl, hc⟩)
    | (go_at_call 11; refine (H11.out _).mono ?_; rintro e v3 ⟨rfl, hd⟩))
  have hk0 := blk_new v3 (.cells #[.bool f0, .bool f4, .bool f2, .bool f3, .bool f4, .bool f5, .bool f6, .bool f7, .bool f8, .bool f9, .bool f10, .bool f11, .bool f12, .bool f13, .bool f14, .bool f15, .bool f16, .bool f17, .bool g0, .bool g4, .bool g2, .bool g3, .bool g4, .bool g5, .bool g6, .bool g7, .bool g8, .bool g9, .bool g10, .bool g11, .bool g12, .bool g13, .bool g14, .bool g15, .bool g16, .bool g17, .bool h0, .bool h4, .bool h2, .bool h3, .bool h4, .bool h5, .bool h6, .bool h7, .bool h8, .bool h9, .bool h10, .bool h11, .bool h12, .bool h13, .bool h14, .bool h15, .bool h16, .bool h17] 23)
  have hG : W.heap.size ≤ v3.heap.size := by have := hb.size; have := hc.size; have := hd.size; omega
  have hB0 : Below W.heap.size W v3 := (hb.trans (hc.mono hb.size)).trans (hd.mono (by have := hb.size; have := hc.size; omega))
  have hB : Below W.heap.size W (v3.alloc (.cells #[.bool f0, .bool f4, .bool f2, .bool f3, .bool f4, .bool f5, .bool f6, .bool f7, .bool f8, .bool f9, .bool f10, .bool f11, .bool f12, .bool f13, .bool f14, .bool f15, .bool f16, .bool f17, .bool g0, .bool g4, .bool g2, .bool g3, .bool g4, .bool g5, .bool g6, .bool g7, .bool g8, .bool g9, .bool g10, .bool g11, .bool g12, .bool g13, .bool g14, .bool g15, .bool g16, .bool g17, .bool h0, .bool h4, .bool h2, .bool h3, .bool h4, .bool h5, .bool h6, .bool h7, .bool h8, .bool h9, .bool h10, .bool h11, .bool h12, .bool h13, .bool h14, .bool h15, .bool h16, .bool h17] 23)) := hB0.alloc hG _
  clear hB0 hb hc hd
  generalize v3.alloc (.cells #[.bool f0, .bool f4, .bool f2, .bool f3, .bool f4, .bool f5, .bool f6, .bool f7, .bool f8, .bool f9, .bool f10, .bool f11, .bool f12, .bool f13, .bool f14, .bool f15, .bool f16, .bool f17, .bool g0, .bool g4, .bool g2, .bool g3, .bool g4, .bool g5, .bool g6, .bool g7, .bool g8, .bool g9, .bool g10, .bool g11, .bool g12, .bool g13, .bool g14, .bool g15, .bool g16, .bool g17, .bool h0, .bool h4, .bool h2, .bool h3, .bool h4, .bool h5, .bool h6, .bool h7, .bool h8, .bool h9, .bool h10, .bool h11, .bool h12, .bool h13, .bool h14, .bool h15, .bool h16, .bool h17] 23) = v4 at *
  have HG := Lib.hid hG
  clear hG
  go_loopw [17] (fun i wr => ∃ k : Nat, k ≤ 3 ∧ i = .int .i64 k ∧ wr.heap[v3.heap.size]? = some (.cells #[.bool f0, .bool f4, .bool f2, .bool f3, .bool f4, .bool f5, .bool f6, .bool f7, .bool f8, .bool f9, .bool f10, .bool f11, .bool f12, .bool f13, .bool f14, .bool f15, .bool f16, .bool f17, .bool g0, .bool g4, .bool g2, .bool g3, .bool g4, .bool g5, .bool g6, .bool g7, .bool g8, .bool g9, .bool g10, .bool g11, .bool g12, .bool g13, .bool g14, .bool g15, .bool g16, .bool g17, .bool h0, .bool h4, .bool h2, .bool h3, .bool h4, .bool h5, .bool h6, .bool h7, .bool h8, .bool h9, .bool h10, .bool h11, .bool h12, .bool h13, .bool h14, .bool h15, .bool h16, .bool h17] 23 (0, 0)) ∧ Below W.heap.size W wr) (fun i _ => 3 - (intOf i).toNat)
  case atStart => exact ⟨0, by decide, rfl, hk0, hB⟩
  case round =>
    clear hk0 hB
    obtain ⟨k, hk3, rfl, hk, hB⟩ := hrel
    rcases (by omega : k = 0 ∨ k = 1 ∨ k = 2 ∨ k = 3) with rfl | rfl | rfl | rfl
    · have hm := range_of_row wr v3.heap.size _ 23 0 [.bool f0, .bool f4, .bool f2, .bool f3, .bool f4, .bool f5, .bool f6, .bool f7, .bool f8, .bool f9, .bool f10, .bool f11, .bool f12, .bool f13, .bool f14, .bool f15, .bool f16, .bool f17] hk rfl
      have HM := Lib.hid hm
      clear hm
      go_wp2_with (first
        | (refine wpList_load_mid rfl 23 _ rfl v3.heap.size 0 rfl [.bool f0, .bool f4, .bool f2, .bool f3, .bool f4, .bool f5, .bool f6, .bool f7, .bool f8, .bool f9, .bool f10, .bool f11, .bool f12, .bool f13, .bool f14, .bool f15, .bool f16, .bool f17] _ HM.out Try.underlying23 rfl (by kernel_rfl) ?_)
        | ((with_reducible refine gate_dst (N := 6) rfl ?_); refine box_event ?hg (N := 6) ?hd (cs := #[.bool false, .bool false, .bool false, .bool false, .bool false, .bool false, .bool false, .bool false, .bool false, .bool false, .bool false, .bool false, .bool false, .bool false, .bool false, .bool false, .bool false, .bool false]) (t := 23) ?hr ?_; (case hd => rfl); (case hg => rfl); (case hr => first | (go_simp; done) | (go_simp; rfl)); intro n6 e6 w6 hk6 hb6; have hkk := blk_below hk hb6; have hne : v3.heap.size ≠ n6 := (by have := blk_lt hk; omega); have hn6 : W.heap.size ≤ n6 := (by have := HG.out; have := blk_lt hk; omega))
        | (refine wpList_store_row rfl 23 (.tmp 6) _ rfl n6 #[.bool f0, .bool f4, .bool f2, .bool f3, .bool f4, .bool f5, .bool f6, .bool f7, .bool f8, .bool f9, .bool f10, .bool f11, .bool f12, .bool f13, .bool f14, .bool f15, .bool f16, .bool f17] rfl rfl 23 _ hk6 (by kernel_rfl) rfl (by simp [Value.oneCell']) ?_;
           have hr6 := setRow_heap _ n6 _ #[.bool f0, .bool f4, .bool f2, .bool f3, .bool f4, .bool f5, .bool f6, .bool f7, .bool f8, .bool f9, .bool f10, .bool f11, .bool f12, .bool f13, .bool f14, .bool f15, .bool f16, .bool f17] _ _ hk6; have hk7 := (setRow_other w6 n6 v3.heap.size #[.bool f0, .bool f4, .bool f2, .bool f3, .bool f4, .bool f5, .bool f6, .bool f7, .bool f8, .bool f9, .bool f10, .bool f11, .bool f12, .bool f13, .bool f14, .bool f15, .bool f16, .bool f17] hne).trans hkk; have hB7 := below_setRow (hB.trans (hb6.mono hB.size)) hn6 #[.bool f0, .bool f4, .bool f2, .bool f3, .bool f4, .bool f5, .bool f6, .bool f7, .bool f8, .bool f9, .bool f10, .bool f11, .bool f12, .bool f13, .bool f14, .bool f15, .bool f16, .bool f17];
           clear hk6 hkk hb6 e6; generalize w6.setRow n6 #[.bool f0, .bool f4, .bool f2, .bool f3, .bool f4, .bool f5, .bool f6, .bool f7, .bool f8, .bool f9, .bool f10, .bool f11, .bool f12, .bool f13, .bool f14, .bool f15, .bool f16, .bool f17] = w7 at *; have k6_1 : w7.cell? ⟨n6, 1, none⟩ = some (.bool f4) := (blk_cell hr6 1).trans rfl; have k6_4 : w7.cell? ⟨n6, 4, none⟩ = some (.bool f4) := (blk_cell hr6 4).trans rfl; have k6_5 : w7.cell? ⟨n6, 5, none⟩ = some (.bool f5) := (blk_cell hr6 5).trans rfl; have k6_6 : w7.cell? ⟨n6, 6, none⟩ = some (.bool f6) := (blk_cell hr6 6).trans rfl; have k6_7 : w7.cell? ⟨n6, 7, none⟩ = some (.bool f7) := (blk_cell hr6 7).trans rfl; have k6_8 : w7.cell? ⟨n6, 8, none⟩ = some (.bool f8) := (blk_cell hr6 8).trans rfl; have k6_9 : w7.cell? ⟨n6, 9, none⟩ = some (.bool f9) := (blk_cell hr6 9).trans rfl; have k6_10 : w7.cell? ⟨n6, 10, none⟩ = some (.bool f10) := (blk_cell hr6 10).trans rfl; have k6_11 : w7.cell? ⟨n6, 11, none⟩ = some (.bool f11) := (blk_cell hr6 11).trans rfl; have k6_12 : w7.cell? ⟨n6, 12, none⟩ = some (.bool f12) := (blk_cell hr6 12).trans rfl; have k6_13 : w7.cell? ⟨n6, 13, none⟩ = some (.bool f13) := (blk_cell hr6 13).trans rfl))
      go_roundw
      case rel => exact ⟨1, by decide, rfl, hk7, hB7⟩
      case measure => decide
    · have hm := range_of_row wr v3.heap.size _ 23 18 [.bool g0, .bool g4, .bool g2, .bool g3, .bool g4, .bool g5, .bool g6, .bool g7, .bool g8, .bool g9, .bool g10, .bool g11, .bool g12, .bool g13, .bool g14, .bool g15, .bool g16, .bool g17] hk rfl
      have HM := Lib.hid hm
      clear hm
      go_wp2_with (first
        | (refine wpList_load_mid rfl 23 _ rfl v3.heap.size 18 rfl [.bool g0, .bool g4, .bool g2, .bool g3, .bool g4, .bool g5, .bool g6, .bool g7, .bool g8, .bool g9, .bool g10, .bool g11, .bool g12, .bool g13, .bool g14, .bool g15, .bool g16, .bool g17] _ HM.out Try.underlying23 rfl (by kernel_rfl) ?_)
        | ((with_reducible refine gate_dst (N := 6) rfl ?_); refine box_event ?hg (N := 6) ?hd (cs := #[.bool false, .bool false, .bool false, .bool false, .bool false, .bool false, .bool false, .bool false, .bool false, .bool false, .bool false, .bool false, .bool false, .bool false, .bool false, .bool false, .bool false, .bool false]) (t := 23) ?hr ?_; (case hd => rfl); (case hg => rfl); (case hr => first | (go_simp; done) | (go_simp; rfl)); intro n6 e6 w6 hk6 hb6; have hkk := blk_below hk hb6; have hne : v3.heap.size ≠ n6 := (by have := blk_lt hk; omega); have hn6 : W.heap.size ≤ n6 := (by have := HG.out; have := blk_lt hk; omega))
        | (refine wpList_store_row rfl 23 (.tmp 6) _ rfl n6 #[.bool g0, .bool g4, .bool g2, .bool g3, .bool g4, .bool g5, .bool g6, .bool g7, .bool g8, .bool g9, .bool g10, .bool g11, .bool g12, .bool g13, .bool g14, .bool g15, .bool g16, .bool g17] rfl rfl 23 _ hk6 (by kernel_rfl) rfl (by simp [Value.oneCell']) ?_;
           have hr6 := setRow_heap _ n6 _ #[.bool g0, .bool g4, .bool g2, .bool g3, .bool g4, .bool g5, .bool g6, .bool g7, .bool g8, .bool g9, .bool g10, .bool g11, .bool g12, .bool g13, .bool g14, .bool g15, .bool g16, .bool g17] _ _ hk6; have hk7 := (setRow_other w6 n6 v3.heap.size #[.bool g0, .bool g4, .bool g2, .bool g3, .bool g4, .bool g5, .bool g6, .bool g7, .bool g8, .bool g9, .bool g10, .bool g11, .bool g12, .bool g13, .bool g14, .bool g15, .bool g16, .bool g17] hne).trans hkk; have hB7 := below_setRow (hB.trans (hb6.mono hB.size)) hn6 #[.bool g0, .bool g4, .bool g2, .bool g3, .bool g4, .bool g5, .bool g6, .bool g7, .bool g8, .bool g9, .bool g10, .bool g11, .bool g12, .bool g13, .bool g14, .bool g15, .bool g16, .bool g17];
           clear hk6 hkk hb6 e6; generalize w6.setRow n6 #[.bool g0, .bool g4, .bool g2, .bool g3, .bool g4, .bool g5, .bool g6, .bool g7, .bool g8, .bool g9, .bool g10, .bool g11, .bool g12, .bool g13, .bool g14, .bool g15, .bool g16, .bool g17] = w7 at *; have k6_1 : w7.cell? ⟨n6, 1, none⟩ = some (.bool g4) := (blk_cell hr6 1).trans rfl; have k6_4 : w7.cell? ⟨n6, 4, none⟩ = some (.bool g4) := (blk_cell hr6 4).trans rfl; have k6_5 : w7.cell? ⟨n6, 5, none⟩ = some (.bool g5) := (blk_cell hr6 5).trans rfl; have k6_6 : w7.cell? ⟨n6, 6, none⟩ = some (.bool g6) := (blk_cell hr6 6).trans rfl; have k6_7 : w7.cell? ⟨n6, 7, none⟩ = some (.bool g7) := (blk_cell hr6 7).trans rfl; have k6_8 : w7.cell? ⟨n6, 8, none⟩ = some (.bool g8) := (blk_cell hr6 8).trans rfl; have k6_9 : w7.cell? ⟨n6, 9, none⟩ = some (.bool g9) := (blk_cell hr6 9).trans rfl; have k6_10 : w7.cell? ⟨n6, 10, none⟩ = some (.bool g10) := (blk_cell hr6 10).trans rfl; have k6_11 : w7.cell? ⟨n6, 11, none⟩ = some (.bool g11) := (blk_cell hr6 11).trans rfl; have k6_12 : w7.cell? ⟨n6, 12, none⟩ = some (.bool g12) := (blk_cell hr6 12).trans rfl; have k6_13 : w7.cell? ⟨n6, 13, none⟩ = some (.bool g13) := (blk_cell hr6 13).trans rfl))
      go_roundw
      case rel => exact ⟨2, by decide, rfl, hk7, hB7⟩
      case measure => decide
    · have hm := range_of_row wr v3.heap.size _ 23 36 [.bool h0, .bool h4, .bool h2, .bool h3, .bool h4, .bool h5, .bool h6, .bool h7, .bool h8, .bool h9, .bool h10, .bool h11, .bool h12, .bool h13, .bool h14, .bool h15, .bool h16, .bool h17] hk rfl
      have HM := Lib.hid hm
      clear hm
      go_wp2_with (first
        | (refine wpList_load_mid rfl 23 _ rfl v3.heap.size 36 rfl [.bool h0, .bool h4, .bool h2, .bool h3, .bool h4, .bool h5, .bool h6, .bool h7, .bool h8, .bool h9, .bool h10, .bool h11, .bool h12, .bool h13, .bool h14, .bool h15, .bool h16, .bool h17] _ HM.out Try.underlying23 rfl (by kernel_rfl) ?_)
        | ((with_reducible refine gate_dst (N := 6) rfl ?_); refine box_event ?hg (N := 6) ?hd (cs := #[.bool false, .bool false, .bool false, .bool false, .bool false, .bool false, .bool false, .bool false, .bool false, .bool false, .bool false, .bool false, .bool false, .bool false, .bool false, .bool false, .bool false, .bool false]) (t := 23) ?hr ?_; (case hd => rfl); (case hg => rfl); (case hr => first | (go_simp; done) | (go_simp; rfl)); intro n6 e6 w6 hk6 hb6; have hkk := blk_below hk hb6; have hne : v3.heap.size ≠ n6 := (by have := blk_lt hk; omega); have hn6 : W.heap.size ≤ n6 := (by have := HG.out; have := blk_lt hk; omega))
        | (refine wpList_store_row rfl 23 (.tmp 6) _ rfl n6 #[.bool h0, .bool h4, .bool h2, .bool h3, .bool h4, .bool h5, .bool h6, .bool h7, .bool h8, .bool h9, .bool h10, .bool h11, .bool h12, .bool h13, .bool h14, .bool h15, .bool h16, .bool h17] rfl rfl 23 _ hk6 (by kernel_rfl) rfl (by simp [Value.oneCell']) ?_;
           have hr6 := setRow_heap _ n6 _ #[.bool h0, .bool h4, .bool h2, .bool h3, .bool h4, .bool h5, .bool h6, .bool h7, .bool h8, .bool h9, .bool h10, .bool h11, .bool h12, .bool h13, .bool h14, .bool h15, .bool h16, .bool h17] _ _ hk6; have hk7 := (setRow_other w6 n6 v3.heap.size #[.bool h0, .bool h4, .bool h2, .bool h3, .bool h4, .bool h5, .bool h6, .bool h7, .bool h8, .bool h9, .bool h10, .bool h11, .bool h12, .bool h13, .bool h14, .bool h15, .bool h16, .bool h17] hne).trans hkk; have hB7 := below_setRow (hB.trans (hb6.mono hB.size)) hn6 #[.bool h0, .bool h4, .bool h2, .bool h3, .bool h4, .bool h5, .bool h6, .bool h7, .bool h8, .bool h9, .bool h10, .bool h11, .bool h12, .bool h13, .bool h14, .bool h15, .bool h16, .bool h17];
           clear hk6 hkk hb6 e6; generalize w6.setRow n6 #[.bool h0, .bool h4, .bool h2, .bool h3, .bool h4, .bool h5, .bool h6, .bool h7, .bool h8, .bool h9, .bool h10, .bool h11, .bool h12, .bool h13, .bool h14, .bool h15, .bool h16, .bool h17] = w7 at *; have k6_1 : w7.cell? ⟨n6, 1, none⟩ = some (.bool h4) := (blk_cell hr6 1).trans rfl; have k6_4 : w7.cell? ⟨n6, 4, none⟩ = some (.bool h4) := (blk_cell hr6 4).trans rfl; have k6_5 : w7.cell? ⟨n6, 5, none⟩ = some (.bool h5) := (blk_cell hr6 5).trans rfl; have k6_6 : w7.cell? ⟨n6, 6, none⟩ = some (.bool h6) := (blk_cell hr6 6).trans rfl; have k6_7 : w7.cell? ⟨n6, 7, none⟩ = some (.bool h7) := (blk_cell hr6 7).trans rfl; have k6_8 : w7.cell? ⟨n6, 8, none⟩ = some (.bool h8) := (blk_cell hr6 8).trans rfl; have k6_9 : w7.cell? ⟨n6, 9, none⟩ = some (.bool h9) := (blk_cell hr6 9).trans rfl; have k6_10 : w7.cell? ⟨n6, 10, none⟩ = some (.bool h10) := (blk_cell hr6 10).trans rfl; have k6_11 : w7.cell? ⟨n6, 11, none⟩ = some (.bool h11) := (blk_cell hr6 11).trans rfl; have k6_12 : w7.cell? ⟨n6, 12, none⟩ = some (.bool h12) := (blk_cell hr6 12).trans rfl; have k6_13 : w7.cell? ⟨n6, 13, none⟩ = some (.bool h13) := (blk_cell hr6 13).trans rfl))
      go_roundw
      case rel => exact ⟨3, by decide, rfl, hk7, hB7⟩
      case measure => decide
    · go_wp2
      go_ret
      exact ⟨rfl, hB⟩
theorem g1 (z : Bool) : (z == !z) = false := by cases z <;> rfl
theorem g2 (n v : Bool) : ((n != v) == (n == v)) = false := by cases n <;> cases v <;> rfl
theorem g3 (n z v : Bool) : ((!z && (n == v)) == (z || (n != v))) = false := by cases n <;> cases z <;> cases v <;> rfl
theorem g4 (c : Bool) : ((!c) == c) = false := by cases c <;> rfl
theorem g5 (z c : Bool) : ((!z && c) == (z || !c)) = false := by cases z <;> cases c <;> rfl
theorem FnFlagPairs_walk (a b : Int) (W : World) (_ : (Lit.int .i64 a).wf = true) (_ : (Lit.int .i64 b).wf = true) :
    Calls Try.prog 7 #[.int .i64 a, .int .i64 b] W fun e W' => e = .returned (.bool true) ∧ Below W.heap.size W W' :=
  pairs_walk a b _ _ _ _ _ _ _ _ _ _ _ _ _ _ _ _ _ _ _ _ _ _ _ _ _ _ _ _ _ _ _ _ _ _ _ _ _ _ _ _ _ _ _ _ _ _ _ _ _ _ _ W
    (g1 _) (g2 _ _) (g3 _ _ _) (g4 _) (g5 _ _) (g1 _) (g2 _ _) (g3 _ _ _) (g4 _) (g5 _ _) (g1 _) (g2 _ _) (g3 _ _ _) (g4 _) (g5 _ _)
    (Lib.hid (c10 a b)) (Lib.hid (c8 a b)) (Lib.hid (c11 a))
end Go.Proofs.Ytdchpmohaiiicaa.Fl
