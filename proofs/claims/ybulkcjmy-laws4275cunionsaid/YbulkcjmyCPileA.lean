import Derived.Test.YbulkcjmyCPile0
namespace Go.Proofs.Ybulkcjmy
open Go.ChangeShapes Go.WideShapes Go.ChangeAt Go.RowKit

set_option maxRecDepth 100000 in
set_option maxHeartbeats 4000000 in
theorem add_tail (w : World) (F M O ocap n b : Nat) (hs : List Value) (gr : Nat → List Nd) (nd : Nd) (hM : M < w.heap.size) (h : PQ w F M O ocap n hs gr) (hn : n < 1000000) (hb : b < hs.length) (hbn : n / 65536 = b) (hfew : hs.length ≤ 1000) (hgl : (gr b).length ≤ 65536) :
    Calls Yba.prog 20 #[.pointer (some ⟨F, 0, none⟩), ndVal nd] w fun e w' => e = .returned (.int .i64 n) ∧ Put w w' F M (n + 1) (bsOf F M O hs) (putG gr b nd) hs.length := by
  obtain ⟨i, hi, he⟩ := Option.map_eq_some_iff.1 info68
  simp only [Prod.mk.injEq] at he
  obtain ⟨hz, hs', hby⟩ := he
  have HI := hide hi
  have HZ := hide hz
  have HS := hide hs'
  have HBy := hide hby
  clear hi hz hs' hby
  have hbi : ((n : Int) / 65536) = (b : Int) := by omega
  have q1 : (b : Int) < (hs.length : Int) := by omega
  have q2 : ((b : Int) == (hs.length : Int)) = false := by rw [beq_eq_false_iff_ne]; omega
  have q3 : (0 : Int) ≤ (b : Int) := by omega
  have c0 : w.cell? ⟨F, 0, none⟩ = some (.slice (some ⟨O, 0, none⟩) hs.length ocap) := cell_of_heap h.f
  have c1 : w.cell? ⟨F, 1, none⟩ = some (.int .i64 n) := cell_of_heap h.f
  have f1 : w.frozen? ⟨F, 1, none⟩ = false := frozen_of_heap h.f
  have z0 : F < w.heap.size := lt_of_heap h.f
  clear hbn
  unfold ndVal
  go_enter Yba.func20, Yba.ntmps20
  go_upto_if 18 with fail
  go_cut [6] (fun u wc => ∃ O' ocap' hs', hs'.length = hs.length ∧ Rdy w wc F M n b (bsOf F M O hs) nd gr O' ocap' hs')
  case first =>
    go_wp2
    go_meet
    refine ⟨O, ocap, hs, rfl, h.kept fun k hk => Below.heap_alloc _ _ k (h.lt hM k hk), hb, hfew, Step.alloc _ _ _, heap_alloc_new _ _, Below.heap_alloc _ _ M hM, by rw [World.size_alloc]; omega⟩
  case rest =>
    obtain ⟨O2, ocap2, hs2, hl2, hr⟩ := hcut
    have hb2 := hr.blt
    obtain ⟨hv, hhv⟩ : ∃ hv, hs2[b]? = some hv := ⟨_, List.getElem?_eq_getElem hb2⟩
    have hin := hr.pq.inner b hv hhv
    obtain ⟨ha, hc, rfl⟩ := header_form hin
    have co : wc.cell? ⟨O2, b, none⟩ = some (.slice ha (gr b).length hc) := by
      have ho := hr.pq.outer.cells (g := O2) rfl b _ hhv
      rwa [add_plain, Nat.zero_add] at ho
    have fo := row_frozen hr.pq.outer b
    have d0 : wc.cell? ⟨F, 0, none⟩ = some (.slice (some ⟨O2, 0, none⟩) hs2.length ocap2) := cell_of_heap hr.pq.f
    have d1 : wc.cell? ⟨F, 1, none⟩ = some (.int .i64 n) := cell_of_heap hr.pq.f
    have g1 : wc.frozen? ⟨F, 1, none⟩ = false := frozen_of_heap hr.pq.f
    have v0 : wc.cell? ⟨w.heap.size, 0, none⟩ = some (.int .i64 nd.v) := cell_of_heap hr.box
    have v1 : wc.cell? ⟨w.heap.size, 1, none⟩ = some (.int .i32 nd.c) := cell_of_heap hr.box
    have v2 : wc.cell? ⟨w.heap.size, 2, none⟩ = some (.int .i32 nd.lv) := cell_of_heap hr.box
    have v3 : wc.cell? ⟨w.heap.size, 3, none⟩ = some (.int .i32 nd.l) := cell_of_heap hr.box
    have v4 : wc.cell? ⟨w.heap.size, 4, none⟩ = some (.int .i32 nd.r) := cell_of_heap hr.box
    have y0 : F < wc.heap.size := lt_of_heap hr.pq.f
    have y1 : O2 < wc.heap.size := World.block_lt_of_cell? wc _ co
    have y2 : w.heap.size < wc.heap.size := lt_of_heap hr.box
    have q5 : (b : Int) < (hs2.length : Int) := by omega
    have hl3 : hs2.length ≤ 1000 := hr.few
    have rO : (Value.slice ha (gr b).length hc).ownBlock ≠ some O2 := fun e => (hr.pq.ne hhv e).2.2 rfl
    have rF : (Value.slice ha (gr b).length hc).ownBlock ≠ some F := fun e => (hr.pq.ne hhv e).1 rfl
    obtain ⟨len, hlen⟩ : ∃ len, (gr b).length = len := ⟨_, rfl⟩
    have HR := hide hr
    have HH := hide hhv
    rw [hlen] at co hin HH rO rF hgl
    have HO := hide hin
    have HL := hide hlen
    have Hl2 := hide hl2
    clear hr hhv hin hlen hl2
    go_upto_region 7 with fail
    go_cut [] (fun wx => Put w wx F M n (bsOf F M O hs) (putG gr b nd) hs2.length)
    case first =>
      go_region_law ((refine step_append_lies _ (by rfl) (.tmp 43) (.tmp 45) 79 (by rfl) 0 68 i _ 5 24 Yba.underlying79 (unhide HI) (unhide HZ) (unhide HS) (unhide HBy) (by rfl) (by omega) (.slice ha len hc) len (flat (gr b)) (by rfl) (by exact (unhide HO).alloc _) ⟨wc.heap.size, 0, none⟩ 1 1 (ndCells nd) (by rfl) (by rfl) (by exact World.news_of_block (t := 68) (fr := (0, 0)) (heap_alloc_new _ _)) (by exact one_ndCells nd) (by omega) (by unfold maxLen; omega) (by omega) (by omega) (wc.heap.size + 1) (by exact size_alloc_drew _ _) ?_; intro g' cap' w1 hown1 hgrow hat hlt1; have e1 : w1.cell? ⟨O2, b, none⟩ = some (.slice ha len hc) := (far1_cell hgrow y1 rO).trans co; have e2 : w1.frozen? ⟨O2, b, none⟩ = false := (far1_frozen hgrow y1 rO).trans fo; have e5 : w1.cell? ⟨F, 0, none⟩ = some (.slice (some ⟨O2, 0, none⟩) hs2.length ocap2) := (far1_cell hgrow y0 rF).trans d0))
      all_goals
        go_wp2
        go_meet
        exact put_rel (unhide HR) (unhide HH) (unhide HL) hown1 hgrow hat
    case rest =>
      have hp := hcut
      obtain ⟨⟨O3, ocap3, hs3, hpq3, _, _, _⟩, _⟩ := hp
      have r1 : wc.cell? ⟨F, 1, none⟩ = some (.int .i64 n) := cell_of_heap hpq3.f
      have r2 : wc.frozen? ⟨F, 1, none⟩ = false := frozen_of_heap hpq3.f
      have HP := hide hcut
      have Hl2' : hs2.length = hs.length := unhide Hl2
      clear hpq3 hcut HR HH HO HL
      go_wp2
      go_ret
      refine ⟨rfl, ?_⟩
      rw [← Hl2']
      have hq := put_count (unhide HP) (n + 1)
      rw [show ((n + 1 : Nat) : Int) = (n : Int) + 1 by omega] at hq
      exact hq
end Go.Proofs.Ybulkcjmy
