import Derived.Test.YbulkcjmyCPile0
namespace Go.Proofs.Ybulkcjmy
open Go.ChangeShapes Go.WideShapes Go.ChangeAt Go.RowKit

/-- The cells of 'make([]treeNode, 0, 65536)'. -/
def zrow : Array Value := madeCells #[.int .i64 0, .int .i32 0, .int .i32 0, .int .i32 0, .int .i32 0] (65536 * 5)
theorem zrow_size : zrow.size = 65536 * 5 := size_madeCells _ _
theorem make_block (w : World) : (Instr.makeSlice 79 (.int .i64 0) (.int .i64 65536)).run Yba.prog w = .ok (.slice (some ⟨w.heap.size, 0, none⟩) 0 65536) (w.alloc (.cells zrow 68)) := by
  obtain ⟨i, hi, he⟩ := Option.map_eq_some_iff.1 info68
  simp only [Prod.mk.injEq] at he
  obtain ⟨hz, hs, hb⟩ := he
  have h := run_make (P := Yba.prog) w 79 68 i _ Yba.underlying79 hi hz .i64 .i64 0 65536 (by omega) (by omega) (by rw [hb]; omega) (by omega)
  rw [hs] at h
  exact h
theorem zrow_owns (w : World) : (w.alloc (.cells zrow 68)).ownsRow 0 68 5 (.slice (some ⟨w.heap.size, 0, none⟩) 0 65536) 0 [] :=
  World.ownsRow_made w zrow 65536 (Nat.zero_le _) (by unfold maxLen; omega) zrow_size

theorem below3 (w : World) (a b c : Obj) : Below w.heap.size w (((w.alloc a).alloc b).alloc c) :=
  (((Below.refl _ _).alloc (Nat.le_refl _) _).alloc (by rw [World.size_alloc]; omega) _).alloc (by rw [World.size_alloc, World.size_alloc]; omega) _
theorem new3 (w : World) (a b c : Obj) : (((w.alloc a).alloc b).alloc c).heap[w.heap.size + 1 + 1]? = some c := by
  have := heap_alloc_new ((w.alloc a).alloc b) c
  rwa [World.size_alloc, World.size_alloc] at this
theorem far3_heap {w w1 : World} {a b c : Obj} {row : Option Nat} (hg : World.grownBy (((w.alloc a).alloc b).alloc c) w1 row) {k : Nat} (hk : k < w.heap.size) (hr : row ≠ some k) : w1.heap[k]? = w.heap[k]? :=
  (hg.block k (Nat.lt_of_lt_of_le hk (below3 w a b c).size) (Ne.symm hr)).trans ((below3 w a b c).block k hk)
theorem far3_cell {w w1 : World} {a b c : Obj} {row : Option Nat} (hg : World.grownBy (((w.alloc a).alloc b).alloc c) w1 row) {k i : Nat} (hk : k < w.heap.size) (hr : row ≠ some k) : w1.cell? ⟨k, i, none⟩ = w.cell? ⟨k, i, none⟩ :=
  World.cell?_of_block (w := w) (far3_heap hg hk hr)
theorem far3_frozen {w w1 : World} {a b c : Obj} {row : Option Nat} (hg : World.grownBy (((w.alloc a).alloc b).alloc c) w1 row) {k i : Nat} (hk : k < w.heap.size) (hr : row ≠ some k) : w1.frozen? ⟨k, i, none⟩ = w.frozen? ⟨k, i, none⟩ :=
  World.frozen?_of_block (w := w) (far3_heap hg hk hr)

theorem rdy_new {w w1 : World} {F M O ocap n b : Nat} {hs : List Value} {gr : Nat → List Nd} {nd : Nd} {c : Obj} (h : PQ w F M O ocap n hs gr) (hM : M < w.heap.size) (hb : b = hs.length) (hfew : hs.length ≤ 900) (hge : gr b = []) {g' cap' : Nat}
    (hown1 : w1.ownsRow 0 79 1 (.slice (some ⟨g', 0, none⟩) (hs.length + 1) cap') (hs.length + 1) (hs ++ [.slice (some ⟨w.heap.size + 1, 0, none⟩) 0 65536]))
    (hgrow : World.grownBy (((w.alloc (.cells #[.int .i64 nd.v, .int .i32 nd.c, .int .i32 nd.lv, .int .i32 nd.l, .int .i32 nd.r] 68)).alloc (.cells zrow 68)).alloc c) w1 (Value.slice (some ⟨O, 0, none⟩) hs.length ocap).ownBlock)
    (hat : (Value.slice (some ⟨O, 0, none⟩) hs.length ocap).ownBlock = some g' ∨ g' = w.heap.size + 1 + 1 + 1) :
    ∃ O' ocap' hs', hs'.length = hs.length + 1 ∧ Rdy w (w1.setCell ⟨F, 0, none⟩ (.slice (some ⟨g', 0, none⟩) (hs.length + 1) cap')) F M n b (bsOf F M O hs) nd gr O' ocap' hs' := by
  subst hb
  have hO : O < w.heap.size := (h.outer.lt O rfl).2
  have hF : F < w.heap.size := lt_of_heap h.f
  have hz : (((w.alloc (.cells #[.int .i64 nd.v, .int .i32 nd.c, .int .i32 nd.lv, .int .i32 nd.l, .int .i32 nd.r] 68)).alloc (.cells zrow 68)).alloc c).ownsRow 0 68 5 (.slice (some ⟨w.heap.size + 1, 0, none⟩) 0 65536) 0 [] := by
    have := (zrow_owns (w.alloc (.cells #[.int .i64 nd.v, .int .i32 nd.c, .int .i32 nd.lv, .int .i32 nd.l, .int .i32 nd.r] 68))).alloc c
    rwa [World.size_alloc] at this
  have hsz : (((w.alloc (.cells #[.int .i64 nd.v, .int .i32 nd.c, .int .i32 nd.lv, .int .i32 nd.l, .int .i32 nd.r] 68)).alloc (.cells zrow 68)).alloc c).heap.size = w.heap.size + 1 + 1 + 1 := by
    rw [World.size_alloc, World.size_alloc, World.size_alloc]
  obtain ⟨h1, h2, h3⟩ := PQ.more (n := n) (ov := .slice (some ⟨O, 0, none⟩) hs.length ocap) h.f hM h.inner h.nodup (fun k hk => by
      obtain rfl : O = k := by simpa [Value.ownBlock] using hk
      exact hO) (below3 w _ _ _) hge hz (fun k hk => by
      obtain rfl : w.heap.size + 1 = k := by simpa [Value.ownBlock] using hk
      rw [hsz]; omega) hown1 hgrow (by rw [hsz]; exact hat) rfl
  refine ⟨_, _, _, by rw [List.length_append]; rfl, h1, by rw [List.length_append]; simp, by rw [List.length_append]; simp; omega, h2, ?_, h3, Nat.lt_of_lt_of_le hM h2.size⟩
  have hne : w.heap.size ≠ F := by omega
  rw [Below.heap_setCell _ _ _ _ hne]
  refine (hgrow.block w.heap.size (by rw [hsz]; omega) (by simp [Value.ownBlock]; omega)).trans ?_
  rw [Below.heap_alloc _ _ _ (by rw [World.size_alloc, World.size_alloc]; omega), Below.heap_alloc _ _ _ (by rw [World.size_alloc]; omega)]
  exact heap_alloc_new _ _

set_option maxRecDepth 100000 in
set_option maxHeartbeats 4000000 in
theorem add_new (w : World) (F M O ocap n b : Nat) (hs : List Value) (gr : Nat → List Nd) (nd : Nd) (hM : M < w.heap.size) (h : PQ w F M O ocap n hs gr) (hn : n < 1000000) (hb : b = hs.length) (hb0 : 0 < b) (hbn : n / 65536 = b) (hfew : hs.length ≤ 900) (hge : gr b = []) :
    Calls Yba.prog 20 #[.pointer (some ⟨F, 0, none⟩), ndVal nd] w fun e w' => e = .returned (.int .i64 n) ∧ Put w w' F M (n + 1) (bsOf F M O hs) (putG gr b nd) (hs.length + 1) := by
  obtain ⟨i, hi, he⟩ := Option.map_eq_some_iff.1 info68
  simp only [Prod.mk.injEq] at he
  obtain ⟨hz, hs', hby⟩ := he
  have HI := hide hi
  have HZ := hide hz
  have HS := hide hs'
  have HBy := hide hby
  clear hi hz hs' hby
  obtain ⟨j, hi, he⟩ := Option.map_eq_some_iff.1 info79
  simp only [Prod.mk.injEq] at he
  obtain ⟨hz, hs', hby⟩ := he
  have JI := hide hi
  have JZ := hide hz
  have JS := hide hs'
  have JBy := hide hby
  clear hi hz hs' hby
  have hgl : (gr b).length ≤ 65536 := by rw [hge]; simp
  have hbi : ((n : Int) / 65536) = (b : Int) := by omega
  have q1 : (0 : Int) < (b : Int) := by omega
  have q2 : ((b : Int) == (hs.length : Int)) = true := by rw [beq_iff_eq]; omega
  have q3 : (0 : Int) ≤ (b : Int) := by omega
  have c0 : w.cell? ⟨F, 0, none⟩ = some (.slice (some ⟨O, 0, none⟩) hs.length ocap) := cell_of_heap h.f
  have c1 : w.cell? ⟨F, 1, none⟩ = some (.int .i64 n) := cell_of_heap h.f
  have f1 : w.frozen? ⟨F, 1, none⟩ = false := frozen_of_heap h.f
  have f0 : w.frozen? ⟨F, 0, none⟩ = false := frozen_of_heap h.f
  have z0 : F < w.heap.size := lt_of_heap h.f
  have z1 : O < w.heap.size := (h.outer.lt O rfl).2
  have hFO : F ≠ O := by
    have hn := h.nodup
    simp only [List.nodup_cons, List.mem_cons, not_or] at hn
    exact hn.1.2.1
  have HH := hide h
  have Hge := hide hge
  have Hb := hide hb
  have Hbn := hide hbn
  have hmk := make_block
  clear hbn h hge hb
  unfold ndVal
  go_enter Yba.func20, Yba.ntmps20
  go_upto_if 18 with fail
  go_cut [6] (fun u wc => ∃ O' ocap' hs', hs'.length = hs.length + 1 ∧ Rdy w wc F M n b (bsOf F M O hs) nd gr O' ocap' hs')
  case first =>
    go_wp2_with (at_builtin; refine wpList_append_lies _ rfl _ _ _ rfl 0 79 j _ 1 24 Yba.underlying41 (unhide JI) (unhide JZ) (unhide JS) (unhide JBy) rfl (by omega) (.slice (some ⟨O, 0, none⟩) hs.length ocap) hs.length hs rfl (by exact (((unhide HH).outer.alloc _).alloc _).alloc _) ⟨w.heap.size + 1 + 1, 0, none⟩ 1 1 [.slice (some ⟨w.heap.size + 1, 0, none⟩) 0 65536] rfl rfl (by exact World.news_of_block (t := 79) (fr := (0, 0)) (by exact new3 w _ _ _)) (by simp [Value.oneCell']) (by omega) (by unfold maxLen; omega) (by omega) (by omega) (w.heap.size + 1 + 1 + 1) (by simp) ?_; intro g' cap' w1 hown1 hgrow hat hlt1; have e1 : w1.cell? ⟨F, 0, none⟩ = some (.slice (some ⟨O, 0, none⟩) hs.length ocap) := (far3_cell hgrow z0 (by simpa [Value.ownBlock] using Ne.symm hFO)).trans c0; have e2 : w1.frozen? ⟨F, 0, none⟩ = false := (far3_frozen hgrow z0 (by simpa [Value.ownBlock] using Ne.symm hFO)).trans f0)
    go_meet
    exact rdy_new (unhide HH) hM (unhide Hb) hfew (unhide Hge) hown1 hgrow hat
  case rest =>
    obtain ⟨O2, ocap2, hs2, hl2, hr⟩ := hcut
    have hb2 := hr.blt
    obtain ⟨hv, hhv⟩ : ∃ hv, hs2[b]? = some hv := ⟨_, List.getElem?_eq_getElem hb2⟩
    have hin := hr.pq.inner b hv hhv
    obtain ⟨ha, hc, rfl⟩ := header_form hin
    have co : wc.cell? ⟨O2, b, none⟩ = some (.slice ha (gr b).length hc) := by
      have ho := hr.pq.outer.cells (g := O2) rfl b _ hhv
      rwa [add_plain, Nat.zero_add] at ho
    have fo := row_frozen hr.pq.outer b
    have d0 : wc.cell? ⟨F, 0, none⟩ = some (.slice (some ⟨O2, 0, none⟩) hs2.length ocap2) := cell_of_heap hr.pq.f
    have d1 : wc.cell? ⟨F, 1, none⟩ = some (.int .i64 n) := cell_of_heap hr.pq.f
    have g1 : wc.frozen? ⟨F, 1, none⟩ = false := frozen_of_heap hr.pq.f
    have v0 : wc.cell? ⟨w.heap.size, 0, none⟩ = some (.int .i64 nd.v) := cell_of_heap hr.box
    have v1 : wc.cell? ⟨w.heap.size, 1, none⟩ = some (.int .i32 nd.c) := cell_of_heap hr.box
    have v2 : wc.cell? ⟨w.heap.size, 2, none⟩ = some (.int .i32 nd.lv) := cell_of_heap hr.box
    have v3 : wc.cell? ⟨w.heap.size, 3, none⟩ = some (.int .i32 nd.l) := cell_of_heap hr.box
    have v4 : wc.cell? ⟨w.heap.size, 4, none⟩ = some (.int .i32 nd.r) := cell_of_heap hr.box
    have y0 : F < wc.heap.size := lt_of_heap hr.pq.f
    have y1 : O2 < wc.heap.size := World.block_lt_of_cell? wc _ co
    have y2 : w.heap.size < wc.heap.size := lt_of_heap hr.box
    have q5 : (b : Int) < (hs2.length : Int) := by omega
    have hl3 : hs2.length ≤ 1000 := hr.few
    have rO : (Value.slice ha (gr b).length hc).ownBlock ≠ some O2 := fun e => (hr.pq.ne hhv e).2.2 rfl
    have rF : (Value.slice ha (gr b).length hc).ownBlock ≠ some F := fun e => (hr.pq.ne hhv e).1 rfl
    obtain ⟨len, hlen⟩ : ∃ len, (gr b).length = len := ⟨_, rfl⟩
    have HR := hide hr
    have HH := hide hhv
    rw [hlen] at co hin HH rO rF hgl
    have HO := hide hin
    have HL := hide hlen
    have Hl2 := hide hl2
    clear hr hhv hin hlen hl2
    go_upto_region 7 with fail
    go_cut [] (fun wx => Put w wx F M n (bsOf F M O hs) (putG gr b nd) hs2.length)
    case first =>
      go_region_law ((refine step_append_lies _ (by rfl) (.tmp 43) (.tmp 45) 79 (by rfl) 0 68 i _ 5 24 Yba.underlying79 (unhide HI) (unhide HZ) (unhide HS) (unhide HBy) (by rfl) (by omega) (.slice ha len hc) len (flat (gr b)) (by rfl) (by exact (unhide HO).alloc _) ⟨wc.heap.size, 0, none⟩ 1 1 (ndCells nd) (by rfl) (by rfl) (by exact World.news_of_block (t := 68) (fr := (0, 0)) (heap_alloc_new _ _)) (by exact one_ndCells nd) (by omega) (by unfold maxLen; omega) (by omega) (by omega) (wc.heap.size + 1) (by exact size_alloc_drew _ _) ?_; intro g' cap' w1 hown1 hgrow hat hlt1; have e1 : w1.cell? ⟨O2, b, none⟩ = some (.slice ha len hc) := (far1_cell hgrow y1 rO).trans co; have e2 : w1.frozen? ⟨O2, b, none⟩ = false := (far1_frozen hgrow y1 rO).trans fo; have e5 : w1.cell? ⟨F, 0, none⟩ = some (.slice (some ⟨O2, 0, none⟩) hs2.length ocap2) := (far1_cell hgrow y0 rF).trans d0))
      all_goals
        go_wp2
        go_meet
        exact put_rel (unhide HR) (unhide HH) (unhide HL) hown1 hgrow hat
    case rest =>
      have hp := hcut
      obtain ⟨⟨O3, ocap3, hs3, hpq3, _, _, _⟩, _⟩ := hp
      have r1 : wc.cell? ⟨F, 1, none⟩ = some (.int .i64 n) := cell_of_heap hpq3.f
      have r2 : wc.frozen? ⟨F, 1, none⟩ = false := frozen_of_heap hpq3.f
      have HP := hide hcut
      have Hl2' : hs2.length = hs.length + 1 := unhide Hl2
      clear hpq3 hcut HR HH HO HL
      go_wp2
      go_ret
      refine ⟨rfl, ?_⟩
      rw [← Hl2']
      have hq := put_count (unhide HP) (n + 1)
      rw [show ((n + 1 : Nat) : Int) = (n : Int) + 1 by omega] at hq
      exact hq
end Go.Proofs.Ybulkcjmy
