import Derived.Test.YbulkcjmyCMap
namespace Go.Proofs.Ybulkcjmy
open Go.ChangeShapes Go.WideShapes Go.ChangeAt Go.RowKit

theorem Added.drew {w w' : World} {F M : Nat} {bs : List Nat} {ns : List Nd} (h : Added w w' F M bs ns) : Added w w'.drew F M bs ns := by
  obtain ⟨⟨O, ocap, hs, h1, h2, h3⟩, h4⟩ := h
  exact ⟨⟨O, ocap, hs, h1.kept fun _ _ => rfl, h2, h3.trans (Step.drew _ _)⟩, h4⟩
theorem added_cells {w w2 : World} {F M V : Nat} {bs : List Nat} {ns : List Nd} {nd : Nd} (h : Added w.drew w2 F M bs ns) (hV : V < w.heap.size) (hn : V ∉ bs) (hv : w.heap[V]? = some (.cells #[.int .i64 nd.v, .int .i32 nd.c, .int .i32 nd.lv, .int .i32 nd.l, .int .i32 nd.r] 68 (0, 0))) :
    w2.cell? ⟨V, 0, none⟩ = some (.int .i64 nd.v) ∧ w2.cell? ⟨V, 1, none⟩ = some (.int .i32 nd.c) ∧ w2.cell? ⟨V, 2, none⟩ = some (.int .i32 nd.lv) ∧ w2.cell? ⟨V, 3, none⟩ = some (.int .i32 nd.l) ∧ w2.cell? ⟨V, 4, none⟩ = some (.int .i32 nd.r) := by
  obtain ⟨⟨O2, ocap2, hs2, _, _, hst⟩, _⟩ := h
  have e := (hst.block V hV hn).trans hv
  exact ⟨cell_of_heap e, cell_of_heap e, cell_of_heap e, cell_of_heap e, cell_of_heap e⟩

set_option maxRecDepth 100000 in
set_option maxHeartbeats 1000000 in
theorem intern_any {w : World} {F M O ocap : Nat} {hs : List Value} {ns : List Nd} (h : For w F M O ocap hs ns) (nd : Nd) (hlt : ns.length < 1000000) :
    Calls Yba.prog 24 #[.pointer (some ⟨F, 0, none⟩), ndVal nd] w fun e w' => ∃ (t : Nat) (ns' : List Nd), e = .returned (.int .i32 t) ∧ Interned w w' F M (bsOf F M O hs) ns ns' nd t := by
  obtain ⟨es, cl, hm, hok⟩ := h.map
  have hM := lt_of_heap hm
  have hF : F < w.heap.size := lt_of_heap h.pq.f
  have c2 : w.cell? ⟨F, 2, none⟩ = some (.map (some M)) := cell_of_heap h.pq.f
  have HH := hide h
  have hil : (ns.length : Int) < 1000000 := by omega
  have hw32 : IntKind.i32.wrap (ns.length : Int) = (ns.length : Int) := by rw [IntKind.wrap_i32]; omega
  rcases look (M := M) (clock := cl) hok nd with ⟨t, ht, hn, hl⟩ | ⟨hl, hu⟩
  · have hl1 := fun k => hl ((w.alloc (.cells #[.int .i64 nd.v, .int .i32 nd.c, .int .i32 nd.lv, .int .i32 nd.l, .int .i32 nd.r] 68)).drewN k) ((Below.heap_alloc w _ M hM).trans hm)
    unfold ndVal at hl1
    have HN := hide hn
    clear hl hm hok h hn
    unfold ndVal
    go_enter Yba.func24, Yba.ntmps24
    go_wp2
    go_quiet (fail)
    go_wp2
    go_ret
    refine ⟨t, ns, rfl, ⟨O, ocap, hs, (unhide HH).below (((Below.refl _ _).alloc (Nat.le_refl _) _).trans ⟨rfl, rfl, rfl, Nat.le_refl _, fun _ _ => rfl⟩), (Step.alloc _ _ _).trans (Step.drewN _ _ _)⟩, .inl rfl, unhide HN, ht⟩
  · have hl1 := fun k => hl ((w.alloc (.cells #[.int .i64 nd.v, .int .i32 nd.c, .int .i32 nd.lv, .int .i32 nd.l, .int .i32 nd.r] 68)).drewN k) ((Below.heap_alloc w _ M hM).trans hm)
    unfold ndVal at hl1
    have HU := hide hu
    have HM := hide hm
    have HO := hide hok
    clear hl hm hok h hu
    unfold ndVal
    go_enter Yba.func24, Yba.ntmps24
    go_wp2
    go_quiet (fail)
    go_wp2
    obtain ⟨w0, hw0⟩ : ∃ w0, w0 = (w.alloc (.cells #[.int .i64 nd.v, .int .i32 nd.c, .int .i32 nd.lv, .int .i32 nd.l, .int .i32 nd.r] 68)).drewN nq := ⟨_, rfl⟩
    rw [← hw0]
    have b0 : Below w.heap.size w w0 := by rw [hw0]; exact ((Below.refl _ _).alloc (Nat.le_refl _) _).trans ⟨rfl, rfl, rfl, Nat.le_refl _, fun _ _ => rfl⟩
    have s0 : Step (bsOf F M O hs) w (bsOf F M O hs) w0 := Step.grow b0
    have F0 : For w0 F M O ocap hs ns := (unhide HH).below b0
    have v : w0.heap[w.heap.size]? = some (.cells #[.int .i64 nd.v, .int .i32 nd.c, .int .i32 nd.lv, .int .i32 nd.l, .int .i32 nd.r] 68 (0, 0)) := by rw [hw0]; exact heap_alloc_new _ _
    have hV : w.heap.size ∉ bsOf F M O hs := fun hm => by have := (unhide HH).lt _ hm; omega
    have m0 : w0.heap[M]? = some (.map es cl) := (b0.block M hM).trans (unhide HM)
    have v0 : w0.cell? ⟨w.heap.size, 0, none⟩ = some (.int .i64 nd.v) := cell_of_heap v
    have v1 : w0.cell? ⟨w.heap.size, 1, none⟩ = some (.int .i32 nd.c) := cell_of_heap v
    have v2 : w0.cell? ⟨w.heap.size, 2, none⟩ = some (.int .i32 nd.lv) := cell_of_heap v
    have v3 : w0.cell? ⟨w.heap.size, 3, none⟩ = some (.int .i32 nd.l) := cell_of_heap v
    have v4 : w0.cell? ⟨w.heap.size, 4, none⟩ = some (.int .i32 nd.r) := cell_of_heap v
    have hVlt : w.heap.size < w0.heap.size := lt_of_heap v
    have H20 := hide (for_pile_add (w := w0.drew) (F0.below ⟨rfl, rfl, rfl, Nat.le_refl _, fun _ _ => rfl⟩) nd hlt)
    have HV := hide v
    have S0 := hide s0
    have M0 := hide m0
    clear hw0 b0 s0 F0 v m0 hl1 c2
    unfold ndVal at H20
    go_region_held3 (fun w' => w'.cell? ⟨w.heap.size, 0, none⟩ = some (.int .i64 nd.v) ∧ w'.cell? ⟨w.heap.size, 1, none⟩ = some (.int .i32 nd.c) ∧ w'.cell? ⟨w.heap.size, 2, none⟩ = some (.int .i32 nd.lv) ∧ w'.cell? ⟨w.heap.size, 3, none⟩ = some (.int .i32 nd.l) ∧ w'.cell? ⟨w.heap.size, 4, none⟩ = some (.int .i32 nd.r)) (first | go_keep | (exact added_cells hadd hVlt hV (unhide HV)))
      ((go_at_call 20; refine (unhide H20).mono ?_; rintro e w2 ⟨rfl, hadd⟩))
    have HA := hide hadd
    have e2 : w2.heap[w.heap.size]? = some (.cells #[.int .i64 nd.v, .int .i32 nd.c, .int .i32 nd.lv, .int .i32 nd.l, .int .i32 nd.r] 68 (0, 0)) := by
      obtain ⟨⟨O2, ocap2, hs2, _, _, hst⟩, _⟩ := hadd
      exact (hst.block w.heap.size hVlt hV).trans (unhide HV)
    have x0 : w2.cell? ⟨w.heap.size, 0, none⟩ = some (.int .i64 nd.v) := cell_of_heap e2
    have x1 : w2.cell? ⟨w.heap.size, 1, none⟩ = some (.int .i32 nd.c) := cell_of_heap e2
    have x2 : w2.cell? ⟨w.heap.size, 2, none⟩ = some (.int .i32 nd.lv) := cell_of_heap e2
    have x3 : w2.cell? ⟨w.heap.size, 3, none⟩ = some (.int .i32 nd.l) := cell_of_heap e2
    have x4 : w2.cell? ⟨w.heap.size, 4, none⟩ = some (.int .i32 nd.r) := cell_of_heap e2
    have y2 : w2.cell? ⟨F, 2, none⟩ = some (.map (some M)) := by
      obtain ⟨⟨O2, ocap2, hs2, hpq, _, _⟩, _⟩ := hadd
      exact cell_of_heap hpq.f
    have hup : (Instr.mapUpdate 44 (.map (some M)) (.agg #[.int .i64 nd.v, .int .i32 nd.c, .int .i32 nd.lv, .int .i32 nd.l, .int .i32 nd.r]) (.int .i32 ns.length)).run Yba.prog w2.drew = .ok () { w2.drew with heap := w2.drew.heap.setIfInBounds M (.map (es.push { key := ndVal nd, val := .int .i32 ns.length, born := cl }) (cl + 1)) } := unhide HU _ w2.drew (hadd.mapM.trans (unhide M0))
    clear e2 hadd v0 v1 v2 v3 v4
    go_wp2
    go_region
    go_wp2
    go_ret
    refine ⟨ns.length, ns ++ [nd], rfl, ?_⟩
    exact (interned_new (w := w0.drew) (w2 := w2.drew) (by simp [bsOf]) (unhide HO) (unhide HH).some1 hlt (unhide HA).drew (unhide M0)).after ((unhide S0).trans (Step.drew _ _))
end Go.Proofs.Ybulkcjmy
