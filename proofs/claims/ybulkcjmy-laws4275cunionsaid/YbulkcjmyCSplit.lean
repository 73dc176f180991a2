import Derived.Test.YbulkcjmyCIntern
namespace Go.Proofs.Ybulkcjmy
open Go.ChangeShapes Go.WideShapes Go.ChangeAt Go.RowKit

/-- The forest, its blocks named by one list. -/
structure Fo (w : World) (F : Nat) (bs : List Nat) (ns : List Nd) : Prop where
  ex : ∃ M O ocap hs, bs = bsOf F M O hs ∧ For w F M O ocap hs ns
  down : Down ns

theorem Fo.lt {w : World} {F : Nat} {bs : List Nat} {ns : List Nd} (h : Fo w F bs ns) : ∀ k ∈ bs, k < w.heap.size := by
  obtain ⟨M, O, ocap, hs, rfl, hf⟩ := h.ex
  exact hf.lt
theorem Fo.some1 {w : World} {F : Nat} {bs : List Nat} {ns : List Nd} (h : Fo w F bs ns) : 1 ≤ ns.length := by
  obtain ⟨M, O, ocap, hs, rfl, hf⟩ := h.ex
  exact hf.some1
theorem Fo.few {w : World} {F : Nat} {bs : List Nat} {ns : List Nd} (h : Fo w F bs ns) : ns.length ≤ 1000000 := by
  obtain ⟨M, O, ocap, hs, rfl, hf⟩ := h.ex
  exact hf.few
theorem Fo.kept {w w' : World} {F : Nat} {bs : List Nat} {ns : List Nd} (h : Fo w F bs ns) (hb : ∀ k ∈ bs, w'.heap[k]? = w.heap[k]?) : Fo w' F bs ns := by
  obtain ⟨M, O, ocap, hs, rfl, hf⟩ := h.ex
  exact ⟨⟨M, O, ocap, hs, rfl, hf.kept hb⟩, h.down⟩
theorem Fo.below {w w' : World} {F : Nat} {bs : List Nat} {ns : List Nd} (h : Fo w F bs ns) (hb : Below w.heap.size w w') : Fo w' F bs ns := h.kept fun k hk => hb.block k (h.lt k hk)
theorem Fo.at_ {w : World} {F : Nat} {bs : List Nat} {ns : List Nd} (h : Fo w F bs ns) {i : Nat} {nd : Nd} (hi : ns[i]? = some nd) :
    Calls Yba.prog 19 #[.pointer (some ⟨F, 0, none⟩), .int .i32 i] w fun e w' => e = .returned (ndVal nd) ∧ Below w.heap.size w w' := by
  obtain ⟨M, O, ocap, hs, rfl, hf⟩ := h.ex
  exact for_at hf hi
/-- How many nodes there are. -/
theorem Fo.count {w : World} {F : Nat} {bs : List Nat} {ns : List Nd} (h : Fo w F bs ns) : w.cell? ⟨F, 1, none⟩ = some (.int .i64 ns.length) ∧ F < w.heap.size ∧ F ∈ bs := by
  obtain ⟨M, O, ocap, hs, rfl, hf⟩ := h.ex
  exact ⟨cell_of_heap hf.pq.f, lt_of_heap hf.pq.f, by simp [bsOf]⟩

/-- What a call that makes nodes leaves: at most k nodes more. -/
structure Made (w w' : World) (F : Nat) (bs : List Nat) (ns ns' : List Nd) (k : Nat) : Prop where
  ex : ∃ bs', Fo w' F bs' ns' ∧ Step bs w bs' w'
  more : ∃ ms, ns' = ns ++ ms ∧ ms.length ≤ k

theorem intern_fo {w : World} {F : Nat} {bs : List Nat} {ns : List Nd} (h : Fo w F bs ns) (nd : Nd) (hlt : ns.length < 1000000) (hl : nd.l < ns.length) (hr : nd.r < ns.length) :
    Calls Yba.prog 24 #[.pointer (some ⟨F, 0, none⟩), ndVal nd] w fun e w' => ∃ (t : Nat) (ns' : List Nd), e = .returned (.int .i32 t) ∧ Made w w' F bs ns ns' 1 ∧ ns'[t]? = some nd ∧ 1 ≤ t := by
  obtain ⟨M, O, ocap, hs, rfl, hf⟩ := h.ex
  refine (intern_any hf nd hlt).mono ?_
  rintro e w' ⟨t, ns', rfl, ⟨⟨O2, ocap2, hs2, hf2, hst⟩, hg, hat, hp⟩⟩
  refine ⟨t, ns', rfl, ⟨⟨_, ⟨⟨M, O2, ocap2, hs2, rfl, hf2⟩, ?_⟩, hst⟩, ?_⟩, hat, hp⟩
  · rcases hg with rfl | rfl
    · exact h.down
    · exact down_append h.down hl hr
  · rcases hg with rfl | rfl
    · exact ⟨[], by simp, by simp⟩
    · exact ⟨[nd], rfl, by simp⟩

theorem hz (i : Nat) (h : i < 1000000) : IntKind.i32.wrap (i : Int) = (i : Int) := by rw [IntKind.wrap_i32]; omega

set_option maxRecDepth 100000 in
set_option maxHeartbeats 400000 in
theorem node_fo {w : World} {F : Nat} {bs : List Nat} {ns : List Nd} (h : Fo w F bs ns) (v c : Int) (l r : Nat) (hlt : ns.length < 1000000) (hl : l < ns.length) (hr : r < ns.length) :
    Calls Yba.prog 21 #[.pointer (some ⟨F, 0, none⟩), .int .i64 v, .int .i32 c, .int .i32 l, .int .i32 r] w fun e w' => ∃ (t : Nat) (ns' : List Nd), e = .returned (.int .i32 t) ∧ Made w w' F bs ns ns' 1 ∧ ns'[t]? = some ⟨v, c, 0, l, r⟩ ∧ 1 ≤ t := by
  have H := hide (intern_fo h ⟨v, c, 0, l, r⟩ hlt hl hr)
  unfold ndVal at H
  clear h
  go_enter Yba.func21, Yba.ntmps21
  go_wp2_with fail
  refine (unhide H).mono ?_
  rintro e w1 ⟨t, ns', rfl, hq⟩
  go_wp2
  go_ret
  exact ⟨t, ns', rfl, hq⟩

set_option maxRecDepth 100000 in
set_option maxHeartbeats 400000 in
theorem prepend_fo {w : World} {F : Nat} {bs : List Nat} {ns : List Nd} (h : Fo w F bs ns) (v : Int) (r : Nat) (hlt : ns.length < 1000000) (hr : r < ns.length) :
    Calls Yba.prog 18 #[.pointer (some ⟨F, 0, none⟩), .int .i32 r, .int .i64 v] w fun e w' => ∃ (t : Nat) (ns' : List Nd), e = .returned (.int .i32 t) ∧ Made w w' F bs ns ns' 1 ∧ t < ns'.length := by
  have H := hide (intern_fo h ⟨v, 1, 0, 0, r⟩ hlt h.some1 hr)
  unfold ndVal at H
  clear h
  go_enter Yba.func18, Yba.ntmps18
  go_wp2_with fail
  refine (unhide H).mono ?_
  rintro e w1 ⟨t, ns', rfl, hq, hat, _⟩
  go_wp2
  go_ret
  exact ⟨t, ns', rfl, hq, (List.getElem?_eq_some_iff.1 hat).1⟩

def mixA (x : Int) : Int := IntKind.u64.wrap (x + 11400714819323198485)
def mixB (x : Int) : Int := IntKind.u64.wrap (bits BinOp.xor IntKind.u64 x (x / 1073741824) * 13787848793156543929)
def mixC (x : Int) : Int := IntKind.u64.wrap (bits BinOp.xor IntKind.u64 x (x / 134217728) * 10723151780598845931)
def mixF (x : Int) : Int := bits BinOp.xor IntKind.u64 (mixC (mixB (mixA x))) (mixC (mixB (mixA x)) / 2147483648)
def prioF (v : Int) : Int := mixF (IntKind.u64.wrap v)

set_option maxRecDepth 100000 in
set_option maxHeartbeats 400000 in
theorem mix_any (x : Int) (w : World) : Calls Yba.prog 26 #[.int .u64 x] w fun e w' => e = .returned (.int .u64 (mixF x)) ∧ w' = w := by
  go_enter Yba.func26, Yba.ntmps26
  go_wp2
  go_ret
  exact ⟨rfl, rfl⟩
set_option maxRecDepth 100000 in
set_option maxHeartbeats 400000 in
theorem priority_any (v : Int) (w : World) : Calls Yba.prog 22 #[.int .i64 v] w fun e w' => e = .returned (.int .u64 (prioF v)) ∧ w' = w := by
  go_enter Yba.func22, Yba.ntmps22
  go_wp2_with (go_at_call 26; refine (mix_any _ _).mono ?_; rintro e w' ⟨rfl, rfl⟩)
  go_ret
  exact ⟨rfl, rfl⟩

/-! ### Steps -/
theorem Made.trans {w w1 w2 : World} {F : Nat} {bs bs1 : List Nat} {ns ns1 ns2 : List Nd} {j k : Nat} (hs : Step bs w bs1 w1) (hm : ∃ ms, ns1 = ns ++ ms ∧ ms.length ≤ j) (h : Made w1 w2 F bs1 ns1 ns2 k) : Made w w2 F bs ns ns2 (j + k) := by
  obtain ⟨⟨bs', hf, hst⟩, ms, rfl, hl⟩ := h
  obtain ⟨ms1, rfl, hl1⟩ := hm
  exact ⟨⟨bs', hf, hs.trans hst⟩, ms1 ++ ms, by simp, by simp; omega⟩

/-- A local block of the caller's lies on. -/
theorem Step.local {bs bs' : List Nat} {w w' : World} (h : Step bs w bs' w') {L : Nat} {o : Obj} (hL : w.heap[L]? = some o) (hn : L ∉ bs) : w'.heap[L]? = some o ∧ L ∉ bs' := by
  have hlt := lt_of_heap hL
  refine ⟨(h.block L hlt hn).trans hL, fun hm => ?_⟩
  rcases h.from_ L hm with h' | h'
  · exact hn h'
  · omega

def Ndo (nd : Nd) : Obj := .cells #[.int .i64 nd.v, .int .i32 nd.c, .int .i32 nd.lv, .int .i32 nd.l, .int .i32 nd.r] 68

def SplitSaid (h : Nat) : Prop := ∀ (w : World) (F : Nat) (bs : List Nat) (ns : List Nd), Fo w F bs ns → ∀ (v : Int) (t : Nat), HtLe ns h t → ns.length + h < 1000000 →
    Calls Yba.prog 23 #[.pointer (some ⟨F, 0, none⟩), .int .i32 t, .int .i64 v] w fun e w' => ∃ (a b : Nat) (ns' : List Nd), e = .returned (.tuple #[.int .i32 a, .int .i32 b]) ∧ Made w w' F bs ns ns' h ∧ HtLe ns' h a ∧ HtLe ns' h b

/-- A forest behind 'n := f.at(t)': the local copy at block L. -/
theorem at_local {w w1 : World} {F : Nat} {bs : List Nat} {ns : List Nd} (h : Fo w F bs ns) (hb : Below w.heap.size w w1) (o : Obj) : Fo (w1.alloc o) F bs ns ∧ Step bs w bs (w1.alloc o) ∧ (w1.alloc o).heap[w1.heap.size]? = some o ∧ w1.heap.size ∉ bs := by
  have hb2 : Below w.heap.size w (w1.alloc o) := hb.alloc hb.size o
  exact ⟨h.below hb2, Step.grow hb2, heap_alloc_new _ _, fun hm => by have := h.lt _ hm; have := hb.size; omega⟩

theorem local_cells {w : World} {L : Nat} {nd : Nd} (h : w.heap[L]? = some (.cells #[.int .i64 nd.v, .int .i32 nd.c, .int .i32 nd.lv, .int .i32 nd.l, .int .i32 nd.r] 68)) :
    w.cell? ⟨L, 0, none⟩ = some (.int .i64 nd.v) ∧ w.cell? ⟨L, 1, none⟩ = some (.int .i32 nd.c) ∧ w.cell? ⟨L, 3, none⟩ = some (.int .i32 nd.l) ∧ w.cell? ⟨L, 4, none⟩ = some (.int .i32 nd.r) :=
  ⟨cell_of_heap h, cell_of_heap h, cell_of_heap h, cell_of_heap h⟩

theorem empty_split {w : World} {F : Nat} {bs : List Nat} {ns : List Nd} (hf : Fo w F bs ns) (v : Int) (h : Nat) :
    Calls Yba.prog 23 #[.pointer (some ⟨F, 0, none⟩), .int .i32 0, .int .i64 v] w fun e w' => ∃ (a b : Nat) (ns' : List Nd), e = .returned (.tuple #[.int .i32 a, .int .i32 b]) ∧ Made w w' F bs ns ns' h ∧ HtLe ns' h a ∧ HtLe ns' h b := by
  have HF := hide hf
  clear hf
  go_enter Yba.func23, Yba.ntmps23
  go_wp2
  go_ret2
  exact ⟨0, 0, ns, rfl, ⟨⟨bs, unhide HF, Step.refl _ _⟩, [], by simp, by simp⟩, htLe_zero _ _, htLe_zero _ _⟩

theorem made_two {w w1 w2 w3 : World} {F : Nat} {bs bs2 : List Nat} {ns ms ns3 : List Nd} {h : Nat} (s1 : Step bs w bs w1) (s2 : Step bs w1 bs2 w2) (hl : ms.length ≤ h) (m3 : Made w2 w3 F bs2 (ns ++ ms) ns3 1) : Made w w3 F bs ns ns3 (h + 1) :=
  Made.trans (s1.trans s2) ⟨ms, rfl, hl⟩ m3

set_option maxRecDepth 100000 in
set_option maxHeartbeats 1000000 in
theorem split_any : ∀ (h : Nat), SplitSaid h := by
  intro h
  induction h with
  | zero =>
    intro w F bs ns hf v t ht hlt
    obtain rfl : t = 0 := ht
    exact empty_split hf v 0
  | succ h IH =>
    intro w F bs ns hf v t ht hlt
    by_cases ht0 : t = 0
    · subst ht0
      exact empty_split hf v (h + 1)
    rcases ht with h0 | ⟨nd, hnd, hl, hr⟩
    · exact absurd h0 ht0
    have htb : ((t : Int) == 0) = false := by rw [beq_eq_false_iff_ne]; omega
    have HF := hide hf
    have HAt := hide (hf.at_ hnd)
    have HL := hide hl
    have HR := hide hr
    have h1 := hf.some1
    clear hnd hf hl hr
    unfold ndVal at HAt
    go_enter Yba.func23, Yba.ntmps23
    go_wp2_with fail
    refine (unhide HAt).mono ?_
    rintro e w1 ⟨rfl, hb1⟩
    obtain ⟨fo1, st1, hp1, nb1⟩ := at_local (unhide HF) hb1 (.cells #[.int .i64 nd.v, .int .i32 nd.c, .int .i32 nd.lv, .int .i32 nd.l, .int .i32 nd.r] 68)
    have FO1 := hide fo1
    have ST1 := hide st1
    have HP1 := hide hp1
    have NB1 := hide nb1
    clear hb1 fo1 st1 hp1 nb1
    by_cases hv : v < nd.v
    · go_wp2_with fail
      refine (IH _ F bs ns (unhide FO1) v nd.l (unhide HL) (by omega)).mono ?_
      rintro e w2 ⟨a, b, ns2, rfl, ⟨⟨bs2, fo2, st2⟩, ms, rfl, hms⟩, ha, hb⟩
      obtain ⟨hp2, nb2⟩ := st2.local (unhide HP1) (unhide NB1)
      obtain ⟨x0, x1, x3, x4⟩ := local_cells hp2
      have FO2 := hide fo2
      have ST2 := hide st2
      have HA := hide ha
      have HB := hide hb
      have hlen : (ns ++ ms).length = ns.length + ms.length := List.length_append
      have hb' := htLe_lt hb (by omega)
      have hr' := htLe_lt (htLe_append ms (unhide HR)) (by omega)
      have hlt2 : (ns ++ ms).length < 1000000 := by omega
      clear fo2 st2 ha hb hp2 nb2 hlen
      go_wp2_with fail
      refine (node_fo (unhide FO2) nd.v nd.c b nd.r hlt2 hb' hr').mono ?_
      rintro e w3 ⟨t3, ns3, rfl, hm3, hat3, hp3⟩
      have HM3 := hide hm3
      have HT3 := hide hat3
      clear hm3 hat3
      go_wp2
      go_ret2
      obtain ⟨ms3, e3, _⟩ := (unhide HM3).more
      refine ⟨a, t3, ns3, rfl, made_two (unhide ST1) (unhide ST2) hms (unhide HM3), ?_, ?_⟩
      · rw [e3]; exact htLe_succ (htLe_append _ (unhide HA))
      · exact .inr ⟨_, unhide HT3, by rw [e3]; exact htLe_append _ (unhide HB), by rw [e3]; exact htLe_append _ (htLe_append _ (unhide HR))⟩
    · go_wp2_with fail
      refine (IH _ F bs ns (unhide FO1) v nd.r (unhide HR) (by omega)).mono ?_
      rintro e w2 ⟨a, b, ns2, rfl, ⟨⟨bs2, fo2, st2⟩, ms, rfl, hms⟩, ha, hb⟩
      obtain ⟨hp2, nb2⟩ := st2.local (unhide HP1) (unhide NB1)
      obtain ⟨x0, x1, x3, x4⟩ := local_cells hp2
      have FO2 := hide fo2
      have ST2 := hide st2
      have HA := hide ha
      have HB := hide hb
      have hlen : (ns ++ ms).length = ns.length + ms.length := List.length_append
      have ha' := htLe_lt ha (by omega)
      have hl' := htLe_lt (htLe_append ms (unhide HL)) (by omega)
      have hlt2 : (ns ++ ms).length < 1000000 := by omega
      clear fo2 st2 ha hb hp2 nb2 hlen
      go_wp2_with fail
      refine (node_fo (unhide FO2) nd.v nd.c nd.l a hlt2 hl' ha').mono ?_
      rintro e w3 ⟨t3, ns3, rfl, hm3, hat3, hp3⟩
      have HM3 := hide hm3
      have HT3 := hide hat3
      clear hm3 hat3
      go_wp2
      go_ret2
      obtain ⟨ms3, e3, _⟩ := (unhide HM3).more
      refine ⟨t3, b, ns3, rfl, made_two (unhide ST1) (unhide ST2) hms (unhide HM3), ?_, ?_⟩
      · exact .inr ⟨_, unhide HT3, by rw [e3]; exact htLe_append _ (htLe_append _ (unhide HL)), by rw [e3]; exact htLe_append _ (unhide HA)⟩
      · rw [e3]; exact htLe_succ (htLe_append _ (unhide HB))
end Go.Proofs.Ybulkcjmy
