import Derived.Test.YbulkcjmyCMem
import Derived.Deep.RegionLaw
import Derived.Deep.Cut
import Derived.Deep.CutRange
import Derived.Deep.DeepCutAuto
namespace Go.Proofs.Ybulkcjmy
open Go.ChangeShapes Go.WideShapes Go.ChangeAt Go.RowKit

theorem info68 : (Yba.prog.info? 68).map (fun i => (i.zero, i.size, i.bytes)) = some (some (.agg #[.int .i64 0, .int .i32 0, .int .i32 0, .int .i32 0, .int .i32 0]), 5, 24) := by kernel_rfl
theorem info79 : (Yba.prog.info? 79).map (fun i => (i.zero, i.size, i.bytes)) = some (some (.slice none 0 0), 1, 24) := by kernel_rfl

/-! ### Rows and headers -/
theorem ownsRow_set {w : World} {e : TypeId} {O n cap b : Nat} {xs : List Value} (h : w.ownsRow 0 e 1 (.slice (some ⟨O, 0, none⟩) n cap) n xs) (_hb : b < n) (v : Value) :
    (w.setCell ⟨O, b, none⟩ v).ownsRow 0 e 1 (.slice (some ⟨O, 0, none⟩) n cap) n (xs.set b v) := by
  refine ⟨by simpa using h.1, ?_⟩
  rcases h.2 with ⟨e, _⟩ | ⟨g, cap', cur, e, h0, hg, h1, h2, h3, h4⟩
  · cases e
  · obtain ⟨rfl, rfl⟩ : O = g ∧ cap = cap' := by simpa using e
    refine .inr ⟨O, cap, cur.setIfInBounds b v, rfl, h0, heap_setCell_at hg, h1, h2, by simpa using h3, ?_⟩
    rw [Array.toList_setIfInBounds, ← h4]
    rw [List.take_set]

theorem filterMap_set {hs : List Value} {b : Nat} {hv v : Value} (hb : hs[b]? = some hv) :
    ∃ A B, hs.filterMap Value.ownBlock = A ++ (hv.ownBlock.toList ++ B) ∧ (hs.set b v).filterMap Value.ownBlock = A ++ (v.ownBlock.toList ++ B) := by
  have hlt := (List.getElem?_eq_some_iff.1 hb).1
  have hval := (List.getElem?_eq_some_iff.1 hb).2
  refine ⟨(hs.take b).filterMap Value.ownBlock, (hs.drop (b + 1)).filterMap Value.ownBlock, ?_, ?_⟩
  · conv => lhs; rw [← List.take_append_drop b hs, List.drop_eq_getElem_cons hlt, hval]
    rw [List.filterMap_append, List.filterMap_cons]
    cases hv.ownBlock <;> simp
  · rw [List.set_eq_take_append_cons_drop, if_pos hlt, List.filterMap_append, List.filterMap_cons]
    cases v.ownBlock <;> simp

theorem nodup_set {X : List Nat} {hs : List Value} {b g : Nat} {hv v : Value} (hb : hs[b]? = some hv) (hv' : v.ownBlock = some g) (hn : (X ++ hs.filterMap Value.ownBlock).Nodup) (hg : hv.ownBlock = some g ∨ g ∉ X ++ hs.filterMap Value.ownBlock) :
    (X ++ (hs.set b v).filterMap Value.ownBlock).Nodup := by
  obtain ⟨A, B, e1, e2⟩ := filterMap_set (v := v) hb
  rw [e1] at hn hg
  rw [e2, hv']
  rcases hg with hg | hg
  · rw [hg] at hn; exact hn
  · have hsub : (X ++ A ++ B).Nodup := by
      refine List.Nodup.sublist ?_ hn
      rw [List.append_assoc]
      exact (List.Sublist.refl X).append ((List.Sublist.refl A).append (List.sublist_append_right _ _))
    have hg' : g ∉ X ++ A ++ B := fun hm => hg (by
      simp only [List.mem_append] at hm ⊢
      rcases hm with (hm | hm) | hm
      · exact .inl hm
      · exact .inr (.inl hm)
      · exact .inr (.inr (.inr hm)))
    have : (X ++ (A ++ ((some g).toList ++ B))) = (X ++ A) ++ g :: B := by simp
    rw [this, List.perm_middle.nodup_iff]
    exact List.nodup_cons.2 ⟨hg', hsub⟩

theorem mem_set_own {hs : List Value} {b k g : Nat} {hv v : Value} (hb : hs[b]? = some hv) (hv' : v.ownBlock = some g) (hk : k ∈ (hs.set b v).filterMap Value.ownBlock) : k = g ∨ k ∈ hs.filterMap Value.ownBlock := by
  obtain ⟨A, B, e1, e2⟩ := filterMap_set (v := v) hb
  rw [e2, hv'] at hk
  rw [e1]
  simp only [Option.toList_some, List.mem_append, List.mem_singleton] at hk ⊢
  rcases hk with hk | hk | hk
  · exact .inr (.inl hk)
  · exact .inl hk
  · exact .inr (.inr (.inr hk))

/-- Two headers own different blocks. -/
theorem own_ne {hs : List Value} {a b k : Nat} {u v : Value} (hn : (hs.filterMap Value.ownBlock).Nodup) (ha : hs[a]? = some u) (hb : hs[b]? = some v) (hne : a ≠ b) (hu : u.ownBlock = some k) : v.ownBlock ≠ some k := by
  intro hv
  induction hs generalizing a b with
  | nil => simp at ha
  | cons x hs ih =>
    cases a with
    | zero =>
      cases b with
      | zero => exact hne rfl
      | succ b =>
        obtain rfl : x = u := by simpa using ha
        rw [List.filterMap_cons, hu] at hn
        refine (List.nodup_cons.1 hn).1 (List.mem_filterMap.2 ⟨v, List.mem_of_getElem? (by simpa using hb : hs[b]? = some v), hv⟩)
    | succ a =>
      cases b with
      | zero =>
        obtain rfl : x = v := by simpa using hb
        rw [List.filterMap_cons, hv] at hn
        refine (List.nodup_cons.1 hn).1 (List.mem_filterMap.2 ⟨u, List.mem_of_getElem? (by simpa using ha : hs[a]? = some u), hu⟩)
      | succ b =>
        refine ih (a := a) (b := b) ?_ (by simpa using ha) (by simpa using hb) (by omega)
        rw [List.filterMap_cons] at hn
        split at hn
        · exact hn
        · exact (List.nodup_cons.1 hn).2

def putG (gr : Nat → List Nd) (b : Nat) (nd : Nd) : Nat → List Nd := fun k => if k = b then gr b ++ [nd] else gr k

theorem PQ.ne {w : World} {F M O ocap n : Nat} {hs : List Value} {gr : Nat → List Nd} (h : PQ w F M O ocap n hs gr) {b k : Nat} {v : Value} (hb : hs[b]? = some v) (hk : v.ownBlock = some k) : k ≠ F ∧ k ≠ M ∧ k ≠ O := by
  have hm : k ∈ hs.filterMap Value.ownBlock := List.mem_filterMap.2 ⟨v, List.mem_of_getElem? hb, hk⟩
  have hn := h.nodup
  simp only [List.nodup_cons, List.mem_cons, not_or] at hn
  exact ⟨fun e => hn.1.2.2 (e ▸ hm), fun e => hn.2.1.2 (e ▸ hm), fun e => hn.2.2.1 (e ▸ hm)⟩

/-- One node appended to block b, its header stored back. -/
theorem PQ.put {wc w1 : World} {F M O ocap n b len : Nat} {hs : List Value} {gr : Nat → List Nd} {ha : Option Addr} {hc : Nat} {V' : Obj} {nd : Nd} (h : PQ wc F M O ocap n hs gr) (hM : M < wc.heap.size) (hb : hs[b]? = some (.slice ha len hc)) (hlen : len = (gr b).length) {g' cap' : Nat}
    (hown1 : w1.ownsRow 0 68 5 (.slice (some ⟨g', 0, none⟩) (len + 1) cap') (len + 1) (flat (gr b) ++ ndCells nd)) (hgrow : World.grownBy ((wc.alloc V').drew) w1 (Value.slice ha len hc).ownBlock) (hat : (Value.slice ha len hc).ownBlock = some g' ∨ g' = wc.heap.size + 1) :
    PQ (w1.setCell ⟨O, b, none⟩ (.slice (some ⟨g', 0, none⟩) (len + 1) cap')) F M O ocap n (hs.set b (.slice (some ⟨g', 0, none⟩) (len + 1) cap')) (putG gr b nd) ∧
      Step (bsOf F M O hs) wc (bsOf F M O (hs.set b (.slice (some ⟨g', 0, none⟩) (len + 1) cap'))) (w1.setCell ⟨O, b, none⟩ (.slice (some ⟨g', 0, none⟩) (len + 1) cap')) ∧
      (w1.setCell ⟨O, b, none⟩ (.slice (some ⟨g', 0, none⟩) (len + 1) cap')).heap[M]? = wc.heap[M]? := by
  have hlt := h.lt hM
  have far : ∀ k, k < wc.heap.size → (Value.slice ha len hc).ownBlock ≠ some k → w1.heap[k]? = wc.heap[k]? := fun k hk hr => by
    refine (hgrow.block k ?_ (Ne.symm hr)).trans (Below.heap_alloc wc V' k hk)
    show k < (wc.heap.push V').size
    simp; omega
  have hsz : wc.heap.size + 1 ≤ w1.heap.size := by
    have := hgrow.size
    have e : (wc.alloc V').drew.heap.size = wc.heap.size + 1 := by show (wc.heap.push V').size = _; simp
    omega
  have hO : O < wc.heap.size := hlt O (by simp [bsOf])
  have hF : F < wc.heap.size := hlt F (by simp [bsOf])
  have hn := h.nodup
  simp only [List.nodup_cons, List.mem_cons, not_or] at hn
  obtain ⟨⟨nFM, nFO, nFh⟩, ⟨nMO, nMh⟩, nOh, nh⟩ := hn
  have rO : (Value.slice ha len hc).ownBlock ≠ some O := fun e => (h.ne hb e).2.2 rfl
  have rF : (Value.slice ha len hc).ownBlock ≠ some F := fun e => (h.ne hb e).1 rfl
  have rM : (Value.slice ha len hc).ownBlock ≠ some M := fun e => (h.ne hb e).2.1 rfl
  have gO : g' ≠ O := by rcases hat with e | e
                         · exact (h.ne hb e).2.2
                         · omega
  have hblt : b < hs.length := (List.getElem?_eq_some_iff.1 hb).1
  refine ⟨⟨?_, ?_, ?_, ?_⟩, ⟨hgrow.os, hgrow.tape, hgrow.output, ?_, ?_, ?_⟩, ?_⟩
  · rw [Below.heap_setCell _ _ _ _ nFO, far F hF rF, List.length_set]; exact h.f
  · rw [List.length_set]
    exact ownsRow_set (ownsRow_kept h.outer fun k hk => by
      obtain rfl : O = k := by simpa [Value.ownBlock] using hk
      exact far O hO rO) hblt _
  · intro k v hv
    by_cases e : k = b
    · subst e
      rw [List.getElem?_set_self hblt] at hv
      obtain rfl := Option.some.inj hv
      have e1 : putG gr k nd k = gr k ++ [nd] := by simp [putG]
      rw [e1, flat_append, List.length_append, ← hlen]
      exact ownsRow_kept hown1 fun j hj => by
        obtain rfl : g' = j := by simpa [Value.ownBlock] using hj
        exact Below.heap_setCell _ _ _ _ gO
    · rw [List.getElem?_set_ne (fun e' => e e'.symm)] at hv
      have e1 : putG gr b nd k = gr k := by simp [putG, e]
      rw [e1]
      exact ownsRow_kept (h.inner k v hv) fun j hj => by
        rw [Below.heap_setCell _ _ _ _ (h.ne hv hj).2.2]
        exact far j (hlt j (mem_bs hv hj)) (own_ne nh hv hb e hj)
  · have := nodup_set (X := [F, M, O]) (v := .slice (some ⟨g', 0, none⟩) (len + 1) cap') (g := g') hb rfl h.nodup (by
      rcases hat with e | e
      · exact .inl e
      · refine .inr fun hm => ?_
        have := hlt g' hm
        omega)
    exact this
  · have : (w1.setCell ⟨O, b, none⟩ (.slice (some ⟨g', 0, none⟩) (len + 1) cap')).heap.size = w1.heap.size := by simp [World.setCell]
    omega
  · intro k hk hnb
    have k1 : k ≠ O := fun e => hnb (by simp [bsOf, e])
    rw [Below.heap_setCell _ _ _ _ k1]
    exact far k hk fun e => hnb (mem_bs hb e)
  · intro k hk
    simp only [bsOf, List.mem_cons] at hk ⊢
    rcases hk with rfl | rfl | rfl | hk
    · exact .inl (.inl rfl)
    · exact .inl (.inr (.inl rfl))
    · exact .inl (.inr (.inr (.inl rfl)))
    · rcases mem_set_own (g := g') hb rfl hk with rfl | hk
      · rcases hat with e | e
        · exact .inl (.inr (.inr (.inr (List.mem_filterMap.2 ⟨_, List.mem_of_getElem? hb, e⟩))))
        · exact .inr (by omega)
      · exact .inl (.inr (.inr (.inr hk)))
  · rw [Below.heap_setCell _ _ _ _ nMO]
    exact far M hM rM

/-- The count turned. -/
theorem PQ.count {w : World} {F M O ocap n : Nat} {hs : List Value} {gr : Nat → List Nd} (h : PQ w F M O ocap n hs gr) (m : Nat) :
    PQ (w.setCell ⟨F, 1, none⟩ (.int .i64 m)) F M O ocap m hs gr ∧ Step (bsOf F M O hs) w (bsOf F M O hs) (w.setCell ⟨F, 1, none⟩ (.int .i64 m)) ∧ (w.setCell ⟨F, 1, none⟩ (.int .i64 m)).heap[M]? = w.heap[M]? := by
  have hn := h.nodup
  simp only [List.nodup_cons, List.mem_cons, not_or] at hn
  obtain ⟨⟨nFM, nFO, nFh⟩, _⟩ := hn
  refine ⟨⟨?_, ?_, ?_, h.nodup⟩, ⟨rfl, rfl, rfl, by simp [World.setCell], fun k hk hnb => ?_, fun k hk => .inl hk⟩, ?_⟩
  · rw [heap_setCell_at h.f]; rfl
  · exact ownsRow_kept h.outer fun k hk => by
      obtain rfl : O = k := by simpa [Value.ownBlock] using hk
      exact Below.heap_setCell _ _ _ _ (Ne.symm nFO)
  · intro b v hv
    exact ownsRow_kept (h.inner b v hv) fun k hk => Below.heap_setCell _ _ _ _ (h.ne hv hk).1
  · exact Below.heap_setCell _ _ _ _ fun e => hnb (by simp [bsOf, e])
  · exact Below.heap_setCell _ _ _ _ (Ne.symm nFM)

/-- What holds where the two ways of 'if b == len(p.blocks)' meet. -/
structure Rdy (w wc : World) (F M n b : Nat) (bs : List Nat) (nd : Nd) (gr : Nat → List Nd) (O ocap : Nat) (hs : List Value) : Prop where
  pq : PQ wc F M O ocap n hs gr
  blt : b < hs.length
  few : hs.length ≤ 1000
  step : Step bs w (bsOf F M O hs) wc
  box : wc.heap[w.heap.size]? = some (.cells #[.int .i64 nd.v, .int .i32 nd.c, .int .i32 nd.lv, .int .i32 nd.l, .int .i32 nd.r] 68 (0, 0))
  mapM : wc.heap[M]? = w.heap[M]?
  mlt : M < wc.heap.size

theorem header_form {w : World} {e : TypeId} {size : Nat} {v : Value} {n : Nat} {xs : List Value} (h : w.ownsRow 0 e size v n xs) : ∃ a c, v = .slice a n c := by
  rcases h.2 with ⟨rfl, rfl⟩ | ⟨g, cap, cur, rfl, _⟩
  · exact ⟨none, 0, rfl⟩
  · exact ⟨_, _, rfl⟩
theorem row_frozen {w : World} {e : TypeId} {size O n cap : Nat} {xs : List Value} (h : w.ownsRow 0 e size (.slice (some ⟨O, 0, none⟩) n cap) n xs) (b : Nat) : w.frozen? ⟨O, b, none⟩ = false := by
  rcases h.2 with ⟨e, _⟩ | ⟨g, cap', cur, e, h0, hg, _⟩
  · cases e
  · obtain ⟨rfl, rfl⟩ : O = g ∧ cap = cap' := by simpa using e
    exact frozen_of_heap hg

/-- What holds behind 'p.blocks[b] = append(p.blocks[b], v)'. -/
structure Put (w wx : World) (F M n : Nat) (bs : List Nat) (gr : Nat → List Nd) (nb : Nat) : Prop where
  ex : ∃ O ocap hs, PQ wx F M O ocap n hs gr ∧ hs.length = nb ∧ Step bs w (bsOf F M O hs) wx ∧ M < wx.heap.size
  mapM : wx.heap[M]? = w.heap[M]?

theorem put_rel {w wc w1 : World} {F M O ocap n b len : Nat} {bs : List Nat} {hs : List Value} {gr : Nat → List Nd} {ha : Option Addr} {hc : Nat} {V' : Obj} {nd : Nd} (hr : Rdy w wc F M n b bs nd gr O ocap hs) (hb : hs[b]? = some (.slice ha len hc)) (hlen : (gr b).length = len) {g' cap' : Nat}
    (hown1 : w1.ownsRow 0 68 5 (.slice (some ⟨g', 0, none⟩) (len + 1) cap') (len + 1) (flat (gr b) ++ ndCells nd)) (hgrow : World.grownBy ((wc.alloc V').drew) w1 (Value.slice ha len hc).ownBlock) (hat : (Value.slice ha len hc).ownBlock = some g' ∨ g' = wc.heap.size + 1) :
    Put w (w1.setCell ⟨O, b, none⟩ (.slice (some ⟨g', 0, none⟩) (len + 1) cap')) F M n bs (putG gr b nd) hs.length := by
  obtain ⟨h1, h2, h3⟩ := hr.pq.put hr.mlt hb hlen.symm hown1 hgrow hat
  exact ⟨⟨_, _, _, h1, by rw [List.length_set], hr.step.trans h2, Nat.lt_of_lt_of_le hr.mlt h2.size⟩, h3.trans hr.mapM⟩
theorem put_count {w wx : World} {F M n : Nat} {bs : List Nat} {gr : Nat → List Nd} {nb : Nat} (h : Put w wx F M n bs gr nb) (m : Nat) : Put w (wx.setCell ⟨F, 1, none⟩ (.int .i64 m)) F M m bs gr nb := by
  obtain ⟨⟨O, ocap, hs, h1, h2, h3, h4⟩, h5⟩ := h
  obtain ⟨k1, k2, k3⟩ := h1.count m
  exact ⟨⟨O, ocap, hs, k1, h2, h3.trans k2, Nat.lt_of_lt_of_le h4 k2.size⟩, k3.trans h5⟩

theorem one_ndCells (nd : Nd) : ∀ u ∈ ndCells nd, u.oneCell' = true := by
  intro u hu
  simp only [ndCells, List.mem_cons, List.not_mem_nil, or_false] at hu
  rcases hu with rfl | rfl | rfl | rfl | rfl <;> rfl
theorem size_alloc_drew (w : World) (o : Obj) : ((w.alloc o).drew).heap.size = w.heap.size + 1 := by
  show (w.heap.push o).size = _
  simp
theorem far1_heap {w w1 : World} {V : Obj} {row : Option Nat} (hg : World.grownBy ((w.alloc V).drew) w1 row) {k : Nat} (hk : k < w.heap.size) (hr : row ≠ some k) : w1.heap[k]? = w.heap[k]? := by
  refine (hg.block k ?_ (Ne.symm hr)).trans (Below.heap_alloc w V k hk)
  show k < (w.heap.push V).size
  simp; omega
theorem far1_cell {w w1 : World} {V : Obj} {row : Option Nat} (hg : World.grownBy ((w.alloc V).drew) w1 row) {k i : Nat} (hk : k < w.heap.size) (hr : row ≠ some k) : w1.cell? ⟨k, i, none⟩ = w.cell? ⟨k, i, none⟩ :=
  World.cell?_of_block (w := w) (far1_heap hg hk hr)
theorem far1_frozen {w w1 : World} {V : Obj} {row : Option Nat} (hg : World.grownBy ((w.alloc V).drew) w1 row) {k i : Nat} (hk : k < w.heap.size) (hr : row ≠ some k) : w1.frozen? ⟨k, i, none⟩ = w.frozen? ⟨k, i, none⟩ :=
  World.frozen?_of_block (w := w) (far1_heap hg hk hr)

/-- A new, empty block's header appended to the outer row, the slice stored back. -/
theorem PQ.more {w W w1 : World} {F M n : Nat} {hs : List Value} {gr : Nat → List Nd} {ov h0 : Value} {fc : Array Value} (hf : w.heap[F]? = some (.cells fc 54 (0, 0))) (hM : M < w.heap.size)
    (hin : ∀ (b : Nat) (h : Value), hs[b]? = some h → w.ownsRow 0 68 5 h (gr b).length (flat (gr b))) (hnd : (F :: M :: (ov.ownBlock.toList ++ hs.filterMap Value.ownBlock)).Nodup) (hovlt : ∀ k, ov.ownBlock = some k → k < w.heap.size)
    (hW : Below w.heap.size w W) (hg0 : gr hs.length = []) (hh0 : W.ownsRow 0 68 5 h0 0 []) (hnew : ∀ k, h0.ownBlock = some k → w.heap.size ≤ k ∧ k < W.heap.size) {g' cap' : Nat}
    (hown1 : w1.ownsRow 0 79 1 (.slice (some ⟨g', 0, none⟩) (hs.length + 1) cap') (hs.length + 1) (hs ++ [h0])) (hgrow : World.grownBy W w1 ov.ownBlock) (hat : ov.ownBlock = some g' ∨ g' = W.heap.size)
    (hfc : fc.setIfInBounds 0 (.slice (some ⟨g', 0, none⟩) (hs.length + 1) cap') = fCells g' (hs.length + 1) cap' n M) :
    PQ (w1.setCell ⟨F, 0, none⟩ (.slice (some ⟨g', 0, none⟩) (hs.length + 1) cap')) F M g' cap' n (hs ++ [h0]) gr ∧
      Step (F :: M :: (ov.ownBlock.toList ++ hs.filterMap Value.ownBlock)) w (bsOf F M g' (hs ++ [h0])) (w1.setCell ⟨F, 0, none⟩ (.slice (some ⟨g', 0, none⟩) (hs.length + 1) cap')) ∧
      (w1.setCell ⟨F, 0, none⟩ (.slice (some ⟨g', 0, none⟩) (hs.length + 1) cap')).heap[M]? = w.heap[M]? := by
  have hF := lt_of_heap hf
  have hnd' := hnd
  simp only [List.nodup_cons, List.mem_cons, List.mem_append, not_or, List.nodup_append] at hnd'
  obtain ⟨⟨nFM, nFo, nFh⟩, ⟨nMo, nMh⟩, _, nh, nd2⟩ := hnd'
  have ovne : ∀ k, ov.ownBlock = some k → k ≠ F ∧ k ≠ M ∧ k ∉ hs.filterMap Value.ownBlock := fun k hk => by
    have hm : k ∈ ov.ownBlock.toList := by rw [hk]; simp
    exact ⟨fun e => nFo (e ▸ hm), fun e => nMo (e ▸ hm), fun hm' => nd2 k hm k hm' rfl⟩
  have hsl : ∀ k ∈ hs.filterMap Value.ownBlock, k < w.heap.size := fun k hk => by
    obtain ⟨v, hv, hvk⟩ := List.mem_filterMap.1 hk
    obtain ⟨b, hb⟩ := List.getElem?_of_mem hv
    exact ((hin b v hb).lt k hvk).2
  have old : ∀ k, k < w.heap.size → ov.ownBlock ≠ some k → w1.heap[k]? = w.heap[k]? := fun k hk hr =>
    (hgrow.block k (Nat.lt_of_lt_of_le hk hW.size) (Ne.symm hr)).trans (hW.block k hk)
  have hgF : g' ≠ F := by rcases hat with e | e
                          · exact (ovne _ e).1
                          · have := hW.size; omega
  have hgM : g' ≠ M := by rcases hat with e | e
                          · exact (ovne _ e).2.1
                          · have := hW.size; omega
  have hgh : g' ∉ hs.filterMap Value.ownBlock := by
    rcases hat with e | e
    · exact (ovne _ e).2.2
    · exact fun hm => by have := hsl _ hm; have := hW.size; omega
  have hg0' : ∀ k, h0.ownBlock = some k → g' ≠ k := fun k hk => by
    have := hnew k hk
    rcases hat with e | e
    · have := hovlt _ e; omega
    · omega
  refine ⟨⟨?_, ?_, ?_, ?_⟩, ⟨hgrow.os.trans hW.os, hgrow.tape.trans hW.tape, hgrow.output.trans hW.output, ?_, ?_, ?_⟩, ?_⟩
  · have h1 : w1.heap[F]? = some (.cells fc 54 (0, 0)) := (old F hF fun e => (ovne _ e).1 rfl).trans hf
    rw [heap_setCell_at h1, hfc, List.length_append]; rfl
  · rw [List.length_append]
    exact ownsRow_kept hown1 fun k hk => by
      obtain rfl : g' = k := by simpa [Value.ownBlock] using hk
      exact Below.heap_setCell _ _ _ _ hgF
  · intro b v hv
    by_cases e : b < hs.length
    · rw [List.getElem?_append_left e] at hv
      exact ownsRow_kept (hin b v hv) fun k hk => by
        have hm : k ∈ hs.filterMap Value.ownBlock := List.mem_filterMap.2 ⟨v, List.mem_of_getElem? hv, hk⟩
        have hkF : k ≠ F := fun e' => nFh (e' ▸ hm)
        rw [Below.heap_setCell _ _ _ _ hkF]
        exact old k (hsl k hm) fun e' => (ovne _ e').2.2 hm
    · rw [List.getElem?_append_right (by omega)] at hv
      have e2 : b - hs.length = 0 := by
        rcases Nat.eq_zero_or_pos (b - hs.length) with h' | h'
        · exact h'
        · rw [List.getElem?_eq_none (by simp; omega)] at hv; cases hv
      rw [e2] at hv
      obtain rfl : h0 = v := by simpa using hv
      obtain rfl : b = hs.length := by omega
      rw [hg0]
      exact ownsRow_kept hh0 fun k hk => by
        have hk' := hnew k hk
        have hkF : k ≠ F := by omega
        rw [Below.heap_setCell _ _ _ _ hkF]
        exact hgrow.block k hk'.2 fun e => by have := hovlt k e.symm; omega
  · rw [List.filterMap_append]
    have hh0k : ∀ k ∈ List.filterMap Value.ownBlock [h0], w.heap.size ≤ k ∧ g' ≠ k := fun k hk => by
      obtain ⟨v, hv, hvk⟩ := List.mem_filterMap.1 hk
      obtain rfl : v = h0 := by simpa using hv
      exact ⟨(hnew k hvk).1, hg0' k hvk⟩
    have hone : (List.filterMap Value.ownBlock [h0]).Nodup := by
      rw [List.filterMap_cons]
      split <;> simp
    simp only [List.nodup_cons, List.mem_cons, List.mem_append, not_or, List.nodup_append]
    refine ⟨⟨nFM, Ne.symm hgF, nFh, fun h => by have := (hh0k _ h).1; omega⟩, ⟨Ne.symm hgM, nMh, fun h => by have := (hh0k _ h).1; omega⟩, ⟨hgh, fun h => (hh0k _ h).2 rfl⟩, nh, hone, fun a ha b hb e => by
      have h1 := hsl a ha
      have h2 := (hh0k b hb).1
      omega⟩
  · have := hgrow.size
    have := hW.size
    have : (w1.setCell ⟨F, 0, none⟩ (.slice (some ⟨g', 0, none⟩) (hs.length + 1) cap')).heap.size = w1.heap.size := by simp [World.setCell]
    omega
  · intro k hk hnb
    simp only [List.mem_cons, List.mem_append, not_or] at hnb
    rw [Below.heap_setCell _ _ _ _ hnb.1]
    exact old k hk fun e => hnb.2.2.1 (by rw [e]; simp)
  · intro k hk
    simp only [bsOf, List.filterMap_append, List.mem_cons, List.mem_append] at hk ⊢
    rcases hk with rfl | rfl | rfl | hk | hk
    · exact .inl (.inl rfl)
    · exact .inl (.inr (.inl rfl))
    · rcases hat with e | e
      · exact .inl (.inr (.inr (.inl (by rw [e]; simp))))
      · exact .inr (by have := hW.size; omega)
    · exact .inl (.inr (.inr (.inr hk)))
    · obtain ⟨v, hv, hvk⟩ := List.mem_filterMap.1 hk
      obtain rfl : v = h0 := by simpa using hv
      exact .inr (hnew k hvk).1
  · rw [Below.heap_setCell _ _ _ _ (Ne.symm nFM)]
    exact old M hM fun e => (ovne _ e).2.1 rfl
end Go.Proofs.Ybulkcjmy
