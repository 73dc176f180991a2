import Derived.Test.YbulkcjmyCMark
import Derived.Deep.LoopGhost
import Derived.WalkSmall
namespace Go.Proofs.Ybulkcjmy
open Go.ChangeShapes Go.WideShapes Go.ChangeAt Go.RowKit

/-- The row of what is seen. -/
def Sn (w : World) (S n : Nat) (M : Nat → Bool) : Prop :=
  ∃ cur : Array Value, w.heap[S]? = some (.cells cur 4 (0, 0)) ∧ cur.size = n ∧ ∀ i, i < n → cur[i]? = some (.bool (M i))
theorem Sn.cell {w : World} {S n : Nat} {M : Nat → Bool} (h : Sn w S n M) {i : Nat} (hi : i < n) : w.cell? ⟨S, i, none⟩ = some (.bool (M i)) := by
  obtain ⟨cur, hc, _, ha⟩ := h
  rw [cell_of_heap hc]; exact ha i hi
theorem Sn.frozen {w : World} {S n : Nat} {M : Nat → Bool} (h : Sn w S n M) (i : Nat) : w.frozen? ⟨S, i, none⟩ = false := by
  obtain ⟨cur, hc, _, ha⟩ := h
  exact frozen_of_heap hc
theorem Sn.lt {w : World} {S n : Nat} {M : Nat → Bool} (h : Sn w S n M) : S < w.heap.size := by
  obtain ⟨cur, hc, _, ha⟩ := h
  exact lt_of_heap hc
theorem Sn.kept {w w' : World} {S n : Nat} {M : Nat → Bool} (h : Sn w S n M) (hb : w'.heap[S]? = w.heap[S]?) : Sn w' S n M := by
  obtain ⟨cur, hc, h2, ha⟩ := h
  exact ⟨cur, hb.trans hc, h2, ha⟩
theorem Sn.put {w : World} {S n : Nat} {M : Nat → Bool} (h : Sn w S n M) (t : Nat) : Sn (w.setCell ⟨S, t, none⟩ (.bool true)) S n (put M t) := by
  obtain ⟨cur, hc, h2, ha⟩ := h
  refine ⟨_, heap_setCell_at hc, by simpa using h2, fun i hi => ?_⟩
  rw [Array.getElem?_setIfInBounds]
  by_cases e : t = i
  · subst e
    rw [if_pos rfl, if_pos (by omega), put_self]
  · rw [if_neg e, ha i hi, put_other M (fun e' => e e'.symm)]

def stv (st : List Nat) : List Value := st.map fun (x : Nat) => Value.int .i32 (x : Int)

/-- The state of the search in memory: seen at block S, the stack's slice sv. -/
structure SR (w0 w : World) (S n : Nat) (M : Nat → Bool) (sv : Value) (d : Nat) (st : List Nat) : Prop where
  below : Below w0.heap.size w0 w
  seen : Sn w S n M
  own : w.ownsRow 0 38 1 sv d (stv st)
  len : st.length = d
  apart : ∀ g, sv.ownBlock = some g → g ≠ S ∧ w0.heap.size ≤ g
  sge : w0.heap.size ≤ S

theorem SR.grow {w0 w w' : World} {S n d : Nat} {M : Nat → Bool} {sv : Value} {st : List Nat} (h : SR w0 w S n M sv d st) (hb : Below w.heap.size w w') : SR w0 w' S n M sv d st :=
  ⟨h.below.trans (hb.mono h.below.size), h.seen.kept (hb.block S h.seen.lt), ownsRow_kept h.own fun k hk => hb.block k (h.own.lt k hk).2, h.len, h.apart, h.sge⟩

/-- 'seen[t] = true; stack = append(stack, t)'. -/
theorem SR.push {w0 w w1 : World} {S n d t : Nat} {M : Nat → Bool} {sv : Value} {st : List Nat} (h : SR w0 w S n M sv d st) {c : Obj} {g' cap' : Nat}
    (hown1 : w1.ownsRow 0 38 1 (.slice (some ⟨g', 0, none⟩) (d + 1) cap') (d + 1) (stv st ++ [.int .i32 t])) (hgrow : World.grownBy ((w.setCell ⟨S, t, none⟩ (.bool true)).alloc c) w1 sv.ownBlock) (hat : sv.ownBlock = some g' ∨ g' = w.heap.size + 1) :
    SR w0 w1 S n (put M t) (.slice (some ⟨g', 0, none⟩) (d + 1) cap') (d + 1) (st ++ [t]) ∧ (∀ L, L < w.heap.size → L ≠ S → sv.ownBlock ≠ some L → w1.heap[L]? = w.heap[L]? ∧ g' ≠ L) := by
  have hsz : ((w.setCell ⟨S, t, none⟩ (.bool true)).alloc c).heap.size = w.heap.size + 1 := by rw [World.size_alloc]; simp [World.setCell]
  have hS := h.seen.lt
  have hbs := h.below.size
  have far : ∀ k, k < w.heap.size → sv.ownBlock ≠ some k → w1.heap[k]? = (w.setCell ⟨S, t, none⟩ (.bool true)).heap[k]? := fun k hk hr =>
    (hgrow.block k (by rw [hsz]; omega) (Ne.symm hr)).trans (Below.heap_alloc _ _ _ (by simp [World.setCell]; omega))
  have hgs : g' ≠ S := by rcases hat with e | e
                          · exact (h.apart _ e).1
                          · omega
  refine ⟨⟨?_, ?_, ?_, by simp [h.len], ?_, h.sge⟩, fun L hL hne hr => ⟨(far L hL hr).trans (Below.heap_setCell _ _ _ _ hne), ?_⟩⟩
  · refine h.below.trans ⟨hgrow.os, hgrow.tape, hgrow.output, by have := hgrow.size; rw [hsz] at this; omega, fun k hk => ?_⟩
    have k1 : k ≠ S := by have := h.sge; omega
    refine (far k (by omega) fun e => ?_).trans (Below.heap_setCell _ _ _ _ k1)
    have := (h.apart k e).2; omega
  · exact (h.seen.put t).kept (far S hS fun e => (h.apart S e).1 rfl)
  · have e : stv (st ++ [t]) = stv st ++ [.int .i32 t] := by simp [stv]
    rw [e]; exact hown1
  · intro g hg
    obtain rfl : g' = g := by simpa [Value.ownBlock] using hg
    refine ⟨hgs, ?_⟩
    rcases hat with e | e
    · exact (h.apart _ e).2
    · omega
  · rcases hat with e | e
    · intro e'; subst e'; exact hr e
    · omega

theorem SR.pop {w0 w : World} {S n d g cap : Nat} {M : Nat → Bool} {st : List Nat} {x : Nat} (h : SR w0 w S n M (.slice (some ⟨g, 0, none⟩) (d + 1) cap) (d + 1) (st ++ [x])) :
    SR w0 w S n M (.slice (some ⟨g, 0, none⟩) d cap) d st ∧ w.cell? ⟨g, d, none⟩ = some (.int .i32 x) := by
  have hl : st.length = d := by have := h.len; simp at this; omega
  have hst : stv (st ++ [x]) = stv st ++ [.int .i32 x] := by simp [stv]
  have ho := h.own
  rw [hst] at ho
  refine ⟨⟨h.below, h.seen, ownsRow_pop (by simp [stv, hl]) ho, hl, fun k hk => h.apart k hk, h.sge⟩, ?_⟩
  have hc := ho.cells (g := g) rfl d (.int .i32 x) (by
    have : (stv st).length = d := by simp [stv, hl]
    rw [List.getElem?_append_right (by omega), this]; simp)
  rwa [add_plain, Nat.zero_add] at hc

theorem info38 : (Yba.prog.info? 38).map (fun i => (i.zero, i.size, i.bytes)) = some (some (.int .i32 0), 1, 4) := by kernel_rfl
theorem info4 : (Yba.prog.info? 4).map (fun i => (i.zero, i.size, i.bytes)) = some (some (.bool false), 1, 1) := by kernel_rfl

/-- The cells of 'make([]bool, n)'. -/
def brow (n : Nat) : Array Value := madeCells #[.bool false] n
theorem made_at (z : Value) (n i : Nat) (hi : i < n) : (madeCells #[z] n)[i]? = some z := by
  unfold madeCells
  rw [Array.getElem?_map, Array.getElem?_range, if_pos hi]
  simp [Nat.mod_one]
theorem make_bools (n : Nat) (hn : n ≤ 1000000) (w : World) : (Instr.makeSlice 56 (.int .i64 n) (.int .i64 n)).run Yba.prog w = .ok (.slice (some ⟨w.heap.size, 0, none⟩) n n) (w.alloc (.cells (brow n) 4)) := by
  obtain ⟨i, hi, he⟩ := Option.map_eq_some_iff.1 info4
  simp only [Prod.mk.injEq] at he
  obtain ⟨hz, hs, hb⟩ := he
  have h := run_make (P := Yba.prog) w 56 4 i _ Yba.underlying56 hi hz .i64 .i64 n n (by omega) (by omega) (by rw [hb]; omega) (by omega)
  rw [hs, Nat.mul_one, Int.toNat_natCast] at h
  exact h
theorem sn_made (w : World) (n : Nat) : Sn (w.alloc (.cells (brow n) 4)) w.heap.size n (fun _ => false) :=
  ⟨brow n, heap_alloc_new _ _, size_madeCells _ _, fun i hi => made_at _ n i hi⟩

/-- The cells of 'make([]tree, n)'. -/
def trow (n : Nat) : Array Value := madeCells #[.int .i32 0] n
theorem make_trees (n : Nat) (hn : n ≤ 1000000) (w : World) : (Instr.makeSlice 45 (.int .i64 n) (.int .i64 n)).run Yba.prog w = .ok (.slice (some ⟨w.heap.size, 0, none⟩) n n) (w.alloc (.cells (trow n) 38)) := by
  obtain ⟨i, hi, he⟩ := Option.map_eq_some_iff.1 info38
  simp only [Prod.mk.injEq] at he
  obtain ⟨hz, hs, hb⟩ := he
  have h := run_make (P := Yba.prog) w 45 38 i _ Yba.underlying45 hi hz .i64 .i64 n n (by omega) (by omega) (by rw [hb]; omega) (by omega)
  rw [hs, Nat.mul_one, Int.toNat_natCast] at h
  exact h
theorem mk_made (w : World) (n : Nat) : Mk (w.alloc (.cells (trow n) 38)) w.heap.size n (fun _ => false) :=
  ⟨trow n, heap_alloc_new _ _, size_madeCells _ _, fun i hi => by rw [if_neg (by simp)]; exact made_at _ n i hi⟩

/-- The roots that are handed in: a row of the caller's own. -/
def RootsAt (w : World) (R : Nat) (roots : List Nat) : Prop := ∀ (j t : Nat), roots[j]? = some t → w.cell? ⟨R, j, none⟩ = some (.int .i32 (t : Int))

structure Loop1 (w0 wr : World) (S n : Nat) (ns : List Nd) (roots : List Nat) (k d : Nat) (sv : Value) (M : Nat → Bool) (st : List Nat) : Prop where
  sr : SR w0 wr S n M sv d st
  se : Search ns roots n M st
  dn : ∀ (j t : Nat), j < k → roots[j]? = some t → t ≠ 0 → M t = true
  dc : d ≤ card M n

theorem Loop1.skip {w0 wr : World} {S n : Nat} {ns : List Nd} {roots : List Nat} {k d : Nat} {sv : Value} {M : Nat → Bool} {st : List Nat} (h : Loop1 w0 wr S n ns roots k d sv M st) {t : Nat} (ht : roots[k]? = some t) (hs : t = 0 ∨ M t = true) : Loop1 w0 wr S n ns roots (k + 1) d sv M st := by
  refine ⟨h.sr, h.se, fun j u hj hu h0 => ?_, h.dc⟩
  by_cases e : j = k
  · subst e
    obtain rfl : t = u := by rw [ht] at hu; exact Option.some.inj hu
    rcases hs with hs | hs
    · exact absurd hs h0
    · exact hs
  · exact h.dn j u (by omega) hu h0

theorem Loop1.push {w0 wr w1 : World} {S n : Nat} {ns : List Nd} {roots : List Nat} {k d : Nat} {sv sv' : Value} {M : Nat → Bool} {st : List Nat} (h : Loop1 w0 wr S n ns roots k d sv M st) {t : Nat} (ht : roots[k]? = some t) (h0 : t ≠ 0) (hlt : t < n) (hM : M t = false) (hsr : SR w0 w1 S n (put M t) sv' (d + 1) (st ++ [t])) : Loop1 w0 w1 S n ns roots (k + 1) (d + 1) sv' (put M t) (st ++ [t]) := by
  refine ⟨hsr, search_push h.se (rch_root (List.mem_of_getElem? ht) h0) h0 hlt, fun j u hj hu h0 => ?_, ?_⟩
  · by_cases e : j = k
    · subst e
      obtain rfl : t = u := by rw [ht] at hu; exact Option.some.inj hu
      exact put_self M t
    · exact put_of M (h.dn j u (by omega) hu h0)
  · rw [card_put M hM n hlt]; have := h.dc; omega

/-- .. of the second loop. -/
structure Loop2 (w0 wr : World) (S n : Nat) (ns : List Nd) (roots : List Nat) (g d : Nat) (sv : Value) (M : Nat → Bool) (st : List Nat) : Prop where
  sr : SR w0 wr S n M sv d st
  se : Search ns roots n M st
  rt : ∀ t ∈ roots, t ≠ 0 → M t = true
  dc : d ≤ card M n
  gh : g = 2 * (n - card M n) + d

/-- x popped, some of its children pushed. -/
structure Owe (w0 wr : World) (S n : Nat) (ns : List Nd) (roots : List Nat) (g x L d : Nat) (nd : Nd) (sv : Value) (M : Nat → Bool) (st : List Nat) : Prop where
  sr : SR w0 wr S n M sv d st
  ow : Owing ns roots n M st x
  rt : ∀ t ∈ roots, t ≠ 0 → M t = true
  dc : d ≤ card M n
  gh : 2 * (n - card M n) + d < g
  loc : wr.heap[L]? = some (.cells #[.int .i64 nd.v, .int .i32 nd.c, .int .i32 nd.lv, .int .i32 nd.l, .int .i32 nd.r] 68)
  lS : L ≠ S
  lg : ∀ k, sv.ownBlock = some k → k ≠ L

theorem Owe.push {w0 wr w1 : World} {S n : Nat} {ns : List Nd} {roots : List Nat} {g x L d t : Nat} {nd : Nd} {sv : Value} {M : Nat → Bool} {st : List Nat} (h : Owe w0 wr S n ns roots g x L d nd sv M st) (ht : Rch ns roots t) (h0 : t ≠ 0) (hlt : t < n) (hM : M t = false) {c : Obj} {g' cap' : Nat}
    (hown1 : w1.ownsRow 0 38 1 (.slice (some ⟨g', 0, none⟩) (d + 1) cap') (d + 1) (stv st ++ [.int .i32 t])) (hgrow : World.grownBy ((wr.setCell ⟨S, t, none⟩ (.bool true)).alloc c) w1 sv.ownBlock) (hat : sv.ownBlock = some g' ∨ g' = wr.heap.size + 1) :
    Owe w0 w1 S n ns roots g x L (d + 1) nd (.slice (some ⟨g', 0, none⟩) (d + 1) cap') (put M t) (st ++ [t]) := by
  obtain ⟨hsr, hfar⟩ := h.sr.push hown1 hgrow hat
  obtain ⟨hl1, hl2⟩ := hfar L (lt_of_heap h.loc) h.lS (fun e => h.lg L e rfl)
  have hcp := card_put M hM n hlt
  have hle := card_le (put M t) n
  refine ⟨hsr, owing_push h.ow ht h0 hlt, fun u hu hu0 => put_of M (h.rt u hu hu0), by have := h.dc; omega, by have := h.gh; omega, hl1.trans h.loc, h.lS, fun k hk => ?_⟩
  obtain rfl : g' = k := by simpa [Value.ownBlock] using hk
  exact hl2

/-- The children of a reached node are reached. -/
theorem owe_child {w0 wr : World} {S n : Nat} {ns : List Nd} {roots : List Nat} {g x L d : Nat} {nd : Nd} {sv : Value} {M : Nat → Bool} {st : List Nat} (h : Owe w0 wr S n ns roots g x L d nd sv M st) (hn : ns[x]? = some nd) : (nd.l ≠ 0 → Rch ns roots nd.l) ∧ (nd.r ≠ 0 → Rch ns roots nd.r) :=
  rch_closed ns roots x nd (h.ow.reached x h.ow.top) hn

theorem row_cap {w : World} {e : TypeId} {size g n cap : Nat} {xs : List Value} (h : w.ownsRow 0 e size (.slice (some ⟨g, 0, none⟩) n cap) n xs) : n ≤ cap := by
  rcases h.2 with ⟨e, _⟩ | ⟨g', cap', cur, e, _, _, h1, _⟩
  · cases e
  · obtain ⟨rfl, rfl⟩ : g = g' ∧ cap = cap' := by simpa using e
    exact h1
theorem size_set_alloc (w : World) (a : Addr) (v : Value) (c : Obj) : ((w.setCell a v).alloc c).heap.size = w.heap.size + 1 := by rw [World.size_alloc]; simp [World.setCell]
theorem news_set (w : World) (a : Addr) (v u : Value) (e : TypeId) : ∀ (j : Nat) (x : Value), [u][j]? = some x → ((w.setCell a v).alloc (.cells #[u] e)).cell? ((⟨w.heap.size, 0, none⟩ : Addr).add j) = some x := by
  have h : ((w.setCell a v).alloc (.cells #[u] e)).heap[w.heap.size]? = some (.cells #[u] e (0, 0)) := by
    have := heap_alloc_new (w.setCell a v) (.cells #[u] e)
    rwa [show (w.setCell a v).heap.size = w.heap.size by simp [World.setCell]] at this
  exact World.news_of_block h

set_option maxRecDepth 100000 in
set_option maxHeartbeats 2000000 in
theorem reach_any (w : World) (F R m cap : Nat) (bs : List Nat) (ns : List Nd) (roots : List Nat) (hf : Fo w F bs ns) (hR : RootsAt w R roots) (hm : roots.length = m) (hm2 : m ≤ 2) (hrl : ∀ t ∈ roots, t < ns.length) :
    Calls Yba.prog 13 #[.pointer (some ⟨F, 0, none⟩), .slice (some ⟨R, 0, none⟩) m cap, .int .i64 ns.length] w fun e w' => ∃ (M : Nat → Bool), e = .returned (.slice (some ⟨w.heap.size, 0, none⟩) ns.length ns.length) ∧ Sn w' w.heap.size ns.length M ∧ (∀ x, M x = true ↔ Rch ns roots x) ∧ Below w.heap.size w w' := by
  obtain ⟨i, hi, he⟩ := Option.map_eq_some_iff.1 info38
  simp only [Prod.mk.injEq] at he
  obtain ⟨hz, hs', hby⟩ := he
  have HI := hide hi
  have HZ := hide hz
  have HS := hide hs'
  have HBy := hide hby
  clear hi hz hs' hby
  have hfew := hf.few
  have hmk := make_bools ns.length hfew
  have HF := hide hf
  have HRt := hide hR
  have Hm := hide hm
  have Hrl := hide hrl
  have hdown := hide hf.down
  clear hf hR hm hrl
  have q0 : (ns.length : Int) ≤ 1000000 := by omega
  have qm : (m : Int) ≤ 2 := by omega
  go_enter Yba.func13, Yba.ntmps13
  go_wp2
  go_loopw [8, 17] (fun s8 s17 wr => ∃ (k d : Nat) (sa : Option Addr) (sc : Nat) (M : Nat → Bool) (st : List Nat), s17 = .int .i64 k ∧ s8 = .slice sa d sc ∧ k ≤ m ∧ Loop1 w wr w.heap.size ns.length ns roots k d (.slice sa d sc) M st) (fun _ s17 _ => m - (intOf s17).toNat)
  case atStart =>
    refine ⟨0, 0, none, 0, fun _ => false, [], rfl, rfl, Nat.zero_le _, ⟨⟨(Below.refl _ _).alloc (Nat.le_refl _) _, sn_made w _, World.ownsRow_nil _ 0 38 1, rfl, (fun g hg => by cases hg), Nat.le_refl _⟩, ⟨(fun x hx => by cases hx), (fun x hx => by simp at hx), (fun y nd hy => by cases hy)⟩, (fun j t hj => by omega), Nat.zero_le _⟩⟩
  case round =>
    obtain ⟨k, d, sa, sc, M, st, rfl, rfl, hk, hl1⟩ := hrel
    have q1 : (0 : Int) ≤ (k : Int) := by omega
    by_cases hkm : k < m
    · have q2 : (k : Int) < (m : Int) := by omega
      obtain ⟨t, ht⟩ : ∃ t, roots[k]? = some t := ⟨_, List.getElem?_eq_getElem (by have := unhide Hm; omega)⟩
      have htn := unhide Hrl t (List.mem_of_getElem? ht)
      have hcR := unhide HRt k t ht
      have hcR' : wr.cell? ⟨R, k, none⟩ = some (.int .i32 t) := by rw [hl1.sr.below.cell (World.block_lt_of_cell? w _ hcR)]; exact hcR
      have q3 : (0 : Int) ≤ (t : Int) := by omega
      have q4 : (t : Int) < (ns.length : Int) := by omega
      have hseen := hl1.sr.seen.cell (i := t) htn
      have hfz := hl1.sr.seen.frozen t
      have HL := hide hl1
      have HT := hide ht
      clear hcR
      by_cases h0 : t = 0
      · subst h0
        clear hl1 ht
        go_wp2
        go_roundw
        case rel => exact ⟨k + 1, d, sa, sc, M, st, by go_num, rfl, by omega, (unhide HL).skip (unhide HT) (.inl rfl)⟩
        case measure => simp [intOf]; omega
      have hb0 : ((t : Int) != 0) = true := by rw [bne_iff_ne]; omega
      cases hM : M t with
      | true =>
        rw [hM] at hseen
        have HM := hide hM
        clear hl1 ht hM
        go_wp2
        go_roundw
        case rel => exact ⟨k + 1, d, sa, sc, M, st, by go_num, rfl, by omega, (unhide HL).skip (unhide HT) (.inr (unhide HM))⟩
        case measure => simp [intOf]; omega
      | false =>
        rw [hM] at hseen
        have HM := hide hM
        have hdl : d ≤ 1000000 := by have := hl1.dc; have := card_le M ns.length; omega
        clear hl1 ht hM
        go_wp2_with (at_builtin; refine wpList_append_lies _ rfl _ _ _ rfl 0 38 i _ 1 4 Yba.underlying45 (unhide HI) (unhide HZ) (unhide HS) (unhide HBy) rfl (by omega) (.slice sa d sc) d (stv st) rfl (by exact (ownsRow_kept (unhide HL).sr.own (fun k hk => Below.heap_setCell _ _ _ _ ((unhide HL).sr.apart k hk).1)).alloc _) ⟨wr.heap.size, 0, none⟩ 1 1 [.int .i32 t] rfl rfl (by exact news_set wr _ _ _ _) (by simp [Value.oneCell']) (by omega) (by unfold maxLen; omega) (by omega) (by omega) (wr.heap.size + 1) (by exact size_set_alloc wr _ _ _) ?_; intro g' cap' w1 hown1 hgrow hat hlt1)
        exact ⟨⟨k + 1, d + 1, _, _, put M t, st ++ [t], by go_num, rfl, by omega, (unhide HL).push (unhide HT) h0 htn (unhide HM) ((unhide HL).sr.push hown1 hgrow hat).1⟩, by simp [intOf]; omega⟩
    · have hkm' : k = m := by omega
      have hrt : ∀ t ∈ roots, t ≠ 0 → M t = true := fun t ht h0 => by
        obtain ⟨j, hj⟩ := List.getElem?_of_mem ht
        exact hl1.dn j t (by have := (List.getElem?_eq_some_iff.1 hj).1; have := unhide Hm; omega) hj h0
      have L20 : Loop2 w wr w.heap.size ns.length ns roots (2 * (ns.length - card M ns.length) + d) d (.slice sa d sc) M st := ⟨hl1.sr, hl1.se, hrt, hl1.dc, rfl⟩
      have HL2 := hide L20
      have Hkm := hide hkm'
      have q2 : ¬ (k : Int) < (m : Int) := by omega
      clear hl1 hrt L20 hkm'
      go_wp2
      go_loopg [8] (2 * (ns.length - card M ns.length) + d) (fun g s8 wx => ∃ (d : Nat) (sa : Option Addr) (sc : Nat) (M : Nat → Bool) (st : List Nat), s8 = .slice sa d sc ∧ Loop2 w wx w.heap.size ns.length ns roots g d (.slice sa d sc) M st)
      case atStart => exact ⟨d, sa, sc, M, st, rfl, unhide HL2⟩
      case round =>
        clear HL2
        obtain ⟨d2, sa2, sc2, M2, st2, rfl, h2⟩ := hrel
        rcases List.eq_nil_or_concat st2 with rfl | ⟨st3, x, hst⟩
        · obtain rfl : d2 = 0 := by have := h2.sr.len; simpa using this.symm
          go_wp2
          go_ret
          exact ⟨M2, rfl, h2.sr.seen, search_end h2.se h2.rt, h2.sr.below⟩
        rw [List.concat_eq_append] at hst
        subst hst
        obtain ⟨d3, rfl⟩ : ∃ d3, d2 = d3 + 1 := ⟨st3.length, by have := h2.sr.len; simp at this; omega⟩
        obtain ⟨g, cap3, hv, _, _⟩ := h2.sr.own.form (by omega)
        obtain ⟨rfl, rfl⟩ : sa2 = some ⟨g, 0, none⟩ ∧ sc2 = cap3 := by simpa using hv
        obtain ⟨hsr3, hcx⟩ := h2.sr.pop
        obtain ⟨hMx, hx0, hxn⟩ := h2.se.on x (by simp)
        obtain ⟨nd, hnd⟩ : ∃ nd, ns[x]? = some nd := ⟨_, List.getElem?_eq_getElem hxn⟩
        have hdl := (unhide hdown x nd hnd).1
        have hdr := (unhide hdown x nd hnd).2
        have HAt := hide (((unhide HF).below h2.sr.below).at_ hnd)
        unfold ndVal at HAt
        have hd3 : d3 ≤ 1000000 := by have := h2.dc; have := card_le M2 ns.length; omega
        have q3 : (d3 : Int) ≤ 1000000 := by omega
        have hcap := row_cap h2.sr.own
        have q8 : (d3 : Int) ≤ (sc2 : Int) := by omega
        have H2 := hide h2
        have HS3 := hide hsr3
        have HND := hide hnd
        clear hv h2 hsr3 hnd hMx
        go_wp2_with fail
        refine (unhide HAt).mono ?_
        rintro e w1 ⟨rfl, hb1⟩
        have hb2 : Below wr.heap.size wr (w1.alloc (.cells #[.int .i64 nd.v, .int .i32 nd.c, .int .i32 nd.lv, .int .i32 nd.l, .int .i32 nd.r] 68)) := hb1.alloc hb1.size _
        have hSl := (unhide HS3).seen.lt
        have hLS : w1.heap.size ≠ w.heap.size := by have := hb1.size; omega
        have ow0 : Owe w (w1.alloc (.cells #[.int .i64 nd.v, .int .i32 nd.c, .int .i32 nd.lv, .int .i32 nd.l, .int .i32 nd.r] 68)) w.heap.size ns.length ns roots gk x w1.heap.size d3 nd (.slice (some ⟨g, 0, none⟩) d3 sc2) M2 st3 :=
          ⟨(unhide HS3).grow hb2, search_pop (unhide H2).se, (unhide H2).rt, by have := (unhide H2).dc; omega, by have := (unhide H2).gh; omega, heap_alloc_new _ _, hLS, fun k hk => by have := ((unhide HS3).own.lt k hk).2; have := hb1.size; omega⟩
        have OW0 := hide ow0
        have hnl : nd.l < ns.length := by omega
        have hnr : nd.r < ns.length := by omega
        have q4 : (0 : Int) ≤ (nd.l : Int) := by omega
        have q5 : (nd.l : Int) < (ns.length : Int) := by omega
        have q6 : (0 : Int) ≤ (nd.r : Int) := by omega
        have q7 : (nd.r : Int) < (ns.length : Int) := by omega
        have hLS' : w.heap.size ≠ w1.heap.size := Ne.symm hLS
        clear hb1 hb2 ow0 hcx
        go_upto_region 14 with fail
        obtain ⟨w2, hw2⟩ : ∃ w2, w2 = w1.alloc (.cells #[.int .i64 nd.v, .int .i32 nd.c, .int .i32 nd.lv, .int .i32 nd.l, .int .i32 nd.r] 68) := ⟨_, rfl⟩
        rw [← hw2]
        rw [← hw2] at OW0
        clear hw2
        have hsl := (unhide OW0).sr.seen.cell (i := nd.l) hnl
        have hfl := (unhide OW0).sr.seen.frozen nd.l
        obtain ⟨x0, x1, x3, x4⟩ := local_cells (unhide OW0).loc
        by_cases hl0 : nd.l = 0
        · have hbl : ((nd.l : Int) != 0) = false := by rw [hl0]; rfl
          have HL0 := hide hl0
          clear hl0
          go_upto_region 17 with fail
          have r3 := (unhide OW0).sr.seen.cell (i := nd.r) hnr
          have rf := (unhide OW0).sr.seen.frozen nd.r
          obtain ⟨y0, y1, y3, y4⟩ := local_cells (unhide OW0).loc
          by_cases h0 : nd.r = 0
          · have hb0 : ((nd.r : Int) != 0) = false := by rw [h0]; rfl
            have H0 := hide h0
            clear h0
            go_wp2
            go_roundg (2 * (ns.length - card (M2) ns.length) + d3)
            case measure => exact (unhide OW0).gh
            case rel => exact ⟨d3, _, _, M2, st3, rfl, ⟨(unhide OW0).sr, owing_paid (unhide OW0).ow (unhide HND) (fun h => absurd (unhide HL0) h) (fun h => absurd (unhide H0) h), (unhide OW0).rt, (unhide OW0).dc, rfl⟩⟩
          have hb0 : ((nd.r : Int) != 0) = true := by rw [bne_iff_ne]; omega
          cases hM : (M2) nd.r with
          | true =>
            rw [hM] at r3
            have HM := hide hM
            clear hM
            go_wp2
            go_roundg (2 * (ns.length - card (M2) ns.length) + d3)
            case measure => exact (unhide OW0).gh
            case rel => exact ⟨d3, _, _, M2, st3, rfl, ⟨(unhide OW0).sr, owing_paid (unhide OW0).ow (unhide HND) (fun h => absurd (unhide HL0) h) (fun _ => unhide HM), (unhide OW0).rt, (unhide OW0).dc, rfl⟩⟩
          | false =>
            rw [hM] at r3
            have HM := hide hM
            clear hM
            go_wp2_with (at_builtin; refine wpList_append_lies _ rfl _ _ _ rfl 0 38 i _ 1 4 Yba.underlying45 (unhide HI) (unhide HZ) (unhide HS) (unhide HBy) rfl (by omega) (.slice (some ⟨g, 0, none⟩) d3 sc2) d3 (stv (st3)) rfl (by exact (ownsRow_kept (unhide OW0).sr.own (fun k hk => Below.heap_setCell _ _ _ _ ((unhide OW0).sr.apart k hk).1)).alloc _) ⟨w2.heap.size, 0, none⟩ 1 1 [.int .i32 nd.r] rfl rfl (by exact news_set w2 _ _ _ _) (by simp [Value.oneCell']) (by omega) (by unfold maxLen; omega) (by omega) (by omega) (w2.heap.size + 1) (by exact size_set_alloc w2 _ _ _) ?_; intro gR capR wR hownR hgrowR hatR hltR)
            have owR := (unhide OW0).push ((owe_child (unhide OW0) (unhide HND)).2 h0) h0 hnr (unhide HM) hownR hgrowR hatR
            go_roundg (2 * (ns.length - card (put (M2) nd.r) ns.length) + (d3 + 1))
            case measure => exact owR.gh
            case rel => exact ⟨d3 + 1, _, _, put (M2) nd.r, (st3) ++ [nd.r], rfl, ⟨owR.sr, owing_paid owR.ow (unhide HND) (fun h => absurd (unhide HL0) h) (fun _ => put_self _ _), owR.rt, owR.dc, rfl⟩⟩
        have hbl : ((nd.l : Int) != 0) = true := by rw [bne_iff_ne]; omega
        cases hMl : M2 nd.l with
        | true =>
          rw [hMl] at hsl
          have HMl := hide hMl
          clear hMl
          go_upto_region 17 with fail
          have r3 := (unhide OW0).sr.seen.cell (i := nd.r) hnr
          have rf := (unhide OW0).sr.seen.frozen nd.r
          obtain ⟨y0, y1, y3, y4⟩ := local_cells (unhide OW0).loc
          by_cases h0 : nd.r = 0
          · have hb0 : ((nd.r : Int) != 0) = false := by rw [h0]; rfl
            have H0 := hide h0
            clear h0
            go_wp2
            go_roundg (2 * (ns.length - card (M2) ns.length) + d3)
            case measure => exact (unhide OW0).gh
            case rel => exact ⟨d3, _, _, M2, st3, rfl, ⟨(unhide OW0).sr, owing_paid (unhide OW0).ow (unhide HND) (fun _ => unhide HMl) (fun h => absurd (unhide H0) h), (unhide OW0).rt, (unhide OW0).dc, rfl⟩⟩
          have hb0 : ((nd.r : Int) != 0) = true := by rw [bne_iff_ne]; omega
          cases hM : (M2) nd.r with
          | true =>
            rw [hM] at r3
            have HM := hide hM
            clear hM
            go_wp2
            go_roundg (2 * (ns.length - card (M2) ns.length) + d3)
            case measure => exact (unhide OW0).gh
            case rel => exact ⟨d3, _, _, M2, st3, rfl, ⟨(unhide OW0).sr, owing_paid (unhide OW0).ow (unhide HND) (fun _ => unhide HMl) (fun _ => unhide HM), (unhide OW0).rt, (unhide OW0).dc, rfl⟩⟩
          | false =>
            rw [hM] at r3
            have HM := hide hM
            clear hM
            go_wp2_with (at_builtin; refine wpList_append_lies _ rfl _ _ _ rfl 0 38 i _ 1 4 Yba.underlying45 (unhide HI) (unhide HZ) (unhide HS) (unhide HBy) rfl (by omega) (.slice (some ⟨g, 0, none⟩) d3 sc2) d3 (stv (st3)) rfl (by exact (ownsRow_kept (unhide OW0).sr.own (fun k hk => Below.heap_setCell _ _ _ _ ((unhide OW0).sr.apart k hk).1)).alloc _) ⟨w2.heap.size, 0, none⟩ 1 1 [.int .i32 nd.r] rfl rfl (by exact news_set w2 _ _ _ _) (by simp [Value.oneCell']) (by omega) (by unfold maxLen; omega) (by omega) (by omega) (w2.heap.size + 1) (by exact size_set_alloc w2 _ _ _) ?_; intro gR capR wR hownR hgrowR hatR hltR)
            have owR := (unhide OW0).push ((owe_child (unhide OW0) (unhide HND)).2 h0) h0 hnr (unhide HM) hownR hgrowR hatR
            go_roundg (2 * (ns.length - card (put (M2) nd.r) ns.length) + (d3 + 1))
            case measure => exact owR.gh
            case rel => exact ⟨d3 + 1, _, _, put (M2) nd.r, (st3) ++ [nd.r], rfl, ⟨owR.sr, owing_paid owR.ow (unhide HND) (fun _ => put_of _ (unhide HMl)) (fun _ => put_self _ _), owR.rt, owR.dc, rfl⟩⟩
        | false =>
          rw [hMl] at hsl
          have HMl := hide hMl
          clear hMl
          go_upto_region 17 with (at_builtin; refine wpList_append_lies _ rfl _ _ _ rfl 0 38 i _ 1 4 Yba.underlying45 (unhide HI) (unhide HZ) (unhide HS) (unhide HBy) rfl (by omega) (.slice (some ⟨g, 0, none⟩) d3 sc2) d3 (stv (st3)) rfl (by exact (ownsRow_kept (unhide OW0).sr.own (fun k hk => Below.heap_setCell _ _ _ _ ((unhide OW0).sr.apart k hk).1)).alloc _) ⟨w2.heap.size, 0, none⟩ 1 1 [.int .i32 nd.l] rfl rfl (by exact news_set w2 _ _ _ _) (by simp [Value.oneCell']) (by omega) (by unfold maxLen; omega) (by omega) (by omega) (w2.heap.size + 1) (by exact size_set_alloc w2 _ _ _) ?_; intro gL capL wL hownL hgrowL hatL hltL)
          have owL := (unhide OW0).push ((owe_child (unhide OW0) (unhide HND)).1 hl0) hl0 hnl (unhide HMl) hownL hgrowL hatL
          have OWL := hide owL
          clear owL hownL hgrowL hatL hltL x0 x1 x3 x4 hsl hfl
          have r3 := (unhide OWL).sr.seen.cell (i := nd.r) hnr
          have rf := (unhide OWL).sr.seen.frozen nd.r
          obtain ⟨y0, y1, y3, y4⟩ := local_cells (unhide OWL).loc
          by_cases h0 : nd.r = 0
          · have hb0 : ((nd.r : Int) != 0) = false := by rw [h0]; rfl
            have H0 := hide h0
            clear h0
            go_wp2
            go_roundg (2 * (ns.length - card (put M2 nd.l) ns.length) + (d3 + 1))
            case measure => exact (unhide OWL).gh
            case rel => exact ⟨(d3 + 1), _, _, put M2 nd.l, st3 ++ [nd.l], rfl, ⟨(unhide OWL).sr, owing_paid (unhide OWL).ow (unhide HND) (fun _ => put_self _ _) (fun h => absurd (unhide H0) h), (unhide OWL).rt, (unhide OWL).dc, rfl⟩⟩
          have hb0 : ((nd.r : Int) != 0) = true := by rw [bne_iff_ne]; omega
          cases hM : (put M2 nd.l) nd.r with
          | true =>
            rw [hM] at r3
            have HM := hide hM
            clear hM
            go_wp2
            go_roundg (2 * (ns.length - card (put M2 nd.l) ns.length) + (d3 + 1))
            case measure => exact (unhide OWL).gh
            case rel => exact ⟨(d3 + 1), _, _, put M2 nd.l, st3 ++ [nd.l], rfl, ⟨(unhide OWL).sr, owing_paid (unhide OWL).ow (unhide HND) (fun _ => put_self _ _) (fun _ => unhide HM), (unhide OWL).rt, (unhide OWL).dc, rfl⟩⟩
          | false =>
            rw [hM] at r3
            have HM := hide hM
            clear hM
            go_wp2_with (at_builtin; refine wpList_append_lies _ rfl _ _ _ rfl 0 38 i _ 1 4 Yba.underlying45 (unhide HI) (unhide HZ) (unhide HS) (unhide HBy) rfl (by omega) (.slice (some ⟨gL, 0, none⟩) (d3 + 1) capL) (d3 + 1) (stv (st3 ++ [nd.l])) rfl (by exact (ownsRow_kept (unhide OWL).sr.own (fun k hk => Below.heap_setCell _ _ _ _ ((unhide OWL).sr.apart k hk).1)).alloc _) ⟨wL.heap.size, 0, none⟩ 1 1 [.int .i32 nd.r] rfl rfl (by exact news_set wL _ _ _ _) (by simp [Value.oneCell']) (by omega) (by unfold maxLen; omega) (by omega) (by omega) (wL.heap.size + 1) (by exact size_set_alloc wL _ _ _) ?_; intro gR capR wR hownR hgrowR hatR hltR)
            have owR := (unhide OWL).push ((owe_child (unhide OWL) (unhide HND)).2 h0) h0 hnr (unhide HM) hownR hgrowR hatR
            go_roundg (2 * (ns.length - card (put (put M2 nd.l) nd.r) ns.length) + ((d3 + 1) + 1))
            case measure => exact owR.gh
            case rel => exact ⟨(d3 + 1) + 1, _, _, put (put M2 nd.l) nd.r, (st3 ++ [nd.l]) ++ [nd.r], rfl, ⟨owR.sr, owing_paid owR.ow (unhide HND) (fun _ => put_of _ (put_self _ _)) (fun _ => put_self _ _), owR.rt, owR.dc, rfl⟩⟩
end Go.Proofs.Ybulkcjmy
