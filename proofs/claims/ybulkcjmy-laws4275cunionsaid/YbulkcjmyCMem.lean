import Derived.Test.YbulkcjmyProg
import Derived.Test.YbulkcjmyCPlain
import Derived.WalkKit
import Derived.WalkSpells
import Derived.ProofKit
import Derived.OpenShut
import Derived.Deep.QuietTactic
import Derived.BigQuiet
import Derived.BigRegion
import Derived.Laws.MakeOwn
import Derived.Deep.AppendLies
import Derived.Deep.RegionHeld3
namespace Go.Proofs.Ybulkcjmy
open Go.ChangeShapes Go.WideShapes Go.ChangeAt Go.RowKit


theorem hide {p : Prop} (h : p) : Hid p := h
theorem unhide {p : Prop} (h : Hid p) : p := h

theorem add_plain (b o j : Nat) : (⟨b, o, none⟩ : Addr).add j = ⟨b, o + j, none⟩ := by unfold Addr.add; split <;> simp_all
theorem cell_of_heap {w : World} {b i : Nat} {cs : Array Value} {t : TypeId} {fz : Nat × Nat} (h : w.heap[b]? = some (.cells cs t fz)) : w.cell? ⟨b, i, none⟩ = cs[i]? := by
  simp [World.cell?, h]
theorem frozen_of_heap {w : World} {b i : Nat} {cs : Array Value} {t : TypeId} (h : w.heap[b]? = some (.cells cs t (0, 0))) : w.frozen? ⟨b, i, none⟩ = false := by
  simp [World.frozen?, h]
theorem lt_of_heap {w : World} {b : Nat} {o : Obj} (h : w.heap[b]? = some o) : b < w.heap.size := (Array.getElem?_eq_some_iff.1 h).1
theorem heap_setCell_at {w : World} {b o : Nat} {v : Value} {cs : Array Value} {t : TypeId} {fz : Nat × Nat} (h : w.heap[b]? = some (.cells cs t fz)) : (w.setCell ⟨b, o, none⟩ v).heap[b]? = some (.cells (cs.setIfInBounds o v) t fz) := by
  simp only [World.setCell, Array.getElem?_modify, if_pos, h]
  rfl

/-! ### Nodes in memory -/
def ndCells (nd : Nd) : List Value := [.int .i64 nd.v, .int .i32 nd.c, .int .i32 nd.lv, .int .i32 nd.l, .int .i32 nd.r]
def ndVal (nd : Nd) : Value := .agg #[.int .i64 nd.v, .int .i32 nd.c, .int .i32 nd.lv, .int .i32 nd.l, .int .i32 nd.r]
theorem ndCells_length (nd : Nd) : (ndCells nd).length = 5 := rfl

/-- The nodes of block b of the pile. -/
def grp (ns : List Nd) (b : Nat) : List Nd := (ns.drop (b * 65536)).take 65536
def flat (l : List Nd) : List Value := l.flatMap ndCells

theorem flat_length (l : List Nd) : (flat l).length = l.length * 5 := by
  induction l with
  | nil => rfl
  | cons a l ih => simp only [flat, List.flatMap_cons, List.length_append, ndCells_length, List.length_cons] at *; omega
theorem flat_append (a b : List Nd) : flat (a ++ b) = flat a ++ flat b := by simp [flat]
theorem flat_at {l : List Nd} {j k : Nat} {nd : Nd} (h : l[j]? = some nd) (hk : k < 5) : (flat l)[j * 5 + k]? = (ndCells nd)[k]? := by
  induction l generalizing j with
  | nil => simp at h
  | cons a l ih =>
    have e : flat (a :: l) = ndCells a ++ flat l := rfl
    rw [e]
    cases j with
    | zero =>
      obtain rfl : a = nd := by simpa using h
      rw [List.getElem?_append_left (by simp [ndCells_length]; omega)]
      simp
    | succ j =>
      rw [List.getElem?_append_right (by simp [ndCells_length]; omega), ndCells_length]
      have := ih (j := j) (by simpa using h)
      rw [← this]
      congr 1
      omega

theorem grp_at {ns : List Nd} {i : Nat} {nd : Nd} (h : ns[i]? = some nd) : (grp ns (i / 65536))[i % 65536]? = some nd := by
  unfold grp
  rw [List.getElem?_take, if_pos (by omega), List.getElem?_drop]
  rw [show i / 65536 * 65536 + i % 65536 = i by omega]
  exact h
theorem grp_length (ns : List Nd) (b : Nat) : (grp ns b).length = min 65536 (ns.length - b * 65536) := by
  simp [grp]

/-- The cells of the forest's struct. -/
def fCells (O nb ocap n M : Nat) : Array Value := #[.slice (some ⟨O, 0, none⟩) nb ocap, .int .i64 n, .map (some M), .slice none 0 0, .slice none 0 0, .slice none 0 0, .slice none 0 0, .slice none 0 0, .slice none 0 0, .slice none 0 0, .slice none 0 0, .slice none 0 0, .slice none 0 0, .slice none 0 0, .slice none 0 0]

/-- What the table of made nodes says: each entry names a node that lies at its number. -/
def MapOk (es : List MapEntry) (ns : List Nd) : Prop := ∀ e ∈ es, ∃ (t : Nat) (nd : Nd), e.key = ndVal nd ∧ e.val = .int .i32 t ∧ 1 ≤ t ∧ ns[t]? = some nd

/-- A PILE IN MEMORY: the struct at block F, its table's block M, the outer row at O with the headers hs, the nodes of block b: gr b. -/
structure PQ (w : World) (F M O ocap n : Nat) (hs : List Value) (gr : Nat → List Nd) : Prop where
  f : w.heap[F]? = some (.cells (fCells O hs.length ocap n M) 54 (0, 0))
  outer : w.ownsRow 0 79 1 (.slice (some ⟨O, 0, none⟩) hs.length ocap) hs.length hs
  inner : ∀ (b : Nat) (h : Value), hs[b]? = some h → w.ownsRow 0 68 5 h (gr b).length (flat (gr b))
  nodup : (F :: M :: O :: hs.filterMap Value.ownBlock).Nodup

/-- THE FOREST IN MEMORY. -/
structure For (w : World) (F M O ocap : Nat) (hs : List Value) (ns : List Nd) : Prop where
  pq : PQ w F M O ocap ns.length hs (grp ns)
  map : ∃ es clock, w.heap[M]? = some (.map es clock) ∧ MapOk es.toList ns
  count : hs.length = (ns.length + 65535) / 65536
  some1 : 1 ≤ ns.length
  few : ns.length ≤ 1000000

/-- Of the blocks that lay there before, only those of bs may have turned; bs' holds blocks of bs and new ones alone. -/
structure Step (bs : List Nat) (w : World) (bs' : List Nat) (w' : World) : Prop where
  os : w'.os = w.os
  tape : w'.tape = w.tape
  output : w'.output = w.output
  size : w.heap.size ≤ w'.heap.size
  block : ∀ k, k < w.heap.size → k ∉ bs → w'.heap[k]? = w.heap[k]?
  from_ : ∀ k ∈ bs', k ∈ bs ∨ w.heap.size ≤ k

theorem Step.refl (bs : List Nat) (w : World) : Step bs w bs w := ⟨rfl, rfl, rfl, Nat.le_refl _, fun _ _ _ => rfl, fun _ h => .inl h⟩
theorem Step.trans {a b c : List Nat} {w w1 w2 : World} (h : Step a w b w1) (k : Step b w1 c w2) : Step a w c w2 := by
  refine ⟨k.os.trans h.os, k.tape.trans h.tape, k.output.trans h.output, Nat.le_trans h.size k.size, fun i hi hn => ?_, fun i hi => ?_⟩
  · have h1 : i ∉ b := fun hb => by
      rcases h.from_ i hb with h' | h'
      · exact hn h'
      · omega
    exact (k.block i (Nat.lt_of_lt_of_le hi h.size) h1).trans (h.block i hi hn)
  · rcases k.from_ i hi with h' | h'
    · exact h.from_ i h'
    · exact .inr (Nat.le_trans h.size h')
/-- All old blocks are as they were. -/
theorem Step.grow {bs : List Nat} {w w' : World} (h : Below w.heap.size w w') : Step bs w bs w' := ⟨h.os, h.tape, h.output, h.size, fun k hk _ => h.block k hk, fun _ h => .inl h⟩
theorem Step.alloc (bs : List Nat) (w : World) (o : Obj) : Step bs w bs (w.alloc o) := Step.grow ((Below.refl _ _).alloc (Nat.le_refl _) o)
theorem Step.drewN (bs : List Nat) (w : World) (n : Nat) : Step bs w bs (w.drewN n) := ⟨rfl, rfl, rfl, Nat.le_refl _, fun _ _ _ => rfl, fun _ h => .inl h⟩
theorem Step.drew (bs : List Nat) (w : World) : Step bs w bs w.drew := ⟨rfl, rfl, rfl, Nat.le_refl _, fun _ _ _ => rfl, fun _ h => .inl h⟩

def bsOf (F M O : Nat) (hs : List Value) : List Nat := F :: M :: O :: hs.filterMap Value.ownBlock

theorem mem_bs {F M O k b : Nat} {hs : List Value} {h : Value} (hb : hs[b]? = some h) (hk : h.ownBlock = some k) : k ∈ bsOf F M O hs := by
  simp only [bsOf, List.mem_cons, List.mem_filterMap]
  exact .inr (.inr (.inr ⟨h, List.mem_of_getElem? hb, hk⟩))

theorem PQ.lt {w : World} {F M O ocap n : Nat} {hs : List Value} {gr : Nat → List Nd} (h : PQ w F M O ocap n hs gr) (hM : M < w.heap.size) : ∀ k ∈ bsOf F M O hs, k < w.heap.size := by
  intro k hk
  simp only [bsOf, List.mem_cons, List.mem_filterMap] at hk
  rcases hk with rfl | rfl | rfl | ⟨v, hv, hk⟩
  · exact lt_of_heap h.f
  · exact hM
  · exact (h.outer.lt k rfl).2
  · obtain ⟨b, hb⟩ := List.getElem?_of_mem hv
    exact ((h.inner b v hb).lt k hk).2

theorem ownsRow_kept {w w' : World} {e : TypeId} {size : Nat} {v : Value} {n : Nat} {xs : List Value} (h : w.ownsRow 0 e size v n xs) (hb : ∀ k, v.ownBlock = some k → w'.heap[k]? = w.heap[k]?) : w'.ownsRow 0 e size v n xs := by
  refine ⟨h.1, ?_⟩
  rcases h.2 with hn | ⟨g, cap, cur, rfl, h0, hg, rest⟩
  · exact .inl hn
  · exact .inr ⟨g, cap, cur, rfl, h0, by rw [hb g rfl]; exact hg, rest⟩

/-- The pile lies on where its blocks are as they were. -/
theorem PQ.kept {w w' : World} {F M O ocap n : Nat} {hs : List Value} {gr : Nat → List Nd} (h : PQ w F M O ocap n hs gr) (hb : ∀ k ∈ bsOf F M O hs, w'.heap[k]? = w.heap[k]?) : PQ w' F M O ocap n hs gr := by
  refine ⟨?_, ?_, ?_, h.nodup⟩
  · rw [hb F (by simp [bsOf])]; exact h.f
  · exact ownsRow_kept h.outer fun k hk => by
      obtain rfl : O = k := by simpa [Value.ownBlock] using hk
      exact hb O (by simp [bsOf])
  · intro b v hv
    exact ownsRow_kept (h.inner b v hv) fun k hk => hb k (mem_bs hv hk)

theorem For.lt {w : World} {F M O ocap : Nat} {hs : List Value} {ns : List Nd} (h : For w F M O ocap hs ns) : ∀ k ∈ bsOf F M O hs, k < w.heap.size := by
  obtain ⟨es, cl, hm, _⟩ := h.map
  exact h.pq.lt (lt_of_heap hm)
theorem For.kept {w w' : World} {F M O ocap : Nat} {hs : List Value} {ns : List Nd} (h : For w F M O ocap hs ns) (hb : ∀ k ∈ bsOf F M O hs, w'.heap[k]? = w.heap[k]?) : For w' F M O ocap hs ns := by
  obtain ⟨es, cl, hm, ho⟩ := h.map
  exact ⟨h.pq.kept hb, ⟨es, cl, by rw [hb M (by simp [bsOf])]; exact hm, ho⟩, h.count, h.some1, h.few⟩
theorem For.below {w w' : World} {F M O ocap : Nat} {hs : List Value} {ns : List Nd} (h : For w F M O ocap hs ns) (hb : Below w.heap.size w w') : For w' F M O ocap hs ns :=
  h.kept fun k hk => hb.block k (h.lt k hk)
/-- .. and behind a step that turned none of its blocks. -/
theorem For.step {w w' : World} {F M O ocap : Nat} {hs : List Value} {ns : List Nd} {cs cs' : List Nat} (h : For w F M O ocap hs ns) (hs' : Step cs w cs' w') (hd : ∀ k ∈ bsOf F M O hs, k ∉ cs) : For w' F M O ocap hs ns :=
  h.kept fun k hk => hs'.block k (h.lt k hk) (hd k hk)

set_option maxRecDepth 100000 in
set_option maxHeartbeats 400000 in
theorem pile_at (F O g nb ocap cap len i b j : Nat) (x0 x1 x2 x3 x4 : Int) (w : World) (hi : i < 100000000) (hb : b < nb) (hnb : nb ≤ 100000) (hj : j < len) (_hlen : len ≤ 65536) (hdiv : i / 65536 = b) (hmod : i % 65536 = j)
    (h0 : w.cell? ⟨F, 0, none⟩ = some (.slice (some ⟨O, 0, none⟩) nb ocap)) (h1 : w.cell? ⟨O, b, none⟩ = some (.slice (some ⟨g, 0, none⟩) len cap))
    (c0 : w.cell? ⟨g, j * 5, none⟩ = some (.int .i64 x0)) (c1 : w.cell? ⟨g, j * 5 + 1, none⟩ = some (.int .i32 x1)) (c2 : w.cell? ⟨g, j * 5 + 2, none⟩ = some (.int .i32 x2)) (c3 : w.cell? ⟨g, j * 5 + 3, none⟩ = some (.int .i32 x3)) (c4 : w.cell? ⟨g, j * 5 + 4, none⟩ = some (.int .i32 x4)) :
    Calls Yba.prog 25 #[.pointer (some ⟨F, 0, none⟩), .int .i64 i] w fun e w' => e = .returned (.agg #[.int .i64 x0, .int .i32 x1, .int .i32 x2, .int .i32 x3, .int .i32 x4]) ∧ ∃ c, w' = w.alloc (.cells c 68) := by
  have hbi : ((i : Int) / 65536) = (b : Int) := by omega
  have hmi : ((i : Int) % 65536) = (j : Int) := by omega
  have q1 : (0 : Int) ≤ (b : Int) := by omega
  have q2 : (b : Int) < (nb : Int) := by omega
  have q3 : (0 : Int) ≤ (j : Int) := by omega
  have q4 : (j : Int) < (len : Int) := by omega
  clear hdiv hmod
  have z0 : F < w.heap.size := World.block_lt_of_cell? w _ h0
  have z1 : O < w.heap.size := World.block_lt_of_cell? w _ h1
  have z2 : g < w.heap.size := World.block_lt_of_cell? w _ c0
  go_enter Yba.func25, Yba.ntmps25
  go_wp2
  exact bodyPost_ret (v := .agg #[.int .i64 x0, .int .i32 x1, .int .i32 x2, .int .i32 x3, .int .i32 x4]) (by simp [results, Yba.results25, go_sem]) rfl ⟨rfl, _, rfl⟩

/-- forest.at. -/
theorem for_at_cells {w : World} {F M O ocap : Nat} {hs : List Value} {ns : List Nd} (h : For w F M O ocap hs ns) {i : Nat} {nd : Nd} (hi : ns[i]? = some nd) :
    ∃ g cap len, i / 65536 < hs.length ∧ i % 65536 < len ∧ len ≤ 65536 ∧ w.cell? ⟨F, 0, none⟩ = some (.slice (some ⟨O, 0, none⟩) hs.length ocap) ∧ w.cell? ⟨O, i / 65536, none⟩ = some (.slice (some ⟨g, 0, none⟩) len cap) ∧
      w.cell? ⟨g, i % 65536 * 5, none⟩ = some (.int .i64 nd.v) ∧ w.cell? ⟨g, i % 65536 * 5 + 1, none⟩ = some (.int .i32 nd.c) ∧ w.cell? ⟨g, i % 65536 * 5 + 2, none⟩ = some (.int .i32 nd.lv) ∧ w.cell? ⟨g, i % 65536 * 5 + 3, none⟩ = some (.int .i32 nd.l) ∧ w.cell? ⟨g, i % 65536 * 5 + 4, none⟩ = some (.int .i32 nd.r) := by
  have hlt : i < ns.length := (List.getElem?_eq_some_iff.1 hi).1
  have hb : i / 65536 < hs.length := by rw [h.count]; omega
  obtain ⟨v, hv⟩ : ∃ v, hs[i / 65536]? = some v := ⟨_, List.getElem?_eq_getElem hb⟩
  have hg := grp_at hi
  have hl : i % 65536 < (grp ns (i / 65536)).length := (List.getElem?_eq_some_iff.1 hg).1
  have hin := h.pq.inner _ v hv
  obtain ⟨g, cap, rfl, _, _⟩ := hin.form (by omega)
  have ho := h.pq.outer.cells (g := O) rfl (i / 65536) _ hv
  rw [add_plain, Nat.zero_add] at ho
  have hc : ∀ k u, k < 5 → (ndCells nd)[k]? = some u → w.cell? ⟨g, i % 65536 * 5 + k, none⟩ = some u := fun k u hk hu => by
    have := hin.cells (g := g) rfl (i % 65536 * 5 + k) u (by rw [flat_at hg hk]; exact hu)
    rwa [add_plain, Nat.zero_add] at this
  refine ⟨g, cap, _, hb, hl, by rw [grp_length]; omega, cell_of_heap h.pq.f, ho, ?_, hc 1 _ (by omega) rfl, hc 2 _ (by omega) rfl, hc 3 _ (by omega) rfl, hc 4 _ (by omega) rfl⟩
  have := hc 0 _ (by omega) rfl
  rwa [Nat.add_zero] at this

theorem for_pile_at {w : World} {F M O ocap : Nat} {hs : List Value} {ns : List Nd} (h : For w F M O ocap hs ns) {i : Nat} {nd : Nd} (hi : ns[i]? = some nd) :
    Calls Yba.prog 25 #[.pointer (some ⟨F, 0, none⟩), .int .i64 i] w fun e w' => e = .returned (ndVal nd) ∧ ∃ c, w' = w.alloc (.cells c 68) := by
  have hlt : i < ns.length := (List.getElem?_eq_some_iff.1 hi).1
  have hfew := h.few
  have hcnt := h.count
  obtain ⟨g, cap, len, h1, h2, h3, e0, e1, c0, c1, c2, c3, c4⟩ := for_at_cells h hi
  exact pile_at F O g hs.length ocap cap len i (i / 65536) (i % 65536) nd.v nd.c nd.lv nd.l nd.r w (by omega) h1 (by omega) h2 h3 rfl rfl e0 e1 c0 c1 c2 c3 c4

set_option maxRecDepth 100000 in
set_option maxHeartbeats 400000 in
theorem for_at {w : World} {F M O ocap : Nat} {hs : List Value} {ns : List Nd} (h : For w F M O ocap hs ns) {i : Nat} {nd : Nd} (hi : ns[i]? = some nd) :
    Calls Yba.prog 19 #[.pointer (some ⟨F, 0, none⟩), .int .i32 i] w fun e w' => e = .returned (ndVal nd) ∧ Below w.heap.size w w' := by
  have hlt : i < ns.length := (List.getElem?_eq_some_iff.1 hi).1
  have hfew := h.few
  have H := hide (fun (o : Obj) => for_pile_at (h.below ((Below.refl _ _).alloc (Nat.le_refl _) o)) hi)
  clear hi h
  have q : (i : Int) ≤ 1000000 := by omega
  go_enter Yba.func19, Yba.ntmps19
  go_wp2_with fail
  refine (unhide H _).mono ?_
  unfold ndVal
  rintro e w1 ⟨rfl, cc, rfl⟩
  go_wp2
  refine bodyPost_ret (v := ndVal nd) (by simp [results, Yba.results19, go_sem, ndVal]) rfl ⟨rfl, ?_⟩
  exact ((Below.refl _ _).alloc (Nat.le_refl _) _).alloc (by rw [World.size_alloc]; omega) _
end Go.Proofs.Ybulkcjmy
