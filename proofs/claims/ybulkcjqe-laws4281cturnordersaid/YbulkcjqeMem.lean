/-
  Strings in rows, the client in memory, the map of leaders, and the plain law of the order.
-/
import Derived.Test.YbulkcjqeProg
import Derived.WalkKit
import Derived.WalkSpells
import Derived.ProofKit
import Derived.OpenShut
import Derived.Below
import Derived.MapKept
import Derived.OwnWalk
import Derived.Laws.MakeOwn
import Derived.Deep.AppendLies
import Derived.Deep.QuietTactic
import Derived.BigQuiet
namespace Go.Proofs.Ybulkcjqe
open Go.ChangeShapes Go.WideShapes Go.ChangeAt Go.RowKit

theorem hide {p : Prop} (h : p) : Hid p := h
theorem unhide {p : Prop} (h : Hid p) : p := h

theorem cell_of_heap {w : World} {b i : Nat} {cs : Array Value} {t : TypeId} {fz : Nat × Nat} (h : w.heap[b]? = some (.cells cs t fz)) : w.cell? ⟨b, i, none⟩ = cs[i]? := by
  simp [World.cell?, h]
theorem frozen_of_heap {w : World} {b i : Nat} {cs : Array Value} {t : TypeId} (h : w.heap[b]? = some (.cells cs t (0, 0))) : w.frozen? ⟨b, i, none⟩ = false := by
  simp [World.frozen?, h]
theorem lt_of_heap {w : World} {b : Nat} {o : Obj} (h : w.heap[b]? = some o) : b < w.heap.size := (Array.getElem?_eq_some_iff.1 h).1
theorem heap_setCell_at {w : World} {b o : Nat} {v : Value} {cs : Array Value} {t : TypeId} {fz : Nat × Nat} (h : w.heap[b]? = some (.cells cs t fz)) : (w.setCell ⟨b, o, none⟩ v).heap[b]? = some (.cells (cs.setIfInBounds o v) t fz) := by
  simp only [World.setCell, Array.getElem?_modify, if_pos, h]
  rfl

/-! ### The plain law: the nodes from the answered one on -/
def rot (ss : List ByteArray) (a : Nat) : List ByteArray := ss.drop a ++ ss.take a
def filt (l : ByteArray) (ss : List ByteArray) : List ByteArray := ss.filter fun s => decide (¬ s = l)
def head (l : ByteArray) : List ByteArray := if l = ⟨#[]⟩ then [] else [l]

theorem rot_length (ss : List ByteArray) (a : Nat) : (rot ss a).length = ss.length := by
  simp only [rot, List.length_append, List.length_drop, List.length_take]; omega
theorem rot_late {ss : List ByteArray} {a j : Nat} (h1 : a ≤ j) (_h2 : j < ss.length) : (rot ss a)[j - a]? = ss[j]? := by
  rw [rot, List.getElem?_append_left (by rw [List.length_drop]; omega), List.getElem?_drop]
  congr 1; omega
theorem rot_early {ss : List ByteArray} {a j : Nat} (h1 : j < a) (_h2 : a ≤ ss.length) : (rot ss a)[ss.length - a + j]? = ss[j]? := by
  rw [rot, List.getElem?_append_right (by rw [List.length_drop]; omega), List.length_drop, List.getElem?_take, if_pos (by omega)]
  congr 1; omega
theorem rot_mod {ss : List ByteArray} {a i : Nat} (ha : a < ss.length) (hi : i < ss.length) : (rot ss a)[i]? = ss[(a + i) % ss.length]? := by
  by_cases h : a + i < ss.length
  · rw [Nat.mod_eq_of_lt h, ← rot_late (ss := ss) (a := a) (j := a + i) (by omega) h]
    congr 1; omega
  · have e : (a + i) % ss.length = a + i - ss.length := by
      rw [Nat.mod_eq_sub_mod (by omega), Nat.mod_eq_of_lt (by omega)]
    rw [e, ← rot_early (ss := ss) (a := a) (j := a + i - ss.length) (by omega) (by omega)]
    congr 1; omega
theorem filt_skip {l s : ByteArray} {ss : List ByteArray} {k : Nat} (h : ss[k]? = some s) (hs : s = l) : filt l (ss.take (k + 1)) = filt l (ss.take k) := by
  rw [List.take_add_one, h]; simp [filt, hs]
theorem filt_push {l s : ByteArray} {ss : List ByteArray} {k : Nat} (h : ss[k]? = some s) (hs : ¬ s = l) : filt l (ss.take (k + 1)) = filt l (ss.take k) ++ [s] := by
  rw [List.take_add_one, h]; simp [filt, hs]
theorem filt_len (l : ByteArray) (ss : List ByteArray) : (filt l ss).length ≤ ss.length := List.length_filter_le _ _
theorem head_len (l : ByteArray) : (head l).length ≤ 1 := by unfold head; split <;> simp

/-! ### Strings in memory -/
def sv (l : List ByteArray) : List Value := l.map Value.string
theorem sv_length (l : List ByteArray) : (sv l).length = l.length := by simp [sv]

/-- The strings ss lie at the slice's address. -/
def Strs (w : World) (a : Option Addr) (ss : List ByteArray) : Prop :=
  ss = [] ∨ ∃ b off, a = some ⟨b, off, none⟩ ∧ ∀ (i : Nat) (s : ByteArray), ss[i]? = some s → w.cell? ⟨b, off + i, none⟩ = some (.string s)

theorem Strs.below {w w' : World} {a : Option Addr} {ss : List ByteArray} (h : Strs w a ss) (hb : Below w.heap.size w w') : Strs w' a ss := by
  rcases h with h | ⟨b, off, ha, h⟩
  · exact .inl h
  · exact .inr ⟨b, off, ha, fun i s hs => by rw [hb.cell (World.block_lt_of_cell? w _ (h i s hs))]; exact h i s hs⟩

theorem own_strs {w : World} {base : Nat} {a : Option Addr} {n cap : Nat} {ss : List ByteArray} (h : w.ownsRow base 9 1 (.slice a n cap) n (sv ss)) : Strs w a ss ∧ ss.length = n := by
  have hl : ss.length = n := by have := h.1; rw [sv_length] at this; omega
  refine ⟨?_, hl⟩
  rcases h.2 with ⟨_, h0⟩ | ⟨g, c, cur, hv, _, hg, hn, _, hs, ht⟩
  · exact .inl (List.length_eq_zero_iff.1 (by omega))
  · simp only [Value.slice.injEq] at hv
    obtain ⟨rfl, _, rfl⟩ := hv
    refine .inr ⟨g, 0, rfl, fun i s hi => ?_⟩
    have hin : i < n := by have := (List.getElem?_eq_some_iff.1 hi).1; omega
    rw [Nat.zero_add, cell_of_heap hg]
    have e : (sv ss)[i]? = some (.string s) := by simp [sv, hi]
    rw [← ht, List.getElem?_take, if_pos (by omega), Array.getElem?_toList] at e
    exact e

/-- What is made so far: the new slice v holds 'out'; nothing below N has turned since w. -/
structure Out (w wr : World) (v : Value) (out : List ByteArray) : Prop where
  below : Below w.heap.size w wr
  own : wr.ownsRow w.heap.size 9 1 v out.length (sv out)

theorem Out.push {w wr w1 : World} {a : Option Addr} {d cap : Nat} {out : List ByteArray} {s : ByteArray} (h : Out w wr (.slice a d cap) out) {c : Obj} {g' cap' : Nat}
    (hown1 : w1.ownsRow w.heap.size 9 1 (.slice (some ⟨g', 0, none⟩) (out.length + 1) cap') (out.length + 1) (sv out ++ [.string s])) (hgrow : World.grownBy (wr.alloc c) w1 (Value.slice a d cap).ownBlock) :
    Out w w1 (.slice (some ⟨g', 0, none⟩) (out.length + 1) cap') (out ++ [s]) := by
  have e : sv (out ++ [s]) = sv out ++ [.string s] := by simp [sv]
  refine ⟨h.below.trans ⟨hgrow.os, hgrow.tape, hgrow.output, by have := hgrow.size; rw [World.size_alloc] at this; omega, fun k hk => ?_⟩, by rw [e, List.length_append]; exact hown1⟩
  have hs := h.below.size
  refine (hgrow.block k (by rw [World.size_alloc]; omega) fun e => ?_).trans (Below.heap_alloc _ _ _ (by omega))
  have := (h.own.lt k e.symm).1
  omega
theorem Out.len {w wr : World} {a : Option Addr} {d cap : Nat} {out : List ByteArray} (h : Out w wr (.slice a d cap) out) : d = out.length := by
  rcases h.own.2 with ⟨hv, h0⟩ | ⟨g, c, cur, hv, _⟩
  · simp only [Value.slice.injEq] at hv; omega
  · simp only [Value.slice.injEq] at hv; omega

/-! ### The client and the leaders -/
def clCells (a : Option Addr) (n cap : Nat) (ans mu : Int) (M : Nat) : Array Value :=
  #[.int .i64 0, .slice a n cap, .pointer none, .int .i32 ans, .int .i32 mu, .int .u32 0, .map (some M)]

theorem beq_same (a : ByteArray) : (a == a) = true := (MapKept.bytes_beq a a).2 rfl
theorem beq_other {a b : ByteArray} (h : ¬ a = b) : (a == b) = false := by
  cases e : (a == b) with
  | false => rfl
  | true => exact absurd ((MapKept.bytes_beq a b).1 e) h

theorem check_true (s : ByteArray) (W : World) : (Instr.checkKey true 10000 9 (.string s)).run Yba.prog W = .ok () W := MapKept.run_checkKey Yba.underlying9 (by simp [MapKept.IsKey]) true 9999
theorem check_false (s : ByteArray) (W : World) : (Instr.checkKey false 10000 9 (.string s)).run Yba.prog W = .ok () W := MapKept.run_checkKey Yba.underlying9 (by simp [MapKept.IsKey]) false 9999

theorem look_none (M : Nat) (clock : Nat) (name : ByteArray) (W : World) (hW : W.heap[M]? = some (.map #[] clock)) : (Instr.lookup 25 (.map (some M)) (.string name) false).run Yba.prog W = .ok (.string ⟨#[]⟩) W := by
  simp [Instr.lookup, run_underlying Yba.underlying25, MapKept.run_getObj_map hW, check_true, Instr.findKey, run_underlying Yba.underlying9, Instr.findNow]

theorem look_one (M : Nat) (clock bn : Nat) (key val name : ByteArray) (W : World) (hW : W.heap[M]? = some (.map #[{ key := .string key, val := .string val, born := bn }] clock)) :
    (Instr.lookup 25 (.map (some M)) (.string name) false).run Yba.prog W = .ok (.string (if key = name then val else ⟨#[]⟩)) W := by
  by_cases h : key = name
  · subst h
    simp [Instr.lookup, run_underlying Yba.underlying25, MapKept.run_getObj_map hW, check_false, Instr.findKey, run_underlying Yba.underlying9, Instr.findNow, Instr.sameNow, beq_same]
  · have h' : (name == key) = false := beq_other fun e => h e.symm
    simp [Instr.lookup, run_underlying Yba.underlying25, MapKept.run_getObj_map hW, check_false, Instr.findKey, run_underlying Yba.underlying9, Instr.findNow, Instr.sameNow, h, h']

theorem put_one (M : Nat) (clock : Nat) (key val : ByteArray) (W : World) (hW : W.heap[M]? = some (.map #[] clock)) :
    (Instr.mapUpdate 25 (.map (some M)) (.string key) (.string val)).run Yba.prog W = .ok () { W with heap := W.heap.setIfInBounds M (.map #[{ key := .string key, val := .string val, born := clock }] (clock + 1)) } := by
  simp [Instr.mapUpdate, run_underlying Yba.underlying25, MapKept.run_getObj_map hW, check_false, Instr.findKey, run_underlying Yba.underlying9, Instr.findNow, MapKept.run_setObj_map _ hW]
end Go.Proofs.Ybulkcjqe
