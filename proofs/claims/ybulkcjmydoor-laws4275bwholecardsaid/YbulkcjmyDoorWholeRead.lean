import Derived.Test.YbulkcjmyDoorProg
import Derived.WalkKit
import Derived.WalkSpells
import Derived.ProofKit
import Derived.Deep.QuietTactic
import Derived.BigQuiet
import Derived.Laws.MakeOwn
import Derived.Laws.CopyOwn
import Derived.Deep.RegionHeld3
namespace Go.Proofs.YbulkcjmyDoor
open Go.ChangeShapes Go.WideShapes Go.ChangeAt Go.RowKit

theorem hide {p : Prop} (h : p) : Hid p := h
theorem unhide {p : Prop} (h : Hid p) : p := h

/-- Only block g has turned. -/
structure Touch (g : Nat) (w w' : World) : Prop where
  os : w'.os = w.os
  tape : w'.tape = w.tape
  output : w'.output = w.output
  size : w'.heap.size = w.heap.size
  block : ∀ k, k ≠ g → w'.heap[k]? = w.heap[k]?

theorem touch_setRow (w : World) (g : Nat) (cs : Array Value) : Touch g w (w.setRow g cs) :=
  ⟨rfl, rfl, rfl, by simp [World.setRow], fun k hk => setRow_other w g k cs hk⟩

theorem Touch.cell {g : Nat} {w w' : World} (h : Touch g w w') {a : Addr} (ha : a.block ≠ g) : w'.cell? a = w.cell? a := World.cell?_of_block (w := w) (h.block _ ha)
theorem Touch.frozen {g : Nat} {w w' : World} (h : Touch g w w') {a : Addr} (ha : a.block ≠ g) : w'.frozen? a = w.frozen? a := World.frozen?_of_block (w := w) (h.block _ ha)

/-- 'copy' into a row that is known whole, as one step of a region that draws its order; the frame told block by block. -/
theorem step_copy_touch {P : Program} {ops : Array Oper} {o : Oper} {a : Act} {w : World} {K : Act → World → Prop} {Q : Exit → Act → World → Prop} {E : Prop} (hgd : o.guard = none) (d s : Operand) (dT sT : TypeId)
    (ho : o.op = .call { callee := .builtin .copy, args := #[d, s], argTypes := #[dT, sT] }) (elem : TypeId) (hu : P.underlying dT = some (.slice elem)) (hsz : (P.info? elem).map (·.size) = some 1)
    (g off dLen dCap : Nat) (ad : Addr) (sp : Option Addr) (sLen sCap : Nat) (hd : a.eval d = .slice (some ⟨g, off, none⟩) dLen dCap) (hs : a.eval s = .slice sp sLen sCap) (hsp : sp = some ad)
    (cur : List Value) (t : TypeId) (hg : w.heap[g]? = some (.cells cur.toArray t (0, 0))) (cs : List Value) (hn : cs.length = Nat.min sLen dLen)
    (hsrc : ∀ j v, cs[j]? = some v → w.cell? (ad.add j) = some v)
    (hfit : off + cs.length ≤ cur.length) (h1 : ∀ v ∈ cs, v.oneCell' = true)
    (h : ∀ w', Hid (w'.heap[g]? = some (.cells (splice cur off cs).toArray t (0, 0))) → Touch g w w' → K (a.put o.dst (goInt cs.length)) w') :
    if Region.wanted o (yielded ops a.tmps) = true then Oper.wp P o a w K Q else E := by
  subst hsp
  have hw : Region.wanted o (yielded ops a.tmps) = true := by simp [Region.wanted, hgd]
  rw [if_pos hw]
  have hrun := run_copy_row (P := P) w dT sT o.type elem g off dLen dCap ad sLen sCap cur.toArray t cs hu hsz hg hn hsrc (by simpa using hfit) h1
  unfold Oper.wp
  simp [execOp, ho, resolve, invoke, builtin, hd, hs, hrun, Result.andThen]
  exact h _ (show _ = _ by simpa [splice] using setRow_heap w g _ _ t _ hg) (touch_setRow _ _ _)

theorem add_plain (b o j : Nat) : (⟨b, o, none⟩ : Addr).add j = ⟨b, o + j, none⟩ := by unfold Addr.add; split <;> simp_all

/-- What Read leaves. -/
structure ReadPost (P B : Nat) (dv : Value) (off sz n : Nat) (cur cs : List Value) (w w' : World) : Prop where
  os : w'.os = w.os
  tape : w'.tape = w.tape
  output : w'.output = w.output
  size : w'.heap.size = w.heap.size
  block : ∀ k, k ≠ P → k ≠ B → w'.heap[k]? = w.heap[k]?
  buf : w'.heap[B]? = some (.cells (splice cur off cs).toArray 5 (0, 0))
  pieces : w'.heap[P]? = some (.cells #[dv, .int .i64 ((off + n : Nat) : Int), .int .i64 sz] 41 (0, 0))

theorem readPost_mk {P B off size n : Nat} {dv : Value} {cur cs : List Value} {w w1 : World} (k m : Nat) (hPB : P ≠ B) (hp : w.heap[P]? = some (.cells #[dv, .int .i64 off, .int .i64 size] 41 (0, 0)))
    (ht : Touch B (w.drewN k) w1) (hb : w1.heap[B]? = some (.cells (splice cur off cs).toArray 5 (0, 0))) (v : Int) (hv : v = ((off + n : Nat) : Int)) :
    ReadPost P B dv off size n cur cs w ((w1.setCell ⟨P, 1, none⟩ (.int .i64 v)).drewN m) := by
  subst hv
  refine ⟨ht.os, ht.tape, ht.output, ?_, fun k h1 h2 => ?_, ?_, ?_⟩
  · show (w1.setCell _ _).heap.size = _
    simpa [World.setCell] using ht.size
  · show (w1.setCell _ _).heap[k]? = _
    rw [Below.heap_setCell _ _ _ _ h1]; exact ht.block k h2
  · show (w1.setCell _ _).heap[B]? = _
    rw [Below.heap_setCell _ _ _ _ (Ne.symm hPB)]; exact hb
  · show (w1.setCell _ _).heap[P]? = _
    have h := (ht.block P hPB).trans hp
    simp only [World.setCell, Array.getElem?_modify, if_pos, h]
    rfl

theorem cell_of_heap {w : World} {b i : Nat} {cs : Array Value} {t : TypeId} {fz : Nat × Nat} (h : w.heap[b]? = some (.cells cs t fz)) : w.cell? ⟨b, i, none⟩ = cs[i]? := by
  simp [World.cell?, h]
theorem frozen_of_heap {w : World} {b i : Nat} {cs : Array Value} {t : TypeId} (h : w.heap[b]? = some (.cells cs t (0, 0))) : w.frozen? ⟨b, i, none⟩ = false := by
  simp [World.frozen?, h]

set_option maxRecDepth 100000 in
set_option maxHeartbeats 400000 in
theorem read_some (P B db doff len cap off size n pl pc : Nat) (w : World) (hpl : n ≤ pl) (hlen : len ≤ 4096) (hcap : len ≤ cap) (hoff : off < len) (hs1 : 1 ≤ size) (hs7 : size ≤ 7) (hPB : P ≠ B)
    (hp : w.heap[P]? = some (.cells #[.slice (some ⟨db, doff, none⟩) len cap, .int .i64 off, .int .i64 size] 41 (0, 0)))
    (cur : List Value) (hB : w.heap[B]? = some (.cells cur.toArray 5 (0, 0))) (hcur : off + n ≤ cur.length) (cs : List Value) (hcs : cs.length = n) (hone : ∀ v ∈ cs, v.oneCell' = true)
    (hn : n = size ∧ off + size ≤ len ∨ n = len - off ∧ len < off + size)
    (hsrc : ∀ j v, cs[j]? = some v → w.cell? ⟨db, doff + off + j, none⟩ = some v) :
    Calls Ybad.prog 27 #[.pointer (some ⟨P, 0, none⟩), .slice (some ⟨B, off, none⟩) pl pc] w fun e w' => e = .returned (.tuple #[.int .i64 n, .nilIface]) ∧ ReadPost P B (.slice (some ⟨db, doff, none⟩) len cap) off size n cur cs w w' := by
  have h0 : w.cell? ⟨P, 0, none⟩ = some (.slice (some ⟨db, doff, none⟩) len cap) := cell_of_heap hp
  have h1 : w.cell? ⟨P, 1, none⟩ = some (.int .i64 off) := cell_of_heap hp
  have h2 : w.cell? ⟨P, 2, none⟩ = some (.int .i64 size) := cell_of_heap hp
  have hf : w.frozen? ⟨P, 1, none⟩ = false := frozen_of_heap hp
  have hi : (off : Int) < (len : Int) := by omega
  have hi3 : (len : Int) ≤ (cap : Int) := by omega
  have hi4 : (0 : Int) ≤ (off : Int) := by omega
  subst hcs
  have hbd : (off : Int) + (cs.length : Int) ≤ 4096 := by omega
  have HB := hide hB
  have HP := hide hp
  have Hcur := hide hcur
  have Hsrc := hide hsrc
  have Hone := hide hone
  clear hB hp hcur hsrc hone
  rcases hn with ⟨hn, hn2⟩ | ⟨hn, hn2⟩
  all_goals
    have Hn := hide hn
    clear hn
  · have hi2 : (off : Int) + (size : Int) ≤ (len : Int) := by omega
    have hi5 : (off : Int) ≤ (off : Int) + (size : Int) := by omega
    have hi6 : (off : Int) + (size : Int) ≤ (cap : Int) := by omega
    go_enter Ybad.func27, Ybad.ntmps27
    go_wp2
    go_quiet (fail)
    go_wp2
    go_quiet (fail)
    go_wp2
    go_region_held3 (fun w' => w'.cell? ⟨P, 0, none⟩ = some (.slice (some ⟨db, doff, none⟩) len cap) ∧ w'.cell? ⟨P, 1, none⟩ = some (.int .i64 off)) (first | go_keep | (rw [ht.cell (by exact hPB), ht.cell (by exact hPB)]; exact ⟨h0, h1⟩)) ((refine step_copy_touch (by rfl) (.tmp 34) (.tmp 44) 22 22 (by rfl) 5 Ybad.underlying22 (by kernel_rfl) B off _ _ ⟨db, doff + off, none⟩ _ _ _ (by rfl) (by rfl) (by rw [if_neg (by omega)]) cur 5 (by exact unhide HB) cs (by have := unhide Hn; show _ = min _ _; omega) (fun j v hj => by rw [add_plain]; exact unhide Hsrc j v hj) (by exact unhide Hcur) (unhide Hone) ?_; intro w1 hw1 ht))
    have c1 : w1.cell? ⟨P, 1, none⟩ = some (.int .i64 off) := by rw [ht.cell (by exact hPB)]; exact h1
    have c2 : w1.frozen? ⟨P, 1, none⟩ = false := by rw [ht.frozen (by exact hPB)]; exact hf
    have HT := hide ht
    clear ht
    go_wp2
    go_ret2
    rw [World.drewN_drewN, World.drew_drewN] at HT
    exact ⟨rfl, readPost_mk _ 0 hPB (unhide HP) (unhide HT) (unhide hw1) _ (by omega)⟩
  · have hi2 : (len : Int) < (off : Int) + (size : Int) := by omega
    have hi5 : (off : Int) ≤ (len : Int) := by omega
    go_enter Ybad.func27, Ybad.ntmps27
    go_wp2
    go_quiet (fail)
    go_wp2
    go_quiet (fail)
    go_wp2
    go_region_held3 (fun w' => w'.cell? ⟨P, 0, none⟩ = some (.slice (some ⟨db, doff, none⟩) len cap) ∧ w'.cell? ⟨P, 1, none⟩ = some (.int .i64 off)) (first | go_keep | (rw [ht.cell (by exact hPB), ht.cell (by exact hPB)]; exact ⟨h0, h1⟩)) ((refine step_copy_touch (by rfl) (.tmp 34) (.tmp 44) 22 22 (by rfl) 5 Ybad.underlying22 (by kernel_rfl) B off _ _ ⟨db, doff + off, none⟩ _ _ _ (by rfl) (by rfl) (by rw [if_neg (by omega)]) cur 5 (by exact unhide HB) cs (by have := unhide Hn; show _ = min _ _; omega) (fun j v hj => by rw [add_plain]; exact unhide Hsrc j v hj) (by exact unhide Hcur) (unhide Hone) ?_; intro w1 hw1 ht))
    have c1 : w1.cell? ⟨P, 1, none⟩ = some (.int .i64 off) := by rw [ht.cell (by exact hPB)]; exact h1
    have c2 : w1.frozen? ⟨P, 1, none⟩ = false := by rw [ht.frozen (by exact hPB)]; exact hf
    have HT := hide ht
    clear ht
    go_wp2
    go_ret2
    rw [World.drewN_drewN, World.drew_drewN] at HT
    exact ⟨rfl, readPost_mk _ 0 hPB (unhide HP) (unhide HT) (unhide hw1) _ (by omega)⟩
set_option maxRecDepth 100000 in
set_option maxHeartbeats 400000 in
theorem ahead_any (L B len : Nat) (w : World) (_hl : len ≤ 65536) (hb : w.cell? ⟨L, 1, none⟩ = some (.slice (some ⟨B, 0, none⟩) len 65536)) (ha : w.cell? ⟨L, 2, none⟩ = some (.int .i64 0)) :
    Calls Ybad.prog 10 #[.pointer (some ⟨L, 0, none⟩)] w fun e w' => e = .returned (.slice (some ⟨B, 0, none⟩) len 65536) ∧ ∃ n, w' = w.drewN n := by
  go_enter Ybad.func10, Ybad.ntmps10
  go_wp2
  go_quiet (fail)
  go_wp2
  go_ret
  exact ⟨rfl, _, rfl⟩
set_option maxRecDepth 100000 in
set_option maxHeartbeats 400000 in
theorem offset_any (L B len : Nat) (w : World) (hl : len ≤ 65536) (hb : w.cell? ⟨L, 1, none⟩ = some (.slice (some ⟨B, 0, none⟩) len 65536)) (ha : w.cell? ⟨L, 2, none⟩ = some (.int .i64 0)) (hr : w.cell? ⟨L, 3, none⟩ = some (.int .i64 len)) :
    Calls Ybad.prog 9 #[.pointer (some ⟨L, 0, none⟩)] w fun e w' => e = .returned (.int .i64 0) ∧ ∃ n, w' = w.drewN n := by
  go_enter Ybad.func9, Ybad.ntmps9
  go_wp2
  go_quiet ((go_at_call 10; exact Calls.quiet_of (ahead_any L B len _ hl (by simpa using hb) (by simpa using ha))))
  go_wp2
  go_ret
  exact ⟨rfl, _, rfl⟩
end Go.Proofs.YbulkcjmyDoor
