import Derived.Test.YbulkcjmyDoorWholeRead
import Derived.BigRegion
namespace Go.Proofs.YbulkcjmyDoor
open Go.ChangeShapes Go.WideShapes Go.ChangeAt Go.RowKit

set_option maxRecDepth 100000 in
set_option maxHeartbeats 400000 in
theorem read_eof (P : Nat) (dv : Option Addr) (len cap off : Nat) (errv : Value) (bo : Option Addr) (pl pc : Nat) (w : World) (hoff : len ≤ off) (_ho : off ≤ 4096)
    (h0 : w.cell? ⟨P, 0, none⟩ = some (.slice dv len cap)) (h1 : w.cell? ⟨P, 1, none⟩ = some (.int .i64 off)) (hg : w.cell? ⟨1, 0, none⟩ = some errv) :
    Calls Ybad.prog 27 #[.pointer (some ⟨P, 0, none⟩), .slice bo pl pc] w fun e w' => e = .returned (.tuple #[.int .i64 0, errv]) ∧ ∃ n, w' = w.drewN n := by
  have hi : (len : Int) ≤ (off : Int) := by omega
  go_enter Ybad.func27, Ybad.ntmps27
  go_wp2
  go_quiet (fail)
  go_wp2
  go_quiet (fail)
  go_wp2
  go_ret2
  exact ⟨rfl, _, World.drewN_drewN _ _ _⟩

theorem setCell_self {w : World} {b o : Nat} {v : Value} (h : w.cell? ⟨b, o, none⟩ = some v) : w.setCell ⟨b, o, none⟩ v = w := by
  have hh : w.heap.modify b (fun
      | .cells c elem frozen => .cells (c.setIfInBounds o v) elem frozen
      | x => x) = w.heap := by
    apply Array.ext_getElem?
    intro k
    rw [Array.getElem?_modify]
    by_cases hk : b = k
    · subst hk
      rw [if_pos rfl]
      cases hb : w.heap[b]? with
      | none => rfl
      | some x =>
        simp only [World.cell?, hb] at h
        cases x with
        | cells c t fz =>
          have h' : c[o]? = some v := by simpa using h
          have : c.setIfInBounds o v = c := by
            apply Array.ext_getElem?
            intro j
            rw [Array.getElem?_setIfInBounds]
            split
            · rename_i e; subst e
              rw [h', if_pos (Array.getElem?_eq_some_iff.1 h').1]
            · rfl
          simp [this]
        | _ => rfl
    · rw [if_neg hk]
  exact congrArg (fun H => ({ w with heap := H } : World)) hh

theorem nil_ahead (a : Addr) (w : World) : (nilAhead 175 39 (.pointer (some a)) "Read").run Ybad.prog w = .ok (some false) w := by kernel_rfl
theorem method_read (a : Addr) (w : World) : (method 175 39 (.pointer (some a)) "Read").run Ybad.prog w = .ok (27, .pointer (some a)) w := by kernel_rfl

theorem heap_setCell_at {w : World} {b o : Nat} {v : Value} {cs : Array Value} {t : TypeId} {fz : Nat × Nat} (h : w.heap[b]? = some (.cells cs t fz)) : (w.setCell ⟨b, o, none⟩ v).heap[b]? = some (.cells (cs.setIfInBounds o v) t fz) := by
  simp only [World.setCell, Array.getElem?_modify, if_pos, h]
  rfl

/-- The state between two fills: the three blocks of the law's own; all else as in w0. -/
structure St (w0 : World) (P B L : Nat) (dv : Value) (sz off : Nat) (ev : Value) (cur : List Value) (w : World) : Prop where
  os : w.os = w0.os
  tape : w.tape = w0.tape
  output : w.output = w0.output
  size : w.heap.size = w0.heap.size
  block : ∀ k, k ≠ P → k ≠ B → k ≠ L → w.heap[k]? = w0.heap[k]?
  pieces : w.heap[P]? = some (.cells #[dv, .int .i64 off, .int .i64 sz] 41 (0, 0))
  buf : w.heap[B]? = some (.cells cur.toArray 5 (0, 0))
  lr : w.heap[L]? = some (.cells #[.iface 39 (.pointer (some ⟨P, 0, none⟩)), .slice (some ⟨B, 0, none⟩) off 65536, .int .i64 0, .int .i64 off, ev, .int .i64 0] 34 (0, 0))

theorem St.drewN {w0 : World} {P B L : Nat} {dv : Value} {sz off : Nat} {ev : Value} {cur : List Value} {w : World} (h : St w0 P B L dv sz off ev cur w) (n : Nat) : St w0 P B L dv sz off ev cur (w.drewN n) :=
  ⟨h.os, h.tape, h.output, h.size, h.block, h.pieces, h.buf, h.lr⟩

theorem St.setErr {w0 : World} {P B L : Nat} {dv : Value} {sz off : Nat} {ev : Value} {cur : List Value} {w : World} (h : St w0 P B L dv sz off ev cur w) (hP : P ≠ L) (hB : B ≠ L) (v : Value) : St w0 P B L dv sz off v cur (w.setCell ⟨L, 4, none⟩ v) := by
  refine ⟨h.os, h.tape, h.output, ?_, fun k h1 h2 h3 => ?_, ?_, ?_, ?_⟩
  · simpa [World.setCell] using h.size
  · rw [Below.heap_setCell _ _ _ _ h3]; exact h.block k h1 h2 h3
  · rw [Below.heap_setCell _ _ _ _ hP]; exact h.pieces
  · rw [Below.heap_setCell _ _ _ _ hB]; exact h.buf
  · rw [heap_setCell_at h.lr]; rfl

/-- Behind Read that gave n bytes: the two stores of fill. -/
theorem St.more {w0 : World} {P B L : Nat} {dv : Value} {sz off n : Nat} {ev : Value} {cur cs : List Value} {w w1 : World} (h : St w0 P B L dv sz off ev cur w) (hP : P ≠ L) (hB : B ≠ L) (hr : ReadPost P B dv off sz n cur cs w w1) (k : Nat) (b : Int) (len : Nat) (hl : len = off + n) (hb : b = ((off + n : Nat) : Int)) :
    St w0 P B L dv sz (off + n) ev (splice cur off cs) (((w1.drewN k).setCell ⟨L, 1, none⟩ (.slice (some ⟨B, 0, none⟩) len 65536)).setCell ⟨L, 3, none⟩ (.int .i64 b)) := by
  subst hl; subst hb
  have hL : w1.heap[L]? = _ := (hr.block L (Ne.symm hP) (Ne.symm hB)).trans h.lr
  have hL1 := heap_setCell_at (w := w1.drewN k) (o := 1) (v := .slice (some ⟨B, 0, none⟩) (off + n) 65536) hL
  refine ⟨hr.os.trans h.os, hr.tape.trans h.tape, hr.output.trans h.output, ?_, fun k h1 h2 h3 => ?_, ?_, ?_, ?_⟩
  · simpa [World.setCell] using hr.size.trans h.size
  · rw [Below.heap_setCell _ _ _ _ h3, Below.heap_setCell _ _ _ _ h3]; exact (hr.block k h1 h2).trans (h.block k h1 h2 h3)
  · rw [Below.heap_setCell _ _ _ _ hP, Below.heap_setCell _ _ _ _ hP]; exact hr.pieces
  · rw [Below.heap_setCell _ _ _ _ hB, Below.heap_setCell _ _ _ _ hB]; exact hr.buf
  · rw [heap_setCell_at hL1]; rfl

set_option maxRecDepth 100000 in
set_option maxHeartbeats 400000 in
theorem fill_eof (w0 : World) (P B L : Nat) (dv : Option Addr) (len cap sz off : Nat) (ea : Addr) (ev : Value) (cur : List Value) (w : World) (hst : St w0 P B L (.slice dv len cap) sz off ev cur w) (hP : P ≠ L) (hB : B ≠ L) (hoff : len ≤ off) (ho : off ≤ 4096)
    (hg : w.cell? ⟨1, 0, none⟩ = some (.iface 45 (.pointer (some ea)))) :
    Calls Ybad.prog 6 #[.pointer (some ⟨L, 0, none⟩)] w fun e w' => e = .returned (.tuple #[]) ∧ St w0 P B L (.slice dv len cap) sz off (.iface 45 (.pointer (some ea))) cur w' := by
  have HS := hide hst
  have hL := hst.lr
  have h0 : w.cell? ⟨P, 0, none⟩ = some (.slice dv len cap) := cell_of_heap hst.pieces
  have h1 : w.cell? ⟨P, 1, none⟩ = some (.int .i64 off) := cell_of_heap hst.pieces
  clear hst
  have l0 : w.cell? ⟨L, 0, none⟩ = some (.iface 39 (.pointer (some ⟨P, 0, none⟩))) := cell_of_heap hL
  have l1 : w.cell? ⟨L, 1, none⟩ = some (.slice (some ⟨B, 0, none⟩) off 65536) := cell_of_heap hL
  have l2 : w.cell? ⟨L, 2, none⟩ = some (.int .i64 0) := cell_of_heap hL
  have l3 : w.cell? ⟨L, 3, none⟩ = some (.int .i64 off) := cell_of_heap hL
  have l4 : w.cell? ⟨L, 4, none⟩ = some ev := cell_of_heap hL
  have f1 : w.frozen? ⟨L, 1, none⟩ = false := frozen_of_heap hL
  have f2 : w.frozen? ⟨L, 2, none⟩ = false := frozen_of_heap hL
  have f3 : w.frozen? ⟨L, 3, none⟩ = false := frozen_of_heap hL
  have f4 : w.frozen? ⟨L, 4, none⟩ = false := frozen_of_heap hL
  clear hL
  have i0 : (0 : Int) ≤ (off : Int) := by omega
  have i1 : (off : Int) ≤ 65536 := by omega
  have i2 : (off : Int) ≤ ((65536 : Nat) : Int) := by omega
  have hwr : IntKind.i64.wrap (off : Int) = (off : Int) := by rw [IntKind.wrap_i64]; omega
  have hne : ((off : Int) == 65536) = false := by rw [beq_eq_false_iff_ne]; omega
  go_enter Ybad.func6, Ybad.ntmps6
  go_wp2_with (go_at_call 10; refine (ahead_any L B off _ (by omega) (by assumption) (by assumption)).mono ?_; rintro e w' ⟨rfl, nd, rfl⟩)
  go_loop [57] (fun i => i = .int .i64 0) (fun i => (100 - intOf i).toNat)
  case atStart => rfl
  case round =>
    subst hrel
    go_wp2
    rw [setCell_self (by simpa using l2)]
    have hna := nil_ahead
    have hme := method_read
    go_region_held3 (fun w' => w'.cell? ⟨L, 0, none⟩ = some (.iface 39 (.pointer (some ⟨P, 0, none⟩))) ∧ w'.cell? ⟨L, 1, none⟩ = some (.slice (some ⟨B, 0, none⟩) off 65536)) (go_keep) ((go_at_call 27; refine (read_eof P dv len cap off _ _ _ _ _ hoff ho (by simpa using h0) (by simpa using h1) (by simpa using hg)).mono ?_; rintro e w' ⟨rfl, nd2, rfl⟩))
    go_wp2
    go_region
    rw [setCell_self (by simpa using l1)]
    go_wp2
    rw [setCell_self (b := L) (o := 3) (v := .int .i64 off) (by simpa using l3)]
    refine bodyPost_ret (results_none rfl _ _ _) rfl ?_
    exact ⟨rfl, ((unhide HS).drewN _).setErr hP hB _⟩

set_option maxRecDepth 100000 in
set_option maxHeartbeats 400000 in
theorem fill_some (w0 : World) (P B L db doff : Nat) (len cap sz off n : Nat) (cur cs : List Value) (w : World) (hst : St w0 P B L (.slice (some ⟨db, doff, none⟩) len cap) sz off .nilIface cur w) (hPB : P ≠ B) (hP : P ≠ L) (hB : B ≠ L)
    (hlen : len ≤ 4096) (hcap : len ≤ cap) (hoff : off < len) (hs1 : 1 ≤ sz) (hs7 : sz ≤ 7) (hcur : cur.length = 65536) (hcs : cs.length = n) (hone : ∀ v ∈ cs, v.oneCell' = true)
    (hn : n = sz ∧ off + sz ≤ len ∨ n = len - off ∧ len < off + sz)
    (hsrc : ∀ j v, cs[j]? = some v → w.cell? ⟨db, doff + off + j, none⟩ = some v) :
    Calls Ybad.prog 6 #[.pointer (some ⟨L, 0, none⟩)] w fun e w' => e = .returned (.tuple #[]) ∧ St w0 P B L (.slice (some ⟨db, doff, none⟩) len cap) sz (off + n) .nilIface (splice cur off cs) w' := by
  have HS := hide hst
  have hL := hst.lr
  have Hp := hide hst.pieces
  have Hb := hide hst.buf
  clear hst
  have HL := hide hL
  have hn1 : 1 ≤ n := by omega
  have hn2 : off + n ≤ 4096 := by omega
  have l0 : w.cell? ⟨L, 0, none⟩ = some (.iface 39 (.pointer (some ⟨P, 0, none⟩))) := cell_of_heap hL
  have l1 : w.cell? ⟨L, 1, none⟩ = some (.slice (some ⟨B, 0, none⟩) off 65536) := cell_of_heap hL
  have l2 : w.cell? ⟨L, 2, none⟩ = some (.int .i64 0) := cell_of_heap hL
  have f2 : w.frozen? ⟨L, 2, none⟩ = false := frozen_of_heap hL
  clear hL
  have i0 : (0 : Int) ≤ (off : Int) := by omega
  have i1 : (off : Int) ≤ 65536 := by omega
  have i2 : (off : Int) ≤ ((65536 : Nat) : Int) := by omega
  have i3 : (0 : Int) < (n : Int) := by omega
  have hx : ¬ 65536 = off := by omega
  have i4 : (off : Int) + (n : Int) ≤ 65536 := by omega
  have hwr : IntKind.i64.wrap ((off : Int) + (n : Int)) = (off : Int) + (n : Int) := by rw [IntKind.wrap_i64]; omega
  have hne : ((off : Int) == 65536) = false := by rw [beq_eq_false_iff_ne]; omega
  have hread : ∀ (k pl pc : Nat), n ≤ pl → Calls Ybad.prog 27 #[.pointer (some ⟨P, 0, none⟩), .slice (some ⟨B, off, none⟩) pl pc] (w.drewN k) fun e w' => e = .returned (.tuple #[.int .i64 n, .nilIface]) ∧ ReadPost P B (.slice (some ⟨db, doff, none⟩) len cap) off sz n cur cs (w.drewN k) w' :=
    fun k pl pc hpl => read_some P B db doff len cap off sz n pl pc (w.drewN k) hpl hlen hcap hoff hs1 hs7 hPB (unhide Hp) cur (unhide Hb) (by rw [hcur]; omega) cs hcs hone hn hsrc
  have HRD := hide hread
  clear hn hcs hcur hone hsrc hread
  go_enter Ybad.func6, Ybad.ntmps6
  go_wp2_with (go_at_call 10; refine (ahead_any L B off _ (by omega) (by assumption) (by assumption)).mono ?_; rintro e w' ⟨rfl, nd, rfl⟩)
  go_loop [57] (fun i => i = .int .i64 0) (fun i => (100 - intOf i).toNat)
  case atStart => rfl
  case round =>
    subst hrel
    go_wp2
    rw [setCell_self (by simpa using l2)]
    have hna := nil_ahead
    have hme := method_read
    go_region_held3 (fun w' => w'.cell? ⟨L, 0, none⟩ = some (.iface 39 (.pointer (some ⟨P, 0, none⟩))) ∧ w'.cell? ⟨L, 1, none⟩ = some (.slice (some ⟨B, 0, none⟩) off 65536)) (first | go_keep | (refine ⟨?_, ?_⟩ <;> (refine (cell_of_heap ((hr.block L (Ne.symm hP) (Ne.symm hB)).trans (unhide HL))).trans ?_; rfl))) ((go_at_call 27; refine (unhide HRD _ _ _ (by omega)).mono ?_; rintro e w1 ⟨rfl, hr⟩))
    have HR := hide hr
    have hL := (hr.block L (Ne.symm hP) (Ne.symm hB)).trans (unhide HL)
    have m1 : w1.cell? ⟨L, 1, none⟩ = some (.slice (some ⟨B, 0, none⟩) off 65536) := cell_of_heap hL
    have m3 : w1.cell? ⟨L, 3, none⟩ = some (.int .i64 off) := cell_of_heap hL
    have g1 : w1.frozen? ⟨L, 1, none⟩ = false := frozen_of_heap hL
    have g3 : w1.frozen? ⟨L, 3, none⟩ = false := frozen_of_heap hL
    clear hL hr
    go_wp2
    go_region
    go_wp2
    refine bodyPost_ret (results_none rfl _ _ _) rfl ?_
    exact ⟨rfl, ((unhide HS).drewN _).more hP hB (unhide HR) _ _ _ (by omega) (by omega)⟩
end Go.Proofs.YbulkcjmyDoor
