import Derived.Test.YbulkcjmyDoorWholeFill
import Derived.LaidEqlPtr
import Derived.Laws.BytesArg
import Derived.OpenShut
namespace Go.Proofs.YbulkcjmyDoor
open Go.ChangeShapes Go.WideShapes Go.ChangeAt Go.RowKit

/-- The cells of 'make([]byte, 0, 65536)'. -/
def zrow : Array Value := madeCells #[.int .u8 0] 65536
theorem zrow_size : zrow.toList.length = 65536 := by
  rw [Array.length_toList]
  exact size_madeCells _ _

theorem info5 : (Ybad.prog.info? 5).map (fun i => (i.zero, i.size, i.bytes)) = some (some (.int .u8 0), 1, 1) := by kernel_rfl
theorem make_buf (w : World) : (Instr.makeSlice 22 (.int .i64 0) (.int .i64 65536)).run Ybad.prog w = .ok (.slice (some ⟨w.heap.size, 0, none⟩) 0 65536) (w.alloc (.cells zrow 5)) := by
  obtain ⟨i, hi, he⟩ := Option.map_eq_some_iff.1 info5
  simp only [Prod.mk.injEq] at he
  obtain ⟨hz, hs, hb⟩ := he
  have h := run_make (P := Ybad.prog) w 22 5 i (.int .u8 0) Ybad.underlying22 hi hz .i64 .i64 0 65536 (by omega) (by omega) (by rw [hb]; omega) (by omega)
  rw [hs] at h
  exact h

set_option maxRecDepth 100000 in
set_option maxHeartbeats 400000 in
theorem new_any (rv : Value) (u : TypeId) (w : World) :
    Calls Ybad.prog 8 #[.iface u rv] w fun e w' => e = .returned (.pointer (some ⟨w.heap.size + 1, 0, none⟩)) ∧
      w' = (w.alloc (.cells zrow 5)).alloc (.cells #[.iface u rv, .slice (some ⟨w.heap.size, 0, none⟩) 0 65536, .int .i64 0, .int .i64 0, .nilIface, .int .i64 0] 34) := by
  have hmk := make_buf
  go_enter Ybad.func8, Ybad.ntmps8
  go_wp2
  go_ret
  exact ⟨rfl, rfl⟩

set_option maxRecDepth 100000 in
set_option maxHeartbeats 400000 in
/-- bytes.Equal at two slices that hold the same bytes. -/
theorem equal_same (u v : Value) (s : ByteArray) (w : World) (hu : (convert 22 9 u).run Ybad.prog w = .ok (.string s) w) (hv : (convert 22 9 v).run Ybad.prog w = .ok (.string s) w) :
    Calls Ybad.prog 7 #[u, v] w fun e w' => e = .returned (.bool true) ∧ w' = w := by
  go_enter Ybad.func7, Ybad.ntmps7
  go_wp2
  go_ret
  exact ⟨rfl, rfl⟩

theorem info45 : (Ybad.prog.info? 45).map (fun i => i.comparable) = some true := by kernel_rfl
theorem info46 : ∃ te j, Ybad.prog.underlying 45 = some (.pointer te) ∧ Ybad.prog.info? te = some j := by
  obtain ⟨j, hj⟩ := Option.isSome_iff_exists.1 (show (Ybad.prog.info? 47).isSome = true by kernel_rfl)
  exact ⟨47, j, Ybad.underlying45, hj⟩
theorem neq_eof (a : Addr) (w : World) : (binOp .neq 25 (.iface 45 (.pointer (some a))) (.iface 45 (.pointer (some a)))).run Ybad.prog w = .ok (.bool false) w := by
  obtain ⟨i, hi, hc⟩ := Option.map_eq_some_iff.1 info45
  obtain ⟨te, j, hp, hj⟩ := info46
  have h := run_equalIn_iface_ptr_same (P := Ybad.prog) w 9998 a Ybad.underlying25 hp hi hc hj
  simp only [binOp]
  simp [Op.equal, Op.maxDepth, h]

/-! ### Plain lists -/
theorem splice_take {α : Type} (cur vals : List α) (off n : Nat) (h : cur.take off = vals.take off) (hv : off + n ≤ vals.length) (hc : off + n ≤ cur.length) :
    (splice cur off ((vals.drop off).take n)).take (off + n) = vals.take (off + n) := by
  have hl : ((vals.drop off).take n).length = n := by simp; omega
  have hl2 : (cur.take off).length = off := by simp; omega
  unfold splice
  rw [← List.append_assoc, List.take_append_of_le_length (by simp; omega), List.take_of_length_le (by simp; omega), h]
  rw [List.take_add]

theorem getElem_take_eq {α : Type} (cur vals : List α) (n i : Nat) (h : cur.take n = vals.take n) (hi : i < n) : cur[i]? = vals[i]? := by
  have := congrArg (fun l => l[i]?) h
  simpa [List.getElem?_take, hi] using this

/-! ### The world -/
theorem heap_three (w : World) (o1 o2 o3 : Obj) :
    (((w.alloc o1).alloc o2).alloc o3).heap[w.heap.size]? = some o1 ∧ (((w.alloc o1).alloc o2).alloc o3).heap[w.heap.size + 1]? = some o2 ∧ (((w.alloc o1).alloc o2).alloc o3).heap[w.heap.size + 2]? = some o3 := by
  show (((w.heap.push o1).push o2).push o3)[w.heap.size]? = some o1 ∧ (((w.heap.push o1).push o2).push o3)[w.heap.size + 1]? = some o2 ∧ (((w.heap.push o1).push o2).push o3)[w.heap.size + 2]? = some o3
  refine ⟨?_, ?_, ?_⟩
  · rw [Array.getElem?_push, if_neg (by simp; omega), Array.getElem?_push, if_neg (by simp), Array.getElem?_push, if_pos rfl]
  · rw [Array.getElem?_push, if_neg (by simp), Array.getElem?_push, if_pos (by simp)]
  · rw [Array.getElem?_push, if_pos (by simp)]

theorem below_three (w : World) (o1 o2 o3 : Obj) : Below w.heap.size w (((w.alloc o1).alloc o2).alloc o3) :=
  (((Below.refl _ _).alloc (Nat.le_refl _) _).alloc (by rw [World.size_alloc]; omega) _).alloc (by rw [World.size_alloc, World.size_alloc]; omega) _

theorem St.below {w w0 wr : World} {dv : Value} {sz off : Nat} {ev : Value} {cur : List Value} (hb : Below w.heap.size w w0) (h : St w0 w.heap.size (w.heap.size + 1) (w.heap.size + 2) dv sz off ev cur wr) : Below w.heap.size w wr :=
  hb.trans ⟨h.os, h.tape, h.output, by rw [h.size]; exact Nat.le_refl _, fun k hk => h.block k (by omega) (by omega) (by omega)⟩

theorem block_lt {w : World} {a : Addr} {v : Value} (h : w.cell? a = some v) : a.block < w.heap.size := by
  rcases Nat.lt_or_ge a.block w.heap.size with h' | h'
  · exact h'
  · simp [World.cell?, Array.getElem?_eq_none h'] at h

/-- The first len numbers, as cells. -/
def bytesV (zs : List Int) (len : Nat) : List Value := (zs.take len).map (Value.int .u8)
theorem bytesV_length {zs : List Int} {len : Nat} (h : len ≤ zs.length) : (bytesV zs len).length = len := by simp [bytesV]; omega
theorem bytesV_one {zs : List Int} {len : Nat} : ∀ v ∈ bytesV zs len, v.oneCell' = true := by
  intro v hv
  simp only [bytesV, List.mem_map] at hv
  obtain ⟨n, _, rfl⟩ := hv
  rfl
theorem bytesV_at {zs : List Int} {len i : Nat} (h : len ≤ zs.length) (hi : i < len) : (bytesV zs len)[i]? = some (.int .u8 (zs.getD i 0)) := by
  simp [bytesV, hi, List.getElem?_eq_getElem (show i < zs.length by omega)]

theorem conv_any (w : World) (x : Addr) (len cap : Nat) (xs : List Int) (hlen : xs.length = len) (hcell : ∀ i, i < len → w.cell? (x.add i) = some (.int .u8 (xs.getD i 0))) :
    (convert 22 9 (.slice (some x) len cap)).run Ybad.prog w = .ok (.string (strOfNums xs)) w := by
  have hl : (loadCells x len).run Ybad.prog w = .ok (xs.map (Value.int .u8)).toArray w := by
    have := run_loadCells_list (P := Ybad.prog) w x (xs.map (Value.int .u8)) (fun j v hj => by
      have hjl : j < xs.length := by
        rcases Nat.lt_or_ge j xs.length with h | h
        · exact h
        · simp [List.getElem?_eq_none (show (xs.map (Value.int .u8)).length ≤ j by simpa using h)] at hj
      rw [hcell j (by omega)]
      simp [List.getElem?_eq_getElem hjl] at hj
      subst hj
      simp [List.getElem?_eq_getElem hjl])
    simpa [hlen] using this
  rw [run_convert_bytes_string w 22 9 5 _ len cap Ybad.underlying22 Ybad.underlying5 Ybad.underlying9, run_bytesToString w _ len cap xs hl, foldl_push_bytes]
  simp [strOfNums, ByteArray.empty, ByteArray.emptyWithCapacity]
  rfl

/-- What the walk is told of a slice of bytes that came in. -/
def IsRow (k : IntKind) (w : World) (a : Option Addr) (len cap : Nat) (zs : List Int) : Prop :=
  (a = none ∧ len = 0 ∧ cap = 0 ∧ zs = []) ∨
  ∃ x, a = some x ∧ len ≤ cap ∧ cap ≤ maxLen ∧ zs.length = cap ∧ (∀ i, i < zs.length → w.cell? (x.add i) = some (.int k (zs.getD i 0))) ∧ ∀ n ∈ zs, (Lit.int k n).wf = true

theorem conv_data {w wr : World} {a : Option Addr} {len cap : Nat} {zs : List Int} (h : IsRow .u8 w a len cap zs) (hb : Below w.heap.size w wr) :
    (convert 22 9 (.slice a len cap)).run Ybad.prog wr = .ok (.string (strOfNums (zs.take len))) wr := by
  rcases h with ⟨rfl, rfl, rfl, rfl⟩ | ⟨x, rfl, hl, _, hz, hc, _⟩
  · exact run_convert_bytes_nil wr 22 5 Ybad.underlying22 Ybad.underlying5 0 0 9 Ybad.underlying9
  · refine conv_any wr x len cap _ (by simp; omega) (fun i hi => ?_)
    have hc' := hc i (by omega)
    rw [hb.cell (block_lt hc'), hc']
    simp [hi]

theorem conv_buf {wr : World} {B len : Nat} {cur : List Value} {zs : List Int} (hB : wr.heap[B]? = some (.cells cur.toArray 5 (0, 0))) (hlen : len ≤ zs.length) (hcur : cur.take len = (bytesV zs len).take len) :
    (convert 22 9 (.slice (some ⟨B, 0, none⟩) len 65536)).run Ybad.prog wr = .ok (.string (strOfNums (zs.take len))) wr := by
  refine conv_any wr _ len 65536 _ (by simp; omega) (fun i hi => ?_)
  rw [add_plain, cell_of_heap hB]
  have h := getElem_take_eq cur _ len i hcur hi
  rw [bytesV_at hlen hi] at h
  simp [h, hi]

/-- What holds at the head of every round of the law's loop. -/
def LoopRel (w : World) (a0 : Option Addr) (len cap sz : Nat) (zs : List Int) (ea : Addr) (i : Value) (wr : World) : Prop :=
  ∃ (k off : Nat) (ev : Value) (cur : List Value) (w0 : World), i = .int .i64 k ∧ Below w.heap.size w w0 ∧ St w0 w.heap.size (w.heap.size + 1) (w.heap.size + 1 + 1) (.slice a0 len cap) sz off ev cur wr ∧ cur.length = 65536 ∧
    cur.take off = (bytesV zs len).take off ∧ off ≤ len ∧ k ≤ len + 2 ∧ (ev = .nilIface ∧ k ≤ off ∨ ev = .iface 45 (.pointer (some ea)) ∧ off = len)

theorem St.offset {w0 : World} {P B L : Nat} {dv : Value} {sz off : Nat} {ev : Value} {cur : List Value} {w : World} (h : St w0 P B L dv sz off ev cur w) (ho : off ≤ 4096) :
    Calls Ybad.prog 9 #[.pointer (some ⟨L, 0, none⟩)] w fun e w' => e = .returned (.int .i64 0) ∧ St w0 P B L dv sz off ev cur w' :=
  (offset_any L B off w (by omega) (cell_of_heap h.lr) (cell_of_heap h.lr) (cell_of_heap h.lr)).mono fun e w' ⟨he, n, hw⟩ => ⟨he, by rw [hw]; exact h.drewN n⟩

/-- One fill, whichever it is. -/
theorem St.fill {w w0 : World} {a0 : Option Addr} {len cap sz off : Nat} {zs : List Int} {ea : Addr} {cur : List Value} {wr : World} (hbw : Below w.heap.size w w0) (hrow : IsRow .u8 w a0 len cap zs) (hg : w.cell? ⟨1, 0, none⟩ = some (.iface 45 (.pointer (some ea))))
    (h : St w0 w.heap.size (w.heap.size + 1) (w.heap.size + 1 + 1) (.slice a0 len cap) sz off .nilIface cur wr) (hlen : len ≤ 4096) (hs1 : 1 ≤ sz) (hs7 : sz ≤ 7) (hcur : cur.length = 65536) (htk : cur.take off = (bytesV zs len).take off) (hoff : off ≤ len) :
    Calls Ybad.prog 6 #[.pointer (some ⟨w.heap.size + 1 + 1, 0, none⟩)] wr fun e w' => e = .returned (.tuple #[]) ∧ ∃ (off' : Nat) (ev : Value) (cur' : List Value),
      St w0 w.heap.size (w.heap.size + 1) (w.heap.size + 1 + 1) (.slice a0 len cap) sz off' ev cur' w' ∧ cur'.length = 65536 ∧ cur'.take off' = (bytesV zs len).take off' ∧ off' ≤ len ∧ (ev = .nilIface ∧ off + 1 ≤ off' ∨ ev = .iface 45 (.pointer (some ea)) ∧ off' = len) := by
  have hb := St.below hbw h
  have hN : 1 < w.heap.size := block_lt hg
  have hgr : wr.cell? ⟨1, 0, none⟩ = some (.iface 45 (.pointer (some ea))) := by rw [hb.cell (by exact hN)]; exact hg
  by_cases hlt : off < len
  · rcases hrow with ⟨_, rfl, _⟩ | ⟨x, rfl, hl, _, hz, hc, _⟩
    · omega
    · obtain ⟨db, doff, rfl, hc'⟩ := ints_at hc (by omega)
      obtain ⟨n, hn⟩ : ∃ n, n = sz ∧ off + sz ≤ len ∨ n = len - off ∧ len < off + sz := by
        by_cases hh : off + sz ≤ len
        · exact ⟨sz, .inl ⟨rfl, hh⟩⟩
        · exact ⟨len - off, .inr ⟨rfl, by omega⟩⟩
      have hzl : len ≤ zs.length := by omega
      have hvl : (bytesV zs len).length = len := bytesV_length hzl
      have hcs : (((bytesV zs len).drop off).take n).length = n := by simp [hvl]; omega
      refine (fill_some w0 _ _ _ db doff len cap sz off n cur (((bytesV zs len).drop off).take n) wr h (by omega) (by omega) (by omega) hlen hl hlt hs1 hs7 hcur hcs (fun v hv => bytesV_one v (List.mem_of_mem_drop (List.mem_of_mem_take hv))) hn ?_).mono ?_
      · intro j v hj
        have hjn : j < n := by
          rcases Nat.lt_or_ge j n with h' | h'
          · exact h'
          · rw [List.getElem?_eq_none (by rw [hcs]; exact h')] at hj; cases hj
        rw [List.getElem?_take, if_pos hjn, List.getElem?_drop, bytesV_at hzl (by omega)] at hj
        have hcc := hc' (off + j) (by omega)
        rw [Nat.add_assoc, hb.cell (by exact block_lt hcc), hcc]
        exact hj
      · rintro e w' ⟨rfl, hst⟩
        refine ⟨rfl, off + n, .nilIface, _, hst, ?_, splice_take _ _ _ _ htk (by omega) (by omega), by omega, .inl ⟨rfl, by omega⟩⟩
        rw [length_splice _ _ _ (by rw [hcs]; omega)]; exact hcur
  · refine (fill_eof w0 _ _ _ a0 len cap sz off ea .nilIface cur wr h (by omega) (by omega) (by omega) (by omega) hgr).mono ?_
    rintro e w' ⟨rfl, hst⟩
    exact ⟨rfl, off, _, cur, hst, hcur, htk, hoff, .inr ⟨rfl, by omega⟩⟩

/-- The relation at the loop's start. -/
theorem start_rel (w : World) (a0 : Option Addr) (len cap sz : Nat) (zs : List Int) (ea : Addr) :
    LoopRel w a0 len cap sz zs ea (.int .i64 0) (((w.alloc (.cells #[.slice a0 len cap, .int .i64 0, .int .i64 sz] 41)).alloc (.cells zrow 5)).alloc
      (.cells #[.iface 39 (.pointer (some ⟨w.heap.size, 0, none⟩)), .slice (some ⟨w.heap.size + 1, 0, none⟩) 0 65536, .int .i64 0, .int .i64 0, .nilIface, .int .i64 0] 34)) := by
  have h3 := heap_three w (.cells #[.slice a0 len cap, .int .i64 0, .int .i64 sz] 41) (.cells zrow 5) (.cells #[.iface 39 (.pointer (some ⟨w.heap.size, 0, none⟩)), .slice (some ⟨w.heap.size + 1, 0, none⟩) 0 65536, .int .i64 0, .int .i64 0, .nilIface, .int .i64 0] 34)
  have hz := zrow_size
  generalize zrow = Z at h3 hz ⊢
  have hb := below_three w (.cells #[.slice a0 len cap, .int .i64 0, .int .i64 sz] 41) (.cells Z 5) (.cells #[.iface 39 (.pointer (some ⟨w.heap.size, 0, none⟩)), .slice (some ⟨w.heap.size + 1, 0, none⟩) 0 65536, .int .i64 0, .int .i64 0, .nilIface, .int .i64 0] 34)
  refine ⟨0, 0, .nilIface, Z.toList, _, rfl, hb, ⟨rfl, rfl, rfl, rfl, fun _ _ _ _ => rfl, h3.1, ?_, h3.2.2⟩, hz, by rw [List.take_zero, List.take_zero], Nat.zero_le _, Nat.zero_le _, .inl ⟨rfl, Nat.le_refl _⟩⟩
  have hZ : Z.toList.toArray = Z := Array.toArray_toList
  rw [hZ]
  exact h3.2.1

set_option maxRecDepth 100000 in
set_option maxHeartbeats 800000 in
theorem law_walk (a0 : Option Addr) (len cap : Nat) (zs : List Int) (a1 : Int) (ea : Addr) (w : World) (hrow : IsRow .u8 w a0 len cap zs) (w1 : (Lit.int .u8 a1).wf = true) (hlen : len ≤ 4096)
    (hg : w.cell? ⟨1, 0, none⟩ = some (.iface 45 (.pointer (some ea)))) :
    Calls Ybad.prog 4 #[.slice a0 len cap, .int .u8 a1] w fun e w' => e = .returned (.bool true) ∧ Below w.heap.size w w' := by
  obtain ⟨b1, b2⟩ := bounds_u8 w1
  have hzl : len ≤ zs.length := by
    rcases hrow with ⟨_, rfl, _⟩ | ⟨x, rfl, hl, _, hz, _⟩ <;> omega
  obtain ⟨sz, hsz⟩ : ∃ sz : Nat, a1 % 7 + 1 = (sz : Int) := ⟨(a1 % 7 + 1).toNat, by omega⟩
  have hs1 : 1 ≤ sz := by omega
  have hs7 : sz ≤ 7 := by omega
  have HR := hide hrow
  have HG := hide hg
  have hN : 1 < w.heap.size := block_lt hg
  have hil : (len : Int) ≤ 4096 := by omega
  have Hsz := hide hsz
  clear hrow hg hsz
  go_enter Ybad.func4, Ybad.ntmps4
  go_wp2_with (go_at_call 8; refine (new_any _ _ _).mono ?_; rintro e w' ⟨rfl, rfl⟩)
  rw [unhide Hsz]
  go_loopw [7] (fun i wr => LoopRel w a0 len cap sz zs ea i wr) (fun i _ => (len + 3) - (intOf i).toNat)
  case atStart => exact start_rel w a0 len cap sz zs ea
  case round =>
    obtain ⟨k, off, ev, cur, w0, rfl, hbw, hst, hcur, htk, hoff, hk, hev⟩ := hrel
    have m4 : wr.cell? ⟨w.heap.size + 1 + 1, 4, none⟩ = some ev := cell_of_heap hst.lr
    have Hst := hide hst
    have Hbw := hide hbw
    have Hcur := hide hcur
    have Htk := hide htk
    clear hst hbw hcur htk
    rcases hev with ⟨hev, hko⟩ | ⟨hev, hoe⟩
    · subst hev
      have hki : (k : Int) ≤ (len : Int) + 1 := by omega
      go_wp2_with fail
      refine ((unhide Hst).offset (by omega)).mono ?_
      rintro e w2 ⟨rfl, hst2⟩
      have Hst2 := hide hst2
      clear hst2
      go_wp2_with fail
      refine (St.fill (unhide Hbw) (unhide HR) (unhide HG) (unhide Hst2) hlen hs1 hs7 (unhide Hcur) (unhide Htk) hoff).mono ?_
      rintro e w3 ⟨rfl, off', ev', cur', hst3, hcur', htk', hoff', hev'⟩
      have Hst3 := hide hst3
      have Hcur' := hide hcur'
      have Htk' := hide htk'
      have Hev' := hide hev'
      clear hst3 hcur' htk' hev'
      go_wp2_with fail
      refine ((unhide Hst3).offset (by omega)).mono ?_
      rintro e w4 ⟨rfl, hst4⟩
      have Hst4 := hide hst4
      clear hst4
      go_wp2
      go_roundw
      case rel => exact ⟨k + 1, off', ev', cur', w0, by go_num, unhide Hbw, unhide Hst4, unhide Hcur', unhide Htk', hoff', by omega, by
        rcases unhide Hev' with ⟨h1, h2⟩ | ⟨h1, h2⟩
        · exact .inl ⟨h1, by omega⟩
        · exact .inr ⟨h1, h2⟩⟩
      case measure => simp [intOf]; omega
    · subst hev
      subst hoe
      have m2 : wr.cell? ⟨w.heap.size + 1 + 1, 2, none⟩ = some (.int .i64 0) := cell_of_heap (unhide Hst).lr
      have m3 : wr.cell? ⟨w.heap.size + 1 + 1, 3, none⟩ = some (.int .i64 off) := cell_of_heap (unhide Hst).lr
      have m1 : wr.cell? ⟨w.heap.size + 1 + 1, 1, none⟩ = some (.slice (some ⟨w.heap.size + 1, 0, none⟩) off 65536) := cell_of_heap (unhide Hst).lr
      have hb := St.below (unhide Hbw) (unhide Hst)
      have mg : wr.cell? ⟨1, 0, none⟩ = some (.iface 45 (.pointer (some ea))) := by rw [hb.cell (by exact hN)]; exact unhide HG
      have Hb := hide hb
      clear hb
      have hne := neq_eof
      have Heq := hide (fun n => equal_same (.slice (some ⟨w.heap.size + 1, 0, none⟩) off 65536) (.slice a0 off cap) (strOfNums (zs.take off)) (wr.drewN n) (conv_buf (unhide Hst).buf hzl (unhide Htk)) (conv_data (unhide HR) ((unhide Hb).trans ⟨rfl, rfl, rfl, Nat.le_refl _, fun _ _ => rfl⟩)))
      by_cases hki : (k : Int) ≤ (off : Int) + 1
      all_goals
        go_wp2_with fail
        go_quiet (fail)
        go_wp2_with fail
        refine (unhide Heq _).mono ?_
        rintro e w5 ⟨rfl, rfl⟩
        go_wp2
        go_ret
        exact ⟨rfl, (unhide Hb).trans ⟨rfl, rfl, rfl, Nat.le_refl _, fun _ _ => rfl⟩⟩
end Go.Proofs.YbulkcjmyDoor
