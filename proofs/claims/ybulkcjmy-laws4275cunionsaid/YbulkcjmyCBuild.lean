import Derived.Test.YbulkcjmyCAdd
import Derived.Test.YbulkcjmyCPileC
namespace Go.Proofs.Ybulkcjmy
open Go.ChangeShapes Go.WideShapes Go.ChangeAt Go.RowKit

def nd0 : Nd := ⟨0, 0, 0, 0, 0⟩

/-- A forest all of whose blocks are new since w0. -/
structure Own (w0 w : World) (F : Nat) (bs : List Nat) (ns : List Nd) : Prop where
  fo : Fo w F bs ns
  old : Below w0.heap.size w0 w
  fresh : ∀ k ∈ bs, w0.heap.size ≤ k

theorem Own.made {w0 w w' : World} {F : Nat} {bs : List Nat} {ns ns' : List Nd} {k : Nat} (h : Own w0 w F bs ns) (hm : Made w w' F bs ns ns' k) : ∃ bs', Own w0 w' F bs' ns' := by
  obtain ⟨⟨bs', hf, hst⟩, _⟩ := hm
  have hsz := h.old.size
  refine ⟨bs', hf, h.old.trans ⟨hst.os, hst.tape, hst.output, hst.size, fun k hk => hst.block k (by omega) fun hm => by have := h.fresh k hm; omega⟩, fun k hk => ?_⟩
  rcases hst.from_ k hk with h' | h'
  · exact h.fresh k h'
  · omega
theorem Own.below {w0 w w' : World} {F : Nat} {bs : List Nat} {ns : List Nd} (h : Own w0 w F bs ns) (hb : Below w.heap.size w w') : Own w0 w' F bs ns :=
  ⟨h.fo.below hb, h.old.trans (hb.mono h.old.size), h.fresh⟩

theorem own_first {w w' : World} {F M : Nat} (hF : F = w.heap.size + 1) (hM : M = w.heap.size) (hp : Put ((w.alloc (.map #[] 0)).alloc (.cells (f0Cells M) 54)) w' F M 1 [F, M] (putG (grp []) 0 nd0) 1) : ∃ bs, Own w w' F bs [nd0] := by
  obtain ⟨⟨O, ocap, hs, hpq, hl, hst, _⟩, hmm⟩ := hp
  have hsz : ((w.alloc (.map #[] 0)).alloc (.cells (f0Cells M) 54)).heap.size = w.heap.size + 1 + 1 := by rw [World.size_alloc, World.size_alloc]
  have hmap : w'.heap[M]? = some (.map #[] 0) := by
    rw [hmm, Below.heap_alloc _ _ _ (by rw [World.size_alloc]; omega), hM]
    exact heap_alloc_new _ _
  refine ⟨bsOf F M O hs, ⟨⟨M, O, ocap, hs, rfl, ⟨?_, ⟨_, _, hmap, fun e he => by simp at he⟩, ?_, by simp, by simp⟩⟩, ?_⟩, ?_, ?_⟩
  · refine hpq.congr fun k hk => ?_
    exact put_grp (ns := []) nd0 (nb := hs.length) (by simp; omega) hk
  · rw [hl]; rfl
  · intro i nd hi
    have : i = 0 := by
      rcases Nat.eq_zero_or_pos i with h | h
      · exact h
      · rw [List.getElem?_eq_none (by simp; omega)] at hi; cases hi
    subst this
    obtain rfl : nd0 = nd := by simpa using hi
    exact ⟨.inl rfl, .inl rfl⟩
  · refine (below2 w (.map #[] 0) (.cells (f0Cells M) 54)).trans ⟨hst.os, hst.tape, hst.output, hst.size, fun k hk => hst.block k (by rw [hsz]; omega) (by simp; omega)⟩
  · intro k hk
    rcases hst.from_ k hk with h' | h'
    · simp at h'; omega
    · rw [hsz] at h'; omega

set_option maxRecDepth 100000 in
set_option maxHeartbeats 400000 in
theorem new_any (w : World) : Calls Yba.prog 16 #[] w fun e w' => e = .returned (.pointer (some ⟨w.heap.size + 1, 0, none⟩)) ∧ ∃ bs, Own w w' (w.heap.size + 1) bs [nd0] := by
  have hmm := @run_makeMap Yba.prog
  have hM : w.heap.size < ((w.alloc (.map #[] 0)).alloc (.cells (f0Cells w.heap.size) 54)).heap.size := by rw [World.size_alloc, World.size_alloc]; omega
  have H := hide (add_first ((w.alloc (.map #[] 0)).alloc (.cells (f0Cells w.heap.size) 54)) (w.heap.size + 1) w.heap.size (grp []) nd0 hM (new2 w _ _) (by omega) rfl)
  clear hM
  unfold ndVal nd0 at H
  go_enter Yba.func16, Yba.ntmps16
  go_wp2_with fail
  refine (unhide H).mono ?_
  rintro e w1 ⟨rfl, hp⟩
  have HP := hide hp
  clear hp
  go_wp2
  go_ret
  exact ⟨rfl, own_first rfl rfl (unhide HP)⟩

/-- What the walk is told of the script that came in. -/
def IsOps (w : World) (a : Option Addr) (len : Nat) : Prop :=
  len = 0 ∨ ∃ db doff, a = some ⟨db, doff, none⟩ ∧ ∀ i, i < len → ∃ o v : Int, 0 ≤ o ∧ o ≤ 255 ∧ -128 ≤ v ∧ v ≤ 127 ∧ w.cell? ⟨db, doff + i * 2, none⟩ = some (.int .u8 o) ∧ w.cell? ⟨db, doff + i * 2 + 1, none⟩ = some (.int .i8 v)

/-- What holds at the head of every round of zzs4275cbuild's loop. -/
def BuildRel (w0 : World) (F len : Nat) (m l i : Value) (wr : World) : Prop :=
  ∃ (k tm tl : Nat) (bs : List Nat) (ns : List Nd), i = .int .i64 k ∧ m = .int .i32 tm ∧ l = .int .i32 tl ∧ k ≤ len ∧ Own w0 wr F bs ns ∧ HtLe ns k tm ∧ tl < ns.length ∧ ns.length ≤ 1 + k * 514

theorem own_step {w0 w w' : World} {F : Nat} {bs : List Nat} {ns ns' : List Nd} {k j : Nat} (h : Own w0 w F bs ns) (hm : Made w w' F bs ns ns' j) (hl : ns.length ≤ 1 + k * 514) (hj : j ≤ 513) :
    ∃ bs', Own w0 w' F bs' ns' ∧ ns'.length ≤ 1 + (k + 1) * 514 ∧ ns.length ≤ ns'.length := by
  obtain ⟨bs', ho⟩ := h.made hm
  have := hm.len
  exact ⟨bs', ho, by omega, this.1⟩

set_option maxRecDepth 100000 in
set_option maxHeartbeats 1000000 in
theorem build_any (w : World) (a : Option Addr) (len cap : Nat) (hlen : len ≤ 512) (hops : IsOps w a len) :
    Calls Yba.prog 11 #[.slice a len cap] w fun e w' => ∃ (F tm tl : Nat) (bs : List Nat) (ns : List Nd), e = .returned (.tuple #[.pointer (some ⟨F, 0, none⟩), .int .i32 tm, .int .i32 tl]) ∧ Own w w' F bs ns ∧ tm < ns.length ∧ tl < ns.length := by
  have HOps := hide hops
  clear hops
  have hil : (len : Int) ≤ 512 := by omega
  go_enter Yba.func11, Yba.ntmps11
  go_wp2_with fail
  refine (new_any w).mono ?_
  rintro e w1 ⟨rfl, bs1, ho1⟩
  have HO1 := hide ho1
  clear ho1
  go_wp2
  go_loopw [6, 7, 14] (fun m l i wr => BuildRel w (w.heap.size + 1) len m l i wr) (fun _ _ i _ => len - (intOf i).toNat)
  case atStart => exact ⟨0, 0, 0, bs1, [nd0], rfl, rfl, rfl, Nat.zero_le _, unhide HO1, htLe_zero _ _, by simp, by simp⟩
  case round =>
    obtain ⟨k, tm, tl, bs, ns, rfl, rfl, rfl, hk, ho, hht, htl, hnl⟩ := hrel
    by_cases hlt : k < len
    · rcases unhide HOps with h0 | ⟨db, doff, rfl, hc⟩
      · omega
      obtain ⟨o, v, o1, o2, v1, v2, co, cv⟩ := hc k hlt
      have hdb := World.block_lt_of_cell? w _ co
      have co' : wr.cell? ⟨db, doff + k * 2, none⟩ = some (.int .u8 o) := by rw [ho.old.cell (by exact hdb)]; exact co
      have cv' : wr.cell? ⟨db, doff + k * 2 + 1, none⟩ = some (.int .i8 v) := by rw [ho.old.cell (by exact hdb)]; exact cv
      have q1 : (k : Int) < (len : Int) := by omega
      have q2 : (0 : Int) ≤ (k : Int) := by omega
      have HO := hide ho
      have HT := hide hht
      clear ho hht co cv hc
      have hls : tm < ns.length := htLe_lt (unhide HT) (unhide HO).fo.some1
      have HO2 := hide ((unhide HO).below ((Below.refl _ _).alloc (Nat.le_refl _) (.cells #[.int .u8 o, .int .i8 v] 65)))
      have h3 : o % 3 = 0 ∨ o % 3 = 1 ∨ o % 3 = 2 := by omega
      rcases h3 with h3 | h3 | h3
      · go_wp2_with fail
        refine (add_any k _ _ bs ns (unhide HO2).fo v tm (unhide HT) (by omega)).mono ?_
        rintro e w2 ⟨t2, ns2, rfl, hm2, ht2⟩
        obtain ⟨bs2, ho2, hl2, hg2⟩ := own_step (unhide HO2) hm2 hnl (by omega)
        have HO3 := hide ho2
        have HT2 := hide ht2
        clear hm2 ho2 ht2
        go_wp2
        go_roundw
        case rel => exact ⟨k + 1, t2, tl, bs2, ns2, by go_num, rfl, rfl, by omega, unhide HO3, unhide HT2, by omega, hl2⟩
        case measure => simp [intOf]; omega
      · go_wp2_with fail
        refine (prepend_fo (unhide HO2).fo v tl (by omega) htl).mono ?_
        rintro e w2 ⟨t2, ns2, rfl, hm2, ht2⟩
        obtain ⟨bs2, ho2, hl2, hg2⟩ := own_step (unhide HO2) hm2 hnl (by omega)
        have HM2 := hide hm2
        have HO3 := hide ho2
        clear hm2 ho2
        go_wp2
        go_roundw
        case rel => exact ⟨k + 1, tm, t2, bs2, ns2, by go_num, rfl, rfl, by omega, unhide HO3, htLe_succ ((unhide HM2).ht (unhide HT)), ht2, hl2⟩
        case measure => simp [intOf]; omega
      · go_wp2_with fail
        refine (prepend_fo (unhide HO2).fo v tm (by omega) hls).mono ?_
        rintro e w2 ⟨t2, ns2, rfl, hm2, ht2⟩
        obtain ⟨bs2, ho2, hl2, hg2⟩ := own_step (unhide HO2) hm2 hnl (by omega)
        have HM2 := hide hm2
        have HO3 := hide ho2
        clear hm2 ho2
        go_wp2
        go_roundw
        case rel => exact ⟨k + 1, tm, t2, bs2, ns2, by go_num, rfl, rfl, by omega, unhide HO3, htLe_succ ((unhide HM2).ht (unhide HT)), ht2, hl2⟩
        case measure => simp [intOf]; omega
    · go_wp2
      go_ret3
      exact ⟨_, tm, tl, bs, ns, rfl, ho, htLe_lt hht ho.fo.some1, htl⟩
end Go.Proofs.Ybulkcjmy
