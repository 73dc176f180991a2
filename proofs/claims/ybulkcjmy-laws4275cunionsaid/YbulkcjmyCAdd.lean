import Derived.Test.YbulkcjmyCSplit
namespace Go.Proofs.Ybulkcjmy
open Go.ChangeShapes Go.WideShapes Go.ChangeAt Go.RowKit

def AddSaid (h : Nat) : Prop := ∀ (w : World) (F : Nat) (bs : List Nat) (ns : List Nd), Fo w F bs ns → ∀ (v : Int) (t : Nat), HtLe ns h t → ns.length + h + 1 < 1000000 →
    Calls Yba.prog 17 #[.pointer (some ⟨F, 0, none⟩), .int .i32 t, .int .i64 v] w fun e w' => ∃ (t' : Nat) (ns' : List Nd), e = .returned (.int .i32 t') ∧ Made w w' F bs ns ns' (h + 1) ∧ HtLe ns' (h + 1) t'

theorem Made.len {w w' : World} {F : Nat} {bs : List Nat} {ns ns' : List Nd} {k : Nat} (h : Made w w' F bs ns ns' k) : ns.length ≤ ns'.length ∧ ns'.length ≤ ns.length + k := by
  obtain ⟨_, ms, rfl, hl⟩ := h
  rw [List.length_append]; omega
theorem Made.ht {w w' : World} {F : Nat} {bs : List Nat} {ns ns' : List Nd} {k : Nat} (h : Made w w' F bs ns ns' k) {j t : Nat} (ht : HtLe ns j t) : HtLe ns' j t := by
  obtain ⟨_, ms, rfl, hl⟩ := h
  exact htLe_append ms ht
theorem Made.before {w w0 w' : World} {F : Nat} {bs : List Nat} {ns ns' : List Nd} {k : Nat} (h : Made w0 w' F bs ns ns' k) (hs : Step bs w bs w0) : Made w w' F bs ns ns' k := by
  obtain ⟨⟨bs', hf, hst⟩, hm⟩ := h
  exact ⟨⟨bs', hf, hs.trans hst⟩, hm⟩
theorem Made.weaken {w w' : World} {F : Nat} {bs : List Nat} {ns ns' : List Nd} {k j : Nat} (h : Made w w' F bs ns ns' k) (hkj : k ≤ j) : Made w w' F bs ns ns' j := by
  obtain ⟨hx, ms, e, hl⟩ := h
  exact ⟨hx, ms, e, by omega⟩

/-- A node over two trees of at most h. -/
theorem node_over {w w2 : World} {F : Nat} {bs : List Nat} {ns ns2 : List Nd} {k h : Nat} (hm : Made w w2 F bs ns ns2 k) (h1 : 1 ≤ ns.length) (v c : Int) {l r : Nat} (hl : HtLe ns2 h l) (hr : HtLe ns2 h r) (hlt : ns.length + k < 1000000) :
    Calls Yba.prog 21 #[.pointer (some ⟨F, 0, none⟩), .int .i64 v, .int .i32 c, .int .i32 l, .int .i32 r] w2 fun e w' => ∃ (t : Nat) (ns' : List Nd), e = .returned (.int .i32 t) ∧ Made w w' F bs ns ns' (k + 1) ∧ HtLe ns' (h + 1) t := by
  have hlen := hm.len
  obtain ⟨⟨bs2, fo2, st2⟩, hms⟩ := hm
  refine (node_fo fo2 v c l r (by omega) (htLe_lt hl (by omega)) (htLe_lt hr (by omega))).mono ?_
  rintro e w3 ⟨t3, ns3, rfl, hm3, hat3, hp3⟩
  exact ⟨t3, ns3, rfl, Made.trans st2 hms hm3, .inr ⟨_, hat3, hm3.ht hl, hm3.ht hr⟩⟩

theorem made_cells {w w2 : World} {F L : Nat} {bs : List Nat} {ns ns2 : List Nd} {k : Nat} {nd : Nd} (hm : Made w w2 F bs ns ns2 k) (hp : w.heap[L]? = some (.cells #[.int .i64 nd.v, .int .i32 nd.c, .int .i32 nd.lv, .int .i32 nd.l, .int .i32 nd.r] 68)) (hn : L ∉ bs) :
    w2.cell? ⟨L, 0, none⟩ = some (.int .i64 nd.v) ∧ w2.cell? ⟨L, 1, none⟩ = some (.int .i32 nd.c) ∧ w2.cell? ⟨L, 3, none⟩ = some (.int .i32 nd.l) ∧ w2.cell? ⟨L, 4, none⟩ = some (.int .i32 nd.r) := by
  obtain ⟨⟨bs2, fo2, st2⟩, hms⟩ := hm
  exact local_cells (st2.local hp hn).1

theorem made_refl {w : World} {F : Nat} {bs : List Nat} {ns : List Nd} (h : Fo w F bs ns) : Made w w F bs ns ns 0 := ⟨⟨bs, h, Step.refl _ _⟩, [], by simp, by simp⟩

set_option maxRecDepth 100000 in
set_option maxHeartbeats 1000000 in
theorem empty_add {w : World} {F : Nat} {bs : List Nat} {ns : List Nd} (hf : Fo w F bs ns) (v : Int) (h : Nat) (hlt : ns.length + 1 < 1000000) :
    Calls Yba.prog 17 #[.pointer (some ⟨F, 0, none⟩), .int .i32 0, .int .i64 v] w fun e w' => ∃ (t' : Nat) (ns' : List Nd), e = .returned (.int .i32 t') ∧ Made w w' F bs ns ns' (h + 1) ∧ HtLe ns' (h + 1) t' := by
  have H := hide (node_over (h := h) (made_refl hf) hf.some1 v 1 (htLe_zero ns h) (htLe_zero ns h) (by omega))
  clear hf
  go_enter Yba.func17, Yba.ntmps17
  go_wp2_with fail
  refine (unhide H).mono ?_
  rintro e w1 ⟨t, ns', rfl, hm, ht⟩
  have HM := hide hm
  have HT := hide ht
  clear hm ht
  go_wp2
  go_ret
  exact ⟨t, ns', rfl, (unhide HM).weaken (by omega), unhide HT⟩

set_option maxRecDepth 100000 in
set_option maxHeartbeats 2000000 in
theorem add_any : ∀ (h : Nat), AddSaid h := by
  intro h
  induction h with
  | zero =>
    intro w F bs ns hf v t ht hlt
    obtain rfl : t = 0 := ht
    exact empty_add hf v 0 (by omega)
  | succ h IH =>
    intro w F bs ns hf v t ht hlt
    by_cases ht0 : t = 0
    · subst ht0
      exact empty_add hf v (h + 1) (by omega)
    have HTT := hide ht
    rcases ht with h0 | ⟨nd, hnd, hl, hr⟩
    · exact absurd h0 ht0
    have htb : ((t : Int) == 0) = false := by rw [beq_eq_false_iff_ne]; omega
    have HF := hide hf
    have HAt := hide (hf.at_ hnd)
    have HL := hide hl
    have HR := hide hr
    have h1 := hf.some1
    clear hnd hf hl hr
    unfold ndVal at HAt
    go_enter Yba.func17, Yba.ntmps17
    go_wp2_with fail
    refine (unhide HAt).mono ?_
    rintro e w1 ⟨rfl, hb1⟩
    obtain ⟨fo1, st1, hp1, nb1⟩ := at_local (unhide HF) hb1 (.cells #[.int .i64 nd.v, .int .i32 nd.c, .int .i32 nd.lv, .int .i32 nd.l, .int .i32 nd.r] 68)
    have M1 := hide (made_refl fo1)
    have FO1 := hide fo1
    have ST1 := hide st1
    have HP1 := hide hp1
    have NB1 := hide nb1
    clear hb1 fo1 st1 hp1 nb1
    by_cases hv : v = nd.v
    · have hvb : (v == nd.v) = true := by rw [beq_iff_eq]; exact hv
      have HV := hide hv
      clear hv
      go_wp2_with fail
      refine (node_over (h := h) (unhide M1) h1 v _ (unhide HL) (unhide HR) (by omega)).mono ?_
      rintro e w3 ⟨t3, ns3, rfl, hm3, ht3⟩
      have HM3 := hide hm3
      have HT3 := hide ht3
      clear hm3 ht3
      go_wp2
      go_ret
      exact ⟨t3, ns3, rfl, ((unhide HM3).before (unhide ST1)).weaken (by omega), htLe_succ (unhide HT3)⟩
    have hvb : (v == nd.v) = false := by rw [beq_eq_false_iff_ne]; exact hv
    go_wp2_with fail
    go_quiet ((go_at_call 22; exact Calls.quiet_of_same (priority_any _ _)))
    obtain ⟨w2, hw2⟩ : ∃ w2, w2 = (w1.alloc (.cells #[.int .i64 nd.v, .int .i32 nd.c, .int .i32 nd.lv, .int .i32 nd.l, .int .i32 nd.r] 68)).drewN nq := ⟨_, rfl⟩
    rw [← hw2]
    have fo2 : Fo w2 F bs ns := by rw [hw2]; exact (unhide FO1).kept fun _ _ => rfl
    have st2 : Step bs w bs w2 := by rw [hw2]; exact (unhide ST1).trans (Step.drewN _ _ _)
    have hp2 : w2.heap[w1.heap.size]? = some (.cells #[.int .i64 nd.v, .int .i32 nd.c, .int .i32 nd.lv, .int .i32 nd.l, .int .i32 nd.r] 68) := by rw [hw2]; exact unhide HP1
    obtain ⟨x0, x1, x3, x4⟩ := local_cells hp2
    have FO2 := hide fo2
    have ST2 := hide st2
    have HP2 := hide hp2
    have M2 := hide (made_refl fo2)
    clear FO1 ST1 HP1 M1 fo2 st2 hp2 hw2
    generalize prioF nd.v = p1
    generalize prioF v = p2
    by_cases hpr : p1 < p2
    · go_wp2_with fail
      refine (split_any (h + 1) w2 F bs ns (unhide FO2) v t (unhide HTT) (by omega)).mono ?_
      rintro e w3 ⟨a, b, ns3, rfl, hm3, ha, hb⟩
      have HM3 := hide hm3
      have HA := hide ha
      have HB := hide hb
      clear hm3 ha hb
      go_wp2_with fail
      refine (node_over (h := h + 1) (unhide HM3) h1 v 1 (unhide HA) (unhide HB) (by omega)).mono ?_
      rintro e w4 ⟨t4, ns4, rfl, hm4, ht4⟩
      have HM4 := hide hm4
      have HT4 := hide ht4
      clear hm4 ht4
      go_wp2
      go_ret
      exact ⟨t4, ns4, rfl, (unhide HM4).before (unhide ST2), unhide HT4⟩
    by_cases hlt2 : v < nd.v
    · go_wp2_with fail
      go_region_held3 (fun w' => w'.cell? ⟨w1.heap.size, 0, none⟩ = some (.int .i64 nd.v) ∧ w'.cell? ⟨w1.heap.size, 1, none⟩ = some (.int .i32 nd.c) ∧ w'.cell? ⟨w1.heap.size, 3, none⟩ = some (.int .i32 nd.l) ∧ w'.cell? ⟨w1.heap.size, 4, none⟩ = some (.int .i32 nd.r)) (first | go_keep | (exact made_cells hm4 (unhide HP2) (unhide NB1)) | (exact made_cells hm3 (unhide HP2) (unhide NB1)))
        (first
          | (go_at_call 17; refine (IH w2.drew F bs ns ((unhide FO2).kept fun _ _ => rfl) v nd.l (unhide HL) (by omega)).mono ?_; rintro e w3 ⟨t3, ns3, rfl, hm3, ht3⟩)
          | (go_at_call 21; refine (node_over (h := h + 1) hm3 h1 nd.v nd.c ht3 (htLe_succ (hm3.ht (unhide HR))) (by omega)).mono ?_; rintro e w4 ⟨t4, ns4, rfl, hm4, ht4⟩))
      have HM4 := hide hm4
      have HT4 := hide ht4
      clear hm4 ht4 hm3 ht3
      go_wp2
      go_ret
      exact ⟨t4, ns4, rfl, (unhide HM4).before ((unhide ST2).trans (Step.drew _ _)), unhide HT4⟩
    · go_wp2_with fail
      go_region_held3 (fun w' => w'.cell? ⟨w1.heap.size, 0, none⟩ = some (.int .i64 nd.v) ∧ w'.cell? ⟨w1.heap.size, 1, none⟩ = some (.int .i32 nd.c) ∧ w'.cell? ⟨w1.heap.size, 3, none⟩ = some (.int .i32 nd.l) ∧ w'.cell? ⟨w1.heap.size, 4, none⟩ = some (.int .i32 nd.r)) (first | go_keep | (exact made_cells hm4 (unhide HP2) (unhide NB1)) | (exact made_cells hm3 (unhide HP2) (unhide NB1)))
        (first
          | (go_at_call 17; refine (IH w2.drew F bs ns ((unhide FO2).kept fun _ _ => rfl) v nd.r (unhide HR) (by omega)).mono ?_; rintro e w3 ⟨t3, ns3, rfl, hm3, ht3⟩)
          | (go_at_call 21; refine (node_over (h := h + 1) hm3 h1 nd.v nd.c (htLe_succ (hm3.ht (unhide HL))) ht3 (by omega)).mono ?_; rintro e w4 ⟨t4, ns4, rfl, hm4, ht4⟩))
      have HM4 := hide hm4
      have HT4 := hide ht4
      clear hm4 ht4 hm3 ht3
      go_wp2
      go_ret
      exact ⟨t4, ns4, rfl, (unhide HM4).before ((unhide ST2).trans (Step.drew _ _)), unhide HT4⟩
end Go.Proofs.Ybulkcjmy
