import Derived.Test.YbulkcjmyCBuild
namespace Go.Proofs.Ybulkcjmy
open Go.ChangeShapes Go.WideShapes Go.ChangeAt Go.RowKit

/-- The row of marks. -/
def Mk (w : World) (K n : Nat) (M : Nat → Bool) : Prop :=
  ∃ cur : Array Value, w.heap[K]? = some (.cells cur 38 (0, 0)) ∧ cur.size = n ∧ ∀ i, i < n → cur[i]? = some (.int .i32 (if M i = true then (i : Int) else 0))

theorem Mk.cell {w : World} {K n : Nat} {M : Nat → Bool} (h : Mk w K n M) {i : Nat} (hi : i < n) : w.cell? ⟨K, i, none⟩ = some (.int .i32 (if M i = true then (i : Int) else 0)) := by
  obtain ⟨cur, hc, _, ha⟩ := h
  rw [cell_of_heap hc]; exact ha i hi
theorem Mk.frozen {w : World} {K n : Nat} {M : Nat → Bool} (h : Mk w K n M) (i : Nat) : w.frozen? ⟨K, i, none⟩ = false := by
  obtain ⟨cur, hc, _, ha⟩ := h
  exact frozen_of_heap hc
theorem Mk.lt {w : World} {K n : Nat} {M : Nat → Bool} (h : Mk w K n M) : K < w.heap.size := by
  obtain ⟨cur, hc, _, ha⟩ := h
  exact lt_of_heap hc
theorem Mk.kept {w w' : World} {K n : Nat} {M : Nat → Bool} (h : Mk w K n M) (hb : w'.heap[K]? = w.heap[K]?) : Mk w' K n M := by
  obtain ⟨cur, hc, h2, ha⟩ := h
  exact ⟨cur, hb.trans hc, h2, ha⟩
theorem Mk.put {w : World} {K n : Nat} {M : Nat → Bool} (h : Mk w K n M) (t : Nat) : Mk (w.setCell ⟨K, t, none⟩ (.int .i32 t)) K n (put M t) := by
  obtain ⟨cur, hc, h2, ha⟩ := h
  refine ⟨_, heap_setCell_at hc, by simpa using h2, fun i hi => ?_⟩
  rw [Array.getElem?_setIfInBounds]
  by_cases e : t = i
  · subst e
    rw [if_pos rfl, if_pos (by omega), put_self]
    simp
  · rw [if_neg e, ha i hi, put_other M (fun e' => e e'.symm)]
theorem Mk.congr {w : World} {K n : Nat} {M M' : Nat → Bool} (h : Mk w K n M) (hm : ∀ i, i < n → M i = M' i) : Mk w K n M' := by
  obtain ⟨cur, hc, h2, ha⟩ := h
  exact ⟨cur, hc, h2, fun i hi => by rw [ha i hi, hm i hi]⟩

theorem step_set (w : World) (K i : Nat) (v : Value) : Step [K] w [K] (w.setCell ⟨K, i, none⟩ v) :=
  ⟨rfl, rfl, rfl, by simp [World.setCell], fun k _ hk => Below.heap_setCell _ _ _ _ (by simpa using hk), fun k hk => .inl hk⟩
theorem Fo.step {w w' : World} {F : Nat} {bs cs cs' : List Nat} {ns : List Nd} (h : Fo w F bs ns) (hs : Step cs w cs' w') (hd : ∀ k ∈ bs, k ∉ cs) : Fo w' F bs ns :=
  h.kept fun k hk => hs.block k (h.lt k hk) (hd k hk)

def MarkSaid (F K n : Nat) (bs : List Nat) (ns : List Nd) (t : Nat) : Prop := ∀ (w : World) (M : Nat → Bool) (cap : Nat), Fo w F bs ns → Mk w K n M → ClosedTo ns M t →
  Calls Yba.prog 12 #[.pointer (some ⟨F, 0, none⟩), .int .i32 t, .slice (some ⟨K, 0, none⟩) n cap] w fun e w' => ∃ (M' : Nat → Bool) (c : Nat), e = .returned (.int .i64 c) ∧ Mk w' K n M' ∧ card M' n = card M n + c ∧
    (∀ x, M' x = true ↔ M x = true ∨ Rch ns [t] x) ∧ Step [K] w [K] w'

/-- What holds at the head of every round of mark's loop. -/
structure MarkRel (w wr : World) (K n : Nat) (ns : List Nd) (M Mc : Nat → Bool) (t0 tc c : Nat) : Prop where
  le : tc ≤ t0
  row : Mk wr K n Mc
  closed : ClosedTo ns Mc tc
  same : ∀ x, (Mc x = true ∨ Rch ns [tc] x) ↔ (M x = true ∨ Rch ns [t0] x)
  count : card Mc n = card M n + c
  step : Step [K] w [K] wr

theorem MarkRel.done {w wr : World} {K n : Nat} {ns : List Nd} {M Mc : Nat → Bool} {t0 tc c : Nat} (h : MarkRel w wr K n ns M Mc t0 tc c) (hd : Down ns) (ht : tc = 0 ∨ Mc tc = true) (x : Nat) : Mc x = true ↔ M x = true ∨ Rch ns [t0] x := by
  rw [← h.same x]
  exact ⟨.inl, fun hx => hx.elim id fun hx => rch_marked hd h.closed ht hx⟩

/-- One round more. -/
theorem MarkRel.next {w wr w3 : World} {K n : Nat} {ns : List Nd} {M Mc M1 : Nat → Bool} {t0 tc c c1 : Nat} {nd : Nd} (h : MarkRel w wr K n ns M Mc t0 tc c) (hd : Down ns) (h0 : tc ≠ 0) (hn : ns[tc]? = some nd) (hlt : tc < n) (hM : Mc tc = false)
    (hm : Mk w3 K n M1) (hc : card M1 n = card (put Mc tc) n + c1) (hs : ∀ x, M1 x = true ↔ put Mc tc x = true ∨ Rch ns [nd.l] x) (st : Step [K] wr [K] w3) : MarkRel w w3 K n ns M M1 t0 nd.r (c + (1 + c1)) := by
  have hdn := (hd tc nd hn).2
  have hrt : nd.r < tc := by omega
  refine ⟨by have := h.le; omega, hm, ?_, fun x => ?_, ?_, h.step.trans st⟩
  · exact closedTo_union (closedTo_put h.closed hrt) hs
  · rw [← h.same x, hs x, put_iff, rch_step h0 hn x]
    constructor
    · rintro (((rfl | h) | h) | h)
      · exact .inr (.inl rfl)
      · exact .inl h
      · exact .inr (.inr (.inl h))
      · exact .inr (.inr (.inr h))
    · rintro (h | rfl | h | h)
      · exact .inl (.inl (.inr h))
      · exact .inl (.inl (.inl rfl))
      · exact .inl (.inr h)
      · exact .inr h
  · rw [hc, card_put Mc hM n hlt, h.count]; omega

set_option maxRecDepth 100000 in
set_option maxHeartbeats 1000000 in
theorem mark_any (F K n : Nat) (bs : List Nat) (ns : List Nd) (hK : K ∉ bs) (hn : n = ns.length) : ∀ (N t : Nat), t < N → t < n → MarkSaid F K n bs ns t := by
  subst hn
  intro N
  induction N with
  | zero => intro t ht; omega
  | succ N IH =>
    intro t ht htn w M cap hf hmk hcl
    have IH' : Hid (∀ t, t < N → t < ns.length → MarkSaid F K ns.length bs ns t) := IH
    clear IH
    have hdown := hide hf.down
    have hfew := hf.few
    have HF := hide hf
    have hKl := hmk.lt
    have R0 : MarkRel w w K ns.length ns M M t t 0 := ⟨Nat.le_refl _, hmk, hcl, fun _ => Iff.rfl, rfl, Step.refl _ _⟩
    have HR0 := hide R0
    clear hf hmk hcl R0
    have q0 : (ns.length : Int) ≤ 1000000 := by omega
    go_enter Yba.func12, Yba.ntmps12
    go_wp2
    go_loopw [1, 7] (fun tv cv wr => ∃ (tc c : Nat) (Mc : Nat → Bool), tv = .int .i32 tc ∧ cv = .int .i64 c ∧ MarkRel w wr K ns.length ns M Mc t tc c) (fun tv _ _ => (intOf tv).toNat)
    case atStart => exact ⟨t, 0, M, rfl, rfl, unhide HR0⟩
    case round =>
      obtain ⟨tc, c, Mc, rfl, rfl, hr⟩ := hrel
      have hle := hr.le
      have q1 : (0 : Int) ≤ (tc : Int) := by omega
      have q2 : (tc : Int) < (ns.length : Int) := by omega
      by_cases h0 : tc = 0
      · subst h0
        go_wp2
        go_ret
        exact ⟨Mc, c, rfl, hr.row, hr.count, hr.done (unhide hdown) (.inl rfl), hr.step⟩
      have hb0 : ((tc : Int) != 0) = true := by rw [bne_iff_ne]; omega
      have hb1 : ((tc : Int) == 0) = false := by rw [beq_eq_false_iff_ne]; omega
      have hcell := hr.row.cell (i := tc) (by omega)
      have hfz := hr.row.frozen tc
      cases hM : Mc tc with
      | true =>
        rw [hM, if_pos rfl] at hcell
        have HR := hide hr
        have HM := hide hM
        clear hr hM
        go_wp2
        go_ret
        exact ⟨Mc, c, rfl, (unhide HR).row, (unhide HR).count, (unhide HR).done (unhide hdown) (.inr (unhide HM)), (unhide HR).step⟩
      | false =>
        rw [hM, if_neg (by simp)] at hcell
        obtain ⟨nd, hnd⟩ : ∃ nd, ns[tc]? = some nd := ⟨_, List.getElem?_eq_getElem (by omega)⟩
        have HR := hide hr
        have HM := hide hM
        have HN := hide hnd
        clear hr hM hnd
        have stS : Step [K] w [K] (wr.setCell ⟨K, tc, none⟩ (.int .i32 tc)) := (unhide HR).step.trans (step_set _ _ _ _)
        have hdis : ∀ k ∈ bs, k ∉ [K] := fun k hk hm => hK (by simp at hm; exact hm ▸ hk)
        have foS : Fo (wr.setCell ⟨K, tc, none⟩ (.int .i32 tc)) F bs ns := (unhide HF).step stS hdis
        have HAt := hide (foS.at_ (unhide HN))
        have FOS := hide foS
        have STS := hide stS
        have HDis := hide hdis
        have hdl := (unhide hdown tc nd (unhide HN)).1
        have hdr := (unhide hdown tc nd (unhide HN)).2
        unfold ndVal at HAt
        clear foS stS hdis
        go_wp2_with fail
        refine (unhide HAt).mono ?_
        rintro e w1 ⟨rfl, hb1⟩
        obtain ⟨fo1, _, hp1, nb1⟩ := at_local (unhide FOS) hb1 (.cells #[.int .i64 nd.v, .int .i32 nd.c, .int .i32 nd.lv, .int .i32 nd.l, .int .i32 nd.r] 68)
        have hKs : K < (wr.setCell ⟨K, tc, none⟩ (.int .i32 tc)).heap.size := ((unhide HR).row.put tc).lt
        have hb2 : Below (wr.setCell ⟨K, tc, none⟩ (.int .i32 tc)).heap.size (wr.setCell ⟨K, tc, none⟩ (.int .i32 tc)) (w1.alloc (.cells #[.int .i64 nd.v, .int .i32 nd.c, .int .i32 nd.lv, .int .i32 nd.l, .int .i32 nd.r] 68)) := hb1.alloc hb1.size _
        have mk1 := ((unhide HR).row.put tc).kept (hb2.block K hKs)
        have st1 : Step [K] wr [K] (w1.alloc (.cells #[.int .i64 nd.v, .int .i32 nd.c, .int .i32 nd.lv, .int .i32 nd.l, .int .i32 nd.r] 68)) := (step_set _ _ _ _).trans (Step.grow hb2)
        have hL : w1.heap.size ∉ [K] := by have := hb1.size; simp; omega
        have FO1 := hide fo1
        have HP1 := hide hp1
        have MK1 := hide mk1
        have ST1 := hide st1
        have HL := hide hL
        clear fo1 hp1 nb1 hb1 hb2 mk1 st1 hL
        go_wp2_with fail
        refine (unhide IH' nd.l (by omega) (by omega) _ (put Mc tc) cap (unhide FO1) (unhide MK1) (closedTo_put (unhide HR).closed (by omega))).mono ?_
        rintro e w3 ⟨M1, c1, rfl, mk3, hc3, hs3, st3⟩
        obtain ⟨x0, x1, x3, x4⟩ := local_cells (st3.local (unhide HP1) (unhide HL)).1
        have hnext := (unhide HR).next (unhide hdown) h0 (unhide HN) (by omega) (unhide HM) mk3 hc3 hs3 ((unhide ST1).trans st3)
        have hcb : c + (1 + c1) ≤ 1000000 := by have := hnext.count; have := card_le M1 ns.length; omega
        have q5 : (c : Int) + (1 + (c1 : Int)) ≤ 1000000 := by omega
        have HX := hide hnext
        clear mk3 hc3 hs3 st3 hnext
        go_wp2
        go_roundw
        case rel => exact ⟨nd.r, c + (1 + c1), M1, by go_num, by go_num, unhide HX⟩
        case measure => simp [intOf]; omega
end Go.Proofs.Ybulkcjmy
