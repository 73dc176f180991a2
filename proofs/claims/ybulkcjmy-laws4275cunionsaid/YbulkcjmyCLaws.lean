import Derived.Test.YbulkcjmyCReach
namespace Go.Proofs.Ybulkcjmy
open Go.ChangeShapes Go.WideShapes Go.ChangeAt Go.RowKit

set_option maxRecDepth 100000 in
set_option maxHeartbeats 1000000 in
theorem matches_any (w : World) (K S n cap cap' : Nat) (M : Nat → Bool) (hn : n ≤ 1000000) (hk : Mk w K n M) (hs : Sn w S n M) :
    Calls Yba.prog 14 #[.slice (some ⟨K, 0, none⟩) n cap, .slice (some ⟨S, 0, none⟩) n cap'] w fun e w' => e = .returned (.bool true) ∧ w' = w := by
  have HK := hide hk
  have HS := hide hs
  clear hk hs
  have q0 : (n : Int) ≤ 1000000 := by omega
  go_enter Yba.func14, Yba.ntmps14
  go_wp2
  go_loop [5] (fun s5 => ∃ k : Nat, k ≤ n ∧ s5 = .int .i64 k) (fun s5 => n - (intOf s5).toNat)
  case atStart => exact ⟨0, Nat.zero_le _, rfl⟩
  case round =>
    obtain ⟨k, hk, rfl⟩ := hrel
    by_cases hlt : k < n
    · have c1 := (unhide HK).cell hlt
      have c2 := (unhide HS).cell hlt
      have q1 : (0 : Int) ≤ (k : Int) := by omega
      have q2 : (k : Int) < (n : Int) := by omega
      have hw := hz k (by omega)
      cases hM : M k with
      | true =>
        rw [hM, if_pos rfl] at c1
        rw [hM] at c2
        clear hM
        go_wp2
        go_round
        case rel => exact ⟨k + 1, by omega, by go_num⟩
        case measure => simp [intOf]; omega
      | false =>
        rw [hM, if_neg (by simp)] at c1
        rw [hM] at c2
        clear hM
        go_wp2
        go_round
        case rel => exact ⟨k + 1, by omega, by go_num⟩
        case measure => simp [intOf]; omega
    · have q2 : ¬ (k : Int) < (n : Int) := by omega
      go_wp2
      go_ret
      exact ⟨rfl, rfl⟩

set_option maxRecDepth 100000 in
set_option maxHeartbeats 1000000 in
theorem count_any (w : World) (S n cap : Nat) (M : Nat → Bool) (hn : n ≤ 1000000) (hs : Sn w S n M) :
    Calls Yba.prog 15 #[.slice (some ⟨S, 0, none⟩) n cap] w fun e w' => e = .returned (.int .i64 (card M n)) ∧ w' = w := by
  have HS := hide hs
  clear hs
  have q0 : (n : Int) ≤ 1000000 := by omega
  go_enter Yba.func15, Yba.ntmps15
  go_wp2
  go_loop [3, 8] (fun s3 s8 => ∃ k : Nat, k ≤ n ∧ s8 = .int .i64 k ∧ s3 = .int .i64 (card M k)) (fun _ s8 => n - (intOf s8).toNat)
  case atStart => exact ⟨0, Nat.zero_le _, rfl, rfl⟩
  case round =>
    obtain ⟨k, hk, rfl, rfl⟩ := hrel
    by_cases hlt : k < n
    · have c2 := (unhide HS).cell hlt
      have q1 : (0 : Int) ≤ (k : Int) := by omega
      have q2 : (k : Int) < (n : Int) := by omega
      have hcs := card_succ M k
      have hcl := card_le M k
      have q3 : (card M k : Int) ≤ 1000000 := by omega
      cases hM : M k with
      | true =>
        rw [hM] at c2
        rw [hM, if_pos rfl] at hcs
        have HC := hide hcs
        clear hM hcs
        go_wp2
        go_round
        case rel => exact ⟨k + 1, by omega, by go_num, by rw [unhide HC]; go_num⟩
        case measure => simp [intOf]; omega
      | false =>
        rw [hM] at c2
        rw [hM, if_neg (by simp)] at hcs
        have HC := hide hcs
        clear hM hcs
        go_wp2
        go_round
        case rel => exact ⟨k + 1, by omega, by go_num, by rw [unhide HC]; rfl⟩
        case measure => simp [intOf]; omega
    · have q2 : ¬ (k : Int) < (n : Int) := by omega
      have hkn : k = n := by omega
      subst hkn
      go_wp2
      go_ret
      exact ⟨rfl, rfl⟩

/-! ### The laws -/
theorem bool_ext {a b : Bool} (h : a = true ↔ b = true) : a = b := by
  cases a <;> cases b <;> simp_all

theorem step_below {w0 w w' : World} {K : Nat} (h : Below w0.heap.size w0 w) (hs : Step [K] w [K] w') (hK : w0.heap.size ≤ K) : Below w0.heap.size w0 w' :=
  h.trans ⟨hs.os, hs.tape, hs.output, hs.size, fun k hk => hs.block k (by have := h.size; omega) (by simp; omega)⟩

/-- 'marked := make([]tree, n)' in a forest. -/
theorem own_marks {w0 w : World} {F : Nat} {bs : List Nat} {ns : List Nd} (h : Own w0 w F bs ns) :
    Own w0 (w.alloc (.cells (trow ns.length) 38)) F bs ns ∧ Mk (w.alloc (.cells (trow ns.length) 38)) w.heap.size ns.length (fun _ => false) ∧ w.heap.size ∉ bs ∧ w0.heap.size ≤ w.heap.size :=
  ⟨h.below ((Below.refl _ _).alloc (Nat.le_refl _) _), mk_made _ _, fun hm => by have := h.fo.lt _ hm; omega, h.old.size⟩

theorem own_step2 {w0 w w' : World} {F K : Nat} {bs : List Nat} {ns : List Nd} (h : Own w0 w F bs ns) (hK : K ∉ bs) (hK0 : w0.heap.size ≤ K) (hs : Step [K] w [K] w') : Own w0 w' F bs ns :=
  ⟨h.fo.step hs fun k hk hm => hK (by simp at hm; exact hm ▸ hk), step_below h.old hs hK0, h.fresh⟩

theorem roots_at1 (w : World) (t : Nat) : RootsAt (w.alloc (.cells #[.int .i32 (t : Int)] 38)) w.heap.size [t] := fun j u hj => by
  have : j = 0 := by
    rcases Nat.eq_zero_or_pos j with h | h
    · exact h
    · rw [List.getElem?_eq_none (by simp; omega)] at hj; cases hj
  subst this
  obtain rfl : t = u := by simpa using hj
  exact (cell_of_heap (heap_alloc_new _ _)).trans rfl
theorem roots_at2 (w : World) (t s : Nat) : RootsAt (w.alloc (.cells #[.int .i32 (t : Int), .int .i32 (s : Int)] 38)) w.heap.size [t, s] := fun j u hj => by
  have hl : j < 2 := by
    rcases Nat.lt_or_ge j 2 with h | h
    · exact h
    · rw [List.getElem?_eq_none (by simp; omega)] at hj; cases hj
  have hc : ∀ i, (w.alloc (.cells #[.int .i32 (t : Int), .int .i32 (s : Int)] 38)).cell? ⟨w.heap.size, i, none⟩ = (#[.int .i32 (t : Int), .int .i32 (s : Int)] : Array Value)[i]? := fun i => cell_of_heap (heap_alloc_new _ _)
  have h01 : j = 0 ∨ j = 1 := by omega
  rcases h01 with rfl | rfl
  · obtain rfl : t = u := by simpa using hj
    exact (hc 0).trans rfl
  · obtain rfl : s = u := by simpa using hj
    exact (hc 1).trans rfl

theorem closed_none (ns : List Nd) (t : Nat) : ClosedTo ns (fun _ => false) t := fun _ _ _ h => by cases h

set_option maxRecDepth 100000 in
set_option maxHeartbeats 1000000 in
theorem law_count (w : World) (a : Option Addr) (len cap : Nat) (sel : Int) (hsel : (Lit.int .u8 sel).wf = true) (hlen : len ≤ 512) (hops : IsOps w a len) :
    Calls Yba.prog 5 #[.slice a len cap, .int .u8 sel] w fun e w' => e = .returned (.bool true) ∧ Below w.heap.size w w' := by
  obtain ⟨s1, s2⟩ := bounds_u8 hsel
  have q0 : (len : Int) ≤ 512 := by omega
  have HB := hide (build_any w a len cap hlen hops)
  clear hops
  have h2 : sel % 2 = 0 ∨ sel % 2 = 1 := by omega
  rcases h2 with h2 | h2
  all_goals
    go_enter Yba.func5, Yba.ntmps5
    go_wp2_with fail
    refine (unhide HB).mono ?_
    rintro e w1 ⟨F, tm, tl, bs, ns, rfl, ho1, htm, htl⟩
    obtain ⟨cn, hF, hFb⟩ := ho1.fo.count
    have hfew := ho1.fo.few
    have hmk := make_trees ns.length hfew
    obtain ⟨ho2, hmk2, hKb, hK0⟩ := own_marks ho1
    have qn : (ns.length : Int) ≤ 1000000 := by omega
    have HO2 := hide ho2
    have HM2 := hide hmk2
    have HKb := hide hKb
    clear ho1 ho2 hmk2 hKb hFb
  · go_wp2_with fail
    refine (mark_any F w1.heap.size ns.length bs ns (unhide HKb) rfl (tm + 1) tm (by omega) htm _ _ _ (unhide HO2).fo (unhide HM2) (closed_none _ _)).mono ?_
    rintro e w3 ⟨M, c, rfl, mk3, hc3, hs3, st3⟩
    have ho3 := own_step2 (unhide HO2) (unhide HKb) hK0 st3
    have hK3 := mk3.lt
    have ho4 := ho3.below ((Below.refl _ _).alloc (Nat.le_refl _) (.cells #[.int .i32 (tm : Int)] 38))
    have mk4 := mk3.kept (Below.heap_alloc w3 (.cells #[.int .i32 (tm : Int)] 38) _ hK3)
    have HR := hide (reach_any (w3.alloc (.cells #[.int .i32 (tm : Int)] 38)) F w3.heap.size 1 1 bs ns [tm] ho4.fo (roots_at1 w3 tm) rfl (by omega) (by simpa using htm))
    have HO4 := hide ho4
    have MK4 := hide mk4
    have HC := hide hc3
    have HS := hide hs3
    clear mk3 hc3 hs3 st3 ho3 ho4 mk4
    go_wp2_with fail
    refine (unhide HR).mono ?_
    rintro e w5 ⟨M', rfl, sn5, hM', hb5⟩
    have hMM : ∀ x, M' x = M x := fun x => bool_ext (by rw [hM' x, unhide HS x]; simp)
    have mk5 := ((unhide MK4).kept (hb5.block _ (unhide MK4).lt)).congr (M' := M') (fun x _ => (hMM x).symm)
    have hcc : card M' ns.length = c := by rw [card_congr (fun x _ => hMM x), unhide HC, card_zero]; omega
    have ho5 := (unhide HO4).below hb5
    have HMt := hide (matches_any w5 w1.heap.size _ ns.length ns.length ns.length M' hfew mk5 sn5)
    have HCt := hide (count_any w5 _ ns.length ns.length M' hfew sn5)
    have HO5 := hide ho5
    rw [hcc] at HCt
    clear sn5 hM' hb5 hMM mk5 hcc ho5
    rw [World.size_alloc] at HMt HCt
    go_wp2_with fail
    refine (unhide HMt).mono ?_
    rintro e w6 ⟨rfl, rfl⟩
    go_wp2_with fail
    refine (unhide HCt).mono ?_
    rintro e w7 ⟨rfl, rfl⟩
    go_wp2
    go_ret
    exact ⟨rfl, (unhide HO5).old⟩
  · go_wp2_with fail
    refine (mark_any F w1.heap.size ns.length bs ns (unhide HKb) rfl (tl + 1) tl (by omega) htl _ _ _ (unhide HO2).fo (unhide HM2) (closed_none _ _)).mono ?_
    rintro e w3 ⟨M, c, rfl, mk3, hc3, hs3, st3⟩
    have ho3 := own_step2 (unhide HO2) (unhide HKb) hK0 st3
    have hK3 := mk3.lt
    have ho4 := ho3.below ((Below.refl _ _).alloc (Nat.le_refl _) (.cells #[.int .i32 (tl : Int)] 38))
    have mk4 := mk3.kept (Below.heap_alloc w3 (.cells #[.int .i32 (tl : Int)] 38) _ hK3)
    have HR := hide (reach_any (w3.alloc (.cells #[.int .i32 (tl : Int)] 38)) F w3.heap.size 1 1 bs ns [tl] ho4.fo (roots_at1 w3 tl) rfl (by omega) (by simpa using htl))
    have HO4 := hide ho4
    have MK4 := hide mk4
    have HC := hide hc3
    have HS := hide hs3
    clear mk3 hc3 hs3 st3 ho3 ho4 mk4
    go_wp2_with fail
    refine (unhide HR).mono ?_
    rintro e w5 ⟨M', rfl, sn5, hM', hb5⟩
    have hMM : ∀ x, M' x = M x := fun x => bool_ext (by rw [hM' x, unhide HS x]; simp)
    have mk5 := ((unhide MK4).kept (hb5.block _ (unhide MK4).lt)).congr (M' := M') (fun x _ => (hMM x).symm)
    have hcc : card M' ns.length = c := by rw [card_congr (fun x _ => hMM x), unhide HC, card_zero]; omega
    have ho5 := (unhide HO4).below hb5
    have HMt := hide (matches_any w5 w1.heap.size _ ns.length ns.length ns.length M' hfew mk5 sn5)
    have HCt := hide (count_any w5 _ ns.length ns.length M' hfew sn5)
    have HO5 := hide ho5
    rw [hcc] at HCt
    clear sn5 hM' hb5 hMM mk5 hcc ho5
    rw [World.size_alloc] at HMt HCt
    go_wp2_with fail
    refine (unhide HMt).mono ?_
    rintro e w6 ⟨rfl, rfl⟩
    go_wp2_with fail
    refine (unhide HCt).mono ?_
    rintro e w7 ⟨rfl, rfl⟩
    go_wp2
    go_ret
    exact ⟨rfl, (unhide HO5).old⟩

set_option maxRecDepth 100000 in
set_option maxHeartbeats 1000000 in
theorem law_union (w : World) (a : Option Addr) (len cap : Nat) (hlen : len ≤ 512) (hops : IsOps w a len) :
    Calls Yba.prog 6 #[.slice a len cap] w fun e w' => e = .returned (.bool true) ∧ Below w.heap.size w w' := by
  have q0 : (len : Int) ≤ 512 := by omega
  have HB := hide (build_any w a len cap hlen hops)
  clear hops
  go_enter Yba.func6, Yba.ntmps6
  go_wp2_with fail
  refine (unhide HB).mono ?_
  rintro e w1 ⟨F, tm, tl, bs, ns, rfl, ho1, htm, htl⟩
  obtain ⟨cn, hF, hFb⟩ := ho1.fo.count
  have hfew := ho1.fo.few
  have hmk := make_trees ns.length hfew
  obtain ⟨ho2, hmk2, hKb, hK0⟩ := own_marks ho1
  have qn : (ns.length : Int) ≤ 1000000 := by omega
  have HO2 := hide ho2
  have HM2 := hide hmk2
  have HKb := hide hKb
  have hdown := hide ho1.fo.down
  clear ho1 ho2 hmk2 hKb hFb
  go_wp2_with fail
  refine (mark_any F w1.heap.size ns.length bs ns (unhide HKb) rfl (tm + 1) tm (by omega) htm _ _ _ (unhide HO2).fo (unhide HM2) (closed_none _ _)).mono ?_
  rintro e w3 ⟨M1, c1, rfl, mk3, hc3, hs3, st3⟩
  have ho3 := own_step2 (unhide HO2) (unhide HKb) hK0 st3
  have HO3 := hide ho3
  have MK3 := hide mk3
  have HC1 := hide hc3
  have HS1 := hide hs3
  clear mk3 hc3 hs3 st3 ho3
  have cl1 : ∀ t, ClosedTo ns M1 t := fun t => closedTo_union (closed_none ns t) (unhide HS1)
  have HCl1 := hide cl1
  clear cl1
  go_wp2_with fail
  refine (mark_any F w1.heap.size ns.length bs ns (unhide HKb) rfl (tl + 1) tl (by omega) htl _ _ _ (unhide HO3).fo (unhide MK3) (unhide HCl1 tl)).mono ?_
  rintro e w4 ⟨M2, c2, rfl, mk4, hc4, hs4, st4⟩
  have ho4 := own_step2 (unhide HO3) (unhide HKb) hK0 st4
  have HO4 := hide ho4
  have MK4 := hide mk4
  have HC2 := hide hc4
  have HS2 := hide hs4
  clear mk4 hc4 hs4 st4 ho4
  have cl2 : ∀ t, ClosedTo ns M2 t := fun t => closedTo_union (unhide HCl1 t) (unhide HS2)
  have HCl2 := hide cl2
  clear cl2
  go_wp2_with fail
  refine (mark_any F w1.heap.size ns.length bs ns (unhide HKb) rfl (tm + 1) tm (by omega) htm _ _ _ (unhide HO4).fo (unhide MK4) (unhide HCl2 tm)).mono ?_
  rintro e w5 ⟨M3, c3, rfl, mk5, hc5, hs5, st5⟩
  have ho5 := own_step2 (unhide HO4) (unhide HKb) hK0 st5
  have h32 : ∀ x, M3 x = M2 x := fun x => bool_ext (by
    rw [hs5 x]
    exact ⟨fun h => h.elim id fun h => (unhide HS2 x).2 (.inl ((unhide HS1 x).2 (.inr h))), .inl⟩)
  have hc0 : c3 = 0 := by
    rw [card_congr (fun x _ => h32 x)] at hc5
    omega
  have hK5 := mk5.lt
  have ho6 := ho5.below ((Below.refl _ _).alloc (Nat.le_refl _) (.cells #[.int .i32 (tm : Int)] 38))
  have mk6 := (mk5.kept (Below.heap_alloc w5 (.cells #[.int .i32 (tm : Int)] 38) _ hK5)).congr (M' := M2) (fun x _ => h32 x)
  have HR1 := hide (reach_any (w5.alloc (.cells #[.int .i32 (tm : Int)] 38)) F w5.heap.size 1 1 bs ns [tm] ho6.fo (roots_at1 w5 tm) rfl (by omega) (by simpa using htm))
  have HO6 := hide ho6
  have MK6 := hide mk6
  subst hc0
  clear mk5 hc5 hs5 st5 ho5 h32 ho6 mk6 hK5
  go_wp2_with fail
  refine (unhide HR1).mono ?_
  rintro e w7 ⟨A, rfl, sn7, hA, hb7⟩
  have hAM : ∀ x, A x = M1 x := fun x => bool_ext (by rw [hA x, unhide HS1 x]; simp)
  have hcA : card A ns.length = c1 := by rw [card_congr (fun x _ => hAM x), unhide HC1, card_zero]; omega
  have ho7 := (unhide HO6).below hb7
  have mk7 := (unhide MK6).kept (hb7.block _ (unhide MK6).lt)
  have hK7 := mk7.lt
  have hS7 := sn7.lt
  have ho8 := ho7.below ((Below.refl _ _).alloc (Nat.le_refl _) (.cells #[.int .i32 (tm : Int), .int .i32 (tl : Int)] 38))
  have mk8 := mk7.kept (Below.heap_alloc w7 (.cells #[.int .i32 (tm : Int), .int .i32 (tl : Int)] 38) _ hK7)
  have sn8 := sn7.kept (Below.heap_alloc w7 (.cells #[.int .i32 (tm : Int), .int .i32 (tl : Int)] 38) _ hS7)
  have HR2 := hide (reach_any (w7.alloc (.cells #[.int .i32 (tm : Int), .int .i32 (tl : Int)] 38)) F w7.heap.size 2 2 bs ns [tm, tl] ho8.fo (roots_at2 w7 tm tl) rfl (by omega) (by simpa using ⟨htm, htl⟩))
  have HO8 := hide ho8
  have MK8 := hide mk8
  have SN8 := hide sn8
  have HCA := hide hcA
  clear sn7 hA hb7 hAM hcA ho7 mk7 hK7 hS7 ho8 mk8 sn8
  go_wp2_with fail
  refine (unhide HR2).mono ?_
  rintro e w9 ⟨U, rfl, sn9, hU, hb9⟩
  have hUM : ∀ x, U x = M2 x := fun x => bool_ext (by
    rw [hU x, rch_two, unhide HS2 x, unhide HS1 x]
    simp)
  have mk9 := ((unhide MK8).kept (hb9.block _ (unhide MK8).lt)).congr (M' := U) (fun x _ => (hUM x).symm)
  have hcU : card U ns.length = c1 + c2 := by rw [card_congr (fun x _ => hUM x), unhide HC2, unhide HC1, card_zero]; omega
  have ho9 := (unhide HO8).below hb9
  have sa9 := (unhide SN8).kept (hb9.block _ (unhide SN8).lt)
  have hbd : c1 + c2 ≤ 1000000 := by have := card_le U ns.length; omega
  have qb : (c1 : Int) + (c2 : Int) ≤ 1000000 := by omega
  have HMt := hide (matches_any w9 w1.heap.size _ ns.length ns.length ns.length U hfew mk9 sn9)
  have HCt := hide (count_any w9 _ ns.length ns.length U hfew sn9)
  have HCs := hide (count_any w9 _ ns.length ns.length A hfew sa9)
  have HO9 := hide ho9
  rw [hcU] at HCt
  rw [unhide HCA] at HCs
  clear sn9 hU hb9 hUM mk9 hcU ho9 sa9
  rw [World.size_alloc] at HMt HCt HCs
  go_wp2_with fail
  refine (unhide HMt).mono ?_
  rintro e w10 ⟨rfl, rfl⟩
  go_wp2_with fail
  refine (unhide HCs).mono ?_
  rintro e w11 ⟨rfl, rfl⟩
  go_wp2_with fail
  refine (unhide HCt).mono ?_
  rintro e w12 ⟨rfl, rfl⟩
  go_wp2
  go_ret
  exact ⟨rfl, (unhide HO9).old⟩
end Go.Proofs.Ybulkcjmy
