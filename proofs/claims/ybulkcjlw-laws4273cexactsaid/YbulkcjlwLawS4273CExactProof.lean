/-
  THE SHELL OF A PROOF OF 'Rows.LawS4273CExactSaid' ('example.com/fencepost/fencepost/lock.LawS4273CExact'), WRITTEN BY PROGRAM (proof-skeleton.mjs) off the guide's own print for that function. Not trusted: Lean checks it.
  ALL BUT THE WALK IS THE GUIDE's TEMPLATE (howto/template/XProofs.lean) at this function's number and types: leave it.
-/
import Derived.Test.YbulkcjlwRows
import Derived.WalkKit
import Derived.ProofKit
import Derived.OpenShut
import Derived.ShutString
import Derived.LaidEqlPtr
import Derived.Deep.QuietTactic
import Derived.BigQuiet
namespace Go.Proofs.Ybulkcjlw.lawS4273CExact
open Go.ChangeShapes Go.WideShapes Go.ChangeAt Go.RowKit
open Go.ChangeMaps (open_string shut_string)
set_option linter.unusedVariables false      -- a walk need not use every 'w<i>' (that an integer argument fits its kind)

theorem own : ownKnob Yba.prog.godebug = none := by kernel_rfl

theorem size50 : ∃ j, Yba.prog.info? 50 = some j ∧ j.size ≠ 0 := by
  have h : (Yba.prog.info? 50).map (fun j => decide (j.size ≠ 0)) = some true := by kernel_rfl
  obtain ⟨j, hj, hs⟩ := Option.map_eq_some_iff.1 h
  exact ⟨j, hj, of_decide_eq_true hs⟩
theorem same38 (a : Addr) (w : World) : (binOp .eql 38 (.pointer (some a)) (.pointer (some a))).run Yba.prog w = .ok (.bool true) w := by
  obtain ⟨j, hj, _⟩ := size50
  exact run_eql_ptr_same w a Yba.underlying38 hj
theorem other38 (a b : Addr) (w : World) (hne : a ≠ b) {ca cb : Array Value} {ta tb : TypeId} (ha : w.heap[a.block]? = some (.cells ca ta (0, 0))) (hb : w.heap[b.block]? = some (.cells cb tb (0, 0))) :
    (binOp .eql 38 (.pointer (some a)) (.pointer (some b))).run Yba.prog w = .ok (.bool false) w := by
  obtain ⟨j, hj, hs⟩ := size50
  exact run_eql_ptr_other w Yba.underlying38 hj hs hne ha hb
set_option maxRecDepth 100000 in
set_option maxHeartbeats 400000 in
theorem room_last (bo bp offp : Nat) (lab : Int) (w : World) (hn : w.cell? ⟨bp, offp + 5, none⟩ = some (.pointer (some ⟨bo, 0, none⟩))) (hl : w.cell? ⟨bp, offp + 3, none⟩ = some (.int .u64 lab)) : Calls Yba.prog 8 #[.pointer (some ⟨bo, 0, none⟩), .pointer (some ⟨bp, offp, none⟩)] w fun e w' => e = .returned (.int .u64 (IntKind.u64.wrap (9223372036854775808 - lab))) ∧ ∃ n, w' = w.drewN n := by
  have hs := same38
  go_enter Yba.func8, Yba.ntmps8
  go_wp2
  go_quiet (fail)
  go_wp2
  go_ret
  exact ⟨rfl, _, rfl⟩
set_option maxRecDepth 100000 in
set_option maxHeartbeats 400000 in
theorem room_next (bo bp bq : Nat) (lab nlab : Int) (w : World) (hne : bq ≠ bo) {ca cb : Array Value} {ta tb : TypeId} (ha : w.heap[bq]? = some (.cells ca ta (0, 0))) (hb : w.heap[bo]? = some (.cells cb tb (0, 0)))
    (hn : w.cell? ⟨bp, 5, none⟩ = some (.pointer (some ⟨bq, 0, none⟩))) (hl : w.cell? ⟨bp, 3, none⟩ = some (.int .u64 lab)) (hl2 : w.cell? ⟨bq, 3, none⟩ = some (.int .u64 nlab)) :
    Calls Yba.prog 8 #[.pointer (some ⟨bo, 0, none⟩), .pointer (some ⟨bp, 0, none⟩)] w fun e w' => e = .returned (.int .u64 (IntKind.u64.wrap (nlab - lab))) ∧ ∃ n, w' = w.drewN n := by
  have hs := other38 ⟨bq, 0, none⟩ ⟨bo, 0, none⟩ w (by intro h; injection h with h1 _ _; exact hne h1) ha hb
  have hs' : ∀ n, (binOp .eql 38 (.pointer (some ⟨bq, 0, none⟩)) (.pointer (some ⟨bo, 0, none⟩))).run Yba.prog (w.drewN n) = .ok (.bool false) (w.drewN n) := fun n => other38 ⟨bq, 0, none⟩ ⟨bo, 0, none⟩ (w.drewN n) (by intro h; injection h with h1 _ _; exact hne h1) ha hb
  clear ha hb
  go_enter Yba.func8, Yba.ntmps8
  go_wp2
  go_quiet (fail)
  go_wp2
  go_quiet (fail)
  go_wp2
  go_ret
  exact ⟨rfl, _, World.drewN_drewN _ _ _⟩
theorem three_alloc (w : World) (o1 o2 o3 : Obj) : (((w.alloc o1).alloc o2).alloc o3).heap[w.heap.size]? = some o1 ∧ (((w.alloc o1).alloc o2).alloc o3).heap[w.heap.size + 1]? = some o2 := by
  show (((w.heap.push o1).push o2).push o3)[w.heap.size]? = some o1 ∧ (((w.heap.push o1).push o2).push o3)[w.heap.size + 1]? = some o2
  constructor
  · rw [Array.getElem?_push, if_neg (by simp; omega), Array.getElem?_push, if_neg (by simp), Array.getElem?_push, if_pos rfl]
  · rw [Array.getElem?_push, if_neg (by simp), Array.getElem?_push, if_pos (by simp)]
theorem grown_drewN {w w' : World} (h : Grown w w') (n : Nat) : Grown w (w'.drewN n) := by
  induction n with
  | zero => exact h
  | succ n ih => exact ih.drew
theorem room_root (bo : Nat) (w : World) (hn : w.cell? ⟨bo, 5, none⟩ = some (.pointer (some ⟨bo, 0, none⟩))) (hl : w.cell? ⟨bo, 3, none⟩ = some (.int .u64 0)) : Calls Yba.prog 8 #[.pointer (some ⟨bo, 0, none⟩), .pointer (some ⟨bo, 0, none⟩)] w fun e w' => e = .returned (.int .u64 9223372036854775808) ∧ ∃ n, w' = w.drewN n := by
  have h := room_last bo bo 0 0 w hn hl
  rwa [show IntKind.u64.wrap (9223372036854775808 - 0) = 9223372036854775808 from by decide +kernel] at h

set_option maxRecDepth 100000 in
set_option maxHeartbeats 400000 in
theorem walk0 (a0 a1 a2 : Int) (w2 : (Lit.int .u8 a2).wf = true) (h0 : a2 % 3 = 0) (w : World) :
    Calls Yba.prog 5 #[.int .u64 a0, .int .u64 a1, .int .u8 a2] w fun e w' => e = .returned (.bool true) ∧ Grown w w' := by
  obtain ⟨b1, b2⟩ := bounds_u8 w2
  go_enter Yba.func5, Yba.ntmps5
  go_wp2_with (go_at_call 8; refine (room_last w.heap.size (w.heap.size + 1) 0 a0 _ (by simp [go_sem]) (by simp [go_sem])).mono ?_; rintro e w' ⟨rfl, nd, rfl⟩)
  go_ret
  exact ⟨rfl, grown_drewN (((Grown.refl _).alloc _ _).alloc _ _) _⟩
set_option maxRecDepth 100000 in
set_option maxHeartbeats 400000 in
theorem walk1 (a0 a1 a2 : Int) (w2 : (Lit.int .u8 a2).wf = true) (h0 : a2 % 3 = 1) (w : World) :
    Calls Yba.prog 5 #[.int .u64 a0, .int .u64 a1, .int .u8 a2] w fun e w' => e = .returned (.bool true) ∧ Grown w w' := by
  obtain ⟨b1, b2⟩ := bounds_u8 w2
  go_enter Yba.func5, Yba.ntmps5
  go_wp2_with fail
  refine (room_next w.heap.size (w.heap.size + 2) (w.heap.size + 1) a0 a1 _ (by omega) (by exact (three_alloc w _ _ _).2) (by exact (three_alloc w _ _ _).1) (by simp [go_sem]) (by simp [go_sem]) (by simp [go_sem])).mono ?_
  rintro e w' ⟨rfl, nd, rfl⟩
  go_wp2
  go_ret
  exact ⟨rfl, grown_drewN ((((Grown.refl _).alloc _ _).alloc _ _).alloc _ _) _⟩
set_option maxRecDepth 100000 in
set_option maxHeartbeats 400000 in
theorem walk2 (a0 a1 a2 : Int) (w2 : (Lit.int .u8 a2).wf = true) (h0 : a2 % 3 = 2) (w : World) :
    Calls Yba.prog 5 #[.int .u64 a0, .int .u64 a1, .int .u8 a2] w fun e w' => e = .returned (.bool true) ∧ Grown w w' := by
  obtain ⟨b1, b2⟩ := bounds_u8 w2
  go_enter Yba.func5, Yba.ntmps5
  go_wp2_with (go_at_call 8; refine (room_root w.heap.size _ (by simp [go_sem]) (by simp [go_sem])).mono ?_; rintro e w' ⟨rfl, nd, rfl⟩)
  go_ret
  exact ⟨rfl, grown_drewN ((Grown.refl _).alloc _ _) _⟩

/-! ### STEP 1: THE WALK: the Go text returns true. 'Grown w w'': the world has at most new blocks (Derived/RowKit3.lean). Part the cases AHEAD of 'go_enter' where a test parts the walk; take each callee by a contract of your own. -/
set_option maxRecDepth 100000 in
set_option maxHeartbeats 400000 in
theorem walk (a0 : Int) (a1 : Int) (a2 : Int) (w0 : (Lit.int .u64 a0).wf = true) (w1 : (Lit.int .u64 a1).wf = true) (w2 : (Lit.int .u8 a2).wf = true) (w : World) :
    Calls Yba.prog 5 #[.int .u64 a0, .int .u64 a1, .int .u8 a2] w fun e w' => e = .returned (.bool true) ∧ Grown w w' := by
  obtain ⟨b1, b2⟩ := bounds_u8 w2
  have h : a2 % 3 = 0 ∨ a2 % 3 = 1 ∨ a2 % 3 = 2 := by omega
  rcases h with h | h | h
  · exact walk0 a0 a1 a2 w2 h w
  · exact walk1 a0 a1 a2 w2 h w
  · exact walk2 a0 a1 a2 w2 h w

/-! ### THE ROW's STEP: WRITTEN OUT: LEAVE IT -/
set_option maxRecDepth 100000 in
theorem lifted (os : Os) (started : os.Started) (H : Type) (enc : TypeId × Value → H) :
    ReturnsInHanded {} Yba.checked os 5 .any (Rows.lawS4273CExactSpec.pre6 enc Yba.prog Yba.f5 Rows.lawS4273CExactRow.domain false) (Rows.lawS4273CExactSpec.post enc Yba.prog Yba.f5 false true false false) := by
  refine returnsInHanded_of_change (C := Yba.checked) own started (by kernel_rfl) Yba.func5
    (ChangeSpec.witness6 (enc := enc) (C := Yba.checked) false ⟨#[], #[.int .u64 0, .int .u64 0, .int .u8 0], []⟩ 8 (by kernel_rfl) (by kernel_rfl) (by kernel_rfl) (by kernel_rfl)) ?_
  intro W base args ds gs before hval0 hW hcnd _
  have hval : ∀ (j : Nat) t v, Yba.f5.params[j]? = some t → args[j]? = some v → Value.okWide Yba.prog W .any base t v := hval0
  have hW' := hW
  obtain ⟨p, q, hA0, hV, rfl, hfz, hnd⟩ := hW
  have hA : DataW.TrodAll enc Yba.prog W 0 (fun _ => true) true Yba.f5.params.toList args.toList ds p := hA0
  rw [Yba.params5] at hA hval
  obtain ⟨v0, vs0, d0, ds0, p0, q0, hargs, rfl, rfl, h0, r0⟩ := trodAll_cons hA
  obtain ⟨v1, vs1, d1, ds1, p1, q1, rfl, rfl, rfl, h1, r1⟩ := trodAll_cons r0
  obtain ⟨v2, vs2, d2, ds2, p2, q2, rfl, rfl, rfl, h2, r2⟩ := trodAll_cons r1
  obtain ⟨rfl, rfl, rfl⟩ := trodAll_nil r2
  obtain rfl : args = #[v0, v1, v2] := by cases args; simp_all
  obtain ⟨rfl, rfl⟩ := trodVars_none hV
  obtain ⟨a0, rfl, rfl, rfl, w0⟩ := open_int Yba.underlying22 (hval 0 22 v0 rfl rfl) h0
  obtain ⟨a1, rfl, rfl, rfl, w1⟩ := open_int Yba.underlying22 (hval 1 22 v1 rfl rfl) h1
  obtain ⟨a2, rfl, rfl, rfl, w2⟩ := open_int Yba.underlying5 (hval 2 5 v2 rfl rfl) h2
  clear hA0 hval0
  simp only [List.append_nil] at hW'
  refine (walk a0 a1 a2 w0 w1 w2 W).mono fun e W' ⟨he, hg⟩ => ?_
  subst he
  exact ⟨_, rfl, post_of_same (pa := []) (pv := []) hW' (fun _ _ _ => (trodAll_cons_mk (shut_bool Yba.underlying4 _) trodAll_mk0)) (fun sp _ => (trodAll_cons_mk (shut_int Yba.underlying22 w0) (trodAll_cons_mk (shut_int Yba.underlying22 w1) (trodAll_cons_mk (shut_int Yba.underlying5 w2) trodAll_mk0)))) (fun _ _ => rfl) rfl
    (hg.frame _) hg.2.1 (ok_one (by kernel_rfl) rfl (okWide_bool_mk Yba.underlying4 _))⟩

theorem over : Rows.lawS4273CExactRow.holds Yba.pinned (OpenSpec.ofChange Rows.lawS4273CExactSpec) :=
  OpenClaim.holds_of_wide 5 Yba.f5 rfl rfl rfl rfl rfl rfl rfl ⟨rfl, rfl, rfl, rfl, rfl⟩ rfl rfl rfl rfl rfl (by kernel_rfl) Yba.func5 (by kernel_rfl)
    (of_decide_eq_true (by kernel_rfl)) (by unfold Func.isWrapper; first | (rw [if_pos (by decide +kernel)]; kernel_rfl) | (rw [if_neg (by decide +kernel)]; exact ⟨rfl, rfl⟩))
    (fun os started H enc _ => lifted os started H enc)

/-- ████ THE STATEMENT ████ -/
theorem proved : Rows.LawS4273CExactSaid :=
  over
#print axioms proved
end Go.Proofs.Ybulkcjlw.lawS4273CExact
