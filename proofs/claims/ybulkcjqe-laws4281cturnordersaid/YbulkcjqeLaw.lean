import Derived.Test.YbulkcjqeTurn
import Derived.Deep.DeepCutAuto
namespace Go.Proofs.Ybulkcjqe
open Go.ChangeShapes Go.WideShapes Go.ChangeAt Go.RowKit Go.MuLone

/-- The map of leaders, as the law makes it. -/
def Mp (w : World) (M : Nat) (h : Bool) (key val : ByteArray) : Prop :=
  (h = true ∧ ∃ clock bn, w.heap[M]? = some (.map #[{ key := .string key, val := .string val, born := bn }] clock)) ∨ (h = false ∧ ∃ clock, w.heap[M]? = some (.map #[] clock))
def leader (h : Bool) (key val name : ByteArray) : ByteArray := if h = true ∧ key = name then val else ⟨#[]⟩
theorem Mp.look {w : World} {M : Nat} {h : Bool} {key val : ByteArray} (hm : Mp w M h key val) (name : ByteArray) (W : World) (hW : W.heap[M]? = w.heap[M]?) :
    (Instr.lookup 25 (.map (some M)) (.string name) false).run Yba.prog W = .ok (.string (leader h key val name)) W := by
  rcases hm with ⟨rfl, clock, bn, hm⟩ | ⟨rfl, clock, hm⟩
  · rw [look_one M clock bn key val name W (hW.trans hm)]
    simp [leader]
  · rw [look_none M clock name W (hW.trans hm)]
    simp [leader]
theorem leader_key (key val : ByteArray) : leader true key val key = val := by simp [leader]
theorem Mp.len_true {w : World} {M : Nat} {key val : ByteArray} (hm : Mp w M true key val) : (Builtin.len_ #[25] 3 #[.map (some M)]).run Yba.prog w = .ok (.int .i64 1) w := by
  rcases hm with ⟨_, clock, bn, hm⟩ | ⟨h, _⟩
  · simp [Builtin.len_, MapKept.run_getObj_map hm]
    rfl
  · cases h
theorem Mp.len_false {w : World} {M : Nat} {key val : ByteArray} (hm : Mp w M false key val) : (Builtin.len_ #[25] 3 #[.map (some M)]).run Yba.prog w = .ok (.int .i64 0) w := by
  rcases hm with ⟨h, _⟩ | ⟨_, clock, hm⟩
  · cases h
  · simp [Builtin.len_, MapKept.run_getObj_map hm]
    rfl
theorem Mp.kept {w w' : World} {M : Nat} {h : Bool} {key val : ByteArray} (hm : Mp w M h key val) (hW : w'.heap[M]? = w.heap[M]?) : Mp w' M h key val := by
  unfold Mp; rw [hW]; exact hm
theorem Mp.lt {w : World} {M : Nat} {h : Bool} {key val : ByteArray} (hm : Mp w M h key val) : M < w.heap.size := by
  rcases hm with ⟨_, clock, bn, hm⟩ | ⟨_, clock, hm⟩ <;> exact lt_of_heap hm

theorem run_append_empty (oa : Option Addr) (c : Nat) (ty : TypeId) (w : World) : (Builtin.append_ #[22, 22] ty #[.slice none 0 0, .slice oa 0 c]).run Yba.prog w = .ok (.slice none 0 0) w := by
  cases oa with
  | none => simp [Builtin.append_, run_underlying Yba.underlying22, go_sem]
  | some x => simp [Builtin.append_, run_underlying Yba.underlying22, go_sem]
theorem wpList_append_empty {w : World} {ops : Array Oper} {rest : List Oper} {o : Oper} {a : Act} {Q : Exit → Act → World → Prop} (hgd : o.guard = none) (s x : Operand)
    (ho : o.op = .call { callee := .builtin .append, args := #[s, x], argTypes := #[22, 22] }) (hs : a.eval s = .slice none 0 0) (oa : Option Addr) (c : Nat) (hx : a.eval x = .slice oa 0 c)
    (h : wpList Yba.prog ops Q rest (a.put o.dst (.slice none 0 0)) w) : wpList Yba.prog ops Q (o :: rest) a w :=
  wpList_plain hgd fun _ hK => by
    unfold Oper.wp execOp
    simp only [ho, resolve, invoke, builtin, Sem.run_bind, Sem.run_pure, Result.andThen_ok, List.map_toArray, List.map_cons, List.map_nil, hs, hx, run_append_empty]
    exact hK _ _ h

/-- The law's own memory: the client at block C, its leaders at M. -/
structure Pre (w wx : World) (C M : Nat) (oa : Option Addr) (oc : Nat) (ss : List ByteArray) (ans : Int) (h : Bool) (key val : ByteArray) : Prop where
  below : Below w.heap.size w wx
  strs : Strs wx oa ss
  cl : Cl wx C oa ss.length oc ans 0 M
  mp : Mp wx M h key val
  geM : w.heap.size ≤ M
  geC : w.heap.size ≤ C
  ne : M ≠ C
  own : ∀ b off, oa = some ⟨b, off, none⟩ → ss = [] ∨ (b ≠ M ∧ b ≠ C)

theorem strs_lt {w : World} {a : Option Addr} {ss : List ByteArray} (h : Strs w a ss) (b off : Nat) (ha : a = some ⟨b, off, none⟩) : ss = [] ∨ b < w.heap.size := by
  rcases h with h | ⟨b', off', ha', h⟩
  · exact .inl h
  · cases ss with
    | nil => exact .inl rfl
    | cons s ss =>
      rw [ha] at ha'
      simp only [Option.some.injEq, Addr.mk.injEq] at ha'
      obtain ⟨rfl, rfl, _⟩ := ha'
      exact .inr (World.block_lt_of_cell? w _ (h 0 s rfl))

theorem Pre.made {w wc : World} {oa : Option Addr} {oc : Nat} {ss : List ByteArray} (key val : ByteArray) (hb : Below w.heap.size w wc) (hs : Strs wc oa ss) :
    Pre w ((wc.alloc (.map #[] 0)).alloc (.cells #[.int .i64 0, .slice oa ss.length oc, .pointer none, .int .i32 0, .int .i32 0, .int .u32 0, .map (some wc.heap.size)] 38)) (wc.heap.size + 1) wc.heap.size oa oc ss 0 false key val := by
  have hB : Below wc.heap.size wc ((wc.alloc (.map #[] 0)).alloc (.cells #[.int .i64 0, .slice oa ss.length oc, .pointer none, .int .i32 0, .int .i32 0, .int .u32 0, .map (some wc.heap.size)] 38)) :=
    ((Below.refl _ _).alloc (Nat.le_refl _) _).alloc (by rw [World.size_alloc]; omega) _
  have e1 : (wc.alloc (.map #[] 0)).heap.size = wc.heap.size + 1 := World.size_alloc _ _
  refine ⟨hb.trans (hB.mono hb.size), hs.below hB, ?_, .inr ⟨rfl, 0, ?_⟩, hb.size, Nat.le_succ_of_le hb.size, by omega, fun b off ha => ?_⟩
  · have := Go.heap_alloc_new (wc.alloc (.map #[] 0)) (.cells #[.int .i64 0, .slice oa ss.length oc, .pointer none, .int .i32 0, .int .i32 0, .int .u32 0, .map (some wc.heap.size)] 38)
    rw [e1] at this
    exact this
  · rw [Below.heap_alloc _ _ _ (by rw [e1]; omega)]
    exact Go.heap_alloc_new wc _
  · rcases strs_lt hs b off ha with h | h
    · exact .inl h
    · exact .inr ⟨by omega, by omega⟩

theorem Pre.put {w wx : World} {C M : Nat} {oa : Option Addr} {oc : Nat} {ss : List ByteArray} {ans : Int} {key val : ByteArray} (hp : Pre w wx C M oa oc ss ans false key val) :
    ∃ w', (Instr.mapUpdate 25 (.map (some M)) (.string key) (.string val)).run Yba.prog wx = .ok () w' ∧ Pre w w' C M oa oc ss ans true key val := by
  obtain ⟨clock, hm⟩ : ∃ clock, wx.heap[M]? = some (.map #[] clock) := by
    rcases hp.mp with ⟨h, _⟩ | ⟨_, hm⟩
    · cases h
    · exact hm
  refine ⟨_, put_one M clock key val wx hm, ?_⟩
  have far : ∀ k, k ≠ M → (wx.heap.setIfInBounds M (.map #[{ key := .string key, val := .string val, born := clock }] (clock + 1)))[k]? = wx.heap[k]? := fun k hk => by
    rw [Array.getElem?_setIfInBounds, if_neg (fun e => hk e.symm)]
  have hM := lt_of_heap hm
  have hge := hp.geM
  refine ⟨hp.below.trans ⟨rfl, rfl, rfl, by simp, fun k hk => far k (by omega)⟩, ?_, ?_, .inl ⟨rfl, clock + 1, clock, ?_⟩, hp.geM, hp.geC, hp.ne, hp.own⟩
  · rcases hp.strs with h | ⟨b, off, ha, h⟩
    · exact .inl h
    · refine .inr ⟨b, off, ha, fun i s hs => ?_⟩
      have hne : b ≠ M := by
        rcases hp.own b off ha with e | e
        · rw [e] at hs; simp at hs
        · exact e.1
      rw [← h i s hs]
      simp only [World.cell?]
      rw [far b hne]
  · exact (far C (fun e => hp.ne e.symm)).trans hp.cl
  · show (wx.heap.setIfInBounds M _)[M]? = _
    rw [Array.getElem?_setIfInBounds, if_pos rfl, if_pos hM]

theorem Pre.grow {w wx wy : World} {C M : Nat} {oa : Option Addr} {oc : Nat} {ss : List ByteArray} {ans : Int} {h : Bool} {key val : ByteArray} (hp : Pre w wx C M oa oc ss ans h key val) (hb : Below wx.heap.size wx wy) : Pre w wy C M oa oc ss ans h key val :=
  ⟨hp.below.trans (hb.mono hp.below.size), hp.strs.below hb, hp.cl.below hb, hp.mp.kept (hb.block M hp.mp.lt), hp.geM, hp.geC, hp.ne, hp.own⟩

theorem Pre.setAns {w wx : World} {C M : Nat} {oa : Option Addr} {oc : Nat} {ss : List ByteArray} {ans : Int} {h : Bool} {key val : ByteArray} (hp : Pre w wx C M oa oc ss ans h key val) (k : Int) : Pre w (wx.setCell ⟨C, 3, none⟩ (.int .i32 k)) C M oa oc ss k h key val := by
  have hge := hp.geC
  refine ⟨hp.below.trans ⟨rfl, rfl, rfl, by simp [World.setCell], fun j hj => heap_setCell_far _ _ _ _ _ (by omega)⟩, ?_, heap_setCell_at hp.cl, hp.mp.kept (heap_setCell_far _ _ _ _ _ hp.ne), hp.geM, hp.geC, hp.ne, hp.own⟩
  rcases hp.strs with h | ⟨b, off, ha, h⟩
  · exact .inl h
  · refine .inr ⟨b, off, ha, fun i s hs => ?_⟩
    have hne : b ≠ C := by
      rcases hp.own b off ha with e | e
      · rw [e] at hs; simp at hs
      · exact e.2
    rw [← h i s hs]
    simp only [World.cell?]
    rw [heap_setCell_far _ _ _ _ _ hne]

theorem news_strs {w : World} {b off : Nat} {ss : List ByteArray} (hcs : ∀ (i : Nat) (s : ByteArray), ss[i]? = some s → w.cell? ⟨b, off + i, none⟩ = some (.string s)) : ∀ (j : Nat) (u : Value), (sv ss)[j]? = some u → w.cell? ((⟨b, off, none⟩ : Addr).add j) = some u := by
  intro j u hj
  rw [sv, List.getElem?_map] at hj
  obtain ⟨s, hs, rfl⟩ := Option.map_eq_some_iff.1 hj
  rw [Go.WideShapes.add_plain]
  exact hcs j s hs
theorem one_strs (ss : List ByteArray) : ∀ u ∈ sv ss, u.oneCell' = true := by
  intro u hu
  obtain ⟨s, _, rfl⟩ := List.mem_map.1 hu
  simp [Value.oneCell']

set_option maxRecDepth 100000 in
set_option maxHeartbeats 1000000 in
theorem law_walk (w : World) (a : Option Addr) (cap : Nat) (ss : List ByteArray) (h : Bool) (key val name : ByteArray) (ans : Int) (hst : Strs w a ss) (hn : ss.length ≤ 1024) (ha0 : 0 ≤ ans) (ha1 : ans ≤ 4294967295) :
    Calls Yba.prog 3 #[.slice a ss.length cap, .bool h, .string key, .string val, .string name, .int .u32 ans] w fun e w' => e = .returned (.bool true) ∧ Below w.heap.size w w' := by
  obtain ⟨i, hi, he⟩ := Option.map_eq_some_iff.1 info9
  simp only [Prod.mk.injEq] at he
  obtain ⟨hz, hs', hby⟩ := he
  have HI := hide hi
  have HZ := hide hz
  have HS := hide hs'
  have HBy := hide hby
  have HSt := hide hst
  clear hi hz hs' hby hst
  have q0 : (ss.length : Int) ≤ 1024 := by omega
  have q0' : ¬ (1024 : Int) < (ss.length : Int) := by omega
  go_enter Yba.func3, Yba.ntmps3
  go_upto_region 3 with fail
  go_cut [13] from 24 to 25 (fun s13 wc => ∃ (oa : Option Addr) (oc : Nat), s13 = .slice oa ss.length oc ∧ Below w.heap.size w wc ∧ Strs wc oa ss)
  case first =>
    by_cases hp : ss.length = 0
    · have e0 : ss = [] := List.length_eq_zero_iff.1 hp
      subst e0
      go_wp2_with (at_builtin; refine wpList_append_empty rfl _ _ rfl rfl a cap rfl ?_)
      go_meet
      exact ⟨none, 0, rfl, Below.refl _ _, .inl rfl⟩
    · obtain ⟨b, off, rfl, hcs⟩ : ∃ b off, a = some ⟨b, off, none⟩ ∧ ∀ (i : Nat) (s : ByteArray), ss[i]? = some s → w.cell? ⟨b, off + i, none⟩ = some (.string s) := (unhide HSt).resolve_left (fun e => hp (by rw [e]; rfl))
      have HCs := hide hcs
      clear hcs
      have hpos : 0 < ss.length := by omega
      clear hp
      go_wp2_with (at_builtin; refine wpList_append_lies _ rfl _ _ _ rfl w.heap.size 9 i _ 1 16 Yba.underlying22 (unhide HI) (unhide HZ) (unhide HS) (unhide HBy) rfl (by omega) (.slice none 0 0) 0 [] rfl (World.ownsRow_nil _ _ _ _) ⟨b, off, none⟩ ss.length cap (sv ss) rfl (by rw [sv_length]; omega) (news_strs (unhide HCs)) (one_strs ss) (by omega) (by unfold maxLen; omega) (by omega) (by omega) _ rfl ?_; intro g1 cap1 w1 hown1 hgrow hat hlt1)
      go_meet
      have own := own_strs (base := w.heap.size) (w := w1) (a := some ⟨g1, 0, none⟩) (n := 0 + ss.length) (cap := cap1) (ss := ss) (by simpa using hown1)
      exact ⟨some ⟨g1, 0, none⟩, cap1, rfl, ⟨hgrow.os, hgrow.tape, hgrow.output, hgrow.size, fun k hk => hgrow.block k hk (by simp [Value.ownBlock])⟩, own.1⟩
  case rest =>
    obtain ⟨oa, oc, rfl, hb1, hs1⟩ := hcut
    have HB := hide hb1
    have HS1 := hide hs1
    clear hb1 hs1
    have hmm := @run_makeMap Yba.prog
    go_upto_if 30 with fail
    have P0 := Pre.made (oc := oc) key val (unhide HB) (unhide HS1)
    have HP := hide P0
    clear P0 HB HS1 hmm
    generalize hC : wc.heap.size + 1 = C at HP ⊢
    generalize hM : wc.heap.size = M at HP ⊢
    generalize (wc.alloc (Obj.map #[] 0)).alloc (Obj.cells #[Value.int IntKind.i64 0, Value.slice oa ss.length oc, Value.pointer none, Value.int IntKind.i32 0, Value.int IntKind.i32 0, Value.int IntKind.u32 0, Value.map (some M)] 38) = w2 at HP ⊢
    clear hC hM
    go_cut [30] from 31 to 36 (fun _ wx => Pre w wx C M oa oc ss 0 h key val)
    case first =>
      cases h with
      | true =>
        obtain ⟨w3, hput, hp3⟩ := (unhide HP).put
        have HP3 := hide hp3
        have c6 := (unhide HP).cl.leaders
        clear hp3 HP
        go_wp2_with fail
        go_meet
        exact unhide HP3
      | false =>
        go_wp2_with fail
        go_meet
        exact unhide HP
    case rest =>
      have HP := hide hcut
      clear hcut
      go_upto_if 39 with fail
      go_cut [15, 39] from 40 to 45 (fun s15 _ wx => ∃ k : Nat, s15 = .int .i64 k ∧ k ≤ 1024 ∧ (0 < ss.length → k < ss.length) ∧ (ss.length = 0 → k = 0) ∧ Pre w wx C M oa oc ss 0 h key val)
      case first =>
        by_cases hp : 0 < ss.length
        · have q1 : (0 : Int) < (ss.length : Int) := by omega
          have q2 : ¬ (ss.length : Int) = 0 := by omega
          obtain ⟨k, hm⟩ : ∃ k : Nat, ans % (ss.length : Int) = (k : Int) := ⟨(ans % (ss.length : Int)).toNat, (Int.toNat_of_nonneg (Int.emod_nonneg _ (by omega))).symm⟩
          have hlt : k < ss.length := by have := Int.emod_lt_of_pos ans q1; omega
          have q3 : (k : Int) ≤ 1024 := by omega
          have q4 : (0 : Int) ≤ (k : Int) := by omega
          go_wp2_with fail
          go_meet
          exact ⟨k, by go_num, by omega, fun _ => hlt, fun e => by omega, unhide HP⟩
        · have q1 : ¬ (0 : Int) < (ss.length : Int) := by omega
          go_wp2_with fail
          go_meet
          exact ⟨0, rfl, by omega, fun hh => absurd hh hp, fun _ => rfl, unhide HP⟩
      case rest =>
        obtain ⟨k, rfl, hk, hk1, hk0, hp⟩ := hcut
        have HP := hide hp
        have HK1 := hide hk1
        have HK0 := hide hk0
        clear hp hk1 hk0
        have qk : (k : Int) ≤ 1024 := by omega
        have qk0 : (0 : Int) ≤ (k : Int) := by omega
        go_wp2_with fail
        refine (store_walk wc C 3 k _ (unhide HP).cl.answered ((unhide HP).cl.frozen 3)).mono ?_
        rintro e w' ⟨rfl, rfl⟩
        have hp4 := (unhide HP).setAns k
        clear HP
        generalize wc.setCell ⟨C, 3, none⟩ (.int .i32 k) = w4 at hp4 ⊢
        have HP := hide hp4
        clear hp4
        go_wp2_with fail
        refine (turn_walk w4 C M oa oc ss k name (leader h key val name) (unhide HP).strs hn (unhide HK1) hk (unhide HP).cl (unhide HP).mp.lt (unhide HP).ne ((unhide HP).mp.look name)).mono ?_
        rintro e w5 ⟨ga, gd, gc, rfl, ho5⟩
        generalize hL : head (leader h key val name) ++ filt (leader h key val name) (rot ss k) = L at ho5
        obtain rfl : gd = L.length := ho5.len
        have hp5 := (unhide HP).grow ho5.below
        have hg5 := (own_strs ho5.own).1
        have HL := hide hL
        clear hL
        clear HP
        have HP := hide hp5
        have HG := hide hg5
        clear hp5 hg5 ho5
        obtain ⟨q, hq⟩ : ∃ q : Bool, q = decide (h = true ∧ key = name) := ⟨_, rfl⟩
        have HQ := hide hq
        clear hq
        go_upto_region 13 with fail
        go_cut [60] from 55 to 59 (fun s60 wx => s60 = .bool q ∧ wx = w5)
        case first =>
          cases h with
          | true =>
            by_cases hkn : key = name
            · have hbq : (key.toList == name.toList) = true := by rw [hkn]; exact beq_self_eq_true _
              have hqq := hide ((unhide HQ).trans (decide_eq_true ⟨rfl, hkn⟩))
              clear hkn
              go_wp2_with fail
              go_meet
              exact ⟨by rw [unhide hqq], rfl⟩
            · have hbq : (key.toList == name.toList) = false := toList_other hkn
              have hqq := hide ((unhide HQ).trans (decide_eq_false fun e => hkn e.2))
              clear hkn
              go_wp2_with fail
              go_meet
              exact ⟨by rw [unhide hqq], rfl⟩
          | false =>
            have hqq := hide ((unhide HQ).trans (decide_eq_false fun e => by cases e.1))
            go_wp2_with fail
            go_meet
            exact ⟨by rw [unhide hqq], rfl⟩
        case rest =>
          obtain ⟨rfl, rfl⟩ := hcut
          go_upto_if 60 with fail
          go_cut [17] from 61 to 61 (fun s17 wx => s17 = .string (leader h key val name) ∧ wx = wc)
          case first =>
            cases q with
            | true =>
              have hld : leader h key val name = val := if_pos (of_decide_eq_true (unhide HQ).symm)
              have HLd := hide hld
              clear hld
              go_wp2_with fail
              go_meet
              exact ⟨by rw [unhide HLd], rfl⟩
            | false =>
              have hld : leader h key val name = ⟨#[]⟩ := if_neg (of_decide_eq_false (unhide HQ).symm)
              have HLd := hide hld
              clear hld
              go_wp2_with fail
              go_meet
              exact ⟨by rw [unhide HLd], rfl⟩
          case rest =>
            obtain ⟨rfl, rfl⟩ := hcut
            go_wp2_with fail
            have hkl : k ≤ ss.length := by
              rcases Nat.eq_zero_or_pos ss.length with e | e
              · rw [unhide HK0 e]; exact Nat.zero_le _
              · exact Nat.le_of_lt (unhide HK1 e)
            refine (model_walk wc oa oc ss k (leader h key val name) (unhide HP).strs hn hkl).mono ?_
            rintro e w6 ⟨ma, md, mc, rfl, ho6⟩
            have hLl : L.length ≤ 1025 := by
              rw [← unhide HL, List.length_append]
              have h1 := head_len (leader h key val name)
              have h2 := filt_len (leader h key val name) (rot ss k)
              rw [rot_length] at h2
              omega
            rw [unhide HL] at ho6
            obtain rfl : md = L.length := ho6.len
            have hp6 := hide ((unhide HP).grow ho6.below)
            have hg6 := hide ((unhide HG).below ho6.below)
            have hm6 := hide (own_strs ho6.own).1
            clear HP HG ho6 HQ HL hkl HK1 HK0
            have ql : (L.length : Int) ≤ 1025 := by omega
            go_wp2
            go_loopw [19] (fun s19 wr => ∃ j : Nat, s19 = .int .i64 j ∧ j ≤ L.length ∧ Below w6.heap.size w6 wr) (fun s19 _ => L.length - (intOf s19).toNat)
            case atStart => exact ⟨0, rfl, Nat.zero_le _, Below.refl _ _⟩
            case round =>
              obtain ⟨j, rfl, hj, hb⟩ := hrel
              have HB := hide hb
              clear hb
              have q1 : (0 : Int) ≤ (j : Int) := by omega
              by_cases hjn : j < L.length
              · have q2 : (j : Int) < (L.length : Int) := by omega
                obtain ⟨s, hs⟩ : ∃ s, L[j]? = some s := ⟨_, List.getElem?_eq_getElem hjn⟩
                obtain ⟨gb, go, rfl, hgc⟩ := ((unhide hg6).below (unhide HB)).resolve_left (fun e => by rw [e] at hjn; simp at hjn)
                obtain ⟨mb, mo, rfl, hmc⟩ := ((unhide hm6).below (unhide HB)).resolve_left (fun e => by rw [e] at hjn; simp at hjn)
                have c1 := hgc j s hs
                have c2 := hmc j s hs
                have hbb : (s.toList == s.toList) = true := beq_self_eq_true _
                clear hgc hmc hs
                go_wp2
                go_quiet (fail)
                go_wp2
                go_roundw
                case rel => exact ⟨j + 1, by go_num, by omega, (unhide HB).trans ⟨rfl, rfl, rfl, Nat.le_refl _, fun _ _ => rfl⟩⟩
                case measure => simp [intOf]; omega
              · have q2 : ¬ (j : Int) < (L.length : Int) := by omega
                have hp7 := hide ((unhide hp6).grow (unhide HB))
                clear hp6 hg6 hm6 HB
                go_wp2
                go_loopw [20] (fun s20 wr => ∃ j : Nat, s20 = .int .i64 j ∧ j ≤ ss.length ∧ Hid (Pre w wr C M oa oc ss k h key val)) (fun s20 _ => ss.length - (intOf s20).toNat)
                case atStart => exact ⟨0, rfl, Nat.zero_le _, hp7⟩
                case round =>
                  clear hp7 q1 q2 hjn hj
                  obtain ⟨j, rfl, hj, HB⟩ := hrel
                  have q1 : (0 : Int) ≤ (j : Int) := by omega
                  by_cases hjn : j < ss.length
                  · have q2 : (j : Int) < (ss.length : Int) := by omega
                    obtain ⟨s, hs⟩ : ∃ s, ss[j]? = some s := ⟨_, List.getElem?_eq_getElem hjn⟩
                    obtain ⟨gb, go, rfl, hgc⟩ := (unhide HB).strs.resolve_left (fun e => by rw [e] at hjn; simp at hjn)
                    obtain ⟨mb, mo, rfl, hmc⟩ := ((unhide HSt).below (unhide HB).below).resolve_left (fun e => by rw [e] at hjn; simp at hjn)
                    have c1 := hgc j s hs
                    have c2 := hmc j s hs
                    have hbb : (s.toList == s.toList) = true := beq_self_eq_true _
                    clear hgc hmc hs
                    go_wp2
                    go_quiet (fail)
                    go_wp2
                    go_roundw
                    case rel => exact ⟨j + 1, by go_num, by omega, hide ((unhide HB).grow ⟨rfl, rfl, rfl, Nat.le_refl _, fun _ _ => rfl⟩)⟩
                    case measure => simp [intOf]; omega
                  · have q2 : ¬ (j : Int) < (ss.length : Int) := by omega
                    go_wp2_with fail
                    refine (load_walk wr C 3 k (unhide HB).cl.answered).mono ?_
                    rintro e w' ⟨rfl, rfl⟩
                    have c6 := (unhide HB).cl.leaders
                    cases h with
                    | true =>
                      have hlen := (unhide HB).mp.len_true
                      have hlk := (unhide HB).mp.look key w' rfl
                      rw [leader_key] at hlk
                      have hbb : (val.toList == val.toList) = true := beq_self_eq_true _
                      go_wp2
                      go_ret
                      exact ⟨rfl, (unhide HB).below⟩
                    | false =>
                      have hlen := (unhide HB).mp.len_false
                      go_wp2
                      go_ret
                      exact ⟨rfl, (unhide HB).below⟩
end Go.Proofs.Ybulkcjqe
