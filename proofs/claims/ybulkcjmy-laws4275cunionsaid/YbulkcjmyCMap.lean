import Derived.Test.YbulkcjmyCPileA
import Derived.Test.YbulkcjmyCPileB
import Derived.Laws.StructEq
import Derived.MapKept
import Derived.ChangeKeysEq
namespace Go.Proofs.Ybulkcjmy
open Go.ChangeShapes Go.WideShapes Go.ChangeAt Go.RowKit

def ndEq (a b : Nd) : Bool := (a.v == b.v) && ((a.c == b.c) && ((a.lv == b.lv) && (((a.l : Int) == (b.l : Int)) && ((a.r : Int) == (b.r : Int)))))
theorem ndEq_iff (a b : Nd) : ndEq a b = true ↔ a = b := by
  obtain ⟨v, c, lv, l, r⟩ := a
  obtain ⟨v', c', lv', l', r'⟩ := b
  simp only [ndEq, Bool.and_eq_true, beq_iff_eq, Nd.mk.injEq]
  omega

theorem stood68 : Yba.prog.stoodInHeld 68 = false := by kernel_rfl
theorem plain2 : Yba.prog.plainKey 2 = true := by kernel_rfl
theorem plain21 : Yba.prog.plainKey 21 = true := by kernel_rfl
theorem plain38 : Yba.prog.plainKey 38 = true := by kernel_rfl
theorem eq_int (d : Nat) {t : TypeId} {k : IntKind} (ht : Yba.prog.underlying t = some (.int k)) (a b : Int) (w : World) : (Op.equalIn (d + 1) t (.int k a) (.int k b)).run Yba.prog w = .ok (a == b) w := by
  simp [Op.equalIn, run_underlying ht]
theorem part0 (a : Nd) (w : World) : (part 2 #[.int .i64 a.v, .int .i32 a.c, .int .i32 a.lv, .int .i32 a.l, .int .i32 a.r] 0).run Yba.prog w = .ok (.int .i64 a.v) w := run_part_plain (P := Yba.prog) (w := w) plain2 rfl
theorem part1 (a : Nd) (w : World) : (part 21 #[.int .i64 a.v, .int .i32 a.c, .int .i32 a.lv, .int .i32 a.l, .int .i32 a.r] 1).run Yba.prog w = .ok (.int .i32 a.c) w := run_part_plain (P := Yba.prog) (w := w) plain21 rfl
theorem part2 (a : Nd) (w : World) : (part 21 #[.int .i64 a.v, .int .i32 a.c, .int .i32 a.lv, .int .i32 a.l, .int .i32 a.r] 2).run Yba.prog w = .ok (.int .i32 a.lv) w := run_part_plain (P := Yba.prog) (w := w) plain21 rfl
theorem part3 (a : Nd) (w : World) : (part 38 #[.int .i64 a.v, .int .i32 a.c, .int .i32 a.lv, .int .i32 a.l, .int .i32 a.r] 3).run Yba.prog w = .ok (.int .i32 a.l) w := run_part_plain (P := Yba.prog) (w := w) plain38 rfl
theorem part4 (a : Nd) (w : World) : (part 38 #[.int .i64 a.v, .int .i32 a.c, .int .i32 a.lv, .int .i32 a.l, .int .i32 a.r] 4).run Yba.prog w = .ok (.int .i32 a.r) w := run_part_plain (P := Yba.prog) (w := w) plain38 rfl
theorem eq_fields (d : Nat) (a b : Nd) (w : World) : (Op.eqFields (d + 1) #[.int .i64 a.v, .int .i32 a.c, .int .i32 a.lv, .int .i32 a.l, .int .i32 a.r] #[.int .i64 b.v, .int .i32 b.c, .int .i32 b.lv, .int .i32 b.l, .int .i32 b.r] (Yba.prog.fieldsOf 68).toList).run Yba.prog w = .ok (ndEq a b) w := by
  simp only [Program.fieldsOf, Yba.underlying68, Op.eqFields]
  simp only [part0, part1, part2, part3, part4, eq_int d Yba.underlying2, eq_int d Yba.underlying21, eq_int d Yba.underlying38, ndEq, Sem.run_bind, Sem.run_ite, Sem.run_pure, Result.andThen_ok]
  generalize (a.v == b.v) = x0
  generalize (a.c == b.c) = x1
  generalize (a.lv == b.lv) = x2
  generalize ((a.l : Int) == (b.l : Int)) = x3
  generalize ((a.r : Int) == (b.r : Int)) = x4
  cases x0 <;> cases x1 <;> cases x2 <;> cases x3 <;> cases x4 <;> simp
theorem key_eq (a b : Nd) (w : World) : (Op.equal 68 (ndVal a) (ndVal b)).run Yba.prog w = .ok (ndEq a b) w := by
  have h := run_equalIn_struct (P := Yba.prog) w 9999 68 #[.int .i64 a.v, .int .i32 a.c, .int .i32 a.lv, .int .i32 a.l, .int .i32 a.r] #[.int .i64 b.v, .int .i32 b.c, .int .i32 b.lv, .int .i32 b.l, .int .i32 b.r] (by simp [Program.fieldsOf, Yba.underlying68]) stood68
  exact h.trans (eq_fields 9998 a b w)
theorem check_int (n : Nat) {t : TypeId} {k : IntKind} (ht : Yba.prog.underlying t = some (.int k)) (e : Bool) (a : Int) (w : World) : (Instr.checkKey e (n + 1) t (.int k a)).run Yba.prog w = .ok () w :=
  MapKept.run_checkKey ht (by simp [MapKept.IsKey]) e n
theorem check_key' (n : Nat) (a : Nd) (e : Bool) (w : World) : (Instr.checkKey e (n + 1 + 1) 68 (ndVal a)).run Yba.prog w = .ok () w := by
  unfold ndVal
  rw [Instr.checkKey]
  simp [run_underlying Yba.underlying68, part0, part1, part2, part3, part4, check_int n Yba.underlying2, check_int n Yba.underlying21, check_int n Yba.underlying38, Sem.run_bind]
theorem check_key (a : Nd) (e : Bool) (w : World) : (Instr.checkKey e 10000 68 (ndVal a)).run Yba.prog w = .ok () w := check_key' 9998 a e w

theorem ndVal_inj {a b : Nd} (h : ndVal a = ndVal b) : a = b := by
  obtain ⟨v, c, lv, l, r⟩ := a
  obtain ⟨v', c', lv', l', r'⟩ := b
  simp only [ndVal, Value.agg.injEq, Array.mk.injEq, List.cons.injEq, Value.int.injEq] at h
  simp only [Nd.mk.injEq]
  omega

theorem find_asking (a : Nd) : ∀ (es : List MapEntry) (i : Nat), (∀ e ∈ es, ∃ nd, e.key = ndVal nd) →
    ∃ r : Option (Nat × Value), (∀ w : World, (Instr.findAsking 68 (ndVal a) es i).run Yba.prog w = .ok r w) ∧ (r = none ∨ ∃ (j : Nat) (e : MapEntry), e ∈ es ∧ e.key = ndVal a ∧ r = some (j, e.val))
  | [], _, _ => ⟨none, fun _ => rfl, .inl rfl⟩
  | e :: es, i, h => by
    obtain ⟨nd, hk⟩ := h e (by simp)
    by_cases he : a = nd
    · subst he
      refine ⟨some (i, e.val), fun w => ?_, .inr ⟨i, e, by simp, hk, rfl⟩⟩
      simp only [Instr.findAsking, Sem.run_bind, hk, key_eq, Result.andThen_ok, Sem.run_ite]
      rw [if_pos ((ndEq_iff a a).2 rfl)]; rfl
    · have h1 : ¬ ndEq a nd = true := fun h => he ((ndEq_iff a nd).1 h)
      obtain ⟨r, hr, hc⟩ := find_asking a es (i + 1) fun e' he' => h e' (by simp [he'])
      refine ⟨r, fun w => ?_, ?_⟩
      · simp only [Instr.findAsking, Sem.run_bind, hk, key_eq, Result.andThen_ok, Sem.run_ite]
        rw [if_neg h1]
        exact hr w
      · rcases hc with hc | ⟨j, e', he', h'⟩
        · exact .inl hc
        · exact .inr ⟨j, e', by simp [he'], h'⟩

theorem find_key (a : Nd) (es : List MapEntry) (h : ∀ e ∈ es, ∃ nd, e.key = ndVal nd) :
    ∃ r : Option (Nat × Value), (∀ w : World, (Instr.findKey 68 (ndVal a) es).run Yba.prog w = .ok r w) ∧ (r = none ∨ ∃ (j : Nat) (e : MapEntry), e ∈ es ∧ e.key = ndVal a ∧ r = some (j, e.val)) := by
  cases es with
  | nil =>
    refine ⟨none, fun w => ?_, .inl rfl⟩
    simp only [Instr.findKey, Sem.run_bind, run_underlying Yba.underlying68, Result.andThen_ok]
    rfl
  | cons e es =>
    obtain ⟨r, hr, hc⟩ := find_asking a (e :: es) 0 h
    refine ⟨r, fun w => ?_, hc⟩
    simp only [Instr.findKey, Sem.run_bind, run_underlying Yba.underlying68, Result.andThen_ok]
    have : Instr.findNow (.struct (Yba.prog.fieldsOf 68)) (ndVal a) (e :: es) 0 = none := by simp [Instr.findNow, Instr.sameNow]
    simp only [Program.fieldsOf, Yba.underlying68] at this
    rw [this]
    exact hr w

theorem mapOk_keys {es : List MapEntry} {ns : List Nd} (h : MapOk es ns) : ∀ e ∈ es, ∃ nd, e.key = ndVal nd := fun e he => by
  obtain ⟨t, nd, hk, _⟩ := h e he
  exact ⟨nd, hk⟩


/-- The look-up in the table of made nodes; and, where it finds nothing, the store. -/
theorem look {M : Nat} {es : Array MapEntry} {clock : Nat} {ns : List Nd} (hok : MapOk es.toList ns) (a : Nd) :
    (∃ t : Nat, 1 ≤ t ∧ ns[t]? = some a ∧ ∀ W : World, W.heap[M]? = some (.map es clock) → (Instr.lookup 44 (.map (some M)) (ndVal a) true).run Yba.prog W = .ok (.tuple #[.int .i32 t, .bool true]) W) ∨
    ((∀ W : World, W.heap[M]? = some (.map es clock) → (Instr.lookup 44 (.map (some M)) (ndVal a) true).run Yba.prog W = .ok (.tuple #[.int .i32 0, .bool false]) W) ∧
      ∀ (v : Value) (W : World), W.heap[M]? = some (.map es clock) → (Instr.mapUpdate 44 (.map (some M)) (ndVal a) v).run Yba.prog W = .ok () { W with heap := W.heap.setIfInBounds M (.map (es.push { key := ndVal a, val := v, born := clock }) (clock + 1)) }) := by
  obtain ⟨r, hr, hc⟩ := find_key a es.toList (mapOk_keys hok)
  rcases hc with rfl | ⟨j, e, he, hk, rfl⟩
  · refine .inr ⟨fun W hW => ?_, fun v W hW => ?_⟩
    · simp [Instr.lookup, run_underlying Yba.underlying44, MapKept.run_getObj_map hW, check_key, hr]
    · simp [Instr.mapUpdate, run_underlying Yba.underlying44, MapKept.run_getObj_map hW, check_key, hr, MapKept.run_setObj_map _ hW]
  · obtain ⟨t, nd, hk', hv', ht, hn⟩ := hok e he
    obtain rfl : a = nd := ndVal_inj (hk.symm.trans hk')
    refine .inl ⟨t, ht, hn, fun W hW => ?_⟩
    rw [hv'] at hr
    simp [Instr.lookup, run_underlying Yba.underlying44, MapKept.run_getObj_map hW, check_key, hr]

/-! ### pile.add at a forest -/
theorem drop_take_full {α : Type} (ns : List α) (nd : α) (p q : Nat) (h : p + q ≤ ns.length) : ((ns ++ [nd]).drop p).take q = (ns.drop p).take q := by
  rw [List.drop_append_of_le_length (by omega), List.take_append_of_le_length (by rw [List.length_drop]; omega)]
theorem drop_take_last {α : Type} (ns : List α) (nd : α) (p q : Nat) (h : p ≤ ns.length) (h2 : ns.length < p + q) : ((ns ++ [nd]).drop p).take q = (ns.drop p).take q ++ [nd] := by
  rw [List.drop_append_of_le_length h, List.take_of_length_le (by rw [List.length_append, List.length_drop]; simp; omega), List.take_of_length_le (by rw [List.length_drop]; omega)]
theorem grp_full {ns : List Nd} {k : Nat} (nd : Nd) (h : (k + 1) * 65536 ≤ ns.length) : grp (ns ++ [nd]) k = grp ns k := drop_take_full ns nd _ _ (by omega)
theorem grp_last {ns : List Nd} (nd : Nd) : grp (ns ++ [nd]) (ns.length / 65536) = grp ns (ns.length / 65536) ++ [nd] := drop_take_last ns nd _ _ (by omega) (by omega)
theorem PQ.congr {w : World} {F M O ocap n : Nat} {hs : List Value} {gr gr' : Nat → List Nd} (h : PQ w F M O ocap n hs gr) (he : ∀ k, k < hs.length → gr k = gr' k) : PQ w F M O ocap n hs gr' :=
  ⟨h.f, h.outer, fun b v hv => by
    have hb := (List.getElem?_eq_some_iff.1 hv).1
    rw [← he b hb]
    exact h.inner b v hv, h.nodup⟩
theorem put_grp {ns : List Nd} (nd : Nd) {k nb : Nat} (hnb : nb ≤ ns.length / 65536 + 1) (hk : k < nb) : putG (grp ns) (ns.length / 65536) nd k = grp (ns ++ [nd]) k := by
  unfold putG
  split
  · rename_i e; subst e; exact (grp_last nd).symm
  · exact (grp_full nd (by omega)).symm

/-- What pile.add leaves of a forest. -/
structure Added (w w' : World) (F M : Nat) (bs : List Nat) (ns : List Nd) : Prop where
  ex : ∃ O ocap hs, PQ w' F M O ocap ns.length hs (grp ns) ∧ hs.length = (ns.length + 65535) / 65536 ∧ Step bs w (bsOf F M O hs) w'
  mapM : w'.heap[M]? = w.heap[M]?

theorem for_pile_add {w : World} {F M O ocap : Nat} {hs : List Value} {ns : List Nd} (h : For w F M O ocap hs ns) (nd : Nd) (hlt : ns.length < 1000000) :
    Calls Yba.prog 20 #[.pointer (some ⟨F, 0, none⟩), ndVal nd] w fun e w' => e = .returned (.int .i64 ns.length) ∧ Added w w' F M (bsOf F M O hs) (ns ++ [nd]) := by
  obtain ⟨es, cl, hm, _⟩ := h.map
  have hM := lt_of_heap hm
  have h1 := h.some1
  have hcnt := h.count
  have hll : (ns ++ [nd]).length = ns.length + 1 := by simp
  by_cases hb : ns.length / 65536 < hs.length
  · refine (add_tail w F M O ocap ns.length (ns.length / 65536) hs (grp ns) nd hM h.pq hlt hb rfl (by omega) (by rw [grp_length]; omega)).mono ?_
    rintro e w' ⟨rfl, ⟨⟨O2, ocap2, hs2, hpq, hl, hst, _⟩, hmm⟩⟩
    refine ⟨rfl, ⟨O2, ocap2, hs2, ?_, by rw [hll]; omega, hst⟩, hmm⟩
    rw [hll]
    exact hpq.congr fun k hk => put_grp nd (nb := hs2.length) (by omega) hk
  · have hge : grp ns (ns.length / 65536) = [] := by
      apply List.eq_nil_of_length_eq_zero
      rw [grp_length]; omega
    refine (add_new w F M O ocap ns.length (ns.length / 65536) hs (grp ns) nd hM h.pq hlt (by omega) (by omega) rfl (by omega) hge).mono ?_
    rintro e w' ⟨rfl, ⟨⟨O2, ocap2, hs2, hpq, hl, hst, _⟩, hmm⟩⟩
    refine ⟨rfl, ⟨O2, ocap2, hs2, ?_, by rw [hll]; omega, hst⟩, hmm⟩
    rw [hll]
    exact hpq.congr fun k hk => put_grp nd (nb := hs2.length) (by omega) hk

/-- A map's block turned. -/
theorem heap_set_other (w : World) (M k : Nat) (o : Obj) (h : k ≠ M) : ({ w with heap := w.heap.setIfInBounds M o } : World).heap[k]? = w.heap[k]? := by
  show (w.heap.setIfInBounds M o)[k]? = _
  rw [Array.getElem?_setIfInBounds, if_neg (Ne.symm h)]
theorem heap_set_at (w : World) (M : Nat) (o : Obj) (h : M < w.heap.size) : ({ w with heap := w.heap.setIfInBounds M o } : World).heap[M]? = some o := by
  show (w.heap.setIfInBounds M o)[M]? = _
  rw [Array.getElem?_setIfInBounds, if_pos rfl, if_pos h]

/-- What intern leaves. -/
structure Interned (w w' : World) (F M : Nat) (bs : List Nat) (ns ns' : List Nd) (nd : Nd) (t : Nat) : Prop where
  ex : ∃ O ocap hs, For w' F M O ocap hs ns' ∧ Step bs w (bsOf F M O hs) w'
  grown : ns' = ns ∨ ns' = ns ++ [nd]
  at_ : ns'[t]? = some nd
  pos : 1 ≤ t

theorem interned_new {w w2 : World} {F M : Nat} {bs : List Nat} {ns : List Nd} {nd : Nd} {es : Array MapEntry} {clock : Nat} (hb : M ∈ bs) (hok : MapOk es.toList ns) (h1 : 1 ≤ ns.length) (hlt : ns.length < 1000000) (hadd : Added w w2 F M bs (ns ++ [nd])) (hm : w.heap[M]? = some (.map es clock)) :
    Interned w { w2 with heap := w2.heap.setIfInBounds M (.map (es.push { key := ndVal nd, val := .int .i32 ns.length, born := clock }) (clock + 1)) } F M bs ns (ns ++ [nd]) nd ns.length := by
  obtain ⟨⟨O, ocap, hs, hpq, hl, hst⟩, hmm⟩ := hadd
  have hM2 : M < w2.heap.size := lt_of_heap (hmm.trans hm)
  have hn := hpq.nodup
  simp only [List.nodup_cons, List.mem_cons, not_or] at hn
  obtain ⟨⟨nFM, nFO, nFh⟩, ⟨nMO, nMh⟩, nOh, nh⟩ := hn
  refine ⟨⟨O, ocap, hs, ⟨?_, ⟨_, _, heap_set_at _ _ _ hM2, ?_⟩, hl, by simp, by simp; omega⟩, ?_⟩, .inr rfl, by simp, h1⟩
  · refine ⟨?_, ?_, ?_, hpq.nodup⟩
    · rw [heap_set_other _ _ _ _ nFM]; exact hpq.f
    · exact ownsRow_kept hpq.outer fun k hk => by
        obtain rfl : O = k := by simpa [Value.ownBlock] using hk
        exact heap_set_other _ _ _ _ (Ne.symm nMO)
    · intro b v hv
      exact ownsRow_kept (hpq.inner b v hv) fun k hk => heap_set_other _ _ _ _ (hpq.ne hv hk).2.1
  · intro e he
    rw [Array.toList_push] at he
    rcases List.mem_append.1 he with he | he
    · obtain ⟨t, m, hk, hv, ht, hn⟩ := hok e he
      exact ⟨t, m, hk, hv, ht, getElem_append hn⟩
    · obtain rfl : e = _ := by simpa using he
      exact ⟨ns.length, nd, rfl, rfl, h1, by simp⟩
  · refine ⟨hst.os, hst.tape, hst.output, by simpa using hst.size, fun k hk hnb => ?_, hst.from_⟩
    have : k ≠ M := fun e => hnb (e ▸ hb)
    rw [heap_set_other _ _ _ _ this]
    exact hst.block k hk hnb

/-- From a later entry: the steps add up. -/
theorem Interned.after {w w0 w' : World} {F M : Nat} {bs : List Nat} {ns ns' : List Nd} {nd : Nd} {t : Nat} (h : Interned w0 w' F M bs ns ns' nd t) (hs : Step bs w bs w0) : Interned w w' F M bs ns ns' nd t := by
  obtain ⟨⟨O, ocap, hs', hf, hst⟩, h2, h3, h4⟩ := h
  exact ⟨⟨O, ocap, hs', hf, hs.trans hst⟩, h2, h3, h4⟩
end Go.Proofs.Ybulkcjmy
