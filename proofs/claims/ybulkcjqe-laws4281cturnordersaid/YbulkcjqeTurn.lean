import Derived.Test.YbulkcjqeModel
import Derived.Test.YbulkcjqeLocks
import Derived.Conc.MuLone
import Derived.Laws.LoneSync
namespace Go.Proofs.Ybulkcjqe
open Go.ChangeShapes Go.WideShapes Go.ChangeAt Go.RowKit Go.MuLone

theorem load_walk (w : World) (C o : Nat) (k : Int) (hc : w.cell? ⟨C, o, none⟩ = some (.int .i32 k)) :
    Calls Yba.prog 7 #[.pointer (some ⟨C, o, none⟩)] w fun e w' => e = .returned (.int .i32 k) ∧ w' = w := by
  have hld := run_call_load (P := Yba.prog) Yba.func11 (by kernel_rfl) (by kernel_rfl) (by kernel_rfl) .i32 (by kernel_rfl) hc
  go_enter Yba.func7, Yba.ntmps7
  go_wp2
  go_ret
  exact ⟨rfl, rfl⟩

theorem store_walk (w : World) (C o : Nat) (k : Int) (u : Value) (hc : w.cell? ⟨C, o, none⟩ = some u) (hz : w.frozen? ⟨C, o, none⟩ = false) :
    Calls Yba.prog 4 #[.pointer (some ⟨C, o, none⟩), .int .i32 k] w fun e w' => e = .returned (.tuple #[]) ∧ w' = w.setCell ⟨C, o, none⟩ (.int .i32 k) := by
  have hld := run_call_store (P := Yba.prog) Yba.func8 (by kernel_rfl) (by kernel_rfl) (by kernel_rfl) (by kernel_rfl) (k := .i32) (y := k) hc hz
  go_enter Yba.func4, Yba.ntmps4
  go_wp2
  go_end0
  exact ⟨rfl, rfl⟩

theorem ownsRow_kept {w w' : World} {base : Nat} {e : TypeId} {size : Nat} {v : Value} {n : Nat} {xs : List Value} (h : w.ownsRow base e size v n xs) (hb : ∀ k, v.ownBlock = some k → w'.heap[k]? = w.heap[k]?) : w'.ownsRow base e size v n xs := by
  refine ⟨h.1, ?_⟩
  rcases h.2 with hn | ⟨g, cap, cur, rfl, h0, hg, rest⟩
  · exact .inl hn
  · exact .inr ⟨g, cap, cur, rfl, h0, by rw [hb g rfl]; exact hg, rest⟩

/-- The client in memory. -/
def Cl (w : World) (C : Nat) (a : Option Addr) (n cap : Nat) (ans mu : Int) (M : Nat) : Prop := w.heap[C]? = some (.cells (clCells a n cap ans mu M) 38 (0, 0))

theorem Cl.below {w w' : World} {C : Nat} {a : Option Addr} {n cap : Nat} {ans mu : Int} {M : Nat} (h : Cl w C a n cap ans mu M) (hb : Below w.heap.size w w') : Cl w' C a n cap ans mu M := (hb.block C (lt_of_heap h)).trans h
theorem Cl.setMu {w : World} {C : Nat} {a : Option Addr} {n cap : Nat} {ans mu : Int} {M : Nat} (h : Cl w C a n cap ans mu M) (m : Int) : Cl (w.setCell ⟨C, 4, none⟩ (.int .i32 m)) C a n cap ans m M := heap_setCell_at h
theorem Cl.nodes {w : World} {C : Nat} {a : Option Addr} {n cap : Nat} {ans mu : Int} {M : Nat} (h : Cl w C a n cap ans mu M) : w.cell? ⟨C, 1, none⟩ = some (.slice a n cap) := by rw [cell_of_heap h]; rfl
theorem Cl.answered {w : World} {C : Nat} {a : Option Addr} {n cap : Nat} {ans mu : Int} {M : Nat} (h : Cl w C a n cap ans mu M) : w.cell? ⟨C, 3, none⟩ = some (.int .i32 ans) := by rw [cell_of_heap h]; rfl
theorem Cl.mu {w : World} {C : Nat} {a : Option Addr} {n cap : Nat} {ans mu : Int} {M : Nat} (h : Cl w C a n cap ans mu M) : w.cell? ⟨C, 4, none⟩ = some (.int .i32 mu) := by rw [cell_of_heap h]; rfl
theorem Cl.leaders {w : World} {C : Nat} {a : Option Addr} {n cap : Nat} {ans mu : Int} {M : Nat} (h : Cl w C a n cap ans mu M) : w.cell? ⟨C, 6, none⟩ = some (.map (some M)) := by rw [cell_of_heap h]; rfl
theorem Cl.frozen {w : World} {C : Nat} {a : Option Addr} {n cap : Nat} {ans mu : Int} {M : Nat} (h : Cl w C a n cap ans mu M) (o : Nat) : w.frozen? ⟨C, o, none⟩ = false := frozen_of_heap h

theorem heap_setCell_far (w : World) (b o k : Nat) (v : Value) (h : k ≠ b) : (w.setCell ⟨b, o, none⟩ v).heap[k]? = w.heap[k]? := Below.heap_setCell _ _ _ _ h

theorem Out.locked {w w0 : World} {v : Value} {out : List ByteArray} (h : Out w w0 v out) {C : Nat} {a : Option Addr} {n cap : Nat} {ans : Int} {M : Nat} (hc : Cl w C a n cap ans 0 M) :
    Out w ((w0.setCell ⟨C, 4, none⟩ (.int .i32 1)).setCell ⟨C, 4, none⟩ (.int .i32 0)) v out := by
  have h0 : Cl w0 C a n cap ans 0 M := hc.below h.below
  have h2 := (h0.setMu 1).setMu 0
  have hC := lt_of_heap hc
  refine ⟨h.below.trans ⟨rfl, rfl, rfl, by simp [World.setCell], fun k hk => ?_⟩, ownsRow_kept h.own fun k hk => ?_⟩
  · by_cases e : k = C
    · subst e; exact h2.trans h0.symm
    · rw [heap_setCell_far _ _ _ _ _ e, heap_setCell_far _ _ _ _ _ e]
  · have := (h.own.lt k hk).1
    rw [heap_setCell_far _ _ _ _ _ (by omega), heap_setCell_far _ _ _ _ _ (by omega)]

theorem Out.drewN {w w0 : World} {v : Value} {out : List ByteArray} (h : Out w w0 v out) (n : Nat) : Out w (w0.drewN n) v out :=
  ⟨h.below.trans ⟨rfl, rfl, rfl, Nat.le_refl _, fun _ _ => rfl⟩, ownsRow_kept h.own fun _ _ => rfl⟩

theorem tmod_nat {k j n : Nat} : ((k : Int) + (j : Int)).tmod (n : Int) = (((k + j) % n : Nat) : Int) := by
  rw [Int.tmod_eq_emod_of_nonneg (by omega)]
  simp

set_option maxRecDepth 100000 in
set_option maxHeartbeats 1000000 in
theorem turn_walk (w : World) (C M : Nat) (a : Option Addr) (cap : Nat) (ss : List ByteArray) (k : Nat) (name l : ByteArray) (hst : Strs w a ss) (hn : ss.length ≤ 1024) (hk : 0 < ss.length → k < ss.length) (hk0 : k ≤ 1024)
    (hcl : Cl w C a ss.length cap k 0 M) (hM : M < w.heap.size) (hMC : M ≠ C)
    (hlook : ∀ W : World, W.heap[M]? = w.heap[M]? → (Instr.lookup 25 (.map (some M)) (.string name) false).run Yba.prog W = .ok (.string l) W) :
    Calls Yba.prog 5 #[.pointer (some ⟨C, 0, none⟩), .string name] w fun e w' => ∃ (sa : Option Addr) (d c : Nat), e = .returned (.slice sa d c) ∧ Out w w' (.slice sa d c) (head l ++ filt l (rot ss k)) := by
  obtain ⟨i, hi, he⟩ := Option.map_eq_some_iff.1 info9
  simp only [Prod.mk.injEq] at he
  obtain ⟨hz, hs', hby⟩ := he
  have HI := hide hi
  have HZ := hide hz
  have HS := hide hs'
  have HBy := hide hby
  have HSt := hide hst
  have HK := hide hk
  have HCl := hide hcl
  have HM := hide hM
  have HMC := hide hMC
  have HLk := hide hlook
  have c1 := hcl.nodes
  clear hi hz hs' hby hst hk hcl hM hMC hlook
  have q0 : (ss.length : Int) ≤ 1024 := by omega
  have qk : (k : Int) ≤ 1024 := by omega
  go_enter Yba.func5, Yba.ntmps5
  go_wp2_with (first | (at_make; refine wpList_make_own _ rfl _ _ 22 rfl w.heap.size 9 i _ 1 Yba.underlying22 (unhide HI) (unhide HZ) (unhide HS) .i64 .i64 _ (ss.length + 1) rfl rfl (by omega) (by rw [unhide HBy]; omega) (by unfold maxLen; omega) (Nat.le_refl _) ?_; intro w0 hown0 hgrow0))
  have o0 : Out w w0 (.slice (some ⟨w.heap.size, 0, none⟩) 0 (ss.length + 1)) [] := Out.made hown0 hgrow0
  have cl0 := (unhide HCl).below o0.below
  have HO0 := hide o0
  clear hown0 hgrow0 o0 c1
  refine (lock_free muLib ⟨C, 4, none⟩ w0 cl0.mu (cl0.frozen 4)).mono ?_
  rintro e w' ⟨rfl, rfl⟩
  have cl1 := cl0.setMu 1
  have c6 := cl1.leaders
  have hlk := unhide HLk (w0.setCell ⟨C, 4, none⟩ (.int .i32 1)) (by rw [heap_setCell_far _ _ _ _ _ (unhide HMC)]; exact (unhide HO0).below.block M (unhide HM))
  have HC1 := hide cl1
  clear cl0 cl1
  go_wp2_with fail
  refine (unlock_held muLib ⟨C, 4, none⟩ _ (unhide HC1).mu ((unhide HC1).frozen 4)).mono ?_
  rintro e w' ⟨rfl, rfl⟩
  have o2 := (unhide HO0).locked (unhide HCl)
  clear hlk c6 HC1 HO0
  generalize (w0.setCell ⟨C, 4, none⟩ (.int .i32 1)).setCell ⟨C, 4, none⟩ (.int .i32 0) = w2 at o2 ⊢
  have HO := hide o2
  clear o2
  by_cases hl : l = ⟨#[]⟩
  · have hbl : l.toList.isEmpty = true := by rw [hl, ByteArray.toList_eq]; rfl
    have HL := hide hl
    clear hl
    go_wp2_with fail
    refine (load_walk w2 C 3 k ((unhide HCl).below (unhide HO).below).answered).mono ?_
    rintro e w' ⟨rfl, rfl⟩
    have c1 := ((unhide HCl).below (unhide HO).below).nodes
    go_wp2
    go_loopw [5, 47] (fun s5 s47 wr => ∃ (j d c : Nat) (sa : Option Addr) (out : List ByteArray), s47 = .int .i64 j ∧ s5 = .slice sa d c ∧ j ≤ ss.length ∧ Out w wr (.slice sa d c) out ∧ Hid (out = head l ++ filt l ((rot ss k).take j))) (fun _ s47 _ => ss.length - (intOf s47).toNat)
    case atStart => exact ⟨0, 0, ss.length + 1, _, [], rfl, rfl, Nat.zero_le _, unhide HO, hide (by simp [head, unhide HL, filt])⟩
    case round =>
      clear HO c1
      obtain ⟨j, d, c, sa, out, rfl, rfl, hj, ho, hout⟩ := hrel
      have q1 : (0 : Int) ≤ (j : Int) := by omega
      by_cases hjn : j < ss.length
      · obtain ⟨b, off, rfl, hcs⟩ : ∃ b off, a = some ⟨b, off, none⟩ ∧ ∀ (i : Nat) (s : ByteArray), ss[i]? = some s → w.cell? ⟨b, off + i, none⟩ = some (.string s) := (unhide HSt).resolve_left (fun e => by rw [e] at hjn; simp at hjn)
        have hkn := unhide HK (by omega)
        have q2 : (j : Int) < (ss.length : Int) := by omega
        have q3 : ¬ (ss.length : Int) = 0 := by omega
        obtain ⟨r, hr⟩ : ∃ r, r = (k + j) % ss.length := ⟨_, rfl⟩
        have hrl : r < ss.length := by rw [hr]; exact Nat.mod_lt _ (by omega)
        have ht : ((k : Int) + (j : Int)).tmod (ss.length : Int) = (r : Int) := by rw [hr]; exact tmod_nat
        have q4 : (0 : Int) ≤ (r : Int) := by omega
        have q5 : (r : Int) < (ss.length : Int) := by omega
        obtain ⟨s, hs⟩ : ∃ s, ss[r]? = some s := ⟨_, List.getElem?_eq_getElem hrl⟩
        have hc := hcs r s hs
        have hc' : wr.cell? ⟨b, off + r, none⟩ = some (.string s) := by rw [ho.below.cell (World.block_lt_of_cell? w _ hc)]; exact hc
        have c1 := ((unhide HCl).below ho.below).nodes
        have hrs : (rot ss k)[j]? = some s := (rot_mod hkn hjn).trans (by rw [← hr]; exact hs)
        have HO := hide ho
        have HR := hide hrs
        have hsz := hide ho.below.size
        clear hs hc hcs hrs ho hr hkn
        by_cases hsl : s = l
        · have hbq : (s.toList == l.toList) = true := by rw [hsl]; exact beq_self_eq_true _
          have HSL := hide hsl
          clear hsl
          go_wp2
          go_quiet (fail)
          go_wp2
          go_roundw
          case rel => exact ⟨j + 1, d, c, sa, out, by go_num, rfl, by omega, (unhide HO).drewN _, hide (by rw [unhide hout, filt_skip (unhide HR) (unhide HSL)])⟩
          case measure => simp [intOf]; omega
        · have hbq : (s.toList == l.toList) = false := toList_other hsl
          have HSL := hide hsl
          clear hsl
          have hdl : out.length ≤ 1025 := by
            have e := unhide hout
            rw [e, List.length_append]
            have h1 := head_len l
            have h2 := filt_len l ((rot ss k).take j)
            rw [List.length_take, rot_length] at h2
            omega
          go_wp2
          go_quiet (fail)
          go_wp2_with (at_builtin; refine wpList_append_lies _ rfl _ _ _ rfl w.heap.size 9 i _ 1 16 Yba.underlying22 (unhide HI) (unhide HZ) (unhide HS) (unhide HBy) rfl (by omega) (.slice sa d c) out.length (sv out) rfl (((unhide HO).drewN _).own.alloc _) ⟨wr.heap.size, 0, none⟩ 1 1 [.string s] rfl rfl (by exact news_one (wr.drewN _) _ _) (by simp [Value.oneCell']) (by omega) (by unfold maxLen; omega) (by omega) (by have := unhide hsz; rw [World.size_alloc]; exact Nat.le_succ_of_le this) _ rfl ?_; intro g' cap' w1 hown1 hgrow hat hlt1)
          exact ⟨⟨j + 1, out.length + 1, cap', some ⟨g', 0, none⟩, out ++ [s], by go_num, rfl, by omega, ((unhide HO).drewN _).push hown1 hgrow, hide (by rw [unhide hout, filt_push (unhide HR) (unhide HSL), List.append_assoc])⟩, by simp [intOf]; omega⟩
      · have hjn' : j = ss.length := by omega
        have q2 : ¬ (j : Int) < (ss.length : Int) := by omega
        have hout' : out = head l ++ filt l (rot ss k) := by rw [unhide hout, hjn', List.take_of_length_le (by rw [rot_length]; exact Nat.le_refl _)]
        have HO := hide ho
        have HE := hide hout'
        clear ho hout hjn' hout'
        go_wp2
        go_ret
        exact ⟨_, _, _, rfl, (unhide HE) ▸ unhide HO⟩
  · have hbl : l.toList.isEmpty = false := not_emp hl
    have HL := hide hl
    clear hl
    have hsz2 := hide (unhide HO).below.size
    go_wp2_with (at_builtin; refine wpList_append_lies _ rfl _ _ _ rfl w.heap.size 9 i _ 1 16 Yba.underlying22 (unhide HI) (unhide HZ) (unhide HS) (unhide HBy) rfl (by omega) (.slice (some ⟨w.heap.size, 0, none⟩) 0 (ss.length + 1)) 0 [] rfl ((unhide HO).own.alloc _) ⟨w2.heap.size, 0, none⟩ 1 1 [.string l] rfl rfl (by exact news_one w2 _ _) (by simp [Value.oneCell']) (by omega) (by unfold maxLen; omega) (by omega) (by have := unhide hsz2; rw [World.size_alloc]; omega) _ rfl ?_; intro g1 cap1 w3 hown1 hgrow hat hlt1)
    have o3 := (unhide HO).push hown1 hgrow
    clear HO hown1 hgrow hat hlt1 hsz2
    have HO := hide o3
    clear o3
    refine (load_walk w3 C 3 k ((unhide HCl).below (unhide HO).below).answered).mono ?_
    rintro e w' ⟨rfl, rfl⟩
    have c1 := ((unhide HCl).below (unhide HO).below).nodes
    go_wp2
    go_loopw [5, 47] (fun s5 s47 wr => ∃ (j d c : Nat) (sa : Option Addr) (out : List ByteArray), s47 = .int .i64 j ∧ s5 = .slice sa d c ∧ j ≤ ss.length ∧ Out w wr (.slice sa d c) out ∧ Hid (out = head l ++ filt l ((rot ss k).take j))) (fun _ s47 _ => ss.length - (intOf s47).toNat)
    case atStart => exact ⟨0, 1, cap1, _, [l], rfl, rfl, Nat.zero_le _, unhide HO, hide (by simp [head, unhide HL, filt])⟩
    case round =>
      clear HO c1
      obtain ⟨j, d, c, sa, out, rfl, rfl, hj, ho, hout⟩ := hrel
      have q1 : (0 : Int) ≤ (j : Int) := by omega
      by_cases hjn : j < ss.length
      · obtain ⟨b, off, rfl, hcs⟩ : ∃ b off, a = some ⟨b, off, none⟩ ∧ ∀ (i : Nat) (s : ByteArray), ss[i]? = some s → w.cell? ⟨b, off + i, none⟩ = some (.string s) := (unhide HSt).resolve_left (fun e => by rw [e] at hjn; simp at hjn)
        have hkn := unhide HK (by omega)
        have q2 : (j : Int) < (ss.length : Int) := by omega
        have q3 : ¬ (ss.length : Int) = 0 := by omega
        obtain ⟨r, hr⟩ : ∃ r, r = (k + j) % ss.length := ⟨_, rfl⟩
        have hrl : r < ss.length := by rw [hr]; exact Nat.mod_lt _ (by omega)
        have ht : ((k : Int) + (j : Int)).tmod (ss.length : Int) = (r : Int) := by rw [hr]; exact tmod_nat
        have q4 : (0 : Int) ≤ (r : Int) := by omega
        have q5 : (r : Int) < (ss.length : Int) := by omega
        obtain ⟨s, hs⟩ : ∃ s, ss[r]? = some s := ⟨_, List.getElem?_eq_getElem hrl⟩
        have hc := hcs r s hs
        have hc' : wr.cell? ⟨b, off + r, none⟩ = some (.string s) := by rw [ho.below.cell (World.block_lt_of_cell? w _ hc)]; exact hc
        have c1 := ((unhide HCl).below ho.below).nodes
        have hrs : (rot ss k)[j]? = some s := (rot_mod hkn hjn).trans (by rw [← hr]; exact hs)
        have HO := hide ho
        have HR := hide hrs
        have hsz := hide ho.below.size
        clear hs hc hcs hrs ho hr hkn
        by_cases hsl : s = l
        · have hbq : (s.toList == l.toList) = true := by rw [hsl]; exact beq_self_eq_true _
          have HSL := hide hsl
          clear hsl
          go_wp2
          go_quiet (fail)
          go_wp2
          go_roundw
          case rel => exact ⟨j + 1, d, c, sa, out, by go_num, rfl, by omega, (unhide HO).drewN _, hide (by rw [unhide hout, filt_skip (unhide HR) (unhide HSL)])⟩
          case measure => simp [intOf]; omega
        · have hbq : (s.toList == l.toList) = false := toList_other hsl
          have HSL := hide hsl
          clear hsl
          have hdl : out.length ≤ 1025 := by
            have e := unhide hout
            rw [e, List.length_append]
            have h1 := head_len l
            have h2 := filt_len l ((rot ss k).take j)
            rw [List.length_take, rot_length] at h2
            omega
          go_wp2
          go_quiet (fail)
          go_wp2_with (at_builtin; refine wpList_append_lies _ rfl _ _ _ rfl w.heap.size 9 i _ 1 16 Yba.underlying22 (unhide HI) (unhide HZ) (unhide HS) (unhide HBy) rfl (by omega) (.slice sa d c) out.length (sv out) rfl (((unhide HO).drewN _).own.alloc _) ⟨wr.heap.size, 0, none⟩ 1 1 [.string s] rfl rfl (by exact news_one (wr.drewN _) _ _) (by simp [Value.oneCell']) (by omega) (by unfold maxLen; omega) (by omega) (by have := unhide hsz; rw [World.size_alloc]; exact Nat.le_succ_of_le this) _ rfl ?_; intro g' cap' w1 hown1 hgrow hat hlt1)
          exact ⟨⟨j + 1, out.length + 1, cap', some ⟨g', 0, none⟩, out ++ [s], by go_num, rfl, by omega, ((unhide HO).drewN _).push hown1 hgrow, hide (by rw [unhide hout, filt_push (unhide HR) (unhide HSL), List.append_assoc])⟩, by simp [intOf]; omega⟩
      · have hjn' : j = ss.length := by omega
        have q2 : ¬ (j : Int) < (ss.length : Int) := by omega
        have hout' : out = head l ++ filt l (rot ss k) := by rw [unhide hout, hjn', List.take_of_length_le (by rw [rot_length]; exact Nat.le_refl _)]
        have HO := hide ho
        have HE := hide hout'
        clear ho hout hjn' hout'
        go_wp2
        go_ret
        exact ⟨_, _, _, rfl, (unhide HE) ▸ unhide HO⟩
end Go.Proofs.Ybulkcjqe
