import Derived.Test.YbulkcjqeMem
namespace Go.Proofs.Ybulkcjqe
open Go.ChangeShapes Go.WideShapes Go.ChangeAt Go.RowKit

theorem info9 : (Yba.prog.info? 9).map (fun i => (i.zero, i.size, i.bytes)) = some (some (.string ⟨#[]⟩), 1, 16) := by kernel_rfl

theorem not_emp {l : ByteArray} (h : ¬ l = ⟨#[]⟩) : l.toList.isEmpty = false := by
  rw [ByteArray.toList_eq]
  obtain ⟨⟨d⟩⟩ := l
  cases d with
  | nil => exact absurd rfl h
  | cons x d => rfl

theorem toList_other {s l : ByteArray} (h : ¬ s = l) : (s.toList == l.toList) = false := by
  rw [ByteArray.toList_eq, ByteArray.toList_eq]
  refine beq_eq_false_iff_ne.2 fun e => h ?_
  obtain ⟨⟨d⟩⟩ := s
  obtain ⟨⟨d'⟩⟩ := l
  simp at e
  rw [e]

theorem news_one (w : World) (v : Value) (t : TypeId) : ∀ (j : Nat) (u : Value), ([v] : List Value)[j]? = some u → (w.alloc (.cells #[v] t)).cell? ((⟨w.heap.size, 0, none⟩ : Addr).add j) = some u := by
  intro j u hj
  match j, hj with
  | 0, hj =>
    obtain rfl : v = u := by simpa using hj
    rw [Go.WideShapes.add_plain, cell_of_heap (Go.heap_alloc_new w _)]
    rfl

theorem Out.made {w w0 : World} {v : Value} (h : w0.ownsRow w.heap.size 9 1 v 0 []) (hg : w.grownBy w0 none) : Out w w0 v [] :=
  ⟨⟨hg.os, hg.tape, hg.output, hg.size, fun k hk => hg.block k hk (by simp)⟩, h⟩

set_option maxRecDepth 100000 in
set_option maxHeartbeats 1000000 in
theorem model_walk (w : World) (a : Option Addr) (cap : Nat) (ss : List ByteArray) (k : Nat) (l : ByteArray) (hst : Strs w a ss) (hn : ss.length ≤ 1024) (hk : k ≤ ss.length) :
    Calls Yba.prog 6 #[.slice a ss.length cap, .int .i64 k, .string l] w fun e w' => ∃ (sa : Option Addr) (d c : Nat), e = .returned (.slice sa d c) ∧ Out w w' (.slice sa d c) (head l ++ filt l (rot ss k)) := by
  obtain ⟨i, hi, he⟩ := Option.map_eq_some_iff.1 info9
  simp only [Prod.mk.injEq] at he
  obtain ⟨hz, hs', hby⟩ := he
  have HI := hide hi
  have HZ := hide hz
  have HS := hide hs'
  have HBy := hide hby
  have HSt := hide hst
  clear hi hz hs' hby hst
  have q0 : (ss.length : Int) ≤ 1024 := by omega
  have qk : (k : Int) ≤ (ss.length : Int) := by omega
  by_cases hl : l = ⟨#[]⟩
  · have hbl : l.toList.isEmpty = true := by rw [hl, ByteArray.toList_eq]; rfl
    have HL := hide hl
    clear hl
    go_enter Yba.func6, Yba.ntmps6
    go_wp2_with (at_make; refine wpList_make_own _ rfl _ _ 22 rfl w.heap.size 9 i _ 1 Yba.underlying22 (unhide HI) (unhide HZ) (unhide HS) .i64 .i64 _ (ss.length + 1) rfl rfl (by omega) (by rw [unhide HBy]; omega) (by unfold maxLen; omega) (Nat.le_refl _) ?_; intro w0 hown0 hgrow0)
    go_loopw [7, 8] (fun s7 s8 wr => ∃ (j d c : Nat) (sa : Option Addr) (out : List ByteArray), s8 = .int .i64 j ∧ s7 = .slice sa d c ∧ k ≤ j ∧ j ≤ ss.length ∧ Out w wr (.slice sa d c) out ∧ Hid (out = head l ++ filt l ((rot ss k).take (j - k)))) (fun _ s8 _ => ss.length - (intOf s8).toNat)
    case atStart =>
      exact ⟨k, 0, ss.length + 1, _, [], rfl, rfl, Nat.le_refl _, hk, Out.made hown0 hgrow0, hide (by rw [Nat.sub_self]; simp [head, unhide HL, filt])⟩
    case round =>
      obtain ⟨j, d, c, sa, out, rfl, rfl, hkj, hj, ho, hout⟩ := hrel
      have q1 : (0 : Int) ≤ (j : Int) := by omega
      by_cases hjn : j < ss.length
      · obtain ⟨b, off, rfl, hcs⟩ : ∃ b off, a = some ⟨b, off, none⟩ ∧ ∀ (i : Nat) (s : ByteArray), ss[i]? = some s → w.cell? ⟨b, off + i, none⟩ = some (.string s) := (unhide HSt).resolve_left (fun e => by rw [e] at hjn; simp at hjn)
        have q2 : (j : Int) < (ss.length : Int) := by omega
        obtain ⟨s, hs⟩ : ∃ s, ss[j]? = some s := ⟨_, List.getElem?_eq_getElem hjn⟩
        have hc := hcs j s hs
        have hc' : wr.cell? ⟨b, off + j, none⟩ = some (.string s) := by rw [ho.below.cell (World.block_lt_of_cell? w _ hc)]; exact hc
        have hrs : (rot ss k)[j - k]? = some s := (rot_late hkj hjn).trans hs
        have ej : j + 1 - k = j - k + 1 := by omega
        have HO := hide ho
        have HR := hide hrs
        have HE := hide ej
        have Hl := hide ho.len
        have hsz := hide ho.below.size
        clear hs hc hcs hrs ej ho
        by_cases hsl : s = l
        · have hbq : (s.toList == l.toList) = true := by rw [hsl]; exact beq_self_eq_true _
          have HSL := hide hsl
          clear hsl
          go_wp2
          go_roundw
          case rel => exact ⟨j + 1, d, c, sa, out, by go_num, rfl, by omega, by omega, unhide HO, hide (by rw [unhide hout, unhide HE, filt_skip (unhide HR) (unhide HSL)])⟩
          case measure => simp [intOf]; omega
        · have hbq : (s.toList == l.toList) = false := toList_other hsl
          have HSL := hide hsl
          clear hsl
          have hdl : out.length ≤ 1025 := by
            have e := unhide hout
            rw [e, List.length_append]
            have h1 := head_len l
            have h2 := filt_len l ((rot ss k).take (j - k))
            rw [List.length_take, rot_length] at h2
            omega
          go_wp2_with (at_builtin; refine wpList_append_lies _ rfl _ _ _ rfl w.heap.size 9 i _ 1 16 Yba.underlying22 (unhide HI) (unhide HZ) (unhide HS) (unhide HBy) rfl (by omega) (.slice sa d c) out.length (sv out) rfl ((unhide HO).own.alloc _) ⟨wr.heap.size, 0, none⟩ 1 1 [.string s] rfl rfl (by exact news_one wr _ _) (by simp [Value.oneCell']) (by omega) (by unfold maxLen; omega) (by omega) (by have := unhide hsz; rw [World.size_alloc]; omega) _ rfl ?_; intro g' cap' w1 hown1 hgrow hat hlt1)
          exact ⟨⟨j + 1, out.length + 1, cap', some ⟨g', 0, none⟩, out ++ [s], by go_num, rfl, by omega, by omega, (unhide HO).push hown1 hgrow, hide (by rw [unhide hout, unhide HE, filt_push (unhide HR) (unhide HSL), List.append_assoc])⟩, by simp [intOf]; omega⟩
      · have hjn' : j = ss.length := by omega
        have q2 : ¬ (j : Int) < (ss.length : Int) := by omega
        have HO := hide ho
        have ho1 : Hid (out = head l ++ filt l ((rot ss k).take (ss.length - k + 0))) := hide (by rw [unhide hout, hjn', Nat.add_zero])
        clear hjn' ho hout
        go_wp2
        go_loopw [7, 9] (fun s7 s9 wr => ∃ (j d c : Nat) (sa : Option Addr) (out : List ByteArray), s9 = .int .i64 j ∧ s7 = .slice sa d c ∧ j ≤ k ∧ Out w wr (.slice sa d c) out ∧ Hid (out = head l ++ filt l ((rot ss k).take (ss.length - k + j)))) (fun _ s9 _ => k - (intOf s9).toNat)
        case atStart => exact ⟨0, d, c, sa, out, rfl, rfl, Nat.zero_le _, unhide HO, ho1⟩
        case round =>
          clear HO ho1
          clear q1 q2 hkj hj hjn
          obtain ⟨j, d, c, sa, out, rfl, rfl, hjk, ho, hout⟩ := hrel
          have q1 : (0 : Int) ≤ (j : Int) := by omega
          by_cases hjn : j < k
          · obtain ⟨b, off, rfl, hcs⟩ : ∃ b off, a = some ⟨b, off, none⟩ ∧ ∀ (i : Nat) (s : ByteArray), ss[i]? = some s → w.cell? ⟨b, off + i, none⟩ = some (.string s) := (unhide HSt).resolve_left (fun e => by rw [e] at hk; simp at hk; omega)
            have q2 : (j : Int) < (k : Int) := by omega
            have q3 : (j : Int) < (ss.length : Int) := by omega
            obtain ⟨s, hs⟩ : ∃ s, ss[j]? = some s := ⟨_, List.getElem?_eq_getElem (by omega)⟩
            have hc := hcs j s hs
            have hc' : wr.cell? ⟨b, off + j, none⟩ = some (.string s) := by rw [ho.below.cell (World.block_lt_of_cell? w _ hc)]; exact hc
            have hrs : (rot ss k)[ss.length - k + j]? = some s := (rot_early hjn hk).trans hs
            have HO := hide ho
            have HR := hide hrs
            have Hl := hide ho.len
            have hsz := hide ho.below.size
            clear hs hc hcs hrs ho
            by_cases hsl : s = l
            · have hbq : (s.toList == l.toList) = true := by rw [hsl]; exact beq_self_eq_true _
              have HSL := hide hsl
              clear hsl
              go_wp2
              go_roundw
              case rel => exact ⟨j + 1, d, c, sa, out, by go_num, rfl, by omega, unhide HO, hide (by rw [unhide hout, ← Nat.add_assoc, filt_skip (unhide HR) (unhide HSL)])⟩
              case measure => simp [intOf]; omega
            · have hbq : (s.toList == l.toList) = false := toList_other hsl
              have HSL := hide hsl
              clear hsl
              have hdl : out.length ≤ 1025 := by
                have e := unhide hout
                rw [e, List.length_append]
                have h1 := head_len l
                have h2 := filt_len l ((rot ss k).take (ss.length - k + j))
                rw [List.length_take, rot_length] at h2
                omega
              go_wp2_with (at_builtin; refine wpList_append_lies _ rfl _ _ _ rfl w.heap.size 9 i _ 1 16 Yba.underlying22 (unhide HI) (unhide HZ) (unhide HS) (unhide HBy) rfl (by omega) (.slice sa d c) out.length (sv out) rfl ((unhide HO).own.alloc _) ⟨wr.heap.size, 0, none⟩ 1 1 [.string s] rfl rfl (by exact news_one wr _ _) (by simp [Value.oneCell']) (by omega) (by unfold maxLen; omega) (by omega) (by have := unhide hsz; rw [World.size_alloc]; omega) _ rfl ?_; intro g' cap' w1 hown1 hgrow hat hlt1)
              exact ⟨⟨j + 1, out.length + 1, cap', some ⟨g', 0, none⟩, out ++ [s], by go_num, rfl, by omega, (unhide HO).push hown1 hgrow, hide (by rw [unhide hout, ← Nat.add_assoc, filt_push (unhide HR) (unhide HSL), List.append_assoc])⟩, by simp [intOf]; omega⟩
          · have hjk' : j = k := by omega
            have q2 : ¬ (j : Int) < (k : Int) := by omega
            have HO := hide ho
            have hout' : out = head l ++ filt l (rot ss k) := by rw [unhide hout, hjk', List.take_of_length_le (by rw [rot_length]; omega)]
            have HE := hide hout'
            clear ho hout hjk' hout'
            go_wp2
            go_ret
            exact ⟨_, _, _, rfl, (unhide HE) ▸ unhide HO⟩
  · have hbl : l.toList.isEmpty = false := not_emp hl
    have HL := hide hl
    clear hl
    go_enter Yba.func6, Yba.ntmps6
    go_wp2_with (first | (at_make; refine wpList_make_own _ rfl _ _ 22 rfl w.heap.size 9 i _ 1 Yba.underlying22 (unhide HI) (unhide HZ) (unhide HS) .i64 .i64 _ (ss.length + 1) rfl rfl (by omega) (by rw [unhide HBy]; omega) (by unfold maxLen; omega) (Nat.le_refl _) ?_; intro w0 hown0 hgrow0) | (at_builtin; refine wpList_append_lies _ rfl _ _ _ rfl w.heap.size 9 i _ 1 16 Yba.underlying22 (unhide HI) (unhide HZ) (unhide HS) (unhide HBy) rfl (by omega) (.slice (some ⟨w.heap.size, 0, none⟩) 0 (ss.length + 1)) 0 [] rfl (hown0.alloc _) ⟨w0.heap.size, 0, none⟩ 1 1 [.string l] rfl rfl (by exact news_one w0 _ _) (by simp [Value.oneCell']) (by omega) (by unfold maxLen; omega) (by omega) (by have := hgrow0.size; rw [World.size_alloc]; omega) _ rfl ?_; intro g' cap' w1 hown1 hgrow hat hlt1))
    go_loopw [7, 8] (fun s7 s8 wr => ∃ (j d c : Nat) (sa : Option Addr) (out : List ByteArray), s8 = .int .i64 j ∧ s7 = .slice sa d c ∧ k ≤ j ∧ j ≤ ss.length ∧ Out w wr (.slice sa d c) out ∧ Hid (out = head l ++ filt l ((rot ss k).take (j - k)))) (fun _ s8 _ => ss.length - (intOf s8).toNat)
    case atStart =>
      exact ⟨k, 1, cap', _, [l], rfl, rfl, Nat.le_refl _, hk, (Out.made hown0 hgrow0).push hown1 hgrow, hide (by rw [Nat.sub_self]; simp [head, unhide HL, filt])⟩
    case round =>
      obtain ⟨j, d, c, sa, out, rfl, rfl, hkj, hj, ho, hout⟩ := hrel
      have q1 : (0 : Int) ≤ (j : Int) := by omega
      by_cases hjn : j < ss.length
      · obtain ⟨b, off, rfl, hcs⟩ : ∃ b off, a = some ⟨b, off, none⟩ ∧ ∀ (i : Nat) (s : ByteArray), ss[i]? = some s → w.cell? ⟨b, off + i, none⟩ = some (.string s) := (unhide HSt).resolve_left (fun e => by rw [e] at hjn; simp at hjn)
        have q2 : (j : Int) < (ss.length : Int) := by omega
        obtain ⟨s, hs⟩ : ∃ s, ss[j]? = some s := ⟨_, List.getElem?_eq_getElem hjn⟩
        have hc := hcs j s hs
        have hc' : wr.cell? ⟨b, off + j, none⟩ = some (.string s) := by rw [ho.below.cell (World.block_lt_of_cell? w _ hc)]; exact hc
        have hrs : (rot ss k)[j - k]? = some s := (rot_late hkj hjn).trans hs
        have ej : j + 1 - k = j - k + 1 := by omega
        have HO := hide ho
        have HR := hide hrs
        have HE := hide ej
        have Hl := hide ho.len
        have hsz := hide ho.below.size
        clear hs hc hcs hrs ej ho
        by_cases hsl : s = l
        · have hbq : (s.toList == l.toList) = true := by rw [hsl]; exact beq_self_eq_true _
          have HSL := hide hsl
          clear hsl
          go_wp2
          go_roundw
          case rel => exact ⟨j + 1, d, c, sa, out, by go_num, rfl, by omega, by omega, unhide HO, hide (by rw [unhide hout, unhide HE, filt_skip (unhide HR) (unhide HSL)])⟩
          case measure => simp [intOf]; omega
        · have hbq : (s.toList == l.toList) = false := toList_other hsl
          have HSL := hide hsl
          clear hsl
          have hdl : out.length ≤ 1025 := by
            have e := unhide hout
            rw [e, List.length_append]
            have h1 := head_len l
            have h2 := filt_len l ((rot ss k).take (j - k))
            rw [List.length_take, rot_length] at h2
            omega
          go_wp2_with (at_builtin; refine wpList_append_lies _ rfl _ _ _ rfl w.heap.size 9 i _ 1 16 Yba.underlying22 (unhide HI) (unhide HZ) (unhide HS) (unhide HBy) rfl (by omega) (.slice sa d c) out.length (sv out) rfl ((unhide HO).own.alloc _) ⟨wr.heap.size, 0, none⟩ 1 1 [.string s] rfl rfl (by exact news_one wr _ _) (by simp [Value.oneCell']) (by omega) (by unfold maxLen; omega) (by omega) (by have := unhide hsz; rw [World.size_alloc]; omega) _ rfl ?_; intro g' cap' w1 hown1 hgrow hat hlt1)
          exact ⟨⟨j + 1, out.length + 1, cap', some ⟨g', 0, none⟩, out ++ [s], by go_num, rfl, by omega, by omega, (unhide HO).push hown1 hgrow, hide (by rw [unhide hout, unhide HE, filt_push (unhide HR) (unhide HSL), List.append_assoc])⟩, by simp [intOf]; omega⟩
      · have hjn' : j = ss.length := by omega
        have q2 : ¬ (j : Int) < (ss.length : Int) := by omega
        have HO := hide ho
        have ho1 : Hid (out = head l ++ filt l ((rot ss k).take (ss.length - k + 0))) := hide (by rw [unhide hout, hjn', Nat.add_zero])
        clear hjn' ho hout
        go_wp2
        go_loopw [7, 9] (fun s7 s9 wr => ∃ (j d c : Nat) (sa : Option Addr) (out : List ByteArray), s9 = .int .i64 j ∧ s7 = .slice sa d c ∧ j ≤ k ∧ Out w wr (.slice sa d c) out ∧ Hid (out = head l ++ filt l ((rot ss k).take (ss.length - k + j)))) (fun _ s9 _ => k - (intOf s9).toNat)
        case atStart => exact ⟨0, d, c, sa, out, rfl, rfl, Nat.zero_le _, unhide HO, ho1⟩
        case round =>
          clear HO ho1
          clear q1 q2 hkj hj hjn
          obtain ⟨j, d, c, sa, out, rfl, rfl, hjk, ho, hout⟩ := hrel
          have q1 : (0 : Int) ≤ (j : Int) := by omega
          by_cases hjn : j < k
          · obtain ⟨b, off, rfl, hcs⟩ : ∃ b off, a = some ⟨b, off, none⟩ ∧ ∀ (i : Nat) (s : ByteArray), ss[i]? = some s → w.cell? ⟨b, off + i, none⟩ = some (.string s) := (unhide HSt).resolve_left (fun e => by rw [e] at hk; simp at hk; omega)
            have q2 : (j : Int) < (k : Int) := by omega
            have q3 : (j : Int) < (ss.length : Int) := by omega
            obtain ⟨s, hs⟩ : ∃ s, ss[j]? = some s := ⟨_, List.getElem?_eq_getElem (by omega)⟩
            have hc := hcs j s hs
            have hc' : wr.cell? ⟨b, off + j, none⟩ = some (.string s) := by rw [ho.below.cell (World.block_lt_of_cell? w _ hc)]; exact hc
            have hrs : (rot ss k)[ss.length - k + j]? = some s := (rot_early hjn hk).trans hs
            have HO := hide ho
            have HR := hide hrs
            have Hl := hide ho.len
            have hsz := hide ho.below.size
            clear hs hc hcs hrs ho
            by_cases hsl : s = l
            · have hbq : (s.toList == l.toList) = true := by rw [hsl]; exact beq_self_eq_true _
              have HSL := hide hsl
              clear hsl
              go_wp2
              go_roundw
              case rel => exact ⟨j + 1, d, c, sa, out, by go_num, rfl, by omega, unhide HO, hide (by rw [unhide hout, ← Nat.add_assoc, filt_skip (unhide HR) (unhide HSL)])⟩
              case measure => simp [intOf]; omega
            · have hbq : (s.toList == l.toList) = false := toList_other hsl
              have HSL := hide hsl
              clear hsl
              have hdl : out.length ≤ 1025 := by
                have e := unhide hout
                rw [e, List.length_append]
                have h1 := head_len l
                have h2 := filt_len l ((rot ss k).take (ss.length - k + j))
                rw [List.length_take, rot_length] at h2
                omega
              go_wp2_with (at_builtin; refine wpList_append_lies _ rfl _ _ _ rfl w.heap.size 9 i _ 1 16 Yba.underlying22 (unhide HI) (unhide HZ) (unhide HS) (unhide HBy) rfl (by omega) (.slice sa d c) out.length (sv out) rfl ((unhide HO).own.alloc _) ⟨wr.heap.size, 0, none⟩ 1 1 [.string s] rfl rfl (by exact news_one wr _ _) (by simp [Value.oneCell']) (by omega) (by unfold maxLen; omega) (by omega) (by have := unhide hsz; rw [World.size_alloc]; omega) _ rfl ?_; intro g' cap' w1 hown1 hgrow hat hlt1)
              exact ⟨⟨j + 1, out.length + 1, cap', some ⟨g', 0, none⟩, out ++ [s], by go_num, rfl, by omega, (unhide HO).push hown1 hgrow, hide (by rw [unhide hout, ← Nat.add_assoc, filt_push (unhide HR) (unhide HSL), List.append_assoc])⟩, by simp [intOf]; omega⟩
          · have hjk' : j = k := by omega
            have q2 : ¬ (j : Int) < (k : Int) := by omega
            have HO := hide ho
            have hout' : out = head l ++ filt l (rot ss k) := by rw [unhide hout, hjk', List.take_of_length_le (by rw [rot_length]; omega)]
            have HE := hide hout'
            clear ho hout hjk' hout'
            go_wp2
            go_ret
            exact ⟨_, _, _, rfl, (unhide HE) ▸ unhide HO⟩
end Go.Proofs.Ybulkcjqe
