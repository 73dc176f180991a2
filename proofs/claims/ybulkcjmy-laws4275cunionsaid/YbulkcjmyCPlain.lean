/-
  The plain mathematics of the marking laws: nodes with two children of smaller number, the least closed set of given roots, heights. No Go here.
-/
namespace Go.Proofs.Ybulkcjmy

/-- A node: value, count, level, left, right. -/
structure Nd where
  v : Int
  c : Int
  lv : Int
  l : Nat
  r : Nat

/-- Children lie below their node. -/
def Down (ns : List Nd) : Prop := ∀ (i : Nat) (nd : Nd), ns[i]? = some nd → (nd.l = 0 ∨ nd.l < i) ∧ (nd.r = 0 ∨ nd.r < i)

def Closed (ns : List Nd) (S : Nat → Prop) : Prop := ∀ (y : Nat) (nd : Nd), S y → ns[y]? = some nd → (nd.l ≠ 0 → S nd.l) ∧ (nd.r ≠ 0 → S nd.r)

/-- x lies in every closed set that holds the roots. -/
def Rch (ns : List Nd) (roots : List Nat) (x : Nat) : Prop := ∀ S : Nat → Prop, (∀ t ∈ roots, t ≠ 0 → S t) → Closed ns S → S x

theorem rch_closed (ns : List Nd) (roots : List Nat) : Closed ns (Rch ns roots) := fun y nd hy hn =>
  ⟨fun h S h0 hc => (hc y nd (hy S h0 hc) hn).1 h, fun h S h0 hc => (hc y nd (hy S h0 hc) hn).2 h⟩

theorem rch_root {ns : List Nd} {roots : List Nat} {t : Nat} (ht : t ∈ roots) (h0 : t ≠ 0) : Rch ns roots t := fun _ h _ => h t ht h0

theorem rch_zero {ns : List Nd} {x : Nat} : ¬ Rch ns [0] x := fun h => h (fun _ => False) (fun t ht h0 => h0 (by simpa using ht)) (fun _ _ h _ => h.elim)

theorem rch_mono {ns : List Nd} {a b : List Nat} {x : Nat} (h : Rch ns a x) (hab : ∀ t ∈ a, t ≠ 0 → Rch ns b t) : Rch ns b x :=
  h (Rch ns b) hab (rch_closed ns b)

/-- What is reached from t: t itself, and what is reached from its children. -/
theorem rch_step {ns : List Nd} {t : Nat} {nd : Nd} (h0 : t ≠ 0) (hn : ns[t]? = some nd) (x : Nat) : Rch ns [t] x ↔ x = t ∨ Rch ns [nd.l] x ∨ Rch ns [nd.r] x := by
  constructor
  · intro h
    refine h (fun x => x = t ∨ Rch ns [nd.l] x ∨ Rch ns [nd.r] x) (fun s hs _ => .inl (by simpa using hs)) ?_
    intro y m hy hm
    rcases hy with rfl | hy | hy
    · obtain rfl : nd = m := by rw [hn] at hm; exact Option.some.inj hm
      exact ⟨fun h => .inr (.inl (rch_root (by simp) h)), fun h => .inr (.inr (rch_root (by simp) h))⟩
    · have := rch_closed ns [nd.l] y m hy hm
      exact ⟨fun h => .inr (.inl (this.1 h)), fun h => .inr (.inl (this.2 h))⟩
    · have := rch_closed ns [nd.r] y m hy hm
      exact ⟨fun h => .inr (.inr (this.1 h)), fun h => .inr (.inr (this.2 h))⟩
  · have hc := rch_closed ns [t] t nd (rch_root (by simp) h0) hn
    rintro (rfl | h | h)
    · exact rch_root (by simp) h0
    · exact rch_mono h fun s hs h0' => by obtain rfl : s = nd.l := by simpa using hs
                                          exact hc.1 h0'
    · exact rch_mono h fun s hs h0' => by obtain rfl : s = nd.r := by simpa using hs
                                          exact hc.2 h0'

theorem rch_two {ns : List Nd} (a b x : Nat) : Rch ns [a, b] x ↔ Rch ns [a] x ∨ Rch ns [b] x := by
  constructor
  · intro h
    refine h (fun x => Rch ns [a] x ∨ Rch ns [b] x) (fun s hs h0 => ?_) (fun y m hy hm => ?_)
    · rcases List.mem_cons.1 hs with rfl | hs
      · exact .inl (rch_root (by simp) h0)
      · obtain rfl : s = b := by simpa using hs
        exact .inr (rch_root (by simp) h0)
    · rcases hy with hy | hy
      · have := rch_closed ns [a] y m hy hm
        exact ⟨fun h => .inl (this.1 h), fun h => .inl (this.2 h)⟩
      · have := rch_closed ns [b] y m hy hm
        exact ⟨fun h => .inr (this.1 h), fun h => .inr (this.2 h)⟩
  · rintro (h | h)
    · exact rch_mono h fun s hs h0 => rch_root (by simp at hs ⊢; exact .inl hs) h0
    · exact rch_mono h fun s hs h0 => rch_root (by simp at hs ⊢; exact .inr hs) h0

/-- A set of marks (a Bool function) that is closed as far as t. -/
def ClosedTo (ns : List Nd) (M : Nat → Bool) (t : Nat) : Prop := ∀ (y : Nat) (nd : Nd), y ≤ t → M y = true → ns[y]? = some nd → (nd.l ≠ 0 → M nd.l = true) ∧ (nd.r ≠ 0 → M nd.r = true)

/-- Where t is marked already nothing is to be done. -/
theorem rch_marked {ns : List Nd} (hd : Down ns) {M : Nat → Bool} {t : Nat} (hc : ClosedTo ns M t) (ht : t = 0 ∨ M t = true) {x : Nat} (h : Rch ns [t] x) : M x = true := by
  rcases ht with rfl | ht
  · exact absurd h rch_zero
  · refine (h (fun x => M x = true ∧ x ≤ t) (fun s hs _ => ?_) (fun y nd hy hn => ?_)).1
    · obtain rfl : s = t := by simpa using hs
      exact ⟨ht, Nat.le_refl _⟩
    · obtain ⟨h1, h2⟩ := hc y nd hy.2 hy.1 hn
      obtain ⟨d1, d2⟩ := hd y nd hn
      refine ⟨fun h => ⟨h1 h, ?_⟩, fun h => ⟨h2 h, ?_⟩⟩
      · rcases d1 with d | d <;> omega
      · rcases d2 with d | d <;> omega

def put (M : Nat → Bool) (t : Nat) : Nat → Bool := fun x => if x = t then true else M x
theorem put_self (M : Nat → Bool) (t : Nat) : put M t t = true := by simp [put]
theorem put_other (M : Nat → Bool) {t x : Nat} (h : x ≠ t) : put M t x = M x := by simp [put, h]
theorem put_of (M : Nat → Bool) {t x : Nat} (h : M x = true) : put M t x = true := by simp [put, h]
theorem put_iff (M : Nat → Bool) (t x : Nat) : put M t x = true ↔ x = t ∨ M x = true := by
  unfold put; split <;> simp_all

/-- How many of the first n are marked. -/
def card (M : Nat → Bool) (n : Nat) : Nat := ((List.range n).filter M).length
theorem card_succ (M : Nat → Bool) (n : Nat) : card M (n + 1) = card M n + (if M n = true then 1 else 0) := by
  unfold card
  rw [List.range_succ, List.filter_append, List.length_append]
  congr 1
  by_cases h : M n = true <;> simp [h]
theorem card_le (M : Nat → Bool) (n : Nat) : card M n ≤ n := by
  have := List.length_filter_le M (List.range n)
  simpa [card] using this
theorem card_congr {M M' : Nat → Bool} {n : Nat} (h : ∀ x, x < n → M x = M' x) : card M n = card M' n := by
  unfold card
  congr 1
  apply List.filter_congr
  intro x hx
  exact h x (List.mem_range.1 hx)
theorem card_put (M : Nat → Bool) {t : Nat} (hM : M t = false) : ∀ (n : Nat), t < n → card (put M t) n = card M n + 1 := by
  intro n
  induction n with
  | zero => intro h; omega
  | succ n ih =>
    intro h
    rw [card_succ, card_succ]
    by_cases e : t = n
    · subst e
      rw [card_congr (M := put M t) (M' := M) (fun x hx => put_other M (by omega)), put_self, hM]
      simp
    · rw [ih (by omega), put_other M (fun e' => e e'.symm)]
      omega
theorem card_zero (n : Nat) : card (fun _ => false) n = 0 := by simp [card]
theorem card_lt {M : Nat → Bool} {n x : Nat} (hx : x < n) (h : M x = false) : card M n < n := by
  have := card_put M h n hx
  have := card_le (put M x) n
  omega

/-- Behind t's own mark: closed as far as a child. -/
theorem closedTo_put {ns : List Nd} {M : Nat → Bool} {t l : Nat} (hc : ClosedTo ns M t) (hl : l < t) : ClosedTo ns (put M t) l := fun y nd hy hM hn => by
  rw [put_other M (by omega)] at hM
  obtain ⟨h1, h2⟩ := hc y nd (by omega) hM hn
  exact ⟨fun h => put_of M (h1 h), fun h => put_of M (h2 h)⟩

/-- Behind the left child's marks: closed as far as the right child. -/
theorem closedTo_union {ns : List Nd} {M M' : Nat → Bool} {a r : Nat} (hc : ClosedTo ns M r) (hM : ∀ x, M' x = true ↔ M x = true ∨ Rch ns [a] x) : ClosedTo ns M' r := fun y nd hy hm hn => by
  rcases (hM y).1 hm with h | h
  · obtain ⟨h1, h2⟩ := hc y nd hy h hn
    exact ⟨fun h => (hM _).2 (.inl (h1 h)), fun h => (hM _).2 (.inl (h2 h))⟩
  · obtain ⟨h1, h2⟩ := rch_closed ns [a] y nd h hn
    exact ⟨fun h => (hM _).2 (.inr (h1 h)), fun h => (hM _).2 (.inr (h2 h))⟩

/-- t's tree is at most h high (0: the empty tree). -/
def HtLe (ns : List Nd) : Nat → Nat → Prop
  | 0, t => t = 0
  | h + 1, t => t = 0 ∨ ∃ nd, ns[t]? = some nd ∧ HtLe ns h nd.l ∧ HtLe ns h nd.r

theorem htLe_zero (ns : List Nd) : ∀ h, HtLe ns h 0
  | 0 => rfl
  | _ + 1 => .inl rfl
theorem htLe_succ {ns : List Nd} : ∀ {h t : Nat}, HtLe ns h t → HtLe ns (h + 1) t
  | 0, _, h => .inl h
  | h + 1, t, hh => by
    rcases hh with h0 | ⟨nd, hn, h1, h2⟩
    · exact .inl h0
    · exact .inr ⟨nd, hn, htLe_succ h1, htLe_succ h2⟩
theorem htLe_le {ns : List Nd} {h h' t : Nat} (hh : HtLe ns h t) (hle : h ≤ h') : HtLe ns h' t := by
  induction hle with
  | refl => exact hh
  | step _ ih => exact htLe_succ ih
theorem getElem_append {ns ms : List Nd} {t : Nat} {nd : Nd} (h : ns[t]? = some nd) : (ns ++ ms)[t]? = some nd := by
  rw [List.getElem?_append_left (List.getElem?_eq_some_iff.1 h).1]; exact h
theorem htLe_append {ns : List Nd} (ms : List Nd) : ∀ {h t : Nat}, HtLe ns h t → HtLe (ns ++ ms) h t
  | 0, _, h => h
  | h + 1, t, hh => by
    rcases hh with h0 | ⟨nd, hn, h1, h2⟩
    · exact .inl h0
    · exact .inr ⟨nd, getElem_append hn, htLe_append ms h1, htLe_append ms h2⟩
theorem htLe_lt {ns : List Nd} {h t : Nat} (hh : HtLe ns h t) (h1 : 1 ≤ ns.length) : t < ns.length := by
  cases h with
  | zero => simp only [HtLe] at hh; omega
  | succ h =>
    rcases hh with h0 | ⟨nd, hn, _⟩
    · omega
    · exact (List.getElem?_eq_some_iff.1 hn).1

theorem down_append {ns : List Nd} {nd : Nd} (hd : Down ns) (hl : nd.l < ns.length) (hr : nd.r < ns.length) : Down (ns ++ [nd]) := fun i m hm => by
  by_cases h : i < ns.length
  · rw [List.getElem?_append_left h] at hm
    exact hd i m hm
  · rw [List.getElem?_append_right (by omega)] at hm
    have h2 : i - ns.length = 0 := by
      rcases Nat.eq_zero_or_pos (i - ns.length) with h' | h'
      · exact h'
      · rw [List.getElem?_eq_none (by simp; omega)] at hm; cases hm
    rw [h2] at hm
    obtain rfl : nd = m := by simpa using hm
    exact ⟨.inr (by omega), .inr (by omega)⟩

/-! ### The search with a stack: when the stack is empty the seen set is what can be reached. -/
/-- What holds between two rounds: every seen node is reached; whatever is seen and waits on no stack has its children seen. -/
structure Search (ns : List Nd) (roots : List Nat) (n : Nat) (M : Nat → Bool) (st : List Nat) : Prop where
  reached : ∀ x, M x = true → Rch ns roots x
  on : ∀ x ∈ st, M x = true ∧ x ≠ 0 ∧ x < n
  off : ∀ (y : Nat) (nd : Nd), M y = true → y ∉ st → ns[y]? = some nd → (nd.l ≠ 0 → M nd.l = true) ∧ (nd.r ≠ 0 → M nd.r = true)

theorem search_end {ns : List Nd} {roots : List Nat} {n : Nat} {M : Nat → Bool} (h : Search ns roots n M []) (hr : ∀ t ∈ roots, t ≠ 0 → M t = true) (x : Nat) : M x = true ↔ Rch ns roots x :=
  ⟨h.reached x, fun hx => hx (fun x => M x = true) hr (fun y nd hy hn => h.off y nd hy (by simp) hn)⟩

theorem search_push {ns : List Nd} {roots : List Nat} {n : Nat} {M : Nat → Bool} {st : List Nat} (h : Search ns roots n M st) {t : Nat} (ht : Rch ns roots t) (h0 : t ≠ 0) (hlt : t < n) : Search ns roots n (put M t) (st ++ [t]) := by
  refine ⟨fun x hx => ?_, fun x hx => ?_, fun y nd hy hst hn => ?_⟩
  · rcases (put_iff M t x).1 hx with rfl | hx
    · exact ht
    · exact h.reached x hx
  · rcases List.mem_append.1 hx with hx | hx
    · obtain ⟨a, b, c⟩ := h.on x hx
      exact ⟨put_of M a, b, c⟩
    · obtain rfl : x = t := by simpa using hx
      exact ⟨put_self M x, h0, hlt⟩
  · simp only [List.mem_append, List.mem_singleton, not_or] at hst
    rcases (put_iff M t y).1 hy with rfl | hy
    · exact absurd rfl hst.2
    · obtain ⟨h1, h2⟩ := h.off y nd hy hst.1 hn
      exact ⟨fun h => put_of M (h1 h), fun h => put_of M (h2 h)⟩

/-- x popped: all but x is as it was; x's children are still owed. -/
structure Owing (ns : List Nd) (roots : List Nat) (n : Nat) (M : Nat → Bool) (st : List Nat) (x : Nat) : Prop where
  reached : ∀ x, M x = true → Rch ns roots x
  on : ∀ x ∈ st, M x = true ∧ x ≠ 0 ∧ x < n
  off : ∀ (y : Nat) (nd : Nd), M y = true → y ∉ st → y ≠ x → ns[y]? = some nd → (nd.l ≠ 0 → M nd.l = true) ∧ (nd.r ≠ 0 → M nd.r = true)
  top : M x = true

theorem search_pop {ns : List Nd} {roots : List Nat} {n : Nat} {M : Nat → Bool} {st : List Nat} {x : Nat} (h : Search ns roots n M (st ++ [x])) : Owing ns roots n M st x := by
  refine ⟨h.reached, fun y hy => h.on y (by simp [hy]), fun y nd hy hst hne hn => h.off y nd hy (by simp [hst, hne]) hn, (h.on x (by simp)).1⟩

theorem owing_push {ns : List Nd} {roots : List Nat} {n : Nat} {M : Nat → Bool} {st : List Nat} {x : Nat} (h : Owing ns roots n M st x) {t : Nat} (ht : Rch ns roots t) (h0 : t ≠ 0) (hlt : t < n) : Owing ns roots n (put M t) (st ++ [t]) x := by
  refine ⟨fun x hx => ?_, fun x hx => ?_, fun y nd hy hst hne hn => ?_, put_of M h.top⟩
  · rcases (put_iff M t x).1 hx with rfl | hx
    · exact ht
    · exact h.reached x hx
  · rcases List.mem_append.1 hx with hx | hx
    · obtain ⟨a, b, c⟩ := h.on x hx
      exact ⟨put_of M a, b, c⟩
    · obtain rfl : x = t := by simpa using hx
      exact ⟨put_self M x, h0, hlt⟩
  · simp only [List.mem_append, List.mem_singleton, not_or] at hst
    rcases (put_iff M t y).1 hy with rfl | hy
    · exact absurd rfl hst.2
    · obtain ⟨h1, h2⟩ := h.off y nd hy hst.1 hne hn
      exact ⟨fun h => put_of M (h1 h), fun h => put_of M (h2 h)⟩

theorem owing_paid {ns : List Nd} {roots : List Nat} {n : Nat} {M : Nat → Bool} {st : List Nat} {x : Nat} {nd : Nd} (h : Owing ns roots n M st x) (hn : ns[x]? = some nd) (hl : nd.l ≠ 0 → M nd.l = true) (hr : nd.r ≠ 0 → M nd.r = true) : Search ns roots n M st := by
  refine ⟨h.reached, h.on, fun y m hy hst hm => ?_⟩
  by_cases e : y = x
  · subst e
    obtain rfl : nd = m := by rw [hn] at hm; exact Option.some.inj hm
    exact ⟨hl, hr⟩
  · exact h.off y m hy hst e hm
end Go.Proofs.Ybulkcjmy
