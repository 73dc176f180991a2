/-
  The opening of a list of scripted steps ('{Op uint8; V int8}'), for both marking laws.
-/
import Derived.Test.YbulkcjmyCLaws
import Derived.WalkKit
import Derived.ProofKit
import Derived.OpenShut
import Derived.Deep.SlicePairs
namespace Go.Proofs.Ybulkcjmy
open Go.ChangeShapes Go.WideShapes Go.ChangeAt Go.RowKit

theorem cells65 : Yba.prog.cellsOf 65 = 2 := by kernel_rfl
theorem cells5' : Yba.prog.cellsOf 5 = 1 := by kernel_rfl
theorem cells63' : Yba.prog.cellsOf 63 = 1 := by kernel_rfl

theorem ops_open {H : Type} {enc : TypeId × Value → H} {w : World} {base : Nat} {spare : Nat → Bool} {held : Bool} {fuel : Nat} {x : DataW H × List MemPlace} {a : Option Addr} {len cap : Nat}
    (h : DataW.trod enc Yba.prog w base spare held fuel 36 [.slice a len cap] = some x) : IsOps w a len := by
  rcases Go.Deep.open_slice_pairs Yba.underlying36 Yba.underlying65 cells65 rfl rfl cells5' cells63' h with ⟨hcs, _⟩ | ⟨b, l, c, m, n, V0, V1, D0, D1, P0, P1, hcs, _, hl, _, hm, _, hx⟩
  · simp at hcs
    exact .inl hcs.2.1
  · simp at hcs
    obtain ⟨rfl, rfl, rfl⟩ := hcs
    by_cases hz : len = 0
    · exact .inl hz
    have hlm : len ≤ m := by rw [hm]; split <;> omega
    obtain ⟨db, doff, spot⟩ := b
    have hspot : spot = none := by simpa [Addr.add] using World.cell?_spot (hx 0 (by omega)).1
    subst hspot
    refine .inr ⟨db, doff, rfl, fun i hi => ?_⟩
    obtain ⟨h0, h1, t0, t1⟩ := hx i (by omega)
    obtain ⟨o, ho, _, wo⟩ := DataW.trod_int Yba.underlying5 t0
    obtain ⟨v, hv, _, wv⟩ := DataW.trod_int Yba.underlying63 t1
    simp at ho hv
    rw [ho] at h0
    rw [hv] at h1
    rw [Go.WideShapes.add_plain] at h0 h1
    obtain ⟨b1, b2⟩ := bounds_u8 wo
    obtain ⟨b3, b4⟩ := bounds_i8 wv
    exact ⟨o, v, b1, b2, b3, b4, h0, by rw [Nat.add_assoc]; exact h1⟩
end Go.Proofs.Ybulkcjmy
