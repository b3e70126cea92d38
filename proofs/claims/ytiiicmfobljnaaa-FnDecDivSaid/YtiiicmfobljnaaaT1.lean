/- What impl.DecDiv answers, at 32 and 64 bits, called with decimals and not by zero. -/
import Derived.Test.YtiiicmfobljnaaaTD
namespace Go.Proofs.Ytiiicmfobljnaaa.V
set_option linter.unusedVariables false
open Go.RowKit Go.Proofs.YtiiicmfobljnaaaW.PrintWords Go.Proofs.YtiiicmfobljnaaaW.PrintLast Go.Proofs.YtiiicmfobljnaaaW.PrintMore

theorem cell0 {w : World} {A : Option Addr} {l : List Int} (h : Kd.C (Kd.int .u64) w A l.length l) (hl : l.length = 1) : ∃ ad, A = some ad ∧ w.cell? ad = some (.int .u64 (rd l 0)) := by
  obtain ⟨ad, e, hx⟩ := Kd.at_int h 0 (by omega) (by omega)
  rw [show ((0 : Int)).toNat = 0 from rfl, Addr.add_zero'] at hx
  exact ⟨ad, e, hx⟩

/-- At 32 and 64 bits, of decimals and not by zero: the quotient and what is left; nothing is said of others. -/
def impl_DecDiv.f (a0 : Int) (l1 l2 : List Int) : Option (List Int × List Int × Bool) :=
  if a0 = 64 ∧ l1.length = 1 ∧ l2.length = 1 ∧ wrap64 (rd l2 0) ≠ 0 then
    some ([IntKind.u64.wrap (wrap64 ((wrap64 (rd l1 0)).tdiv (wrap64 (rd l2 0))))], [IntKind.u64.wrap ((wrap64 (rd l1 0)).tmod (wrap64 (rd l2 0)))], true)
  else if a0 = 32 ∧ l1.length = 1 ∧ l2.length = 1 ∧ wrap64 (rd l1 0) = wrap64 (wrap32 (rd l1 0)) ∧ wrap64 (rd l2 0) = wrap64 (wrap32 (rd l2 0)) ∧ wrap32 (rd l2 0) ≠ 0 then
    some ([IntKind.u64.wrap (wrap64 (wrap32 ((wrap32 (rd l1 0)).tdiv (wrap32 (rd l2 0)))))], [IntKind.u64.wrap (wrap64 ((wrap32 (rd l1 0)).tmod (wrap32 (rd l2 0))))], true)
  else none
theorem impl_DecDiv.calls (a0 : Int) (A1 : Option Addr) (c1 : Nat) (l1 : List Int) (A2 : Option Addr) (c2 : Nat) (l2 : List Int) (r1 r2 : List Int) (r3 : Bool) (w : World)
    (hr1 : Kd.C (Kd.int .u64) w A1 l1.length l1) (hc1 : l1.length ≤ c1) (hr2 : Kd.C (Kd.int .u64) w A2 l2.length l2) (hc2 : l2.length ≤ c2) (h : impl_DecDiv.f a0 l1 l2 = some (r1, r2, r3)) :
    Calls Try.prog 7 #[.int .i64 a0, .slice A1 l1.length c1, .slice A2 l2.length c2] w fun e w' => ∃ v1_ v2_, e = .returned (.tuple #[v1_, v2_, .bool r3]) ∧ Kd.R (Kd.int .u64) 25 w' w.heap.size (fun k_ => w.heap.size ≤ k_) v1_ r1 ∧ Kd.R (Kd.int .u64) 25 w' w.heap.size (fun k_ => w.heap.size ≤ k_) v2_ r2 ∧ Below w.heap.size w w' := by
  unfold impl_DecDiv.f at h
  split at h
  · next c =>
    obtain ⟨rfl, e1, e2, c3⟩ := c
    obtain ⟨ad1, rfl, g1⟩ := cell0 hr1 e1
    obtain ⟨ad2, rfl, g2⟩ := cell0 hr2 e2
    simp only [Option.some.injEq, Prod.mk.injEq] at h
    obtain ⟨rfl, rfl, rfl⟩ := h
    rw [e1, e2]
    exact decDiv64 ad1 ad2 c1 c2 _ _ w g1 g2 c3
  · split at h
    · next c =>
      obtain ⟨rfl, e1, e2, h1, h2, c3⟩ := c
      obtain ⟨ad1, rfl, g1⟩ := cell0 hr1 e1
      obtain ⟨ad2, rfl, g2⟩ := cell0 hr2 e2
      simp only [Option.some.injEq, Prod.mk.injEq] at h
      obtain ⟨rfl, rfl, rfl⟩ := h
      rw [e1, e2]
      exact decDiv32 ad1 ad2 c1 c2 _ _ w g1 g2 h1 h2 c3
    · cases h
end Go.Proofs.Ytiiicmfobljnaaa.V
