/- What an argument that is a type reads as. -/
import Derived.Test.YteebgnhhjlgnjaaGreatDoorWF
import Derived.ChangeArms
import Derived.Deep.Slices
import Derived.DataReads
namespace Go.Proofs.YteebgnhhjlgnjaaGreatDoor.V
open Go.RowKit Go.Proofs.YteebgnhhjlgnjaaGreatDoorW.PrintWords Go.Proofs.YteebgnhhjlgnjaaGreatDoorW.PrintLast Go.Proofs.YteebgnhhjlgnjaaGreatDoorW.PrintMore
set_option maxHeartbeats 40000000
set_option maxRecDepth 100000
set_option linter.unusedVariables false
set_option linter.unusedSimpArgs false
instance : Inhabited S30 := ⟨z30⟩
instance : Inhabited S73 := ⟨⟨emp, emp⟩⟩
section
variable {H : Type} {enc : TypeId × Value → H} {W : World} {sp : Nat → Bool} {held : Bool}
theorem open_row {P : Program} {α : Type} [Inhabited α] {R : α → List Value → Prop} {Good : α → Prop} {t e k m : Nat} {cs : List Value} {x : DataW H × List MemPlace} (ht : P.underlying t = some (.slice e)) (hk : P.cellsOf e = k)
 (hel : ∀ n, n < m → ∀ cs' y, DataW.trod enc P W 0 sp held n e cs' = some y → ∃ p, R p cs' ∧ Good p) (h : DataW.trod enc P W 0 sp held m t cs = some x) :
 ∃ A c, ∃ xs : List α, cs = [.slice A xs.length c] ∧ xs.length ≤ c ∧ Go.Proofs.YteebgnhhjlgnjaaGreatDoorW.PrintWords.ReadsRow R k W A xs.length xs ∧ ∀ p ∈ xs, Good p := by
 rcases DataW.trod_slice ht h with ⟨rfl, _⟩ | ⟨a, len, cap, elems, rest, n, hn, rfl, _, _, hl, hm, hlen, he, _, _⟩
 ·exact ⟨none, 0, [], rfl, by simp, ⟨rfl, by simp, fun h => absurd h (Nat.lt_irrefl 0)⟩, fun p hp => by cases hp⟩
 ·have key : ∀ i, i < len → ∃ q : α × List Value, R q.1 q.2 ∧ Good q.1 ∧ W.cells? 0 (a.add (i * k)) k = some q.2 := fun i hi => by
   have h1 := he i hi
   rw [List.getElem?_eq_getElem (by omega), hk] at h1
   obtain ⟨cs', h2, h3⟩ := Option.bind_eq_some_iff.1 h1
   obtain ⟨p, h4, h5⟩ := hel n (by omega) cs' _ h3
   exact ⟨(p, cs'), h4, h5, h2⟩
  obtain ⟨f, hf⟩ := Go.Deep.choose_lt key
  refine ⟨some a, cap, (List.range len).map (fun i => (f i).1), by simp, by simpa using hl, ⟨rfl, by simp only [List.length_map, List.length_range]; unfold maxLen at hm; omega, fun _ => ⟨a, rfl, fun j p hp => ?_⟩⟩, fun p hp => ?_⟩
  ·have hj : j < len := by
    have := (List.getElem?_eq_some_iff.mp hp).1
    simpa using this
   obtain rfl : (f j).1 = p := by simpa [hj] using hp
   obtain ⟨h1, _, h2⟩ := hf j hj
   obtain ⟨hb, hl2, h3⟩ := World.cells?_some h2
   exact ⟨(f j).2, hl2, h1, fun i u hu => by
    have hi : i < k := by rw [← hl2]; exact (List.getElem?_eq_some_iff.mp hu).1
    rw [← Addr.add_add, h3 i hi]
    exact hu⟩
  ·simp only [List.mem_map, List.mem_range] at hp
   obtain ⟨i, hi, rfl⟩ := hp
   exact (hf i hi).2.1
theorem read73 {m : Nat} {cs : List Value} {x : DataW H × List MemPlace} (h : DataW.trod enc Tryz.prog W 0 sp held m 73 cs = some x) : ∃ p : S73, k73.K W p cs ∧ True := by
 have s9 : Tryz.prog.cellsOf 9 = 1 := by kernel_rfl
 have s73 : Tryz.prog.cellsOf 73 = 2 := by kernel_rfl
 obtain ⟨xs, n, _, _, hl, hx, hf⟩ := DataW.trod_struct Tryz.underlying73 h
 rw [s73] at hl
 match xs, hx, cs, hl with
 | [x0, x1], _, [c0, c1], _ =>
  have h0 : DataW.trod enc Tryz.prog W 0 sp held n 9 [c0] = some x0 := by simpa [s9] using hf 0 _ rfl
  have h1 : DataW.trod enc Tryz.prog W 0 sp held n 9 [c1] = some x1 := by simpa [s9] using hf 1 _ rfl
  obtain ⟨a0, e0, _, _⟩ := DataW.trod_string Tryz.underlying9 h0
  obtain ⟨a1, e1, _, _⟩ := DataW.trod_string Tryz.underlying9 h1
  obtain rfl : c0 = .string a0 := by simpa using e0
  obtain rfl : c1 = .string a1 := by simpa using e1
  exact ⟨⟨a0, a1⟩, k73_mk W ⟨a0, a1⟩, trivial⟩
theorem read30 {m : Nat} (ih : ∀ n, n < m → ∀ cs x, DataW.trod enc Tryz.prog W 0 sp held n 28 cs = some x → ∃ T : S28, k28.K W T cs ∧ SzT T) {cs : List Value} {x : DataW H × List MemPlace} (h : DataW.trod enc Tryz.prog W 0 sp held m 30 cs = some x) :
 ∃ f : S30, k30.K W f cs ∧ (f.f0.size ≤ 9223372036854775807 ∧ SzT f.f2) := by
 have s9 : Tryz.prog.cellsOf 9 = 1 := by kernel_rfl
 have s4 : Tryz.prog.cellsOf 4 = 1 := by kernel_rfl
 have s28 : Tryz.prog.cellsOf 28 = 10 := by kernel_rfl
 have s23 : Tryz.prog.cellsOf 23 = 1 := by kernel_rfl
 have s30 : Tryz.prog.cellsOf 30 = 13 := by kernel_rfl
 have s73 : Tryz.prog.cellsOf 73 = 2 := by kernel_rfl
 obtain ⟨xs, n, hn, _, hl, hx, hf⟩ := DataW.trod_struct Tryz.underlying30 h
 rw [s30] at hl
 match xs, hx, cs, hl with
 | [x0, x1, x2, x3], _, [c0, c1, c2, c3, c4, c5, c6, c7, c8, c9, c10, c11, c12], _ =>
  have h0 : DataW.trod enc Tryz.prog W 0 sp held n 9 [c0] = some x0 := by simpa [s9] using hf 0 _ rfl
  have h1 : DataW.trod enc Tryz.prog W 0 sp held n 4 [c1] = some x1 := by simpa [s4] using hf 1 _ rfl
  have h2 : DataW.trod enc Tryz.prog W 0 sp held n 28 [c2, c3, c4, c5, c6, c7, c8, c9, c10, c11] = some x2 := by simpa [s28] using hf 2 _ rfl
  have h3 : DataW.trod enc Tryz.prog W 0 sp held n 23 [c12] = some x3 := by simpa [s23] using hf 3 _ rfl
  obtain ⟨a0, e0, _, hs0⟩ := DataW.trod_string Tryz.underlying9 h0
  obtain ⟨a1, e1, _⟩ := DataW.trod_bool Tryz.underlying4 h1
  obtain ⟨T, hT, hS⟩ := ih n (by omega) _ _ h2
  obtain ⟨A12, k12, ms, e3, l12, g12, _⟩ := open_row (R := k73.K W) (Good := fun _ => True) Tryz.underlying23 s73 (fun _ _ cs' y hy => read73 hy) h3
  obtain ⟨A8, k8, A9, k9, e2, l8, g8, l9, g9⟩ := k28_open hT
  obtain rfl : c0 = .string a0 := by simpa using e0
  obtain rfl : c1 = .bool a1 := by simpa using e1
  obtain rfl : c12 = .slice A12 ms.length k12 := by simpa using e3
  simp only [List.cons.injEq, and_true] at e2
  obtain ⟨rfl, rfl, rfl, rfl, rfl, rfl, rfl, rfl, rfl, rfl⟩ := e2
  exact ⟨⟨a0, a1, T, ms⟩, k30_mk W ⟨a0, a1, T, ms⟩ l8 g8 l9 g9 l12 g12, by unfold maxLen at hs0; exact hs0, hS⟩
theorem read28 : ∀ (m : Nat) (cs : List Value) (x : DataW H × List MemPlace), DataW.trod enc Tryz.prog W 0 sp held m 28 cs = some x → ∃ T : S28, k28.K W T cs ∧ SzT T := by
 intro m
 induction m using Nat.strongRecOn with
 | _ m ih =>
  intro cs x h
  have s9 : Tryz.prog.cellsOf 9 = 1 := by kernel_rfl
  have s4 : Tryz.prog.cellsOf 4 = 1 := by kernel_rfl
  have s3 : Tryz.prog.cellsOf 3 = 1 := by kernel_rfl
  have s26 : Tryz.prog.cellsOf 26 = 1 := by kernel_rfl
  have s22 : Tryz.prog.cellsOf 22 = 1 := by kernel_rfl
  have s30 : Tryz.prog.cellsOf 30 = 13 := by kernel_rfl
  have s28 : Tryz.prog.cellsOf 28 = 10 := by kernel_rfl
  obtain ⟨xs, n, hn, _, hl, hx, hf⟩ := DataW.trod_struct Tryz.underlying28 h
  rw [s28] at hl
  match xs, hx, cs, hl with
  | [x0, x1, x2, x3, x4, x5, x6, x7, x8, x9], _, [c0, c1, c2, c3, c4, c5, c6, c7, c8, c9], _ =>
   have h0 : DataW.trod enc Tryz.prog W 0 sp held n 3 [c0] = some x0 := by simpa [s3] using hf 0 _ rfl
   have h1 : DataW.trod enc Tryz.prog W 0 sp held n 3 [c1] = some x1 := by simpa [s3] using hf 1 _ rfl
   have h2 : DataW.trod enc Tryz.prog W 0 sp held n 4 [c2] = some x2 := by simpa [s4] using hf 2 _ rfl
   have h3 : DataW.trod enc Tryz.prog W 0 sp held n 3 [c3] = some x3 := by simpa [s3] using hf 3 _ rfl
   have h4 : DataW.trod enc Tryz.prog W 0 sp held n 3 [c4] = some x4 := by simpa [s3] using hf 4 _ rfl
   have h5 : DataW.trod enc Tryz.prog W 0 sp held n 3 [c5] = some x5 := by simpa [s3] using hf 5 _ rfl
   have h6 : DataW.trod enc Tryz.prog W 0 sp held n 9 [c6] = some x6 := by simpa [s9] using hf 6 _ rfl
   have h7 : DataW.trod enc Tryz.prog W 0 sp held n 4 [c7] = some x7 := by simpa [s4] using hf 7 _ rfl
   have h8 : DataW.trod enc Tryz.prog W 0 sp held n 26 [c8] = some x8 := by simpa [s26] using hf 8 _ rfl
   have h9 : DataW.trod enc Tryz.prog W 0 sp held n 22 [c9] = some x9 := by simpa [s22] using hf 9 _ rfl
   obtain ⟨a0, e0, _, _⟩ := DataW.trod_int Tryz.underlying3 h0
   obtain rfl : c0 = .int .i64 a0 := by simpa using e0
   obtain ⟨a1, e1, _, _⟩ := DataW.trod_int Tryz.underlying3 h1
   obtain rfl : c1 = .int .i64 a1 := by simpa using e1
   obtain ⟨a2, e2, _⟩ := DataW.trod_bool Tryz.underlying4 h2
   obtain rfl : c2 = .bool a2 := by simpa using e2
   obtain ⟨a3, e3, _, _⟩ := DataW.trod_int Tryz.underlying3 h3
   obtain rfl : c3 = .int .i64 a3 := by simpa using e3
   obtain ⟨a4, e4, _, _⟩ := DataW.trod_int Tryz.underlying3 h4
   obtain rfl : c4 = .int .i64 a4 := by simpa using e4
   obtain ⟨a5, e5, _, _⟩ := DataW.trod_int Tryz.underlying3 h5
   obtain rfl : c5 = .int .i64 a5 := by simpa using e5
   obtain ⟨a6, e6, _, _⟩ := DataW.trod_string Tryz.underlying9 h6
   obtain rfl : c6 = .string a6 := by simpa using e6
   obtain ⟨a7, e7, _⟩ := DataW.trod_bool Tryz.underlying4 h7
   obtain rfl : c7 = .bool a7 := by simpa using e7
   obtain ⟨A8, k8, is, e8, l8, g8, _⟩ := open_row (R := (Kd.int .i64).K W) (Good := fun _ => True) Tryz.underlying26 s3 (fun _ _ cs' y hy => by obtain ⟨a, ea, _, _⟩ := DataW.trod_int Tryz.underlying3 hy; exact ⟨a, ea, trivial⟩) h8
   obtain ⟨A9, k9, fs, e9, l9, g9, hg⟩ := open_row (R := k30.K W) (Good := fun f : S30 => f.f0.size ≤ 9223372036854775807 ∧ SzT f.f2) Tryz.underlying22 s30 (fun k hk cs' y hy => read30 (fun k' hk' => ih k' (by omega)) hy) h9
   obtain rfl : c8 = .slice A8 is.length k8 := by simpa using e8
   obtain rfl : c9 = .slice A9 fs.length k9 := by simpa using e9
   exact ⟨⟨a0, a1, a2, a3, a4, a5, a6, a7, is, fs⟩, k28_mk W ⟨a0, a1, a2, a3, a4, a5, a6, a7, is, fs⟩ l8 g8 l9 g9, SzT.mk _ (fun f hf => (hg f hf).1) (fun f hf => (hg f hf).2)⟩
end
end Go.Proofs.YteebgnhhjlgnjaaGreatDoor.V
