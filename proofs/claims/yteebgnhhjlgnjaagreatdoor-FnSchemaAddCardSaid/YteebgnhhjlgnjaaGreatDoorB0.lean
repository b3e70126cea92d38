/- Types of the package that the call itself has made: how they lie in memory. -/
import Derived.Test.YteebgnhhjlgnjaaGreatDoorD0
import Derived.Test.YteebgnhhjlgnjaaGreatDoorMA
import Derived.Test.YteebgnhhjlgnjaaGreatDoorE0
import Derived.Test.YteebgnhhjlgnjaaGreatDoorE5
import Derived.Test.YteebgnhhjlgnjaaGreatDoorSS
namespace Go.Proofs.YteebgnhhjlgnjaaGreatDoor.V
open Go.RowKit Go.Proofs.YteebgnhhjlgnjaaGreatDoorW.PrintWords Go.Proofs.YteebgnhhjlgnjaaGreatDoorW.PrintLast Go.Proofs.YteebgnhhjlgnjaaGreatDoorW.PrintMore
set_option maxHeartbeats 40000000
set_option maxRecDepth 100000
set_option linter.unusedVariables false
set_option linter.unusedSimpArgs false
mutual
def BTIn (W : World) (ok : Nat → Prop) : S28 → List Value → Prop
 | ⟨k, wd, s, u, p, q, z, fl, ids, fs⟩, cs => ∃ A c A' c', cs = [.int .i64 k, .int .i64 wd, .bool s, .int .i64 u, .int .i64 p, .int .i64 q, .string z, .bool fl, .slice A ids.length c, .slice A' fs.length c'] ∧ ids.length ≤ c ∧ ids.length ≤ 9223372036854775807 ∧ fs.length ≤ c' ∧ fs.length ≤ 9223372036854775807 ∧
  (0 < ids.length → ∃ b, ∃ arr : Array Value, A = some ⟨b, 0, none⟩ ∧ ok b ∧ W.heap[b]? = some (.cells arr 3 (0, 0)) ∧ ∀ (j : Nat) (x : Int), ids[j]? = some x → arr[j]? = some (Value.int .i64 x)) ∧
  (0 < fs.length → ∃ b, ∃ arr : Array Value, A' = some ⟨b, 0, none⟩ ∧ ok b ∧ W.heap[b]? = some (.cells arr 30 (0, 0)) ∧ BFsIn W ok fs arr.toList)
def BFIn (W : World) (ok : Nat → Prop) : S30 → List Value → Prop
 | ⟨n, b, T, ps⟩, cs => ps = [] ∧ ∃ ct, cs = .string n :: .bool b :: (ct ++ [.slice none 0 0]) ∧ BTIn W ok T ct
def BFsIn (W : World) (ok : Nat → Prop) : List S30 → List Value → Prop
 | [], _ => True
 | f :: r, cs => ∃ c rest, cs = c ++ rest ∧ BFIn W ok f c ∧ BFsIn W ok r rest
end
def BE : List Nat := [3, 30]
theorem BTIn.len {W : World} {ok : Nat → Prop} {T : S28} {cs : List Value} (h : BTIn W ok T cs) : cs.length = 10 := by
 obtain ⟨k, wd, s, u, p, q, z, fl, ids, fs⟩ := T
 obtain ⟨A, c, A', c', rfl, _⟩ := h
 rfl
theorem BTIn.one {W : World} {ok : Nat → Prop} {T : S28} {cs : List Value} (h : BTIn W ok T cs) : ∀ u ∈ cs, u.oneCell' = true := by
 obtain ⟨k, wd, s, u, p, q, z, fl, ids, fs⟩ := T
 obtain ⟨A, c, A', c', rfl, _⟩ := h
 intro u hu
 simp only [List.mem_cons, List.not_mem_nil, or_false] at hu
 rcases hu with rfl | rfl | rfl | rfl | rfl | rfl | rfl | rfl | rfl | rfl <;> rfl
theorem BFIn.len {W : World} {ok : Nat → Prop} {f : S30} {cs : List Value} (h : BFIn W ok f cs) : cs.length = 13 := by
 obtain ⟨n, b, T, ps⟩ := f
 obtain ⟨_, ct, rfl, h⟩ := h
 simp [h.len]
theorem BFIn.one {W : World} {ok : Nat → Prop} {f : S30} {cs : List Value} (h : BFIn W ok f cs) : ∀ u ∈ cs, u.oneCell' = true := by
 obtain ⟨n, b, T, ps⟩ := f
 obtain ⟨_, ct, rfl, h⟩ := h
 intro u hu
 simp only [List.mem_cons, List.mem_append, List.not_mem_nil, or_false] at hu
 rcases hu with rfl | rfl | hu | rfl
 ·rfl
 ·rfl
 ·exact h.one u hu
 ·rfl
section
variable {W W' : World} {ok ok' : Nat → Prop}
mutual
theorem BTIn.step (hm : ∀ k q cells, ok k → k < W.heap.size → q ∈ BE → W.heap[k]? = some (.cells cells q (0, 0)) → W'.heap[k]? = some (.cells cells q (0, 0)) ∧ ok' k) : ∀ {T : S28} {cs : List Value}, BTIn W ok T cs → BTIn W' ok' T cs
 | ⟨k, wd, s, u, p, q, z, fl, ids, fs⟩, cs, ⟨A, c, A', c', e, h1, h2, h3, h4, hi, hf⟩ => ⟨A, c, A', c', e, h1, h2, h3, h4, fun hn =>
  have ⟨b, arr, eA, hb, hbc, hl⟩ := hi hn
  have kb := hm b _ _ hb (blk_lt hbc) (by decide) hbc
  ⟨b, arr, eA, kb.2, kb.1, hl⟩, fun hn =>
  have ⟨b, arr, eA, hb, hbc, hl⟩ := hf hn
  have kb := hm b _ _ hb (blk_lt hbc) (by decide) hbc
  ⟨b, arr, eA, kb.2, kb.1, BFsIn.step hm hl⟩⟩
theorem BFIn.step (hm : ∀ k q cells, ok k → k < W.heap.size → q ∈ BE → W.heap[k]? = some (.cells cells q (0, 0)) → W'.heap[k]? = some (.cells cells q (0, 0)) ∧ ok' k) : ∀ {f : S30} {cs : List Value}, BFIn W ok f cs → BFIn W' ok' f cs
 | ⟨n, b, T, ps⟩, cs, ⟨e, ct, e', h⟩ => ⟨e, ct, e', BTIn.step hm h⟩
theorem BFsIn.step (hm : ∀ k q cells, ok k → k < W.heap.size → q ∈ BE → W.heap[k]? = some (.cells cells q (0, 0)) → W'.heap[k]? = some (.cells cells q (0, 0)) ∧ ok' k) : ∀ {fs : List S30} {cs : List Value}, BFsIn W ok fs cs → BFsIn W' ok' fs cs
 | [], cs, _ => trivial
 | f :: r, cs, ⟨c, rest, e, hf, hr⟩ => ⟨c, rest, e, BFIn.step hm hf, BFsIn.step hm hr⟩
end
end
theorem BTIn.below {W W' : World} {ok : Nat → Prop} {T : S28} {cs : List Value} (h : BTIn W ok T cs) (hb : Below W.heap.size W W') : BTIn W' ok T cs :=
 BTIn.step (fun k q cells hk hl _ hc => ⟨(hb.block k hl).trans hc, hk⟩) h
theorem BTIn.mono {W : World} {ok ok' : Nat → Prop} {T : S28} {cs : List Value} (h : BTIn W ok T cs) (hk : ∀ k, ok k → ok' k) : BTIn W ok' T cs :=
 BTIn.step (fun k q cells ho _ _ hc => ⟨hc, hk k ho⟩) h
def kBF : Kd S30 where
 sz := 13
 E := BE
 K := fun W f cs => BFIn W (fun _ => True) f cs
 M := fun W base ok f cs => BFIn W (fun k => ok k ∧ base ≤ k) f cs
 K_len := fun h => h.len
 K_one := fun h => h.one
 K_below := fun hb h => BFIn.step (fun k q cells hk hl _ hc => ⟨(hb.block k hl).trans hc, hk⟩) h
 K_of_M := fun h => BFIn.step (fun k q cells _ _ _ hc => ⟨hc, trivial⟩) h
 M_mono := fun hm h => BFIn.step (fun k q cells hk _ _ hc => ⟨hc, hm _ hk.1, hk.2⟩) h
 M_bound := fun h => BFIn.step (fun k q cells hk hl hq hc => ⟨hc, ⟨hk.1, hk.2, hl, q, hq, cells, hc⟩, hk.2⟩) h
 M_move := fun hm h => BFIn.step (fun k q cells hk _ _ hc => ⟨(hm k hk.1).trans hc, hk⟩) h
 M_lower := fun hb h => BFIn.step (fun k q cells hk _ _ hc => ⟨hc, hk.1, Nat.le_trans hb hk.2⟩) h
theorem add0_ (b m : Nat) : Addr.add ⟨b, 0, none⟩ m = ⟨b, m, none⟩ := by
 unfold Addr.add
 split <;> simp_all
theorem bfs_get {W : World} {ok : Nat → Prop} : ∀ (fs : List S30) (l : List Value), BFsIn W ok fs l → ∀ (j : Nat) (hj : j < fs.length), BFIn W ok fs[j] ((l.drop (j * 13)).take 13)
 | f :: r, l, ⟨c, rest, e, hf, hr⟩, 0, _ => by
  have := hf.len
  rw [e, Nat.zero_mul, List.drop_zero, List.take_append_of_le_length (by omega), List.take_of_length_le (by omega)]
  exact hf
 | f :: r, l, ⟨c, rest, e, hf, hr⟩, j + 1, hj => by
  have := hf.len
  have h := bfs_get r rest hr j (by simpa using hj)
  rw [e, show (j + 1) * 13 = c.length + j * 13 by omega, ← List.drop_drop, List.drop_left]
  exact h
mutual
theorem BTIn.read {W : World} {ok : Nat → Prop} : ∀ {T : S28} {cs : List Value}, BTIn W ok T cs → k28.K W T cs
 | ⟨k, wd, s, u, p, q, z, fl, ids, fs⟩, cs, ⟨A, c, A', c', e, h1, h2, h3, h4, hi, hf⟩ => by
  subst e
  refine k28_mk W ⟨k, wd, s, u, p, q, z, fl, ids, fs⟩ h1 ⟨rfl, h2, fun hn => ?_⟩ h3 ⟨rfl, h4, fun hn => ?_⟩
  ·obtain ⟨b, arr, rfl, _, hb, hl⟩ := hi hn
   refine ⟨_, rfl, fun j x hj => ⟨[.int .i64 x], rfl, rfl, fun i v hv => ?_⟩⟩
   cases i with
   | zero =>
    obtain rfl : Value.int .i64 x = v := by simpa using hv
    have := blk_cell hb j
    rw [hl j x hj] at this
    show W.cell? (Addr.add ⟨b, 0, none⟩ (j * 1 + 0)) = _
    rw [add0_, Nat.mul_one, Nat.add_zero]
    exact this
   | succ i => simp at hv
  ·obtain ⟨b, arr, rfl, _, hb, hl⟩ := hf hn
   refine ⟨_, rfl, fun j x hj => ?_⟩
   have hj' : j < fs.length := (List.getElem?_eq_some_iff.mp hj).1
   obtain rfl : fs[j] = x := by simpa [List.getElem?_eq_getElem hj'] using hj
   have hg := bfs_get fs _ hl j hj'
   refine ⟨_, hg.len, BFIn.reads fs hl j hj', fun i v hv => ?_⟩
   have := blk_cell hb (j * 13 + i)
   rw [List.getElem?_take] at hv
   split at hv
   ·rw [List.getElem?_drop, Array.getElem?_toList] at hv
    rw [hv] at this
    show W.cell? (Addr.add ⟨b, 0, none⟩ (j * 13 + i)) = _
    rw [add0_]
    exact this
   ·cases hv
theorem BFIn.read {W : World} {ok : Nat → Prop} : ∀ {f : S30} {cs : List Value}, BFIn W ok f cs → k30.K W f cs
 | ⟨n, b, T, ps⟩, cs, ⟨e, ct, e', h⟩ => by
  subst e e'
  have hk := BTIn.read h
  obtain ⟨A8, c8, A9, c9, e8, l8, g8, l9, g9⟩ := k28_open hk
  subst e8
  exact k30_mk W ⟨n, b, T, []⟩ l8 g8 l9 g9 (Nat.zero_le _) (Kd.C_nil _ _)
theorem BFIn.reads {W : World} {ok : Nat → Prop} : ∀ (fs : List S30) {l : List Value}, BFsIn W ok fs l → ∀ (j : Nat) (hj : j < fs.length), k30.K W fs[j] ((l.drop (j * 13)).take 13)
 | [], l, _, j, hj => absurd hj (by simp)
 | f :: r, l, ⟨c, rest, e, hf, hr⟩, 0, _ => by
  have := hf.len
  rw [e, Nat.zero_mul, List.drop_zero, List.take_append_of_le_length (by omega), List.take_of_length_le (by omega)]
  exact BFIn.read hf
 | f :: r, l, ⟨c, rest, e, hf, hr⟩, j + 1, hj => by
  have := hf.len
  have h := BFIn.reads r hr j (by simpa using hj)
  rw [e, show (j + 1) * 13 = c.length + j * 13 by omega, ← List.drop_drop, List.drop_left]
  exact h
end
theorem asn_ {N k : Nat} (hu : Tryz.prog.underlying N = some (.pointer k)) (hz : ∀ W, (zeroValue N).run Tryz.prog W = .ok (.pointer none) W) (u : Nat) (v : Value) (h : u ≠ N) : AsNo u N v := by
 intro W
 simp [Instr.typeAssert, run_underlying hu, h, hz]
theorem asy_ {N k : Nat} (hu : Tryz.prog.underlying N = some (.pointer k)) (v : Value) : AsYes N v := by
 intro W
 simp [Instr.typeAssert, run_underlying hu]
theorem one28 (k w : Int) (s : Bool) (u p c : Int) (z : ByteArray) (fl : Bool) (A B : Option Addr) (n m n' m' : Nat) : (#[.int .i64 k, .int .i64 w, .bool s, .int .i64 u, .int .i64 p, .int .i64 c, .string z, .bool fl, .slice A n m, .slice B n' m'] : Array Value).all (·.oneCell') = true := by simp [Value.oneCell']
theorem cb10_ {w : World} {g : Nat} {t : TypeId} {a0 a1 a2 a3 a4 a5 a6 a7 a8 a9 : Value} (h : w.heap[g]? = some (.cells #[a0, a1, a2, a3, a4, a5, a6, a7, a8, a9] t (0, 0))) : w.cell? ⟨g, 0, none⟩ = some a0 ∧ w.cell? ⟨g, 1, none⟩ = some a1 ∧ w.cell? ⟨g, 2, none⟩ = some a2 ∧ w.cell? ⟨g, 3, none⟩ = some a3 ∧ w.cell? ⟨g, 4, none⟩ = some a4 ∧ w.cell? ⟨g, 5, none⟩ = some a5 ∧ w.cell? ⟨g, 6, none⟩ = some a6 ∧ w.cell? ⟨g, 7, none⟩ = some a7 ∧ w.cell? ⟨g, 8, none⟩ = some a8 ∧ w.cell? ⟨g, 9, none⟩ = some a9 :=
 ⟨(blk_cell h 0).trans rfl, (blk_cell h 1).trans rfl, (blk_cell h 2).trans rfl, (blk_cell h 3).trans rfl, (blk_cell h 4).trans rfl, (blk_cell h 5).trans rfl, (blk_cell h 6).trans rfl, (blk_cell h 7).trans rfl, (blk_cell h 8).trans rfl, (blk_cell h 9).trans rfl⟩
theorem n_101 {u : Nat} {v : Value} {W : World} (h : u ≠ 101) : (Instr.typeAssert (.iface u v) 56 101 true).run Tryz.prog W = .ok (.tuple #[.pointer none, .bool false]) W := asn_ Tryz.underlying101 (fun W => by kernel_rfl) u v h W
theorem y_101 {v : Value} {W : World} : (Instr.typeAssert (.iface 101 v) 56 101 true).run Tryz.prog W = .ok (.tuple #[v, .bool true]) W := asy_ Tryz.underlying101 v W
theorem n_104 {u : Nat} {v : Value} {W : World} (h : u ≠ 104) : (Instr.typeAssert (.iface u v) 56 104 true).run Tryz.prog W = .ok (.tuple #[.pointer none, .bool false]) W := asn_ Tryz.underlying104 (fun W => by kernel_rfl) u v h W
theorem y_104 {v : Value} {W : World} : (Instr.typeAssert (.iface 104 v) 56 104 true).run Tryz.prog W = .ok (.tuple #[v, .bool true]) W := asy_ Tryz.underlying104 v W
theorem n_106 {u : Nat} {v : Value} {W : World} (h : u ≠ 106) : (Instr.typeAssert (.iface u v) 56 106 true).run Tryz.prog W = .ok (.tuple #[.pointer none, .bool false]) W := asn_ Tryz.underlying106 (fun W => by kernel_rfl) u v h W
theorem y_106 {v : Value} {W : World} : (Instr.typeAssert (.iface 106 v) 56 106 true).run Tryz.prog W = .ok (.tuple #[v, .bool true]) W := asy_ Tryz.underlying106 v W
theorem n_108 {u : Nat} {v : Value} {W : World} (h : u ≠ 108) : (Instr.typeAssert (.iface u v) 56 108 true).run Tryz.prog W = .ok (.tuple #[.pointer none, .bool false]) W := asn_ Tryz.underlying108 (fun W => by kernel_rfl) u v h W
theorem y_108 {v : Value} {W : World} : (Instr.typeAssert (.iface 108 v) 56 108 true).run Tryz.prog W = .ok (.tuple #[v, .bool true]) W := asy_ Tryz.underlying108 v W
theorem n_110 {u : Nat} {v : Value} {W : World} (h : u ≠ 110) : (Instr.typeAssert (.iface u v) 56 110 true).run Tryz.prog W = .ok (.tuple #[.pointer none, .bool false]) W := asn_ Tryz.underlying110 (fun W => by kernel_rfl) u v h W
theorem y_110 {v : Value} {W : World} : (Instr.typeAssert (.iface 110 v) 56 110 true).run Tryz.prog W = .ok (.tuple #[v, .bool true]) W := asy_ Tryz.underlying110 v W
theorem n_214 {u : Nat} {v : Value} {W : World} (h : u ≠ 214) : (Instr.typeAssert (.iface u v) 56 214 true).run Tryz.prog W = .ok (.tuple #[.pointer none, .bool false]) W := asn_ Tryz.underlying214 (fun W => by kernel_rfl) u v h W
theorem y_214 {v : Value} {W : World} : (Instr.typeAssert (.iface 214 v) 56 214 true).run Tryz.prog W = .ok (.tuple #[v, .bool true]) W := asy_ Tryz.underlying214 v W
theorem n_217 {u : Nat} {v : Value} {W : World} (h : u ≠ 217) : (Instr.typeAssert (.iface u v) 56 217 true).run Tryz.prog W = .ok (.tuple #[.pointer none, .bool false]) W := asn_ Tryz.underlying217 (fun W => by kernel_rfl) u v h W
theorem y_217 {v : Value} {W : World} : (Instr.typeAssert (.iface 217 v) 56 217 true).run Tryz.prog W = .ok (.tuple #[v, .bool true]) W := asy_ Tryz.underlying217 v W
theorem n_219 {u : Nat} {v : Value} {W : World} (h : u ≠ 219) : (Instr.typeAssert (.iface u v) 56 219 true).run Tryz.prog W = .ok (.tuple #[.pointer none, .bool false]) W := asn_ Tryz.underlying219 (fun W => by kernel_rfl) u v h W
theorem y_219 {v : Value} {W : World} : (Instr.typeAssert (.iface 219 v) 56 219 true).run Tryz.prog W = .ok (.tuple #[v, .bool true]) W := asy_ Tryz.underlying219 v W
theorem n_221 {u : Nat} {v : Value} {W : World} (h : u ≠ 221) : (Instr.typeAssert (.iface u v) 56 221 true).run Tryz.prog W = .ok (.tuple #[.pointer none, .bool false]) W := asn_ Tryz.underlying221 (fun W => by kernel_rfl) u v h W
theorem y_221 {v : Value} {W : World} : (Instr.typeAssert (.iface 221 v) 56 221 true).run Tryz.prog W = .ok (.tuple #[v, .bool true]) W := asy_ Tryz.underlying221 v W
theorem n_112 {u : Nat} {v : Value} {W : World} (h : u ≠ 112) : (Instr.typeAssert (.iface u v) 56 112 true).run Tryz.prog W = .ok (.tuple #[.pointer none, .bool false]) W := asn_ Tryz.underlying112 (fun W => by kernel_rfl) u v h W
theorem y_112 {v : Value} {W : World} : (Instr.typeAssert (.iface 112 v) 56 112 true).run Tryz.prog W = .ok (.tuple #[v, .bool true]) W := asy_ Tryz.underlying112 v W
theorem n_114 {u : Nat} {v : Value} {W : World} (h : u ≠ 114) : (Instr.typeAssert (.iface u v) 56 114 true).run Tryz.prog W = .ok (.tuple #[.pointer none, .bool false]) W := asn_ Tryz.underlying114 (fun W => by kernel_rfl) u v h W
theorem y_114 {v : Value} {W : World} : (Instr.typeAssert (.iface 114 v) 56 114 true).run Tryz.prog W = .ok (.tuple #[v, .bool true]) W := asy_ Tryz.underlying114 v W
theorem n_116 {u : Nat} {v : Value} {W : World} (h : u ≠ 116) : (Instr.typeAssert (.iface u v) 56 116 true).run Tryz.prog W = .ok (.tuple #[.pointer none, .bool false]) W := asn_ Tryz.underlying116 (fun W => by kernel_rfl) u v h W
theorem y_116 {v : Value} {W : World} : (Instr.typeAssert (.iface 116 v) 56 116 true).run Tryz.prog W = .ok (.tuple #[v, .bool true]) W := asy_ Tryz.underlying116 v W
theorem n_120 {u : Nat} {v : Value} {W : World} (h : u ≠ 120) : (Instr.typeAssert (.iface u v) 56 120 true).run Tryz.prog W = .ok (.tuple #[.pointer none, .bool false]) W := asn_ Tryz.underlying120 (fun W => by kernel_rfl) u v h W
theorem y_120 {v : Value} {W : World} : (Instr.typeAssert (.iface 120 v) 56 120 true).run Tryz.prog W = .ok (.tuple #[v, .bool true]) W := asy_ Tryz.underlying120 v W
theorem n_122 {u : Nat} {v : Value} {W : World} (h : u ≠ 122) : (Instr.typeAssert (.iface u v) 56 122 true).run Tryz.prog W = .ok (.tuple #[.pointer none, .bool false]) W := asn_ Tryz.underlying122 (fun W => by kernel_rfl) u v h W
theorem y_122 {v : Value} {W : World} : (Instr.typeAssert (.iface 122 v) 56 122 true).run Tryz.prog W = .ok (.tuple #[v, .bool true]) W := asy_ Tryz.underlying122 v W
theorem n_125 {u : Nat} {v : Value} {W : World} (h : u ≠ 125) : (Instr.typeAssert (.iface u v) 56 125 true).run Tryz.prog W = .ok (.tuple #[.pointer none, .bool false]) W := asn_ Tryz.underlying125 (fun W => by kernel_rfl) u v h W
theorem y_125 {v : Value} {W : World} : (Instr.typeAssert (.iface 125 v) 56 125 true).run Tryz.prog W = .ok (.tuple #[v, .bool true]) W := asy_ Tryz.underlying125 v W
theorem n_127 {u : Nat} {v : Value} {W : World} (h : u ≠ 127) : (Instr.typeAssert (.iface u v) 56 127 true).run Tryz.prog W = .ok (.tuple #[.pointer none, .bool false]) W := asn_ Tryz.underlying127 (fun W => by kernel_rfl) u v h W
theorem y_127 {v : Value} {W : World} : (Instr.typeAssert (.iface 127 v) 56 127 true).run Tryz.prog W = .ok (.tuple #[v, .bool true]) W := asy_ Tryz.underlying127 v W
theorem n_129 {u : Nat} {v : Value} {W : World} (h : u ≠ 129) : (Instr.typeAssert (.iface u v) 56 129 true).run Tryz.prog W = .ok (.tuple #[.pointer none, .bool false]) W := asn_ Tryz.underlying129 (fun W => by kernel_rfl) u v h W
theorem y_129 {v : Value} {W : World} : (Instr.typeAssert (.iface 129 v) 56 129 true).run Tryz.prog W = .ok (.tuple #[v, .bool true]) W := asy_ Tryz.underlying129 v W
theorem n_131 {u : Nat} {v : Value} {W : World} (h : u ≠ 131) : (Instr.typeAssert (.iface u v) 56 131 true).run Tryz.prog W = .ok (.tuple #[.pointer none, .bool false]) W := asn_ Tryz.underlying131 (fun W => by kernel_rfl) u v h W
theorem y_131 {v : Value} {W : World} : (Instr.typeAssert (.iface 131 v) 56 131 true).run Tryz.prog W = .ok (.tuple #[v, .bool true]) W := asy_ Tryz.underlying131 v W
theorem n_133 {u : Nat} {v : Value} {W : World} (h : u ≠ 133) : (Instr.typeAssert (.iface u v) 56 133 true).run Tryz.prog W = .ok (.tuple #[.pointer none, .bool false]) W := asn_ Tryz.underlying133 (fun W => by kernel_rfl) u v h W
theorem y_133 {v : Value} {W : World} : (Instr.typeAssert (.iface 133 v) 56 133 true).run Tryz.prog W = .ok (.tuple #[v, .bool true]) W := asy_ Tryz.underlying133 v W
theorem n_135 {u : Nat} {v : Value} {W : World} (h : u ≠ 135) : (Instr.typeAssert (.iface u v) 56 135 true).run Tryz.prog W = .ok (.tuple #[.pointer none, .bool false]) W := asn_ Tryz.underlying135 (fun W => by kernel_rfl) u v h W
theorem y_135 {v : Value} {W : World} : (Instr.typeAssert (.iface 135 v) 56 135 true).run Tryz.prog W = .ok (.tuple #[v, .bool true]) W := asy_ Tryz.underlying135 v W
theorem n_137 {u : Nat} {v : Value} {W : World} (h : u ≠ 137) : (Instr.typeAssert (.iface u v) 56 137 true).run Tryz.prog W = .ok (.tuple #[.pointer none, .bool false]) W := asn_ Tryz.underlying137 (fun W => by kernel_rfl) u v h W
theorem y_137 {v : Value} {W : World} : (Instr.typeAssert (.iface 137 v) 56 137 true).run Tryz.prog W = .ok (.tuple #[v, .bool true]) W := asy_ Tryz.underlying137 v W
theorem n_139 {u : Nat} {v : Value} {W : World} (h : u ≠ 139) : (Instr.typeAssert (.iface u v) 56 139 true).run Tryz.prog W = .ok (.tuple #[.pointer none, .bool false]) W := asn_ Tryz.underlying139 (fun W => by kernel_rfl) u v h W
theorem y_139 {v : Value} {W : World} : (Instr.typeAssert (.iface 139 v) 56 139 true).run Tryz.prog W = .ok (.tuple #[v, .bool true]) W := asy_ Tryz.underlying139 v W
theorem n_141 {u : Nat} {v : Value} {W : World} (h : u ≠ 141) : (Instr.typeAssert (.iface u v) 56 141 true).run Tryz.prog W = .ok (.tuple #[.pointer none, .bool false]) W := asn_ Tryz.underlying141 (fun W => by kernel_rfl) u v h W
theorem y_141 {v : Value} {W : World} : (Instr.typeAssert (.iface 141 v) 56 141 true).run Tryz.prog W = .ok (.tuple #[v, .bool true]) W := asy_ Tryz.underlying141 v W
theorem n_143 {u : Nat} {v : Value} {W : World} (h : u ≠ 143) : (Instr.typeAssert (.iface u v) 56 143 true).run Tryz.prog W = .ok (.tuple #[.pointer none, .bool false]) W := asn_ Tryz.underlying143 (fun W => by kernel_rfl) u v h W
theorem y_143 {v : Value} {W : World} : (Instr.typeAssert (.iface 143 v) 56 143 true).run Tryz.prog W = .ok (.tuple #[v, .bool true]) W := asy_ Tryz.underlying143 v W
theorem n_145 {u : Nat} {v : Value} {W : World} (h : u ≠ 145) : (Instr.typeAssert (.iface u v) 56 145 true).run Tryz.prog W = .ok (.tuple #[.pointer none, .bool false]) W := asn_ Tryz.underlying145 (fun W => by kernel_rfl) u v h W
theorem y_145 {v : Value} {W : World} : (Instr.typeAssert (.iface 145 v) 56 145 true).run Tryz.prog W = .ok (.tuple #[v, .bool true]) W := asy_ Tryz.underlying145 v W
theorem n_198 {u : Nat} {v : Value} {W : World} (h : u ≠ 198) : (Instr.typeAssert (.iface u v) 56 198 true).run Tryz.prog W = .ok (.tuple #[.pointer none, .bool false]) W := asn_ Tryz.underlying198 (fun W => by kernel_rfl) u v h W
theorem y_198 {v : Value} {W : World} : (Instr.typeAssert (.iface 198 v) 56 198 true).run Tryz.prog W = .ok (.tuple #[v, .bool true]) W := asy_ Tryz.underlying198 v W
theorem n_200 {u : Nat} {v : Value} {W : World} (h : u ≠ 200) : (Instr.typeAssert (.iface u v) 56 200 true).run Tryz.prog W = .ok (.tuple #[.pointer none, .bool false]) W := asn_ Tryz.underlying200 (fun W => by kernel_rfl) u v h W
theorem y_200 {v : Value} {W : World} : (Instr.typeAssert (.iface 200 v) 56 200 true).run Tryz.prog W = .ok (.tuple #[v, .bool true]) W := asy_ Tryz.underlying200 v W
theorem n_202 {u : Nat} {v : Value} {W : World} (h : u ≠ 202) : (Instr.typeAssert (.iface u v) 56 202 true).run Tryz.prog W = .ok (.tuple #[.pointer none, .bool false]) W := asn_ Tryz.underlying202 (fun W => by kernel_rfl) u v h W
theorem y_202 {v : Value} {W : World} : (Instr.typeAssert (.iface 202 v) 56 202 true).run Tryz.prog W = .ok (.tuple #[v, .bool true]) W := asy_ Tryz.underlying202 v W
theorem n_204 {u : Nat} {v : Value} {W : World} (h : u ≠ 204) : (Instr.typeAssert (.iface u v) 56 204 true).run Tryz.prog W = .ok (.tuple #[.pointer none, .bool false]) W := asn_ Tryz.underlying204 (fun W => by kernel_rfl) u v h W
theorem y_204 {v : Value} {W : World} : (Instr.typeAssert (.iface 204 v) 56 204 true).run Tryz.prog W = .ok (.tuple #[v, .bool true]) W := asy_ Tryz.underlying204 v W
theorem n_206 {u : Nat} {v : Value} {W : World} (h : u ≠ 206) : (Instr.typeAssert (.iface u v) 56 206 true).run Tryz.prog W = .ok (.tuple #[.pointer none, .bool false]) W := asn_ Tryz.underlying206 (fun W => by kernel_rfl) u v h W
theorem y_206 {v : Value} {W : World} : (Instr.typeAssert (.iface 206 v) 56 206 true).run Tryz.prog W = .ok (.tuple #[v, .bool true]) W := asy_ Tryz.underlying206 v W
theorem n_208 {u : Nat} {v : Value} {W : World} (h : u ≠ 208) : (Instr.typeAssert (.iface u v) 56 208 true).run Tryz.prog W = .ok (.tuple #[.pointer none, .bool false]) W := asn_ Tryz.underlying208 (fun W => by kernel_rfl) u v h W
theorem y_208 {v : Value} {W : World} : (Instr.typeAssert (.iface 208 v) 56 208 true).run Tryz.prog W = .ok (.tuple #[v, .bool true]) W := asy_ Tryz.underlying208 v W
theorem n_210 {u : Nat} {v : Value} {W : World} (h : u ≠ 210) : (Instr.typeAssert (.iface u v) 56 210 true).run Tryz.prog W = .ok (.tuple #[.pointer none, .bool false]) W := asn_ Tryz.underlying210 (fun W => by kernel_rfl) u v h W
theorem y_210 {v : Value} {W : World} : (Instr.typeAssert (.iface 210 v) 56 210 true).run Tryz.prog W = .ok (.tuple #[v, .bool true]) W := asy_ Tryz.underlying210 v W
theorem n_212 {u : Nat} {v : Value} {W : World} (h : u ≠ 212) : (Instr.typeAssert (.iface u v) 56 212 true).run Tryz.prog W = .ok (.tuple #[.pointer none, .bool false]) W := asn_ Tryz.underlying212 (fun W => by kernel_rfl) u v h W
theorem y_212 {v : Value} {W : World} : (Instr.typeAssert (.iface 212 v) 56 212 true).run Tryz.prog W = .ok (.tuple #[v, .bool true]) W := asy_ Tryz.underlying212 v W
theorem n_161 {u : Nat} {v : Value} {W : World} (h : u ≠ 161) : (Instr.typeAssert (.iface u v) 56 161 true).run Tryz.prog W = .ok (.tuple #[.pointer none, .bool false]) W := asn_ Tryz.underlying161 (fun W => by kernel_rfl) u v h W
theorem y_161 {v : Value} {W : World} : (Instr.typeAssert (.iface 161 v) 56 161 true).run Tryz.prog W = .ok (.tuple #[v, .bool true]) W := asy_ Tryz.underlying161 v W
theorem n_233 {u : Nat} {v : Value} {W : World} (h : u ≠ 233) : (Instr.typeAssert (.iface u v) 56 233 true).run Tryz.prog W = .ok (.tuple #[.pointer none, .bool false]) W := asn_ Tryz.underlying233 (fun W => by kernel_rfl) u v h W
theorem y_233 {v : Value} {W : World} : (Instr.typeAssert (.iface 233 v) 56 233 true).run Tryz.prog W = .ok (.tuple #[v, .bool true]) W := asy_ Tryz.underlying233 v W
theorem n_154 {u : Nat} {v : Value} {W : World} (h : u ≠ 154) : (Instr.typeAssert (.iface u v) 56 154 true).run Tryz.prog W = .ok (.tuple #[.pointer none, .bool false]) W := asn_ Tryz.underlying154 (fun W => by kernel_rfl) u v h W
theorem y_154 {v : Value} {W : World} : (Instr.typeAssert (.iface 154 v) 56 154 true).run Tryz.prog W = .ok (.tuple #[v, .bool true]) W := asy_ Tryz.underlying154 v W
theorem n_180 {u : Nat} {v : Value} {W : World} (h : u ≠ 180) : (Instr.typeAssert (.iface u v) 56 180 true).run Tryz.prog W = .ok (.tuple #[.pointer none, .bool false]) W := asn_ Tryz.underlying180 (fun W => by kernel_rfl) u v h W
theorem y_180 {v : Value} {W : World} : (Instr.typeAssert (.iface 180 v) 56 180 true).run Tryz.prog W = .ok (.tuple #[v, .bool true]) W := asy_ Tryz.underlying180 v W
theorem n_236 {u : Nat} {v : Value} {W : World} (h : u ≠ 236) : (Instr.typeAssert (.iface u v) 56 236 true).run Tryz.prog W = .ok (.tuple #[.pointer none, .bool false]) W := asn_ Tryz.underlying236 (fun W => by kernel_rfl) u v h W
theorem y_236 {v : Value} {W : World} : (Instr.typeAssert (.iface 236 v) 56 236 true).run Tryz.prog W = .ok (.tuple #[v, .bool true]) W := asy_ Tryz.underlying236 v W
theorem n_158 {u : Nat} {v : Value} {W : World} (h : u ≠ 158) : (Instr.typeAssert (.iface u v) 56 158 true).run Tryz.prog W = .ok (.tuple #[.pointer none, .bool false]) W := asn_ Tryz.underlying158 (fun W => by kernel_rfl) u v h W
theorem y_158 {v : Value} {W : World} : (Instr.typeAssert (.iface 158 v) 56 158 true).run Tryz.prog W = .ok (.tuple #[v, .bool true]) W := asy_ Tryz.underlying158 v W
theorem n_165 {u : Nat} {v : Value} {W : World} (h : u ≠ 165) : (Instr.typeAssert (.iface u v) 56 165 true).run Tryz.prog W = .ok (.tuple #[.pointer none, .bool false]) W := asn_ Tryz.underlying165 (fun W => by kernel_rfl) u v h W
theorem y_165 {v : Value} {W : World} : (Instr.typeAssert (.iface 165 v) 56 165 true).run Tryz.prog W = .ok (.tuple #[v, .bool true]) W := asy_ Tryz.underlying165 v W
theorem n_224 {u : Nat} {v : Value} {W : World} (h : u ≠ 224) : (Instr.typeAssert (.iface u v) 56 224 true).run Tryz.prog W = .ok (.tuple #[.pointer none, .bool false]) W := asn_ Tryz.underlying224 (fun W => by kernel_rfl) u v h W
theorem y_224 {v : Value} {W : World} : (Instr.typeAssert (.iface 224 v) 56 224 true).run Tryz.prog W = .ok (.tuple #[v, .bool true]) W := asy_ Tryz.underlying224 v W
theorem n_226 {u : Nat} {v : Value} {W : World} (h : u ≠ 226) : (Instr.typeAssert (.iface u v) 56 226 true).run Tryz.prog W = .ok (.tuple #[.pointer none, .bool false]) W := asn_ Tryz.underlying226 (fun W => by kernel_rfl) u v h W
theorem y_226 {v : Value} {W : World} : (Instr.typeAssert (.iface 226 v) 56 226 true).run Tryz.prog W = .ok (.tuple #[v, .bool true]) W := asy_ Tryz.underlying226 v W
theorem n_177 {u : Nat} {v : Value} {W : World} (h : u ≠ 177) : (Instr.typeAssert (.iface u v) 56 177 true).run Tryz.prog W = .ok (.tuple #[.pointer none, .bool false]) W := asn_ Tryz.underlying177 (fun W => by kernel_rfl) u v h W
theorem y_177 {v : Value} {W : World} : (Instr.typeAssert (.iface 177 v) 56 177 true).run Tryz.prog W = .ok (.tuple #[v, .bool true]) W := asy_ Tryz.underlying177 v W
theorem n_229 {u : Nat} {v : Value} {W : World} (h : u ≠ 229) : (Instr.typeAssert (.iface u v) 56 229 true).run Tryz.prog W = .ok (.tuple #[.pointer none, .bool false]) W := asn_ Tryz.underlying229 (fun W => by kernel_rfl) u v h W
theorem y_229 {v : Value} {W : World} : (Instr.typeAssert (.iface 229 v) 56 229 true).run Tryz.prog W = .ok (.tuple #[v, .bool true]) W := asy_ Tryz.underlying229 v W
attribute [local go_sem] n_101 y_101 n_104 y_104 n_106 y_106 n_108 y_108 n_110 y_110 n_214 y_214 n_217 y_217 n_219 y_219 n_221 y_221 n_112 y_112 n_114 y_114 n_116 y_116 n_120 y_120 n_122 y_122 n_125 y_125 n_127 y_127 n_129 y_129 n_131 y_131 n_133 y_133 n_135 y_135 n_137 y_137 n_139 y_139 n_141 y_141 n_143 y_143 n_145 y_145 n_198 y_198 n_200 y_200 n_202 y_202 n_204 y_204 n_206 y_206 n_208 y_208 n_210 y_210 n_212 y_212 n_161 y_161 n_233 y_233 n_154 y_154 n_180 y_180 n_236 y_236 n_158 y_158 n_165 y_165 n_224 y_224 n_226 y_226 n_177 y_177 n_229 y_229
theorem tb_101 (p : Value) (w : World) : Calls Tryz.prog 79 #[.iface 101 (p)] w fun e w' => e = .returned (.agg #[.int .i64 1, .int .i64 0, .bool false, .int .i64 0, .int .i64 0, .int .i64 0, .string ⟨#[]⟩, .bool false, .slice none 0 0, .slice none 0 0]) ∧ Below w.heap.size w w' := by
 go_enter Tryz.func79, Tryz.ntmps79
 go_wp2
 try simp only [Exit.inBlock, Exit.then]
 refine bodyPost_ret (v := .agg #[.int .i64 1, .int .i64 0, .bool false, .int .i64 0, .int .i64 0, .int .i64 0, .string ⟨#[]⟩, .bool false, .slice none 0 0, .slice none 0 0]) (by simp [results, Tryz.results79, go_sem]) rfl ⟨rfl, bl⟩
theorem tb_104 (p : Value) (w : World) : Calls Tryz.prog 79 #[.iface 104 (p)] w fun e w' => e = .returned (.agg #[.int .i64 6, .int .i64 0, .bool false, .int .i64 0, .int .i64 0, .int .i64 0, .string ⟨#[]⟩, .bool false, .slice none 0 0, .slice none 0 0]) ∧ Below w.heap.size w w' := by
 go_enter Tryz.func79, Tryz.ntmps79
 go_wp2
 try simp only [Exit.inBlock, Exit.then]
 refine bodyPost_ret (v := .agg #[.int .i64 6, .int .i64 0, .bool false, .int .i64 0, .int .i64 0, .int .i64 0, .string ⟨#[]⟩, .bool false, .slice none 0 0, .slice none 0 0]) (by simp [results, Tryz.results79, go_sem]) rfl ⟨rfl, bl⟩
theorem tb_106 (p : Value) (w : World) : Calls Tryz.prog 79 #[.iface 106 (p)] w fun e w' => e = .returned (.agg #[.int .i64 3, .int .i64 16, .bool false, .int .i64 0, .int .i64 0, .int .i64 0, .string ⟨#[]⟩, .bool false, .slice none 0 0, .slice none 0 0]) ∧ Below w.heap.size w w' := by
 go_enter Tryz.func79, Tryz.ntmps79
 go_wp2
 try simp only [Exit.inBlock, Exit.then]
 refine bodyPost_ret (v := .agg #[.int .i64 3, .int .i64 16, .bool false, .int .i64 0, .int .i64 0, .int .i64 0, .string ⟨#[]⟩, .bool false, .slice none 0 0, .slice none 0 0]) (by simp [results, Tryz.results79, go_sem]) rfl ⟨rfl, bl⟩
theorem tb_108 (p : Value) (w : World) : Calls Tryz.prog 79 #[.iface 108 (p)] w fun e w' => e = .returned (.agg #[.int .i64 3, .int .i64 32, .bool false, .int .i64 0, .int .i64 0, .int .i64 0, .string ⟨#[]⟩, .bool false, .slice none 0 0, .slice none 0 0]) ∧ Below w.heap.size w w' := by
 go_enter Tryz.func79, Tryz.ntmps79
 go_wp2
 try simp only [Exit.inBlock, Exit.then]
 refine bodyPost_ret (v := .agg #[.int .i64 3, .int .i64 32, .bool false, .int .i64 0, .int .i64 0, .int .i64 0, .string ⟨#[]⟩, .bool false, .slice none 0 0, .slice none 0 0]) (by simp [results, Tryz.results79, go_sem]) rfl ⟨rfl, bl⟩
theorem tb_110 (p : Value) (w : World) : Calls Tryz.prog 79 #[.iface 110 (p)] w fun e w' => e = .returned (.agg #[.int .i64 3, .int .i64 64, .bool false, .int .i64 0, .int .i64 0, .int .i64 0, .string ⟨#[]⟩, .bool false, .slice none 0 0, .slice none 0 0]) ∧ Below w.heap.size w w' := by
 go_enter Tryz.func79, Tryz.ntmps79
 go_wp2
 try simp only [Exit.inBlock, Exit.then]
 refine bodyPost_ret (v := .agg #[.int .i64 3, .int .i64 64, .bool false, .int .i64 0, .int .i64 0, .int .i64 0, .string ⟨#[]⟩, .bool false, .slice none 0 0, .slice none 0 0]) (by simp [results, Tryz.results79, go_sem]) rfl ⟨rfl, bl⟩
theorem tb_112 (p : Value) (w : World) : Calls Tryz.prog 79 #[.iface 112 (p)] w fun e w' => e = .returned (.agg #[.int .i64 8, .int .i64 0, .bool false, .int .i64 0, .int .i64 0, .int .i64 0, .string ⟨#[]⟩, .bool false, .slice none 0 0, .slice none 0 0]) ∧ Below w.heap.size w w' := by
 go_enter Tryz.func79, Tryz.ntmps79
 go_wp2
 try simp only [Exit.inBlock, Exit.then]
 refine bodyPost_ret (v := .agg #[.int .i64 8, .int .i64 0, .bool false, .int .i64 0, .int .i64 0, .int .i64 0, .string ⟨#[]⟩, .bool false, .slice none 0 0, .slice none 0 0]) (by simp [results, Tryz.results79, go_sem]) rfl ⟨rfl, bl⟩
theorem tb_114 (p : Value) (w : World) : Calls Tryz.prog 79 #[.iface 114 (p)] w fun e w' => e = .returned (.agg #[.int .i64 8, .int .i64 0, .bool false, .int .i64 1, .int .i64 0, .int .i64 0, .string ⟨#[]⟩, .bool false, .slice none 0 0, .slice none 0 0]) ∧ Below w.heap.size w w' := by
 go_enter Tryz.func79, Tryz.ntmps79
 go_wp2
 try simp only [Exit.inBlock, Exit.then]
 refine bodyPost_ret (v := .agg #[.int .i64 8, .int .i64 0, .bool false, .int .i64 1, .int .i64 0, .int .i64 0, .string ⟨#[]⟩, .bool false, .slice none 0 0, .slice none 0 0]) (by simp [results, Tryz.results79, go_sem]) rfl ⟨rfl, bl⟩
theorem tb_127 (p : Value) (w : World) : Calls Tryz.prog 79 #[.iface 127 (p)] w fun e w' => e = .returned (.agg #[.int .i64 11, .int .i64 0, .bool false, .int .i64 0, .int .i64 0, .int .i64 0, .string ⟨#[]⟩, .bool false, .slice none 0 0, .slice none 0 0]) ∧ Below w.heap.size w w' := by
 go_enter Tryz.func79, Tryz.ntmps79
 go_wp2
 try simp only [Exit.inBlock, Exit.then]
 refine bodyPost_ret (v := .agg #[.int .i64 11, .int .i64 0, .bool false, .int .i64 0, .int .i64 0, .int .i64 0, .string ⟨#[]⟩, .bool false, .slice none 0 0, .slice none 0 0]) (by simp [results, Tryz.results79, go_sem]) rfl ⟨rfl, bl⟩
theorem tb_129 (p : Value) (w : World) : Calls Tryz.prog 79 #[.iface 129 (p)] w fun e w' => e = .returned (.agg #[.int .i64 11, .int .i64 0, .bool false, .int .i64 1, .int .i64 0, .int .i64 0, .string ⟨#[]⟩, .bool false, .slice none 0 0, .slice none 0 0]) ∧ Below w.heap.size w w' := by
 go_enter Tryz.func79, Tryz.ntmps79
 go_wp2
 try simp only [Exit.inBlock, Exit.then]
 refine bodyPost_ret (v := .agg #[.int .i64 11, .int .i64 0, .bool false, .int .i64 1, .int .i64 0, .int .i64 0, .string ⟨#[]⟩, .bool false, .slice none 0 0, .slice none 0 0]) (by simp [results, Tryz.results79, go_sem]) rfl ⟨rfl, bl⟩
theorem tb_131 (p : Value) (w : World) : Calls Tryz.prog 79 #[.iface 131 (p)] w fun e w' => e = .returned (.agg #[.int .i64 11, .int .i64 0, .bool false, .int .i64 2, .int .i64 0, .int .i64 0, .string ⟨#[]⟩, .bool false, .slice none 0 0, .slice none 0 0]) ∧ Below w.heap.size w w' := by
 go_enter Tryz.func79, Tryz.ntmps79
 go_wp2
 try simp only [Exit.inBlock, Exit.then]
 refine bodyPost_ret (v := .agg #[.int .i64 11, .int .i64 0, .bool false, .int .i64 2, .int .i64 0, .int .i64 0, .string ⟨#[]⟩, .bool false, .slice none 0 0, .slice none 0 0]) (by simp [results, Tryz.results79, go_sem]) rfl ⟨rfl, bl⟩
theorem tb_133 (p : Value) (w : World) : Calls Tryz.prog 79 #[.iface 133 (p)] w fun e w' => e = .returned (.agg #[.int .i64 4, .int .i64 0, .bool false, .int .i64 0, .int .i64 0, .int .i64 0, .string ⟨#[]⟩, .bool false, .slice none 0 0, .slice none 0 0]) ∧ Below w.heap.size w w' := by
 go_enter Tryz.func79, Tryz.ntmps79
 go_wp2
 try simp only [Exit.inBlock, Exit.then]
 refine bodyPost_ret (v := .agg #[.int .i64 4, .int .i64 0, .bool false, .int .i64 0, .int .i64 0, .int .i64 0, .string ⟨#[]⟩, .bool false, .slice none 0 0, .slice none 0 0]) (by simp [results, Tryz.results79, go_sem]) rfl ⟨rfl, bl⟩
theorem tb_135 (p : Value) (w : World) : Calls Tryz.prog 79 #[.iface 135 (p)] w fun e w' => e = .returned (.agg #[.int .i64 5, .int .i64 0, .bool false, .int .i64 0, .int .i64 0, .int .i64 0, .string ⟨#[]⟩, .bool false, .slice none 0 0, .slice none 0 0]) ∧ Below w.heap.size w w' := by
 go_enter Tryz.func79, Tryz.ntmps79
 go_wp2
 try simp only [Exit.inBlock, Exit.then]
 refine bodyPost_ret (v := .agg #[.int .i64 5, .int .i64 0, .bool false, .int .i64 0, .int .i64 0, .int .i64 0, .string ⟨#[]⟩, .bool false, .slice none 0 0, .slice none 0 0]) (by simp [results, Tryz.results79, go_sem]) rfl ⟨rfl, bl⟩
theorem tb_137 (p : Value) (w : World) : Calls Tryz.prog 79 #[.iface 137 (p)] w fun e w' => e = .returned (.agg #[.int .i64 19, .int .i64 0, .bool false, .int .i64 0, .int .i64 0, .int .i64 0, .string ⟨#[]⟩, .bool false, .slice none 0 0, .slice none 0 0]) ∧ Below w.heap.size w w' := by
 go_enter Tryz.func79, Tryz.ntmps79
 go_wp2
 try simp only [Exit.inBlock, Exit.then]
 refine bodyPost_ret (v := .agg #[.int .i64 19, .int .i64 0, .bool false, .int .i64 0, .int .i64 0, .int .i64 0, .string ⟨#[]⟩, .bool false, .slice none 0 0, .slice none 0 0]) (by simp [results, Tryz.results79, go_sem]) rfl ⟨rfl, bl⟩
theorem tb_139 (p : Value) (w : World) : Calls Tryz.prog 79 #[.iface 139 (p)] w fun e w' => e = .returned (.agg #[.int .i64 20, .int .i64 0, .bool false, .int .i64 0, .int .i64 0, .int .i64 0, .string ⟨#[]⟩, .bool false, .slice none 0 0, .slice none 0 0]) ∧ Below w.heap.size w w' := by
 go_enter Tryz.func79, Tryz.ntmps79
 go_wp2
 try simp only [Exit.inBlock, Exit.then]
 refine bodyPost_ret (v := .agg #[.int .i64 20, .int .i64 0, .bool false, .int .i64 0, .int .i64 0, .int .i64 0, .string ⟨#[]⟩, .bool false, .slice none 0 0, .slice none 0 0]) (by simp [results, Tryz.results79, go_sem]) rfl ⟨rfl, bl⟩
theorem tb_141 (p : Value) (w : World) : Calls Tryz.prog 79 #[.iface 141 (p)] w fun e w' => e = .returned (.agg #[.int .i64 23, .int .i64 0, .bool false, .int .i64 0, .int .i64 0, .int .i64 0, .string ⟨#[]⟩, .bool false, .slice none 0 0, .slice none 0 0]) ∧ Below w.heap.size w w' := by
 go_enter Tryz.func79, Tryz.ntmps79
 go_wp2
 try simp only [Exit.inBlock, Exit.then]
 refine bodyPost_ret (v := .agg #[.int .i64 23, .int .i64 0, .bool false, .int .i64 0, .int .i64 0, .int .i64 0, .string ⟨#[]⟩, .bool false, .slice none 0 0, .slice none 0 0]) (by simp [results, Tryz.results79, go_sem]) rfl ⟨rfl, bl⟩
theorem tb_143 (p : Value) (w : World) : Calls Tryz.prog 79 #[.iface 143 (p)] w fun e w' => e = .returned (.agg #[.int .i64 24, .int .i64 0, .bool false, .int .i64 0, .int .i64 0, .int .i64 0, .string ⟨#[]⟩, .bool false, .slice none 0 0, .slice none 0 0]) ∧ Below w.heap.size w w' := by
 go_enter Tryz.func79, Tryz.ntmps79
 go_wp2
 try simp only [Exit.inBlock, Exit.then]
 refine bodyPost_ret (v := .agg #[.int .i64 24, .int .i64 0, .bool false, .int .i64 0, .int .i64 0, .int .i64 0, .string ⟨#[]⟩, .bool false, .slice none 0 0, .slice none 0 0]) (by simp [results, Tryz.results79, go_sem]) rfl ⟨rfl, bl⟩
theorem tb_116 (g : Nat) (u : Int) (w : World) (h : w.cell? ⟨g, 0, none⟩ = some (.int .i64 u)) : Calls Tryz.prog 79 #[.iface 116 (.pointer (some ⟨g, 0, none⟩))] w fun e w' => e = .returned (.agg #[.int .i64 9, .int .i64 0, .bool false, .int .i64 u, .int .i64 0, .int .i64 0, .string ⟨#[]⟩, .bool false, .slice none 0 0, .slice none 0 0]) ∧ Below w.heap.size w w' := by
 have x0 : ∀ o, (w.alloc o).cell? ⟨g, 0, none⟩ = some (.int .i64 u) := fun o => pw_cell_below bl h
 clear h
 go_enter Tryz.func79, Tryz.ntmps79
 go_wp2
 try simp only [Exit.inBlock, Exit.then]
 refine bodyPost_ret (v := .agg #[.int .i64 9, .int .i64 0, .bool false, .int .i64 u, .int .i64 0, .int .i64 0, .string ⟨#[]⟩, .bool false, .slice none 0 0, .slice none 0 0]) (by simp [results, Tryz.results79, go_sem]) rfl ⟨rfl, bl⟩
theorem tb_120 (g : Nat) (u : Int) (w : World) (h : w.cell? ⟨g, 0, none⟩ = some (.int .i64 u)) : Calls Tryz.prog 79 #[.iface 120 (.pointer (some ⟨g, 0, none⟩))] w fun e w' => e = .returned (.agg #[.int .i64 9, .int .i64 0, .bool false, .int .i64 u, .int .i64 0, .int .i64 0, .string ⟨#[]⟩, .bool false, .slice none 0 0, .slice none 0 0]) ∧ Below w.heap.size w w' := by
 have x0 : ∀ o, (w.alloc o).cell? ⟨g, 0, none⟩ = some (.int .i64 u) := fun o => pw_cell_below bl h
 clear h
 go_enter Tryz.func79, Tryz.ntmps79
 go_wp2
 try simp only [Exit.inBlock, Exit.then]
 refine bodyPost_ret (v := .agg #[.int .i64 9, .int .i64 0, .bool false, .int .i64 u, .int .i64 0, .int .i64 0, .string ⟨#[]⟩, .bool false, .slice none 0 0, .slice none 0 0]) (by simp [results, Tryz.results79, go_sem]) rfl ⟨rfl, bl⟩
theorem tb_125 (g : Nat) (u : Int) (w : World) (h : w.cell? ⟨g, 0, none⟩ = some (.int .i64 u)) : Calls Tryz.prog 79 #[.iface 125 (.pointer (some ⟨g, 0, none⟩))] w fun e w' => e = .returned (.agg #[.int .i64 18, .int .i64 0, .bool false, .int .i64 u, .int .i64 0, .int .i64 0, .string ⟨#[]⟩, .bool false, .slice none 0 0, .slice none 0 0]) ∧ Below w.heap.size w w' := by
 have x0 : ∀ o, (w.alloc o).cell? ⟨g, 0, none⟩ = some (.int .i64 u) := fun o => pw_cell_below bl h
 clear h
 go_enter Tryz.func79, Tryz.ntmps79
 go_wp2
 try simp only [Exit.inBlock, Exit.then]
 refine bodyPost_ret (v := .agg #[.int .i64 18, .int .i64 0, .bool false, .int .i64 u, .int .i64 0, .int .i64 0, .string ⟨#[]⟩, .bool false, .slice none 0 0, .slice none 0 0]) (by simp [results, Tryz.results79, go_sem]) rfl ⟨rfl, bl⟩
theorem tb_145 (g : Nat) (u : Int) (w : World) (h : w.cell? ⟨g, 0, none⟩ = some (.int .i64 u)) : Calls Tryz.prog 79 #[.iface 145 (.pointer (some ⟨g, 0, none⟩))] w fun e w' => e = .returned (.agg #[.int .i64 15, .int .i64 u, .bool false, .int .i64 0, .int .i64 0, .int .i64 0, .string ⟨#[]⟩, .bool false, .slice none 0 0, .slice none 0 0]) ∧ Below w.heap.size w w' := by
 have x0 : ∀ o, (w.alloc o).cell? ⟨g, 0, none⟩ = some (.int .i64 u) := fun o => pw_cell_below bl h
 clear h
 go_enter Tryz.func79, Tryz.ntmps79
 go_wp2
 try simp only [Exit.inBlock, Exit.then]
 refine bodyPost_ret (v := .agg #[.int .i64 15, .int .i64 u, .bool false, .int .i64 0, .int .i64 0, .int .i64 0, .string ⟨#[]⟩, .bool false, .slice none 0 0, .slice none 0 0]) (by simp [results, Tryz.results79, go_sem]) rfl ⟨rfl, bl⟩
theorem tb_214 (g : Nat) (p c : Int) (w : World) (hp : wrap64 p = p) (hc : wrap64 c = c) (h0 : w.cell? ⟨g, 0, none⟩ = some (.int .i32 p)) (h1 : w.cell? ⟨g, 1, none⟩ = some (.int .i32 c)) : Calls Tryz.prog 79 #[.iface 214 (.pointer (some ⟨g, 0, none⟩))] w fun e w' => e = .returned (.agg #[.int .i64 7, .int .i64 32, .bool false, .int .i64 0, .int .i64 p, .int .i64 c, .string ⟨#[]⟩, .bool false, .slice none 0 0, .slice none 0 0]) ∧ Below w.heap.size w w' := by
 go_enter Tryz.func79, Tryz.ntmps79
 go_upto_region 19 with fail
 refine wp_at ?_
 intro w1 hw1
 have b1 : Below w.heap.size w w1 := by rw [hw1]; repeat (first | exact Below.refl _ _ | apply b1_ | apply b2_ | apply b3_)
 have kB : w1.heap[w.heap.size]? = some (.cells #[.int .i64 0, .int .i64 0, .bool false, .int .i64 0, .int .i64 0, .int .i64 0, .string ⟨#[]⟩, .bool false, .slice none 0 0, .slice none 0 0] 28 (0, 0)) := by rw [hw1]; exact blk_new _ _
 have x0 : w1.cell? ⟨g, 0, none⟩ = some (.int .i32 p) := pw_cell_below b1 h0
 have x1 : w1.cell? ⟨g, 1, none⟩ = some (.int .i32 c) := pw_cell_below b1 h1
 clear hw1
 have H0 := Aside0.mk (And.intro h0 h1)
 clear h0 h1
 refine sc 12 (fun w' => Below w.heap.size w w' ∧ w'.cell? ⟨g, 0, none⟩ = some (.int .i32 p) ∧ w'.cell? ⟨g, 1, none⟩ = some (.int .i32 c)) (fun hk0 w2 hs2 hb => ?_)
 have HB := Aside0.mk (blk_below kB hb)
 clear b1 kB hb x0 x1
 refine pu 0 52 1 ?_
 refine pu 1 53 3 ?_
 refine pu 2 54 7 ?_
 refine ta 3 55 15 ?_
 refine pu 4 56 31 ?_
 refine pu 5 57 63 ?_
 refine pu 6 58 127 ?_
 refine pu 7 59 255 ?_
 refine ta 8 60 511 ?_
 refine pu 9 61 1023 ?_
 refine pu 10 62 2047 ?_
 have hbs := below_setRow hs2.1 (Nat.le_refl _) #[.int .i64 7, .int .i64 32, .bool false, .int .i64 0, .int .i64 p, .int .i64 c, .string ⟨#[]⟩, .bool false, .slice none 0 0, .slice none 0 0]
 refine rdy [11] (sb 11 4095 w.heap.size #[.int .i64 7, .int .i64 32, .bool false, .int .i64 0, .int .i64 p, .int .i64 c, .string ⟨#[]⟩, .bool false, .slice none 0 0, .slice none 0 0] HB.out (by kernel_rfl) rfl (one28 _ _ _ _ _ _ _ _ _ _ _ _ _ _) ⟨hbs, pw_cell_below hbs H0.out.1, pw_cell_below hbs H0.out.2⟩ ?_ rn (hy := by simp [Act.eval, hp, hc]))
 refine done_ (by kernel_rfl) ?_
 have hR := setRow_heap _ _ _ #[.int .i64 7, .int .i64 32, .bool false, .int .i64 0, .int .i64 p, .int .i64 c, .string ⟨#[]⟩, .bool false, .slice none 0 0, .slice none 0 0] _ _ HB.out
 obtain ⟨w3, hw3⟩ : ∃ w3, w3 = w2.setRow w.heap.size #[.int .i64 7, .int .i64 32, .bool false, .int .i64 0, .int .i64 p, .int .i64 c, .string ⟨#[]⟩, .bool false, .slice none 0 0, .slice none 0 0] := ⟨_, rfl⟩
 rw [← hw3] at hbs hR ⊢
 clear hw3 hs2
 obtain ⟨z0, z1, z2, z3, z4, z5, z6, z7, z8, z9⟩ := cb10_ hR
 have HR := Aside0.mk hbs
 clear hbs hR
 go_wp2
 try simp only [Exit.inBlock, Exit.then]
 refine bodyPost_ret (v := .agg #[.int .i64 7, .int .i64 32, .bool false, .int .i64 0, .int .i64 p, .int .i64 c, .string ⟨#[]⟩, .bool false, .slice none 0 0, .slice none 0 0]) (by simp [results, Tryz.results79, go_sem, z0, z1, z2, z3, z4, z5, z6, z7, z8, z9]) rfl ⟨rfl, HR.out⟩
theorem tb_217 (g : Nat) (p c : Int) (w : World) (hp : wrap64 p = p) (hc : wrap64 c = c) (h0 : w.cell? ⟨g, 0, none⟩ = some (.int .i32 p)) (h1 : w.cell? ⟨g, 1, none⟩ = some (.int .i32 c)) : Calls Tryz.prog 79 #[.iface 217 (.pointer (some ⟨g, 0, none⟩))] w fun e w' => e = .returned (.agg #[.int .i64 7, .int .i64 64, .bool false, .int .i64 0, .int .i64 p, .int .i64 c, .string ⟨#[]⟩, .bool false, .slice none 0 0, .slice none 0 0]) ∧ Below w.heap.size w w' := by
 go_enter Tryz.func79, Tryz.ntmps79
 go_upto_region 22 with fail
 refine wp_at ?_
 intro w1 hw1
 have b1 : Below w.heap.size w w1 := by rw [hw1]; repeat (first | exact Below.refl _ _ | apply b1_ | apply b2_ | apply b3_)
 have kB : w1.heap[w.heap.size]? = some (.cells #[.int .i64 0, .int .i64 0, .bool false, .int .i64 0, .int .i64 0, .int .i64 0, .string ⟨#[]⟩, .bool false, .slice none 0 0, .slice none 0 0] 28 (0, 0)) := by rw [hw1]; exact blk_new _ _
 have x0 : w1.cell? ⟨g, 0, none⟩ = some (.int .i32 p) := pw_cell_below b1 h0
 have x1 : w1.cell? ⟨g, 1, none⟩ = some (.int .i32 c) := pw_cell_below b1 h1
 clear hw1
 have H0 := Aside0.mk (And.intro h0 h1)
 clear h0 h1
 refine sc 12 (fun w' => Below w.heap.size w w' ∧ w'.cell? ⟨g, 0, none⟩ = some (.int .i32 p) ∧ w'.cell? ⟨g, 1, none⟩ = some (.int .i32 c)) (fun hk0 w2 hs2 hb => ?_)
 have HB := Aside0.mk (blk_below kB hb)
 clear b1 kB hb x0 x1
 refine pu 0 66 1 ?_
 refine pu 1 67 3 ?_
 refine pu 2 68 7 ?_
 refine ta 3 69 15 ?_
 refine pu 4 70 31 ?_
 refine pu 5 71 63 ?_
 refine pu 6 72 127 ?_
 refine pu 7 73 255 ?_
 refine ta 8 74 511 ?_
 refine pu 9 75 1023 ?_
 refine pu 10 76 2047 ?_
 have hbs := below_setRow hs2.1 (Nat.le_refl _) #[.int .i64 7, .int .i64 64, .bool false, .int .i64 0, .int .i64 p, .int .i64 c, .string ⟨#[]⟩, .bool false, .slice none 0 0, .slice none 0 0]
 refine rdy [11] (sb 11 4095 w.heap.size #[.int .i64 7, .int .i64 64, .bool false, .int .i64 0, .int .i64 p, .int .i64 c, .string ⟨#[]⟩, .bool false, .slice none 0 0, .slice none 0 0] HB.out (by kernel_rfl) rfl (one28 _ _ _ _ _ _ _ _ _ _ _ _ _ _) ⟨hbs, pw_cell_below hbs H0.out.1, pw_cell_below hbs H0.out.2⟩ ?_ rn (hy := by simp [Act.eval, hp, hc]))
 refine done_ (by kernel_rfl) ?_
 have hR := setRow_heap _ _ _ #[.int .i64 7, .int .i64 64, .bool false, .int .i64 0, .int .i64 p, .int .i64 c, .string ⟨#[]⟩, .bool false, .slice none 0 0, .slice none 0 0] _ _ HB.out
 obtain ⟨w3, hw3⟩ : ∃ w3, w3 = w2.setRow w.heap.size #[.int .i64 7, .int .i64 64, .bool false, .int .i64 0, .int .i64 p, .int .i64 c, .string ⟨#[]⟩, .bool false, .slice none 0 0, .slice none 0 0] := ⟨_, rfl⟩
 rw [← hw3] at hbs hR ⊢
 clear hw3 hs2
 obtain ⟨z0, z1, z2, z3, z4, z5, z6, z7, z8, z9⟩ := cb10_ hR
 have HR := Aside0.mk hbs
 clear hbs hR
 go_wp2
 try simp only [Exit.inBlock, Exit.then]
 refine bodyPost_ret (v := .agg #[.int .i64 7, .int .i64 64, .bool false, .int .i64 0, .int .i64 p, .int .i64 c, .string ⟨#[]⟩, .bool false, .slice none 0 0, .slice none 0 0]) (by simp [results, Tryz.results79, go_sem, z0, z1, z2, z3, z4, z5, z6, z7, z8, z9]) rfl ⟨rfl, HR.out⟩
theorem tb_219 (g : Nat) (p c : Int) (w : World) (hp : wrap64 p = p) (hc : wrap64 c = c) (h0 : w.cell? ⟨g, 0, none⟩ = some (.int .i32 p)) (h1 : w.cell? ⟨g, 1, none⟩ = some (.int .i32 c)) : Calls Tryz.prog 79 #[.iface 219 (.pointer (some ⟨g, 0, none⟩))] w fun e w' => e = .returned (.agg #[.int .i64 7, .int .i64 128, .bool false, .int .i64 0, .int .i64 p, .int .i64 c, .string ⟨#[]⟩, .bool false, .slice none 0 0, .slice none 0 0]) ∧ Below w.heap.size w w' := by
 go_enter Tryz.func79, Tryz.ntmps79
 go_upto_region 25 with fail
 refine wp_at ?_
 intro w1 hw1
 have b1 : Below w.heap.size w w1 := by rw [hw1]; repeat (first | exact Below.refl _ _ | apply b1_ | apply b2_ | apply b3_)
 have kB : w1.heap[w.heap.size]? = some (.cells #[.int .i64 0, .int .i64 0, .bool false, .int .i64 0, .int .i64 0, .int .i64 0, .string ⟨#[]⟩, .bool false, .slice none 0 0, .slice none 0 0] 28 (0, 0)) := by rw [hw1]; exact blk_new _ _
 have x0 : w1.cell? ⟨g, 0, none⟩ = some (.int .i32 p) := pw_cell_below b1 h0
 have x1 : w1.cell? ⟨g, 1, none⟩ = some (.int .i32 c) := pw_cell_below b1 h1
 clear hw1
 have H0 := Aside0.mk (And.intro h0 h1)
 clear h0 h1
 refine sc 12 (fun w' => Below w.heap.size w w' ∧ w'.cell? ⟨g, 0, none⟩ = some (.int .i32 p) ∧ w'.cell? ⟨g, 1, none⟩ = some (.int .i32 c)) (fun hk0 w2 hs2 hb => ?_)
 have HB := Aside0.mk (blk_below kB hb)
 clear b1 kB hb x0 x1
 refine pu 0 80 1 ?_
 refine pu 1 81 3 ?_
 refine pu 2 82 7 ?_
 refine ta 3 83 15 ?_
 refine pu 4 84 31 ?_
 refine pu 5 85 63 ?_
 refine pu 6 86 127 ?_
 refine pu 7 87 255 ?_
 refine ta 8 88 511 ?_
 refine pu 9 89 1023 ?_
 refine pu 10 90 2047 ?_
 have hbs := below_setRow hs2.1 (Nat.le_refl _) #[.int .i64 7, .int .i64 128, .bool false, .int .i64 0, .int .i64 p, .int .i64 c, .string ⟨#[]⟩, .bool false, .slice none 0 0, .slice none 0 0]
 refine rdy [11] (sb 11 4095 w.heap.size #[.int .i64 7, .int .i64 128, .bool false, .int .i64 0, .int .i64 p, .int .i64 c, .string ⟨#[]⟩, .bool false, .slice none 0 0, .slice none 0 0] HB.out (by kernel_rfl) rfl (one28 _ _ _ _ _ _ _ _ _ _ _ _ _ _) ⟨hbs, pw_cell_below hbs H0.out.1, pw_cell_below hbs H0.out.2⟩ ?_ rn (hy := by simp [Act.eval, hp, hc]))
 refine done_ (by kernel_rfl) ?_
 have hR := setRow_heap _ _ _ #[.int .i64 7, .int .i64 128, .bool false, .int .i64 0, .int .i64 p, .int .i64 c, .string ⟨#[]⟩, .bool false, .slice none 0 0, .slice none 0 0] _ _ HB.out
 obtain ⟨w3, hw3⟩ : ∃ w3, w3 = w2.setRow w.heap.size #[.int .i64 7, .int .i64 128, .bool false, .int .i64 0, .int .i64 p, .int .i64 c, .string ⟨#[]⟩, .bool false, .slice none 0 0, .slice none 0 0] := ⟨_, rfl⟩
 rw [← hw3] at hbs hR ⊢
 clear hw3 hs2
 obtain ⟨z0, z1, z2, z3, z4, z5, z6, z7, z8, z9⟩ := cb10_ hR
 have HR := Aside0.mk hbs
 clear hbs hR
 go_wp2
 try simp only [Exit.inBlock, Exit.then]
 refine bodyPost_ret (v := .agg #[.int .i64 7, .int .i64 128, .bool false, .int .i64 0, .int .i64 p, .int .i64 c, .string ⟨#[]⟩, .bool false, .slice none 0 0, .slice none 0 0]) (by simp [results, Tryz.results79, go_sem, z0, z1, z2, z3, z4, z5, z6, z7, z8, z9]) rfl ⟨rfl, HR.out⟩
theorem tb_221 (g : Nat) (p c : Int) (w : World) (hp : wrap64 p = p) (hc : wrap64 c = c) (h0 : w.cell? ⟨g, 0, none⟩ = some (.int .i32 p)) (h1 : w.cell? ⟨g, 1, none⟩ = some (.int .i32 c)) : Calls Tryz.prog 79 #[.iface 221 (.pointer (some ⟨g, 0, none⟩))] w fun e w' => e = .returned (.agg #[.int .i64 7, .int .i64 256, .bool false, .int .i64 0, .int .i64 p, .int .i64 c, .string ⟨#[]⟩, .bool false, .slice none 0 0, .slice none 0 0]) ∧ Below w.heap.size w w' := by
 go_enter Tryz.func79, Tryz.ntmps79
 go_upto_region 28 with fail
 refine wp_at ?_
 intro w1 hw1
 have b1 : Below w.heap.size w w1 := by rw [hw1]; repeat (first | exact Below.refl _ _ | apply b1_ | apply b2_ | apply b3_)
 have kB : w1.heap[w.heap.size]? = some (.cells #[.int .i64 0, .int .i64 0, .bool false, .int .i64 0, .int .i64 0, .int .i64 0, .string ⟨#[]⟩, .bool false, .slice none 0 0, .slice none 0 0] 28 (0, 0)) := by rw [hw1]; exact blk_new _ _
 have x0 : w1.cell? ⟨g, 0, none⟩ = some (.int .i32 p) := pw_cell_below b1 h0
 have x1 : w1.cell? ⟨g, 1, none⟩ = some (.int .i32 c) := pw_cell_below b1 h1
 clear hw1
 have H0 := Aside0.mk (And.intro h0 h1)
 clear h0 h1
 refine sc 12 (fun w' => Below w.heap.size w w' ∧ w'.cell? ⟨g, 0, none⟩ = some (.int .i32 p) ∧ w'.cell? ⟨g, 1, none⟩ = some (.int .i32 c)) (fun hk0 w2 hs2 hb => ?_)
 have HB := Aside0.mk (blk_below kB hb)
 clear b1 kB hb x0 x1
 refine pu 0 94 1 ?_
 refine pu 1 95 3 ?_
 refine pu 2 96 7 ?_
 refine ta 3 97 15 ?_
 refine pu 4 98 31 ?_
 refine pu 5 99 63 ?_
 refine pu 6 100 127 ?_
 refine pu 7 101 255 ?_
 refine ta 8 102 511 ?_
 refine pu 9 103 1023 ?_
 refine pu 10 104 2047 ?_
 have hbs := below_setRow hs2.1 (Nat.le_refl _) #[.int .i64 7, .int .i64 256, .bool false, .int .i64 0, .int .i64 p, .int .i64 c, .string ⟨#[]⟩, .bool false, .slice none 0 0, .slice none 0 0]
 refine rdy [11] (sb 11 4095 w.heap.size #[.int .i64 7, .int .i64 256, .bool false, .int .i64 0, .int .i64 p, .int .i64 c, .string ⟨#[]⟩, .bool false, .slice none 0 0, .slice none 0 0] HB.out (by kernel_rfl) rfl (one28 _ _ _ _ _ _ _ _ _ _ _ _ _ _) ⟨hbs, pw_cell_below hbs H0.out.1, pw_cell_below hbs H0.out.2⟩ ?_ rn (hy := by simp [Act.eval, hp, hc]))
 refine done_ (by kernel_rfl) ?_
 have hR := setRow_heap _ _ _ #[.int .i64 7, .int .i64 256, .bool false, .int .i64 0, .int .i64 p, .int .i64 c, .string ⟨#[]⟩, .bool false, .slice none 0 0, .slice none 0 0] _ _ HB.out
 obtain ⟨w3, hw3⟩ : ∃ w3, w3 = w2.setRow w.heap.size #[.int .i64 7, .int .i64 256, .bool false, .int .i64 0, .int .i64 p, .int .i64 c, .string ⟨#[]⟩, .bool false, .slice none 0 0, .slice none 0 0] := ⟨_, rfl⟩
 rw [← hw3] at hbs hR ⊢
 clear hw3 hs2
 obtain ⟨z0, z1, z2, z3, z4, z5, z6, z7, z8, z9⟩ := cb10_ hR
 have HR := Aside0.mk hbs
 clear hbs hR
 go_wp2
 try simp only [Exit.inBlock, Exit.then]
 refine bodyPost_ret (v := .agg #[.int .i64 7, .int .i64 256, .bool false, .int .i64 0, .int .i64 p, .int .i64 c, .string ⟨#[]⟩, .bool false, .slice none 0 0, .slice none 0 0]) (by simp [results, Tryz.results79, go_sem, z0, z1, z2, z3, z4, z5, z6, z7, z8, z9]) rfl ⟨rfl, HR.out⟩
theorem tb_122 (g : Nat) (u : Int) (z : ByteArray) (w : World) (h0 : w.cell? ⟨g, 0, none⟩ = some (.int .i64 u)) (h1 : w.cell? ⟨g, 1, none⟩ = some (.string z)) : Calls Tryz.prog 79 #[.iface 122 (.pointer (some ⟨g, 0, none⟩))] w fun e w' => e = .returned (.agg #[.int .i64 10, .int .i64 0, .bool false, .int .i64 u, .int .i64 0, .int .i64 0, .string z, .bool false, .slice none 0 0, .slice none 0 0]) ∧ Below w.heap.size w w' := by
 go_enter Tryz.func79, Tryz.ntmps79
 go_upto_region 43 with fail
 refine wp_at ?_
 intro w1 hw1
 have b1 : Below w.heap.size w w1 := by rw [hw1]; repeat (first | exact Below.refl _ _ | apply b1_ | apply b2_ | apply b3_)
 have kB : w1.heap[w.heap.size]? = some (.cells #[.int .i64 0, .int .i64 0, .bool false, .int .i64 0, .int .i64 0, .int .i64 0, .string ⟨#[]⟩, .bool false, .slice none 0 0, .slice none 0 0] 28 (0, 0)) := by rw [hw1]; exact blk_new _ _
 have x0 : w1.cell? ⟨g, 0, none⟩ = some (.int .i64 u) := pw_cell_below b1 h0
 have x1 : w1.cell? ⟨g, 1, none⟩ = some (.string z) := pw_cell_below b1 h1
 clear hw1
 have H0 := Aside0.mk (And.intro h0 h1)
 clear h0 h1
 refine sc 10 (fun w' => Below w.heap.size w w' ∧ w'.cell? ⟨g, 0, none⟩ = some (.int .i64 u) ∧ w'.cell? ⟨g, 1, none⟩ = some (.string z)) (fun hk0 w2 hs2 hb => ?_)
 have HB := Aside0.mk (blk_below kB hb)
 clear b1 kB hb x0 x1
 refine pu 0 132 1 ?_
 refine pu 1 133 3 ?_
 refine pu 2 134 7 ?_
 refine ta 3 135 15 ?_
 refine pu 4 136 31 ?_
 refine pu 5 137 63 ?_
 refine pu 6 138 127 ?_
 refine ta 7 139 255 ?_
 refine pu 8 140 511 ?_
 have hbs := below_setRow hs2.1 (Nat.le_refl _) #[.int .i64 10, .int .i64 0, .bool false, .int .i64 u, .int .i64 0, .int .i64 0, .string z, .bool false, .slice none 0 0, .slice none 0 0]
 refine rdy [9] (sb 9 1023 w.heap.size #[.int .i64 10, .int .i64 0, .bool false, .int .i64 u, .int .i64 0, .int .i64 0, .string z, .bool false, .slice none 0 0, .slice none 0 0] HB.out (by kernel_rfl) rfl (one28 _ _ _ _ _ _ _ _ _ _ _ _ _ _) ⟨hbs, pw_cell_below hbs H0.out.1, pw_cell_below hbs H0.out.2⟩ ?_ rn)
 refine done_ (by kernel_rfl) ?_
 have hR := setRow_heap _ _ _ #[.int .i64 10, .int .i64 0, .bool false, .int .i64 u, .int .i64 0, .int .i64 0, .string z, .bool false, .slice none 0 0, .slice none 0 0] _ _ HB.out
 obtain ⟨w3, hw3⟩ : ∃ w3, w3 = w2.setRow w.heap.size #[.int .i64 10, .int .i64 0, .bool false, .int .i64 u, .int .i64 0, .int .i64 0, .string z, .bool false, .slice none 0 0, .slice none 0 0] := ⟨_, rfl⟩
 rw [← hw3] at hbs hR ⊢
 clear hw3 hs2
 obtain ⟨z0, z1, z2, z3, z4, z5, z6, z7, z8, z9⟩ := cb10_ hR
 have HR := Aside0.mk hbs
 clear hbs hR
 go_wp2
 try simp only [Exit.inBlock, Exit.then]
 refine bodyPost_ret (v := .agg #[.int .i64 10, .int .i64 0, .bool false, .int .i64 u, .int .i64 0, .int .i64 0, .string z, .bool false, .slice none 0 0, .slice none 0 0]) (by simp [results, Tryz.results79, go_sem, z0, z1, z2, z3, z4, z5, z6, z7, z8, z9]) rfl ⟨rfl, HR.out⟩
attribute [local go_sem] n_198 y_198 n_200 y_200 n_202 y_202 n_204 y_204 n_206 y_206 n_208 y_208 n_210 y_210 n_212 y_212 n_161 y_161 n_233 y_233 n_154 y_154 n_180 y_180 n_236 y_236 n_158 y_158 n_165 y_165 n_224 y_224 n_226 y_226 n_177 y_177 n_229 y_229
def put10 (W : World) (F : Nat) (v0 v1 v2 v3 v4 v5 v6 v7 v8 v9 : Value) : World := ((((((((((W.setCell ⟨F, 0, none⟩ v0).setCell ⟨F, 1, none⟩ v1).setCell ⟨F, 2, none⟩ v2).setCell ⟨F, 3, none⟩ v3).setCell ⟨F, 4, none⟩ v4).setCell ⟨F, 5, none⟩ v5).setCell ⟨F, 6, none⟩ v6).setCell ⟨F, 7, none⟩ v7).setCell ⟨F, 8, none⟩ v8).setCell ⟨F, 9, none⟩ v9)
theorem put10_other (W : World) (F : Nat) (v0 v1 v2 v3 v4 v5 v6 v7 v8 v9 : Value) (k : Nat) (hk : k ≠ F) : (put10 W F v0 v1 v2 v3 v4 v5 v6 v7 v8 v9).heap[k]? = W.heap[k]? := by
 unfold put10
 rw [heap_setCell_other _ ⟨F, 9, none⟩ k v9 hk, heap_setCell_other _ ⟨F, 8, none⟩ k v8 hk, heap_setCell_other _ ⟨F, 7, none⟩ k v7 hk, heap_setCell_other _ ⟨F, 6, none⟩ k v6 hk, heap_setCell_other _ ⟨F, 5, none⟩ k v5 hk, heap_setCell_other _ ⟨F, 4, none⟩ k v4 hk, heap_setCell_other _ ⟨F, 3, none⟩ k v3 hk, heap_setCell_other _ ⟨F, 2, none⟩ k v2 hk, heap_setCell_other _ ⟨F, 1, none⟩ k v1 hk, heap_setCell_other _ ⟨F, 0, none⟩ k v0 hk]
theorem put10_below {w W : World} {F : Nat} {v0 v1 v2 v3 v4 v5 v6 v7 v8 v9 : Value} (h : Below w.heap.size w W) (hF : w.heap.size ≤ F) : Below w.heap.size w (put10 W F v0 v1 v2 v3 v4 v5 v6 v7 v8 v9) := by
 unfold put10
 exact ((((((((((h.setCell hF _).setCell hF _).setCell hF _).setCell hF _).setCell hF _).setCell hF _).setCell hF _).setCell hF _).setCell hF _).setCell hF _)
theorem put10_row {W : World} {F t : Nat} {o0 o1 o2 o3 o4 o5 o6 o7 o8 o9 : Value} (h : W.heap[F]? = some (.cells #[o0, o1, o2, o3, o4, o5, o6, o7, o8, o9] t (0, 0))) (v0 v1 v2 v3 v4 v5 v6 v7 v8 v9 : Value) : (put10 W F v0 v1 v2 v3 v4 v5 v6 v7 v8 v9).heap[F]? = some (.cells #[v0, v1, v2, v3, v4, v5, v6, v7, v8, v9] t (0, 0)) := by
 have h0 := h
 have h1 : (W.setCell ⟨F, 0, none⟩ v0).heap[F]? = some (.cells #[v0, o1, o2, o3, o4, o5, o6, o7, o8, o9] t (0, 0)) := blk_put_at h0 rfl
 have h2 : ((W.setCell ⟨F, 0, none⟩ v0).setCell ⟨F, 1, none⟩ v1).heap[F]? = some (.cells #[v0, v1, o2, o3, o4, o5, o6, o7, o8, o9] t (0, 0)) := blk_put_at h1 rfl
 have h3 : (((W.setCell ⟨F, 0, none⟩ v0).setCell ⟨F, 1, none⟩ v1).setCell ⟨F, 2, none⟩ v2).heap[F]? = some (.cells #[v0, v1, v2, o3, o4, o5, o6, o7, o8, o9] t (0, 0)) := blk_put_at h2 rfl
 have h4 : ((((W.setCell ⟨F, 0, none⟩ v0).setCell ⟨F, 1, none⟩ v1).setCell ⟨F, 2, none⟩ v2).setCell ⟨F, 3, none⟩ v3).heap[F]? = some (.cells #[v0, v1, v2, v3, o4, o5, o6, o7, o8, o9] t (0, 0)) := blk_put_at h3 rfl
 have h5 : (((((W.setCell ⟨F, 0, none⟩ v0).setCell ⟨F, 1, none⟩ v1).setCell ⟨F, 2, none⟩ v2).setCell ⟨F, 3, none⟩ v3).setCell ⟨F, 4, none⟩ v4).heap[F]? = some (.cells #[v0, v1, v2, v3, v4, o5, o6, o7, o8, o9] t (0, 0)) := blk_put_at h4 rfl
 have h6 : ((((((W.setCell ⟨F, 0, none⟩ v0).setCell ⟨F, 1, none⟩ v1).setCell ⟨F, 2, none⟩ v2).setCell ⟨F, 3, none⟩ v3).setCell ⟨F, 4, none⟩ v4).setCell ⟨F, 5, none⟩ v5).heap[F]? = some (.cells #[v0, v1, v2, v3, v4, v5, o6, o7, o8, o9] t (0, 0)) := blk_put_at h5 rfl
 have h7 : (((((((W.setCell ⟨F, 0, none⟩ v0).setCell ⟨F, 1, none⟩ v1).setCell ⟨F, 2, none⟩ v2).setCell ⟨F, 3, none⟩ v3).setCell ⟨F, 4, none⟩ v4).setCell ⟨F, 5, none⟩ v5).setCell ⟨F, 6, none⟩ v6).heap[F]? = some (.cells #[v0, v1, v2, v3, v4, v5, v6, o7, o8, o9] t (0, 0)) := blk_put_at h6 rfl
 have h8 : ((((((((W.setCell ⟨F, 0, none⟩ v0).setCell ⟨F, 1, none⟩ v1).setCell ⟨F, 2, none⟩ v2).setCell ⟨F, 3, none⟩ v3).setCell ⟨F, 4, none⟩ v4).setCell ⟨F, 5, none⟩ v5).setCell ⟨F, 6, none⟩ v6).setCell ⟨F, 7, none⟩ v7).heap[F]? = some (.cells #[v0, v1, v2, v3, v4, v5, v6, v7, o8, o9] t (0, 0)) := blk_put_at h7 rfl
 have h9 : (((((((((W.setCell ⟨F, 0, none⟩ v0).setCell ⟨F, 1, none⟩ v1).setCell ⟨F, 2, none⟩ v2).setCell ⟨F, 3, none⟩ v3).setCell ⟨F, 4, none⟩ v4).setCell ⟨F, 5, none⟩ v5).setCell ⟨F, 6, none⟩ v6).setCell ⟨F, 7, none⟩ v7).setCell ⟨F, 8, none⟩ v8).heap[F]? = some (.cells #[v0, v1, v2, v3, v4, v5, v6, v7, v8, o9] t (0, 0)) := blk_put_at h8 rfl
 have h10 : ((((((((((W.setCell ⟨F, 0, none⟩ v0).setCell ⟨F, 1, none⟩ v1).setCell ⟨F, 2, none⟩ v2).setCell ⟨F, 3, none⟩ v3).setCell ⟨F, 4, none⟩ v4).setCell ⟨F, 5, none⟩ v5).setCell ⟨F, 6, none⟩ v6).setCell ⟨F, 7, none⟩ v7).setCell ⟨F, 8, none⟩ v8).setCell ⟨F, 9, none⟩ v9).heap[F]? = some (.cells #[v0, v1, v2, v3, v4, v5, v6, v7, v8, v9] t (0, 0)) := blk_put_at h9 rfl
 exact h10
theorem fb10_ {w : World} {g : Nat} {cs : Array Value} {t : TypeId} (h : w.heap[g]? = some (.cells cs t (0, 0))) : w.frozen? ⟨g, 0, none⟩ = false ∧ w.frozen? ⟨g, 1, none⟩ = false ∧ w.frozen? ⟨g, 2, none⟩ = false ∧ w.frozen? ⟨g, 3, none⟩ = false ∧ w.frozen? ⟨g, 4, none⟩ = false ∧ w.frozen? ⟨g, 5, none⟩ = false ∧ w.frozen? ⟨g, 6, none⟩ = false ∧ w.frozen? ⟨g, 7, none⟩ = false ∧ w.frozen? ⟨g, 8, none⟩ = false ∧ w.frozen? ⟨g, 9, none⟩ = false :=
 ⟨blk_frozen h 0, blk_frozen h 1, blk_frozen h 2, blk_frozen h 3, blk_frozen h 4, blk_frozen h 5, blk_frozen h 6, blk_frozen h 7, blk_frozen h 8, blk_frozen h 9⟩
def RowB (W : World) (base : Nat) (A : Option Addr) (c : Nat) (fs : List S30) : Prop := fs.length ≤ c ∧ fs.length ≤ 9223372036854775807 ∧ (0 < fs.length → ∃ b, ∃ arr : Array Value, A = some ⟨b, 0, none⟩ ∧ base ≤ b ∧ W.heap[b]? = some (.cells arr 30 (0, 0)) ∧ BFsIn W (fun k => base ≤ k) fs arr.toList)
theorem RowB.step {W W' : World} {base base' : Nat} {A : Option Addr} {c : Nat} {fs : List S30} (h : RowB W base A c fs) (hm : ∀ k, base ≤ k → k < W.heap.size → W'.heap[k]? = W.heap[k]?) (hb : base' ≤ base) : RowB W' base' A c fs :=
 ⟨h.1, h.2.1, fun hn => by
  obtain ⟨b, arr, e, h1, h2, h3⟩ := h.2.2 hn
  exact ⟨b, arr, e, Nat.le_trans hb h1, (hm b h1 (blk_lt h2)).trans h2, BFsIn.step (fun k q cells hk hl _ hc => ⟨(hm k hk hl).trans hc, Nat.le_trans hb hk⟩) h3⟩⟩
theorem RowB.below {W W' : World} {base : Nat} {A : Option Addr} {c : Nat} {fs : List S30} (h : RowB W base A c fs) (hb : Below W.heap.size W W') : RowB W' base A c fs := h.step (fun k _ hl => hb.block k hl) (Nat.le_refl _)
def Backs (fs : List S30) (ds : List DF) : Prop := ∀ (w : World) (A : Option Addr) (c : Nat) (ok : Nat → Prop), RowAt w ok A ds →
 Calls Tryz.prog 48 #[.slice A ds.length c] w fun e w' => (∃ A' c', e = .returned (.slice A' fs.length c') ∧ RowB w' w.heap.size A' c' fs) ∧ Below w.heap.size w w'
def FieldsC (f : FuncId) (p : Value) (w : World) (ds : List DF) : Prop := ∀ w1, Below w.heap.size w w1 → Calls Tryz.prog f #[p] w1 fun e w' => (∃ A c ok, e = .returned (.slice A ds.length c) ∧ RowAt w' ok A ds) ∧ Below w1.heap.size w1 w'
theorem i32_64 (a : Int) (h0 : -2147483648 ≤ a) (h1 : a ≤ 2147483647) : wrap64 a = a := by unfold wrap64; omega
theorem tb_198 (p : Value) (w : World) : Calls Tryz.prog 98 #[.iface 198 p] w fun e w' => e = .returned (.agg #[.int .i64 2, .int .i64 8, .bool true, .int .i64 0, .int .i64 0, .int .i64 0, .string ⟨#[]⟩, .bool false, .slice none 0 0, .slice none 0 0]) ∧ Below w.heap.size w w' := by
 go_enter Tryz.func98, Tryz.ntmps98
 go_wp2
 try simp only [Exit.inBlock, Exit.then]
 refine bodyPost_ret (v := .agg #[.int .i64 2, .int .i64 8, .bool true, .int .i64 0, .int .i64 0, .int .i64 0, .string ⟨#[]⟩, .bool false, .slice none 0 0, .slice none 0 0]) (by simp [results, Tryz.results98, go_sem]) rfl ⟨rfl, bl⟩
theorem tb_200 (p : Value) (w : World) : Calls Tryz.prog 98 #[.iface 200 p] w fun e w' => e = .returned (.agg #[.int .i64 2, .int .i64 16, .bool true, .int .i64 0, .int .i64 0, .int .i64 0, .string ⟨#[]⟩, .bool false, .slice none 0 0, .slice none 0 0]) ∧ Below w.heap.size w w' := by
 go_enter Tryz.func98, Tryz.ntmps98
 go_wp2
 try simp only [Exit.inBlock, Exit.then]
 refine bodyPost_ret (v := .agg #[.int .i64 2, .int .i64 16, .bool true, .int .i64 0, .int .i64 0, .int .i64 0, .string ⟨#[]⟩, .bool false, .slice none 0 0, .slice none 0 0]) (by simp [results, Tryz.results98, go_sem]) rfl ⟨rfl, bl⟩
theorem tb_202 (p : Value) (w : World) : Calls Tryz.prog 98 #[.iface 202 p] w fun e w' => e = .returned (.agg #[.int .i64 2, .int .i64 32, .bool true, .int .i64 0, .int .i64 0, .int .i64 0, .string ⟨#[]⟩, .bool false, .slice none 0 0, .slice none 0 0]) ∧ Below w.heap.size w w' := by
 go_enter Tryz.func98, Tryz.ntmps98
 go_wp2
 try simp only [Exit.inBlock, Exit.then]
 refine bodyPost_ret (v := .agg #[.int .i64 2, .int .i64 32, .bool true, .int .i64 0, .int .i64 0, .int .i64 0, .string ⟨#[]⟩, .bool false, .slice none 0 0, .slice none 0 0]) (by simp [results, Tryz.results98, go_sem]) rfl ⟨rfl, bl⟩
theorem tb_204 (p : Value) (w : World) : Calls Tryz.prog 98 #[.iface 204 p] w fun e w' => e = .returned (.agg #[.int .i64 2, .int .i64 64, .bool true, .int .i64 0, .int .i64 0, .int .i64 0, .string ⟨#[]⟩, .bool false, .slice none 0 0, .slice none 0 0]) ∧ Below w.heap.size w w' := by
 go_enter Tryz.func98, Tryz.ntmps98
 go_wp2
 try simp only [Exit.inBlock, Exit.then]
 refine bodyPost_ret (v := .agg #[.int .i64 2, .int .i64 64, .bool true, .int .i64 0, .int .i64 0, .int .i64 0, .string ⟨#[]⟩, .bool false, .slice none 0 0, .slice none 0 0]) (by simp [results, Tryz.results98, go_sem]) rfl ⟨rfl, bl⟩
theorem tb_206 (p : Value) (w : World) : Calls Tryz.prog 98 #[.iface 206 p] w fun e w' => e = .returned (.agg #[.int .i64 2, .int .i64 8, .bool false, .int .i64 0, .int .i64 0, .int .i64 0, .string ⟨#[]⟩, .bool false, .slice none 0 0, .slice none 0 0]) ∧ Below w.heap.size w w' := by
 go_enter Tryz.func98, Tryz.ntmps98
 go_wp2
 try simp only [Exit.inBlock, Exit.then]
 refine bodyPost_ret (v := .agg #[.int .i64 2, .int .i64 8, .bool false, .int .i64 0, .int .i64 0, .int .i64 0, .string ⟨#[]⟩, .bool false, .slice none 0 0, .slice none 0 0]) (by simp [results, Tryz.results98, go_sem]) rfl ⟨rfl, bl⟩
theorem tb_208 (p : Value) (w : World) : Calls Tryz.prog 98 #[.iface 208 p] w fun e w' => e = .returned (.agg #[.int .i64 2, .int .i64 16, .bool false, .int .i64 0, .int .i64 0, .int .i64 0, .string ⟨#[]⟩, .bool false, .slice none 0 0, .slice none 0 0]) ∧ Below w.heap.size w w' := by
 go_enter Tryz.func98, Tryz.ntmps98
 go_wp2
 try simp only [Exit.inBlock, Exit.then]
 refine bodyPost_ret (v := .agg #[.int .i64 2, .int .i64 16, .bool false, .int .i64 0, .int .i64 0, .int .i64 0, .string ⟨#[]⟩, .bool false, .slice none 0 0, .slice none 0 0]) (by simp [results, Tryz.results98, go_sem]) rfl ⟨rfl, bl⟩
theorem tb_210 (p : Value) (w : World) : Calls Tryz.prog 98 #[.iface 210 p] w fun e w' => e = .returned (.agg #[.int .i64 2, .int .i64 32, .bool false, .int .i64 0, .int .i64 0, .int .i64 0, .string ⟨#[]⟩, .bool false, .slice none 0 0, .slice none 0 0]) ∧ Below w.heap.size w w' := by
 go_enter Tryz.func98, Tryz.ntmps98
 go_wp2
 try simp only [Exit.inBlock, Exit.then]
 refine bodyPost_ret (v := .agg #[.int .i64 2, .int .i64 32, .bool false, .int .i64 0, .int .i64 0, .int .i64 0, .string ⟨#[]⟩, .bool false, .slice none 0 0, .slice none 0 0]) (by simp [results, Tryz.results98, go_sem]) rfl ⟨rfl, bl⟩
theorem tb_212 (p : Value) (w : World) : Calls Tryz.prog 98 #[.iface 212 p] w fun e w' => e = .returned (.agg #[.int .i64 2, .int .i64 64, .bool false, .int .i64 0, .int .i64 0, .int .i64 0, .string ⟨#[]⟩, .bool false, .slice none 0 0, .slice none 0 0]) ∧ Below w.heap.size w w' := by
 go_enter Tryz.func98, Tryz.ntmps98
 go_wp2
 try simp only [Exit.inBlock, Exit.then]
 refine bodyPost_ret (v := .agg #[.int .i64 2, .int .i64 64, .bool false, .int .i64 0, .int .i64 0, .int .i64 0, .string ⟨#[]⟩, .bool false, .slice none 0 0, .slice none 0 0]) (by simp [results, Tryz.results98, go_sem]) rfl ⟨rfl, bl⟩
theorem nb_233 (g : Nat) (fs : List S30) (ds : List DF) (hB : Backs fs ds) (w : World) (hF : FieldsC 111 (.pointer (some ⟨g, 0, none⟩)) w ds) :
 Calls Tryz.prog 98 #[.iface 233 (.pointer (some ⟨g, 0, none⟩))] w fun e w' => (∃ A2 c2, e = .returned (.agg #[.int .i64 21, .int .i64 0, .bool false, .int .i64 0, .int .i64 0, .int .i64 0, .string ⟨#[]⟩, .bool false, .slice none 0 0, .slice A2 fs.length c2]) ∧ RowB w' w.heap.size A2 c2 fs) ∧ Below w.heap.size w w' := by
 have HF := Aside0.mk (And.intro hF hB)
 clear hF hB
 go_enter Tryz.func98, Tryz.ntmps98
 go_wp2_with (go_at_call 111; fail)
 refine calls_at ?_
 intro w1 hw1
 have b1 : Below w.heap.size w w1 := by rw [hw1]; repeat (first | exact Below.refl _ _ | apply b1_ | apply b2_ | apply b3_)
 have kB : w1.heap[w.heap.size]? = some (.cells #[.int .i64 0, .int .i64 0, .bool false, .int .i64 0, .int .i64 0, .int .i64 0, .string ⟨#[]⟩, .bool false, .slice none 0 0, .slice none 0 0] 28 (0, 0)) := by rw [hw1]; exact blk_new _ _
 clear hw1
 refine (HF.out.1 w1 b1).mono ?_
 rintro e w2 ⟨⟨A, c, ok, rfl, hR⟩, hb2⟩
 have HR := Aside0.mk (And.intro hR (And.intro (below_step b1 hb2) (blk_below kB hb2)))
 clear hR b1 kB hb2
 go_wp2_with (go_at_call 48; fail)
 refine (HF.out.2 w2 A c ok HR.out.1).mono ?_
 rintro e w3 ⟨⟨A2, c2, rfl, hR2⟩, hb3⟩
 have HK := Aside0.mk (blk_below HR.out.2.2 hb3)
 have HL := Aside0.mk (blk_lt HR.out.2.2)
 have HW := Aside0.mk (And.intro (below_step HR.out.2.1 hb3) hR2)
 clear hR2 hb3
 obtain ⟨z0, z1, z2, z3, z4, z5, z6, z7, z8, z9⟩ := cb10_ HK.out
 obtain ⟨f0, f1, f2, f3, f4, f5, f6, f7, f8, f9⟩ := fb10_ HK.out
 go_wp2
 have hp := put10_row HK.out (.int .i64 21) (.int .i64 0) (.bool false) (.int .i64 0) (.int .i64 0) (.int .i64 0) (.string ⟨#[]⟩) (.bool false) (.slice none 0 0) (.slice A2 fs.length c2)
 have hq := put10_below (v0 := .int .i64 21) (v1 := .int .i64 0) (v2 := .bool false) (v3 := .int .i64 0) (v4 := .int .i64 0) (v5 := .int .i64 0) (v6 := .string ⟨#[]⟩) (v7 := .bool false) (v8 := .slice none 0 0) (v9 := .slice A2 fs.length c2) HW.out.1 (Nat.le_refl _)
 have hr : RowB (put10 w3 w.heap.size (.int .i64 21) (.int .i64 0) (.bool false) (.int .i64 0) (.int .i64 0) (.int .i64 0) (.string ⟨#[]⟩) (.bool false) (.slice none 0 0) (.slice A2 fs.length c2)) w.heap.size A2 c2 fs := HW.out.2.step (fun k hk _ => put10_other _ _ _ _ _ _ _ _ _ _ _ _ k (by have := HW.out.2; have := HL.out; omega)) (by have := HL.out; omega)
 refine show bodyPost Tryz.prog Tryz.f98 _ Exit.ret _ (put10 w3 w.heap.size (.int .i64 21) (.int .i64 0) (.bool false) (.int .i64 0) (.int .i64 0) (.int .i64 0) (.string ⟨#[]⟩) (.bool false) (.slice none 0 0) (.slice A2 fs.length c2)) from ?_
 generalize put10 w3 w.heap.size (.int .i64 21) (.int .i64 0) (.bool false) (.int .i64 0) (.int .i64 0) (.int .i64 0) (.string ⟨#[]⟩) (.bool false) (.slice none 0 0) (.slice A2 fs.length c2) = W at hp hq hr ⊢
 obtain ⟨y0, y1, y2, y3, y4, y5, y6, y7, y8, y9⟩ := cb10_ hp
 refine bodyPost_ret (v := .agg #[.int .i64 21, .int .i64 0, .bool false, .int .i64 0, .int .i64 0, .int .i64 0, .string ⟨#[]⟩, .bool false, .slice none 0 0, .slice A2 fs.length c2]) (by simp [results, Tryz.results98, go_sem, y0, y1, y2, y3, y4, y5, y6, y7, y8, y9]) rfl ⟨⟨A2, c2, rfl, hr⟩, hq⟩
theorem nb_154 (g : Nat) (fs : List S30) (ds : List DF) (hB : Backs fs ds) (w : World) (hF : FieldsC 111 (.pointer (some ⟨g, 0, none⟩)) w ds) :
 Calls Tryz.prog 98 #[.iface 154 (.pointer (some ⟨g, 0, none⟩))] w fun e w' => (∃ A2 c2, e = .returned (.agg #[.int .i64 12, .int .i64 0, .bool false, .int .i64 0, .int .i64 0, .int .i64 0, .string ⟨#[]⟩, .bool false, .slice none 0 0, .slice A2 fs.length c2]) ∧ RowB w' w.heap.size A2 c2 fs) ∧ Below w.heap.size w w' := by
 have HF := Aside0.mk (And.intro hF hB)
 clear hF hB
 go_enter Tryz.func98, Tryz.ntmps98
 go_wp2_with (go_at_call 111; fail)
 refine calls_at ?_
 intro w1 hw1
 have b1 : Below w.heap.size w w1 := by rw [hw1]; repeat (first | exact Below.refl _ _ | apply b1_ | apply b2_ | apply b3_)
 have kB : w1.heap[w.heap.size]? = some (.cells #[.int .i64 0, .int .i64 0, .bool false, .int .i64 0, .int .i64 0, .int .i64 0, .string ⟨#[]⟩, .bool false, .slice none 0 0, .slice none 0 0] 28 (0, 0)) := by rw [hw1]; exact blk_new _ _
 clear hw1
 refine (HF.out.1 w1 b1).mono ?_
 rintro e w2 ⟨⟨A, c, ok, rfl, hR⟩, hb2⟩
 have HR := Aside0.mk (And.intro hR (And.intro (below_step b1 hb2) (blk_below kB hb2)))
 clear hR b1 kB hb2
 go_wp2_with (go_at_call 48; fail)
 refine (HF.out.2 w2 A c ok HR.out.1).mono ?_
 rintro e w3 ⟨⟨A2, c2, rfl, hR2⟩, hb3⟩
 have HK := Aside0.mk (blk_below HR.out.2.2 hb3)
 have HL := Aside0.mk (blk_lt HR.out.2.2)
 have HW := Aside0.mk (And.intro (below_step HR.out.2.1 hb3) hR2)
 clear hR2 hb3
 obtain ⟨z0, z1, z2, z3, z4, z5, z6, z7, z8, z9⟩ := cb10_ HK.out
 obtain ⟨f0, f1, f2, f3, f4, f5, f6, f7, f8, f9⟩ := fb10_ HK.out
 go_wp2
 have hp := put10_row HK.out (.int .i64 12) (.int .i64 0) (.bool false) (.int .i64 0) (.int .i64 0) (.int .i64 0) (.string ⟨#[]⟩) (.bool false) (.slice none 0 0) (.slice A2 fs.length c2)
 have hq := put10_below (v0 := .int .i64 12) (v1 := .int .i64 0) (v2 := .bool false) (v3 := .int .i64 0) (v4 := .int .i64 0) (v5 := .int .i64 0) (v6 := .string ⟨#[]⟩) (v7 := .bool false) (v8 := .slice none 0 0) (v9 := .slice A2 fs.length c2) HW.out.1 (Nat.le_refl _)
 have hr : RowB (put10 w3 w.heap.size (.int .i64 12) (.int .i64 0) (.bool false) (.int .i64 0) (.int .i64 0) (.int .i64 0) (.string ⟨#[]⟩) (.bool false) (.slice none 0 0) (.slice A2 fs.length c2)) w.heap.size A2 c2 fs := HW.out.2.step (fun k hk _ => put10_other _ _ _ _ _ _ _ _ _ _ _ _ k (by have := HW.out.2; have := HL.out; omega)) (by have := HL.out; omega)
 refine show bodyPost Tryz.prog Tryz.f98 _ Exit.ret _ (put10 w3 w.heap.size (.int .i64 12) (.int .i64 0) (.bool false) (.int .i64 0) (.int .i64 0) (.int .i64 0) (.string ⟨#[]⟩) (.bool false) (.slice none 0 0) (.slice A2 fs.length c2)) from ?_
 generalize put10 w3 w.heap.size (.int .i64 12) (.int .i64 0) (.bool false) (.int .i64 0) (.int .i64 0) (.int .i64 0) (.string ⟨#[]⟩) (.bool false) (.slice none 0 0) (.slice A2 fs.length c2) = W at hp hq hr ⊢
 obtain ⟨y0, y1, y2, y3, y4, y5, y6, y7, y8, y9⟩ := cb10_ hp
 refine bodyPost_ret (v := .agg #[.int .i64 12, .int .i64 0, .bool false, .int .i64 0, .int .i64 0, .int .i64 0, .string ⟨#[]⟩, .bool false, .slice none 0 0, .slice A2 fs.length c2]) (by simp [results, Tryz.results98, go_sem, y0, y1, y2, y3, y4, y5, y6, y7, y8, y9]) rfl ⟨⟨A2, c2, rfl, hr⟩, hq⟩
theorem nb_180 (g : Nat) (fs : List S30) (ds : List DF) (hB : Backs fs ds) (w : World) (hF : FieldsC 112 (.pointer (some ⟨g, 0, none⟩)) w ds) :
 Calls Tryz.prog 98 #[.iface 180 (.pointer (some ⟨g, 0, none⟩))] w fun e w' => (∃ A2 c2, e = .returned (.agg #[.int .i64 25, .int .i64 0, .bool false, .int .i64 0, .int .i64 0, .int .i64 0, .string ⟨#[]⟩, .bool false, .slice none 0 0, .slice A2 fs.length c2]) ∧ RowB w' w.heap.size A2 c2 fs) ∧ Below w.heap.size w w' := by
 have HF := Aside0.mk (And.intro hF hB)
 clear hF hB
 go_enter Tryz.func98, Tryz.ntmps98
 go_wp2_with (go_at_call 112; fail)
 refine calls_at ?_
 intro w1 hw1
 have b1 : Below w.heap.size w w1 := by rw [hw1]; repeat (first | exact Below.refl _ _ | apply b1_ | apply b2_ | apply b3_)
 have kB : w1.heap[w.heap.size]? = some (.cells #[.int .i64 0, .int .i64 0, .bool false, .int .i64 0, .int .i64 0, .int .i64 0, .string ⟨#[]⟩, .bool false, .slice none 0 0, .slice none 0 0] 28 (0, 0)) := by rw [hw1]; exact blk_new _ _
 clear hw1
 refine (HF.out.1 w1 b1).mono ?_
 rintro e w2 ⟨⟨A, c, ok, rfl, hR⟩, hb2⟩
 have HR := Aside0.mk (And.intro hR (And.intro (below_step b1 hb2) (blk_below kB hb2)))
 clear hR b1 kB hb2
 go_wp2_with (go_at_call 48; fail)
 refine (HF.out.2 w2 A c ok HR.out.1).mono ?_
 rintro e w3 ⟨⟨A2, c2, rfl, hR2⟩, hb3⟩
 have HK := Aside0.mk (blk_below HR.out.2.2 hb3)
 have HL := Aside0.mk (blk_lt HR.out.2.2)
 have HW := Aside0.mk (And.intro (below_step HR.out.2.1 hb3) hR2)
 clear hR2 hb3
 obtain ⟨z0, z1, z2, z3, z4, z5, z6, z7, z8, z9⟩ := cb10_ HK.out
 obtain ⟨f0, f1, f2, f3, f4, f5, f6, f7, f8, f9⟩ := fb10_ HK.out
 go_wp2
 have hp := put10_row HK.out (.int .i64 25) (.int .i64 0) (.bool false) (.int .i64 0) (.int .i64 0) (.int .i64 0) (.string ⟨#[]⟩) (.bool false) (.slice none 0 0) (.slice A2 fs.length c2)
 have hq := put10_below (v0 := .int .i64 25) (v1 := .int .i64 0) (v2 := .bool false) (v3 := .int .i64 0) (v4 := .int .i64 0) (v5 := .int .i64 0) (v6 := .string ⟨#[]⟩) (v7 := .bool false) (v8 := .slice none 0 0) (v9 := .slice A2 fs.length c2) HW.out.1 (Nat.le_refl _)
 have hr : RowB (put10 w3 w.heap.size (.int .i64 25) (.int .i64 0) (.bool false) (.int .i64 0) (.int .i64 0) (.int .i64 0) (.string ⟨#[]⟩) (.bool false) (.slice none 0 0) (.slice A2 fs.length c2)) w.heap.size A2 c2 fs := HW.out.2.step (fun k hk _ => put10_other _ _ _ _ _ _ _ _ _ _ _ _ k (by have := HW.out.2; have := HL.out; omega)) (by have := HL.out; omega)
 refine show bodyPost Tryz.prog Tryz.f98 _ Exit.ret _ (put10 w3 w.heap.size (.int .i64 25) (.int .i64 0) (.bool false) (.int .i64 0) (.int .i64 0) (.int .i64 0) (.string ⟨#[]⟩) (.bool false) (.slice none 0 0) (.slice A2 fs.length c2)) from ?_
 generalize put10 w3 w.heap.size (.int .i64 25) (.int .i64 0) (.bool false) (.int .i64 0) (.int .i64 0) (.int .i64 0) (.string ⟨#[]⟩) (.bool false) (.slice none 0 0) (.slice A2 fs.length c2) = W at hp hq hr ⊢
 obtain ⟨y0, y1, y2, y3, y4, y5, y6, y7, y8, y9⟩ := cb10_ hp
 refine bodyPost_ret (v := .agg #[.int .i64 25, .int .i64 0, .bool false, .int .i64 0, .int .i64 0, .int .i64 0, .string ⟨#[]⟩, .bool false, .slice none 0 0, .slice A2 fs.length c2]) (by simp [results, Tryz.results98, go_sem, y0, y1, y2, y3, y4, y5, y6, y7, y8, y9]) rfl ⟨⟨A2, c2, rfl, hr⟩, hq⟩
theorem nb_236 (g : Nat) (fs : List S30) (ds : List DF) (hB : Backs fs ds) (w : World) (hF : FieldsC 113 (.pointer (some ⟨g, 0, none⟩)) w ds) :
 Calls Tryz.prog 98 #[.iface 236 (.pointer (some ⟨g, 0, none⟩))] w fun e w' => (∃ A2 c2, e = .returned (.agg #[.int .i64 26, .int .i64 0, .bool false, .int .i64 0, .int .i64 0, .int .i64 0, .string ⟨#[]⟩, .bool false, .slice none 0 0, .slice A2 fs.length c2]) ∧ RowB w' w.heap.size A2 c2 fs) ∧ Below w.heap.size w w' := by
 have HF := Aside0.mk (And.intro hF hB)
 clear hF hB
 go_enter Tryz.func98, Tryz.ntmps98
 go_wp2_with (go_at_call 113; fail)
 refine calls_at ?_
 intro w1 hw1
 have b1 : Below w.heap.size w w1 := by rw [hw1]; repeat (first | exact Below.refl _ _ | apply b1_ | apply b2_ | apply b3_)
 have kB : w1.heap[w.heap.size]? = some (.cells #[.int .i64 0, .int .i64 0, .bool false, .int .i64 0, .int .i64 0, .int .i64 0, .string ⟨#[]⟩, .bool false, .slice none 0 0, .slice none 0 0] 28 (0, 0)) := by rw [hw1]; exact blk_new _ _
 clear hw1
 refine (HF.out.1 w1 b1).mono ?_
 rintro e w2 ⟨⟨A, c, ok, rfl, hR⟩, hb2⟩
 have HR := Aside0.mk (And.intro hR (And.intro (below_step b1 hb2) (blk_below kB hb2)))
 clear hR b1 kB hb2
 go_wp2_with (go_at_call 48; fail)
 refine (HF.out.2 w2 A c ok HR.out.1).mono ?_
 rintro e w3 ⟨⟨A2, c2, rfl, hR2⟩, hb3⟩
 have HK := Aside0.mk (blk_below HR.out.2.2 hb3)
 have HL := Aside0.mk (blk_lt HR.out.2.2)
 have HW := Aside0.mk (And.intro (below_step HR.out.2.1 hb3) hR2)
 clear hR2 hb3
 obtain ⟨z0, z1, z2, z3, z4, z5, z6, z7, z8, z9⟩ := cb10_ HK.out
 obtain ⟨f0, f1, f2, f3, f4, f5, f6, f7, f8, f9⟩ := fb10_ HK.out
 go_wp2
 have hp := put10_row HK.out (.int .i64 26) (.int .i64 0) (.bool false) (.int .i64 0) (.int .i64 0) (.int .i64 0) (.string ⟨#[]⟩) (.bool false) (.slice none 0 0) (.slice A2 fs.length c2)
 have hq := put10_below (v0 := .int .i64 26) (v1 := .int .i64 0) (v2 := .bool false) (v3 := .int .i64 0) (v4 := .int .i64 0) (v5 := .int .i64 0) (v6 := .string ⟨#[]⟩) (v7 := .bool false) (v8 := .slice none 0 0) (v9 := .slice A2 fs.length c2) HW.out.1 (Nat.le_refl _)
 have hr : RowB (put10 w3 w.heap.size (.int .i64 26) (.int .i64 0) (.bool false) (.int .i64 0) (.int .i64 0) (.int .i64 0) (.string ⟨#[]⟩) (.bool false) (.slice none 0 0) (.slice A2 fs.length c2)) w.heap.size A2 c2 fs := HW.out.2.step (fun k hk _ => put10_other _ _ _ _ _ _ _ _ _ _ _ _ k (by have := HW.out.2; have := HL.out; omega)) (by have := HL.out; omega)
 refine show bodyPost Tryz.prog Tryz.f98 _ Exit.ret _ (put10 w3 w.heap.size (.int .i64 26) (.int .i64 0) (.bool false) (.int .i64 0) (.int .i64 0) (.int .i64 0) (.string ⟨#[]⟩) (.bool false) (.slice none 0 0) (.slice A2 fs.length c2)) from ?_
 generalize put10 w3 w.heap.size (.int .i64 26) (.int .i64 0) (.bool false) (.int .i64 0) (.int .i64 0) (.int .i64 0) (.string ⟨#[]⟩) (.bool false) (.slice none 0 0) (.slice A2 fs.length c2) = W at hp hq hr ⊢
 obtain ⟨y0, y1, y2, y3, y4, y5, y6, y7, y8, y9⟩ := cb10_ hp
 refine bodyPost_ret (v := .agg #[.int .i64 26, .int .i64 0, .bool false, .int .i64 0, .int .i64 0, .int .i64 0, .string ⟨#[]⟩, .bool false, .slice none 0 0, .slice A2 fs.length c2]) (by simp [results, Tryz.results98, go_sem, y0, y1, y2, y3, y4, y5, y6, y7, y8, y9]) rfl ⟨⟨A2, c2, rfl, hr⟩, hq⟩
theorem nb_165 (g : Nat) (fs : List S30) (ds : List DF) (hB : Backs fs ds) (w : World) (hF : FieldsC 116 (.pointer (some ⟨g, 0, none⟩)) w ds) :
 Calls Tryz.prog 98 #[.iface 165 (.pointer (some ⟨g, 0, none⟩))] w fun e w' => (∃ A2 c2, e = .returned (.agg #[.int .i64 13, .int .i64 0, .bool false, .int .i64 0, .int .i64 0, .int .i64 0, .string ⟨#[]⟩, .bool false, .slice none 0 0, .slice A2 fs.length c2]) ∧ RowB w' w.heap.size A2 c2 fs) ∧ Below w.heap.size w w' := by
 have HF := Aside0.mk (And.intro hF hB)
 clear hF hB
 go_enter Tryz.func98, Tryz.ntmps98
 go_wp2_with (go_at_call 116; fail)
 refine calls_at ?_
 intro w1 hw1
 have b1 : Below w.heap.size w w1 := by rw [hw1]; repeat (first | exact Below.refl _ _ | apply b1_ | apply b2_ | apply b3_)
 have kB : w1.heap[w.heap.size]? = some (.cells #[.int .i64 0, .int .i64 0, .bool false, .int .i64 0, .int .i64 0, .int .i64 0, .string ⟨#[]⟩, .bool false, .slice none 0 0, .slice none 0 0] 28 (0, 0)) := by rw [hw1]; exact blk_new _ _
 clear hw1
 refine (HF.out.1 w1 b1).mono ?_
 rintro e w2 ⟨⟨A, c, ok, rfl, hR⟩, hb2⟩
 have HR := Aside0.mk (And.intro hR (And.intro (below_step b1 hb2) (blk_below kB hb2)))
 clear hR b1 kB hb2
 go_wp2_with (go_at_call 48; fail)
 refine (HF.out.2 w2 A c ok HR.out.1).mono ?_
 rintro e w3 ⟨⟨A2, c2, rfl, hR2⟩, hb3⟩
 have HK := Aside0.mk (blk_below HR.out.2.2 hb3)
 have HL := Aside0.mk (blk_lt HR.out.2.2)
 have HW := Aside0.mk (And.intro (below_step HR.out.2.1 hb3) hR2)
 clear hR2 hb3
 obtain ⟨z0, z1, z2, z3, z4, z5, z6, z7, z8, z9⟩ := cb10_ HK.out
 obtain ⟨f0, f1, f2, f3, f4, f5, f6, f7, f8, f9⟩ := fb10_ HK.out
 go_wp2
 have hp := put10_row HK.out (.int .i64 13) (.int .i64 0) (.bool false) (.int .i64 0) (.int .i64 0) (.int .i64 0) (.string ⟨#[]⟩) (.bool false) (.slice none 0 0) (.slice A2 fs.length c2)
 have hq := put10_below (v0 := .int .i64 13) (v1 := .int .i64 0) (v2 := .bool false) (v3 := .int .i64 0) (v4 := .int .i64 0) (v5 := .int .i64 0) (v6 := .string ⟨#[]⟩) (v7 := .bool false) (v8 := .slice none 0 0) (v9 := .slice A2 fs.length c2) HW.out.1 (Nat.le_refl _)
 have hr : RowB (put10 w3 w.heap.size (.int .i64 13) (.int .i64 0) (.bool false) (.int .i64 0) (.int .i64 0) (.int .i64 0) (.string ⟨#[]⟩) (.bool false) (.slice none 0 0) (.slice A2 fs.length c2)) w.heap.size A2 c2 fs := HW.out.2.step (fun k hk _ => put10_other _ _ _ _ _ _ _ _ _ _ _ _ k (by have := HW.out.2; have := HL.out; omega)) (by have := HL.out; omega)
 refine show bodyPost Tryz.prog Tryz.f98 _ Exit.ret _ (put10 w3 w.heap.size (.int .i64 13) (.int .i64 0) (.bool false) (.int .i64 0) (.int .i64 0) (.int .i64 0) (.string ⟨#[]⟩) (.bool false) (.slice none 0 0) (.slice A2 fs.length c2)) from ?_
 generalize put10 w3 w.heap.size (.int .i64 13) (.int .i64 0) (.bool false) (.int .i64 0) (.int .i64 0) (.int .i64 0) (.string ⟨#[]⟩) (.bool false) (.slice none 0 0) (.slice A2 fs.length c2) = W at hp hq hr ⊢
 obtain ⟨y0, y1, y2, y3, y4, y5, y6, y7, y8, y9⟩ := cb10_ hp
 refine bodyPost_ret (v := .agg #[.int .i64 13, .int .i64 0, .bool false, .int .i64 0, .int .i64 0, .int .i64 0, .string ⟨#[]⟩, .bool false, .slice none 0 0, .slice A2 fs.length c2]) (by simp [results, Tryz.results98, go_sem, y0, y1, y2, y3, y4, y5, y6, y7, y8, y9]) rfl ⟨⟨A2, c2, rfl, hr⟩, hq⟩
theorem nb_177 (g : Nat) (fs : List S30) (ds : List DF) (hB : Backs fs ds) (w : World) (hF : FieldsC 120 (.pointer (some ⟨g, 0, none⟩)) w ds) :
 Calls Tryz.prog 98 #[.iface 177 (.pointer (some ⟨g, 0, none⟩))] w fun e w' => (∃ A2 c2, e = .returned (.agg #[.int .i64 22, .int .i64 0, .bool false, .int .i64 0, .int .i64 0, .int .i64 0, .string ⟨#[]⟩, .bool false, .slice none 0 0, .slice A2 fs.length c2]) ∧ RowB w' w.heap.size A2 c2 fs) ∧ Below w.heap.size w w' := by
 have HF := Aside0.mk (And.intro hF hB)
 clear hF hB
 go_enter Tryz.func98, Tryz.ntmps98
 go_wp2_with (go_at_call 120; fail)
 refine calls_at ?_
 intro w1 hw1
 have b1 : Below w.heap.size w w1 := by rw [hw1]; repeat (first | exact Below.refl _ _ | apply b1_ | apply b2_ | apply b3_)
 have kB : w1.heap[w.heap.size]? = some (.cells #[.int .i64 0, .int .i64 0, .bool false, .int .i64 0, .int .i64 0, .int .i64 0, .string ⟨#[]⟩, .bool false, .slice none 0 0, .slice none 0 0] 28 (0, 0)) := by rw [hw1]; exact blk_new _ _
 clear hw1
 refine (HF.out.1 w1 b1).mono ?_
 rintro e w2 ⟨⟨A, c, ok, rfl, hR⟩, hb2⟩
 have HR := Aside0.mk (And.intro hR (And.intro (below_step b1 hb2) (blk_below kB hb2)))
 clear hR b1 kB hb2
 go_wp2_with (go_at_call 48; fail)
 refine (HF.out.2 w2 A c ok HR.out.1).mono ?_
 rintro e w3 ⟨⟨A2, c2, rfl, hR2⟩, hb3⟩
 have HK := Aside0.mk (blk_below HR.out.2.2 hb3)
 have HL := Aside0.mk (blk_lt HR.out.2.2)
 have HW := Aside0.mk (And.intro (below_step HR.out.2.1 hb3) hR2)
 clear hR2 hb3
 obtain ⟨z0, z1, z2, z3, z4, z5, z6, z7, z8, z9⟩ := cb10_ HK.out
 obtain ⟨f0, f1, f2, f3, f4, f5, f6, f7, f8, f9⟩ := fb10_ HK.out
 go_wp2
 have hp := put10_row HK.out (.int .i64 22) (.int .i64 0) (.bool false) (.int .i64 0) (.int .i64 0) (.int .i64 0) (.string ⟨#[]⟩) (.bool false) (.slice none 0 0) (.slice A2 fs.length c2)
 have hq := put10_below (v0 := .int .i64 22) (v1 := .int .i64 0) (v2 := .bool false) (v3 := .int .i64 0) (v4 := .int .i64 0) (v5 := .int .i64 0) (v6 := .string ⟨#[]⟩) (v7 := .bool false) (v8 := .slice none 0 0) (v9 := .slice A2 fs.length c2) HW.out.1 (Nat.le_refl _)
 have hr : RowB (put10 w3 w.heap.size (.int .i64 22) (.int .i64 0) (.bool false) (.int .i64 0) (.int .i64 0) (.int .i64 0) (.string ⟨#[]⟩) (.bool false) (.slice none 0 0) (.slice A2 fs.length c2)) w.heap.size A2 c2 fs := HW.out.2.step (fun k hk _ => put10_other _ _ _ _ _ _ _ _ _ _ _ _ k (by have := HW.out.2; have := HL.out; omega)) (by have := HL.out; omega)
 refine show bodyPost Tryz.prog Tryz.f98 _ Exit.ret _ (put10 w3 w.heap.size (.int .i64 22) (.int .i64 0) (.bool false) (.int .i64 0) (.int .i64 0) (.int .i64 0) (.string ⟨#[]⟩) (.bool false) (.slice none 0 0) (.slice A2 fs.length c2)) from ?_
 generalize put10 w3 w.heap.size (.int .i64 22) (.int .i64 0) (.bool false) (.int .i64 0) (.int .i64 0) (.int .i64 0) (.string ⟨#[]⟩) (.bool false) (.slice none 0 0) (.slice A2 fs.length c2) = W at hp hq hr ⊢
 obtain ⟨y0, y1, y2, y3, y4, y5, y6, y7, y8, y9⟩ := cb10_ hp
 refine bodyPost_ret (v := .agg #[.int .i64 22, .int .i64 0, .bool false, .int .i64 0, .int .i64 0, .int .i64 0, .string ⟨#[]⟩, .bool false, .slice none 0 0, .slice A2 fs.length c2]) (by simp [results, Tryz.results98, go_sem, y0, y1, y2, y3, y4, y5, y6, y7, y8, y9]) rfl ⟨⟨A2, c2, rfl, hr⟩, hq⟩
end Go.Proofs.YteebgnhhjlgnjaaGreatDoor.V
