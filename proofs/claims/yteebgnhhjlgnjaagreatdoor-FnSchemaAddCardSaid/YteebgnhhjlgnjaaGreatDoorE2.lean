/- The small functions that TypeEqual calls. -/
import Derived.Test.YteebgnhhjlgnjaaGreatDoorE0
import Derived.Test.YteebgnhhjlgnjaaGreatDoorMA
import Derived.Test.YteebgnhhjlgnjaaGreatDoorST
import Derived.Test.YteebgnhhjlgnjaaGreatDoorD0
import Derived.Test.YteebgnhhjlgnjaaGreatDoorSL
namespace Go.Proofs.YteebgnhhjlgnjaaGreatDoor.V
open Go.RowKit Go.Proofs.YteebgnhhjlgnjaaGreatDoorW.PrintWords Go.Proofs.YteebgnhhjlgnjaaGreatDoorW.PrintLast Go.Proofs.YteebgnhhjlgnjaaGreatDoorW.PrintMore
set_option maxHeartbeats 40000000
set_option maxRecDepth 100000
set_option linter.unusedVariables false
set_option linter.unusedSimpArgs false
theorem elem65 (g : Nat) (x : Value) (w : World) (h : w.cell? ⟨g, 1, none⟩ = some x) : Calls Tryz.prog 65 #[.pointer (some ⟨g, 0, none⟩)] w fun e w' => e = .returned x ∧ Below w.heap.size w w' := by
 go_enter Tryz.func65, Tryz.ntmps65
 go_wp2
 go_ret
 exact ⟨rfl, bl⟩
theorem zt_mem {k w : Int} {s : Bool} {u : Int} {t : Nat} (h : (k, w, s, u, t) ∈ zeroTab) : t ∈ zeroT := by
 simp only [zeroTab, List.mem_cons, Prod.mk.injEq, List.not_mem_nil, or_false] at h
 rcases h with ⟨_, _, _, _, rfl⟩ | ⟨_, _, _, _, rfl⟩ | ⟨_, _, _, _, rfl⟩ | ⟨_, _, _, _, rfl⟩ | ⟨_, _, _, _, rfl⟩ | ⟨_, _, _, _, rfl⟩ | ⟨_, _, _, _, rfl⟩ | ⟨_, _, _, _, rfl⟩ | ⟨_, _, _, _, rfl⟩ | ⟨_, _, _, _, rfl⟩ | ⟨_, _, _, _, rfl⟩ | ⟨_, _, _, _, rfl⟩ | ⟨_, _, _, _, rfl⟩ | ⟨_, _, _, _, rfl⟩ | ⟨_, _, _, _, rfl⟩ | ⟨_, _, _, _, rfl⟩ | ⟨_, _, _, _, rfl⟩ | ⟨_, _, _, _, rfl⟩ | ⟨_, _, _, _, rfl⟩ | ⟨_, _, _, _, rfl⟩ | ⟨_, _, _, _, rfl⟩ | ⟨_, _, _, _, rfl⟩ | ⟨_, _, _, _, rfl⟩ | ⟨_, _, _, _, rfl⟩ <;> decide
theorem all2_mem {sub : S28 → DT → Prop} {fs : List S30} {ds : List DF} (h : All2 (FD sub) fs ds) : ∀ f ∈ ds, ∃ T1, sub T1 f.type := by
 induction h with
 | nil => intro f hf; cases hf
 | cons h1 _ ih =>
  intro f hf
  rcases List.mem_cons.mp hf with rfl | hf
  ·obtain ⟨n, T, t, _, rfl, h2, _⟩ := h1
   exact ⟨T, h2⟩
  ·exact ih f hf
theorem TDs.form {sub : S28 → DT → Prop} {T : S28} {d : DT} (h : TDs sub T d) : (∃ t, d = .zero t ∧ t ∈ zeroT) ∨ (∃ t u, d = .num t u ∧ t ∈ [116, 120, 125, 145]) ∨ (∃ u z, d = .stamp u z) ∨ (∃ t p c, d = .dec t p c ∧ t ∈ [214, 217, 219, 221]) ∨ (∃ t T1 d1, d = .list t (.mk nmItem d1 true) ∧ t ∈ [154, 233, 180, 236] ∧ sub T1 d1) ∨
 (∃ w T1 d1, d = .flist w (.mk nmItem d1 true) ∧ sub T1 d1) ∨ (∃ ds, d = .struct ds ∧ ds.length ≤ 100 ∧ ∀ f ∈ ds, ∃ T1, sub T1 f.type) ∨ (∃ K V dk dv fl, d = .map (.mk nmEntries (.struct [.mk nmKey dk false, .mk nmValue dv true]) false) fl ∧ sub K dk ∧ sub V dv ∧ ∃ E, sub E (.struct [.mk nmKey dk false, .mk nmValue dv true])) ∨
 (∃ t ds ids, d = .union t ds ids ∧ t ∈ [224, 226] ∧ 0 < ds.length ∧ ds.length ≤ 100 ∧ ids.length = ds.length ∧ (∀ x ∈ ids, 0 ≤ x ∧ x ≤ 126) ∧ ids.Nodup ∧ ∀ f ∈ ds, ∃ T1, sub T1 f.type) ∨ (∃ R V dr dv, d = .ree dr dv true ∧ sub R dr ∧ sub V dv) ∨ (∃ I V di dv fl, d = .dict di dv fl ∧ sub I di ∧ sub V dv) := by
 cases h with
 | zero k w s u t h1 => exact .inl ⟨t, rfl, zt_mem h1⟩
 | time u t h1 =>
  refine .inr (.inl ⟨t, u, rfl, ?_⟩)
  simp only [timeTab, List.mem_cons, Prod.mk.injEq, List.not_mem_nil, or_false] at h1
  rcases h1 with ⟨_, rfl⟩ | ⟨_, rfl⟩ | ⟨_, rfl⟩ | ⟨_, rfl⟩ <;> decide
 | stamp u z h0 h1 h2 => exact .inr (.inr (.inl ⟨u, z, rfl⟩))
 | dur u h0 h1 => exact .inr (.inl ⟨125, u, rfl, by decide⟩)
 | dec w t p c h1 h0 h2 h3 h4 =>
  refine .inr (.inr (.inr (.inl ⟨t, p, c, rfl, ?_⟩)))
  simp only [decTab, List.mem_cons, Prod.mk.injEq, List.not_mem_nil, or_false] at h1
  rcases h1 with ⟨_, rfl⟩ | ⟨_, rfl⟩ | ⟨_, rfl⟩ | ⟨_, rfl⟩ <;> decide
 | fsb w h0 h1 => exact .inr (.inl ⟨145, w, rfl, by decide⟩)
 | list k t T d h1 hs =>
  refine .inr (.inr (.inr (.inr (.inl ⟨t, T, d, rfl, ?_, hs⟩))))
  simp only [listTab, List.mem_cons, Prod.mk.injEq, List.not_mem_nil, or_false] at h1
  rcases h1 with ⟨_, rfl⟩ | ⟨_, rfl⟩ | ⟨_, rfl⟩ | ⟨_, rfl⟩ <;> decide
 | flist w T d h0 h1 hs => exact .inr (.inr (.inr (.inr (.inr (.inl ⟨w, T, d, rfl, hs⟩)))))
 | struct fs ds h1 hl => exact .inr (.inr (.inr (.inr (.inr (.inr (.inl ⟨ds, rfl, by rw [← h1.length]; exact hl, all2_mem h1⟩))))))
 | entries K V dk dv hk hv =>
  refine .inr (.inr (.inr (.inr (.inr (.inr (.inl ⟨_, rfl, by simp, ?_⟩))))))
  intro f hf
  simp only [List.mem_cons, List.not_mem_nil, or_false] at hf
  rcases hf with rfl | rfl
  ·exact ⟨K, hk⟩
  ·exact ⟨V, hv⟩
 | map K V dk dv fl he hk hv => exact .inr (.inr (.inr (.inr (.inr (.inr (.inr (.inl ⟨K, V, dk, dv, fl, rfl, hk, hv, _, he⟩)))))))
 | union u t fs ds ids h1 hf h0 hl hi hr hd =>
  refine .inr (.inr (.inr (.inr (.inr (.inr (.inr (.inr (.inl ⟨t, ds, ids, rfl, ?_, by rw [← hf.length]; exact h0, by rw [← hf.length]; exact hl, by rw [← hf.length]; exact hi, hr, hd, all2_mem hf⟩))))))))
  simp only [unionTab, List.mem_cons, Prod.mk.injEq, List.not_mem_nil, or_false] at h1
  rcases h1 with ⟨_, rfl⟩ | ⟨_, rfl⟩ <;> decide
 | ree R V dr dv hr hv => exact .inr (.inr (.inr (.inr (.inr (.inr (.inr (.inr (.inr (.inl ⟨R, V, dr, dv, rfl, hr, hv⟩)))))))))
 | dict I V di dv fl hi hv => exact .inr (.inr (.inr (.inr (.inr (.inr (.inr (.inr (.inr (.inr ⟨I, V, di, dv, fl, rfl, hi, hv⟩)))))))))
theorem alloc_size_ (w : World) (o : Obj) : (w.alloc o).heap.size = w.heap.size + 1 := by first | (simp; done) | (show (w.heap.push _).size = _; simp)
def OptAt (w : World) (A : Option Addr) (m : Nat) : Prop := (m = 0 ∧ A = none) ∨ (m = 1 ∧ ∃ g, A = some ⟨g, 0, none⟩ ∧ w.heap[g]? = some (.cells #[.func (.func 74) #[] #[]] 70 (0, 0)))
theorem OptAt.below {w w' : World} {A : Option Addr} {m : Nat} (h : OptAt w A m) (hb : Below w.heap.size w w') : OptAt w' A m := by
 rcases h with h | ⟨h0, g, h1, h2⟩
 ·exact .inl h
 ·exact .inr ⟨h0, g, h1, blk_below h2 hb⟩
def Tells (e : Ending) (p : Prop) : Prop := ∃ b, e = .returned (.bool b) ∧ (b = true ↔ p)
theorem tells_no {p : Prop} (h : ¬ p) : Tells (.returned (.bool false)) p := ⟨false, rfl, fun e => (by cases e), fun e => absurd e h⟩
theorem tells_yes {p : Prop} (h : p) : Tells (.returned (.bool true)) p := ⟨true, rfl, fun _ => h, fun _ => rfl⟩
def FsAt (w : World) (ok : Nat → Prop) (A : Option Addr) (fs : List DF) : Prop := 0 < fs.length → ∃ b, ∃ arr : Array Value, A = some ⟨b, 0, none⟩ ∧ ok b ∧ w.heap[b]? = some (.cells arr 61 (0, 0)) ∧ DFsIn w ok fs arr.toList
def CsAt (w : World) (ok : Nat → Prop) (A : Option Addr) (codes : List Int) : Prop := 0 < codes.length → ∃ b, ∃ arr : Array Value, A = some ⟨b, 0, none⟩ ∧ ok b ∧ w.heap[b]? = some (.cells arr 170 (0, 0)) ∧ ∀ (j : Nat) (x : Int), codes[j]? = some x → arr[j]? = some (Value.int .i8 x)
theorem dfs_at {W : World} {ok : Nat → Prop} : ∀ {fs : List DF} {l : List Value}, DFsIn W ok fs l → ∀ (j : Nat) (hj : j < fs.length), ∃ x, DTIn W ok fs[j].type x ∧ l[j * 5]? = some (.string fs[j].name) ∧ l[j * 5 + 1]? = some x ∧ l[j * 5 + 2]? = some (.bool fs[j].null) ∧ l[j * 5 + 3]? = some (.slice none 0 0) ∧ l[j * 5 + 4]? = some (.slice none 0 0)
 | [], _, _, j, hj => absurd hj (by simp)
 | f :: r, l, h, j, hj => by
  obtain ⟨c, rest, rfl, hf, hr⟩ := h
  obtain ⟨n, ty, b⟩ := f
  obtain ⟨x, rfl, hx⟩ := hf
  cases j with
  | zero => exact ⟨x, hx, rfl, rfl, rfl, rfl, rfl⟩
  | succ j =>
   obtain ⟨y, h0, h1, h2, h3, h4, h5⟩ := dfs_at hr j (by simpa using hj)
   refine ⟨y, h0, ?_, ?_, ?_, ?_, ?_⟩
   all_goals
    first
     | (rw [show (j + 1) * 5 = j * 5 + 5 from by omega]; exact h1)
     | (rw [show (j + 1) * 5 + 1 = (j * 5 + 1) + 5 from by omega]; exact h2)
     | (rw [show (j + 1) * 5 + 2 = (j * 5 + 2) + 5 from by omega]; exact h3)
     | (rw [show (j + 1) * 5 + 3 = (j * 5 + 3) + 5 from by omega]; exact h4)
     | (rw [show (j + 1) * 5 + 4 = (j * 5 + 4) + 5 from by omega]; exact h5)
theorem FsAt.get {w : World} {ok : Nat → Prop} {A : Option Addr} {fs : List DF} (h : FsAt w ok A fs) (j : Nat) (hj : j < fs.length) : ∃ b x, A = some ⟨b, 0, none⟩ ∧ DTIn w ok fs[j].type x ∧ w.cell? ⟨b, j * 5, none⟩ = some (.string fs[j].name) ∧ w.cell? ⟨b, j * 5 + 1, none⟩ = some x ∧ w.cell? ⟨b, j * 5 + 2, none⟩ = some (.bool fs[j].null) ∧ w.cell? ⟨b, j * 5 + 3, none⟩ = some (.slice none 0 0) ∧ w.cell? ⟨b, j * 5 + 4, none⟩ = some (.slice none 0 0) := by
 obtain ⟨b, arr, hA, _, hb, hr⟩ := h (by omega)
 obtain ⟨x, h0, h1, h2, h3, h4, h5⟩ := dfs_at hr j hj
 refine ⟨b, x, hA, h0, ?_, ?_, ?_, ?_, ?_⟩
 ·rw [blk_cell hb, ← h1, Array.getElem?_toList]
 ·rw [blk_cell hb, ← h2, Array.getElem?_toList]
 ·rw [blk_cell hb, ← h3, Array.getElem?_toList]
 ·rw [blk_cell hb, ← h4, Array.getElem?_toList]
 ·rw [blk_cell hb, ← h5, Array.getElem?_toList]
theorem FsAt.below {w w' : World} {ok : Nat → Prop} {A : Option Addr} {fs : List DF} (h : FsAt w ok A fs) (hb : Below w.heap.size w w') : FsAt w' ok A fs := fun h0 => by
 obtain ⟨b, arr, hA, hk, hg, hr⟩ := h h0
 exact ⟨b, arr, hA, hk, blk_below hg hb, DFsIn.step (fun k q cells hk' hlt _ hc => ⟨blk_below hc hb, hk'⟩) hr⟩
theorem CsAt.below {w w' : World} {ok : Nat → Prop} {A : Option Addr} {fs : List Int} (h : CsAt w ok A fs) (hb : Below w.heap.size w w') : CsAt w' ok A fs := fun h0 => by
 obtain ⟨b, arr, hA, hk, hg, hr⟩ := h h0
 exact ⟨b, arr, hA, hk, blk_below hg hb, hr⟩
theorem CsAt.get {w : World} {ok : Nat → Prop} {A : Option Addr} {cs : List Int} (h : CsAt w ok A cs) (j : Nat) (hj : j < cs.length) : ∃ b, A = some ⟨b, 0, none⟩ ∧ w.cell? ⟨b, j, none⟩ = some (.int .i8 cs[j]) := by
 obtain ⟨b, arr, hA, _, hb, hr⟩ := h (by omega)
 exact ⟨b, hA, by rw [blk_cell hb]; exact hr j _ (List.getElem?_eq_getElem hj)⟩
end Go.Proofs.YteebgnhhjlgnjaaGreatDoor.V
