/- What TypeEqual asks of unions. -/
import Derived.Test.YteebgnhhjlgnjaaGreatDoorD0
import Derived.Test.YteebgnhhjlgnjaaGreatDoorE2
import Derived.Laws.CopyRow
import Derived.Laws.CopyOwn
import Derived.Test.YteebgnhhjlgnjaaGreatDoorUN1
namespace Go.Proofs.YteebgnhhjlgnjaaGreatDoor.V
open Go.RowKit Go.Proofs.YteebgnhhjlgnjaaGreatDoorW.PrintWords Go.Proofs.YteebgnhhjlgnjaaGreatDoorW.PrintLast Go.Proofs.YteebgnhhjlgnjaaGreatDoorW.PrintMore
set_option maxHeartbeats 40000000
set_option maxRecDepth 100000
set_option linter.unusedVariables false
set_option linter.unusedSimpArgs false
theorem codes118 (g : Nat) (B : Option Addr) (m e : Nat) (w : World) (h : w.cell? ⟨g, 1, none⟩ = some (.slice B m e)) : Calls Tryz.prog 118 #[.pointer (some ⟨g, 0, none⟩)] w fun e' w' => e' = .returned (.slice B m e) ∧ Below w.heap.size w w' := by
 go_enter Tryz.func118, Tryz.ntmps118
 go_wp2
 go_ret
 exact ⟨rfl, bl⟩
theorem ids324 (g : Nat) (w : World) : Calls Tryz.prog 324 #[.pointer (some ⟨g, 0, none⟩)] w fun e' w' => e' = .returned (.slice (some ⟨g, 2, none⟩) 128 128) ∧ Below w.heap.size w w' := by
 go_enter Tryz.func324, Tryz.ntmps324
 go_wp2
 go_ret
 exact ⟨rfl, bl⟩
theorem eq71 (fs fs' : List Int) (g g' : Nat) (w : World) (hl : fs.length = 128) (hl' : fs'.length = 128) (hA : ∀ (i : Nat) (hi : i < fs.length), w.cell? ⟨g, 2 + i, none⟩ = some (.int .i64 fs[i])) (hA' : ∀ (i : Nat) (hi : i < fs'.length), w.cell? ⟨g', 2 + i, none⟩ = some (.int .i64 fs'[i])) :
 Calls Tryz.prog 71 #[.slice (some ⟨g, 2, none⟩) 128 128, .slice (some ⟨g', 2, none⟩) 128 128] w fun e w' => Tells e (fs = fs') ∧ Below w.heap.size w w' := by
 have HC := Aside0.mk (And.intro hA hA')
 have HL := Aside0.mk (And.intro hl hl')
 clear hA hA' hl hl'
 go_enter Tryz.func71, Tryz.ntmps71
 go_wp2
 go_loopg [13] 128 (fun kq v13 wr => ∃ i : Nat, v13 = .int .i64 (i : Int) ∧ Aside0 (i + kq = 128 ∧ Below w.heap.size w wr ∧ ∀ (j : Nat) (hj : j < fs.length) (hj' : j < fs'.length), j < i → fs[j] = fs'[j]))
 case atStart => exact ⟨0, by first | rfl | simp, ⟨⟨by omega, Below.refl _ _, fun j hj hj' h => absurd h (by omega)⟩⟩⟩
 case round =>
  obtain ⟨i, rfl, HR⟩ := hrel
  by_cases hi : i < 128
  ·have hd : decide ((i : Int) < 128) = true := decide_eq_true (by omega)
   have hi1 : i < fs.length := by have := HL.out.1; omega
   have hi' : i < fs'.length := by have := HL.out.2; omega
   have e1 : wrap64 ((i : Int) + 1) = ((i + 1 : Nat) : Int) := by rw [w64_id _ (by omega) (by omega)]; omega
   have E1 := Aside0.mk e1
   clear e1
   have y0 := pw_cell_below HR.out.2.1 (HC.out.1 i hi1)
   have z0 := pw_cell_below HR.out.2.1 (HC.out.2 i hi')
   obtain ⟨u, hu⟩ : ∃ u, u = fs[i] := ⟨_, rfl⟩
   obtain ⟨u', hu'⟩ : ∃ u, u = fs'[i] := ⟨_, rfl⟩
   rw [← hu] at y0
   rw [← hu'] at z0
   have HI := Aside0.mk (And.intro hi1 (And.intro hi' (And.intro hu hu')))
   have qi : (i < 128) = True := eq_true hi
   have qi' : ((i : Int) < 128) = True := eq_true (by omega)
   clear hu hu'
   by_cases hc : u = u'
   rotate_left
   ·have HNE := Aside0.mk hc
    have q5 : (u != u') = true := by simpa using hc
    have q6 : decide (u = u') = false := decide_eq_false hc
    clear hc
    go_upto_region 6 with fail
    refine start_ (n := 9) (S := fun w' => w'.cell? ⟨g, 2 + i, none⟩ = some (.int .i64 u) ∧ w'.cell? ⟨g', 2 + i, none⟩ = some (.int .i64 u')) (ds := []) (ba 9 0) (by kernel_rfl) rfl rfl ⟨y0, z0⟩ (fun hHeld => ?_)
    generalize hw_ : wr.drew = u0 at hHeld ⊢
    have Hu0 := Aside0.mk (show Below wr.heap.size wr u0 from by rw [← hw_]; exact b3_ (Below.refl _ _))
    clear hw_
    clear y0 z0
    have Su0 := Aside0.mk hHeld
    refine pu 0 16 1 ?_
    refine pu 1 17 3 ?_
    refine pu 2 18 7 ?_
    refine ta 3 19 15 ?_
    refine pu 4 20 31 ?_
    refine pu 5 21 63 ?_
    refine pu 6 22 127 ?_
    refine ta 7 23 255 ?_
    refine pu 8 24 511 ?_
    refine done_ (by kernel_rfl) ?_
    clear hHeld
    have HW := Aside0.mk (below_step HR.out.2.1 Hu0.out)
    go_wp2
    go_ret
    exact ⟨tells_no (fun h => HNE.out (by rw [HI.out.2.2.1, HI.out.2.2.2]; simp only [h])), HW.out⟩
   have HEQ := Aside0.mk hc
   subst hc
   go_upto_region 6 with fail
   refine start_ (n := 9) (S := fun w' => w'.cell? ⟨g, 2 + i, none⟩ = some (.int .i64 u) ∧ w'.cell? ⟨g', 2 + i, none⟩ = some (.int .i64 u)) (ds := []) (ba 9 0) (by kernel_rfl) rfl rfl ⟨y0, z0⟩ (fun hHeld => ?_)
   generalize hw_ : wr.drew = u0 at hHeld ⊢
   have Hu0 := Aside0.mk (show Below wr.heap.size wr u0 from by rw [← hw_]; exact b3_ (Below.refl _ _))
   clear hw_
   clear y0 z0
   have Su0 := Aside0.mk hHeld
   refine pu 0 16 1 ?_
   refine pu 1 17 3 ?_
   refine pu 2 18 7 ?_
   refine ta 3 19 15 ?_
   refine pu 4 20 31 ?_
   refine pu 5 21 63 ?_
   refine pu 6 22 127 ?_
   refine ta 7 23 255 ?_
   refine pu 8 24 511 ?_
   refine done_ (by kernel_rfl) ?_
   clear hHeld
   have HW := Aside0.mk (below_step HR.out.2.1 Hu0.out)
   go_wp2
   go_roundg (128 - (i + 1))
   case measure => have := HR.out.1; omega
   case rel =>
    refine ⟨i + 1, by first | (rw [E1.out]) | go_num, ⟨⟨by have := HR.out.1; omega, HW.out, fun j hj hj' hlt => ?_⟩⟩⟩
    by_cases hji : j < i
    ·exact HR.out.2.2 j hj hj' hji
    ·have e : j = i := by omega
     subst e
     rw [← HI.out.2.2.1, ← HI.out.2.2.2]
  ·have hd : decide ((i : Int) < 128) = false := decide_eq_false (by omega)
   have HF := Aside0.mk (show fs = fs' from List.ext_getElem (HL.out.1.trans HL.out.2.symm) (fun j hj hj' => HR.out.2.2 j hj hj' (by have := HL.out.1; omega)))
   go_wp2
   go_ret
   exact ⟨tells_yes HF.out, HR.out.2.1⟩
theorem copy5 (w : World) (g n dCap sCap : Nat) (a : Addr) (cur : Array Value) (t : TypeId) (cs : List Value) (hg : w.heap[g]? = some (.cells cur t (0, 0))) (hn : cs.length = n * 5)
 (hsrc : ∀ j v, cs[j]? = some v → w.cell? (a.add j) = some v) (hfit : cs.length ≤ cur.size) (h1 : ∀ v ∈ cs, v.oneCell' = true) :
 (Builtin.copy_ #[79, 79] 3 #[.slice (some ⟨g, 0, none⟩) n dCap, .slice (some a) n sCap]).run Tryz.prog w = .ok (goInt n) (w.setRow g (cs ++ cur.toList.drop cs.length).toArray) := by
 have hl := run_loadCells_list (P := Tryz.prog) w a cs hsrc
 have hst := run_storeCells_at Tryz.prog g 0 t cs 0 cur w hg (by simpa using hfit) h1
 obtain ⟨i0, hi, hz, hs, hb⟩ := info_parts61
 rw [hn] at hl
 simp [Builtin.copy_, run_underlying Tryz.underlying79, Builtin.lenOf, Builtin.firstCells, sizeOf, typeInfo, hi, hs, hl]
 have hst2 : (storeCells ⟨g, 0, none⟩ cs).run Tryz.prog w = .ok () (w.setRow g (cs ++ cur.toList.drop (n * 5)).toArray) := by simpa [hn] using hst
 rw [hst2, hn]
 rfl
theorem dfs_one {W : World} {ok : Nat → Prop} : ∀ {fs : List DF} {l : List Value}, DFsIn W ok fs l → ∀ u ∈ l.take (fs.length * 5), u.oneCell' = true
 | [], l, _, u, hu => by simp at hu
 | f :: r, l, h, u, hu => by
  obtain ⟨c, rest, rfl, hf, hr⟩ := h
  have hc := hf.len
  rw [show (f :: r).length * 5 = c.length + r.length * 5 from by rw [hc]; simp; omega, List.take_append] at hu
  rcases List.mem_append.mp hu with hu | hu
  ·exact hf.one u (List.mem_of_mem_take hu)
  ·exact dfs_one hr u (by simpa using hu)
theorem dfs_len {W : World} {ok : Nat → Prop} : ∀ {fs : List DF} {l : List Value}, DFsIn W ok fs l → fs.length * 5 ≤ l.length
 | [], l, _ => by simp
 | f :: r, l, h => by
  obtain ⟨c, rest, rfl, hf, hr⟩ := h
  have hc := hf.len
  have := dfs_len hr
  simp
  omega
theorem dfs_take {W : World} {ok : Nat → Prop} : ∀ {fs : List DF} {l : List Value}, DFsIn W ok fs l → DFsIn W ok fs (l.take (fs.length * 5))
 | [], l, _ => trivial
 | f :: r, l, h => by
  obtain ⟨c, rest, rfl, hf, hr⟩ := h
  have hc := hf.len
  refine ⟨c, rest.take (r.length * 5), ?_, hf, dfs_take hr⟩
  rw [show (f :: r).length * 5 = c.length + r.length * 5 from by rw [hc]; simp; omega, List.take_append]
  simp
  exact List.take_of_length_le (by omega)
theorem fields119 (g c : Nat) (A : Option Addr) (fs : List DF) (ok : Nat → Prop) (w : World) (h0 : 0 < fs.length) (hl : fs.length ≤ 100) (h : w.cell? ⟨g, 0, none⟩ = some (.slice A fs.length c)) (hF : FsAt w ok A fs) : Calls Tryz.prog 119 #[.pointer (some ⟨g, 0, none⟩)] w fun e' w' => (e' = .returned (.slice (some ⟨w.heap.size, 0, none⟩) fs.length fs.length) ∧ ∀ b, A = some ⟨b, 0, none⟩ → ∀ k v, k < fs.length * 5 → w.cell? ⟨b, k, none⟩ = some v → w'.cell? ⟨w.heap.size, k, none⟩ = some v) ∧ Below w.heap.size w w' := by
 obtain ⟨b, arr, rfl, hk, hb, hr⟩ := hF h0
 obtain ⟨n, hn⟩ : ∃ n, n = fs.length := ⟨_, rfl⟩
 obtain ⟨cs, hcs⟩ : ∃ cs, cs = arr.toList.take (fs.length * 5) := ⟨_, rfl⟩
 have hlen := dfs_len hr
 have hcl : cs.length = n * 5 := by rw [hcs, List.length_take, hn]; omega
 have hone : ∀ v ∈ cs, v.oneCell' = true := by rw [hcs]; exact dfs_one hr
 have hD : DFsIn w ok fs cs := by rw [hcs]; exact dfs_take hr
 have hsrc : ∀ j v, cs[j]? = some v → w.cell? ((⟨b, 0, none⟩ : Addr).add j) = some v := fun j v hv => by
  have e0 : (⟨b, 0, none⟩ : Addr).add j = ⟨b, j, none⟩ := by simp [Addr.add]; omega
  rw [e0, blk_cell hb, ← Array.getElem?_toList]
  rw [hcs] at hv
  have hj : j < fs.length * 5 := by
   have := List.getElem?_eq_some_iff.mp hv
   obtain ⟨h1, _⟩ := this
   rw [List.length_take] at h1
   omega
  rwa [List.getElem?_take_of_lt hj] at hv
 have HBK := Aside0.mk (show ∀ k v, k < n * 5 → w.cell? ⟨b, k, none⟩ = some v → cs[k]? = some v from fun k v hk hv => by rw [hcs, List.getElem?_take_of_lt (by rw [← hn]; exact hk), Array.getElem?_toList, ← blk_cell hb]; exact hv)
 have hmk := make61 n (by omega) w
 rw [← hn] at h ⊢
 have HN := Aside0.mk (And.intro hn hl)
 clear hF hr hlen hl h0 hcs hb hn hk
 go_enter Tryz.func119, Tryz.ntmps119
 go_upto_region 2 with fail
 clear hmk
 refine wp_at ?_
 intro w1 hw1
 have hb1 : Below w.heap.size w w1 := by rw [hw1]; exact (Below.refl _ _).alloc (Nat.le_refl _) _
 have hk1 : w1.heap[w.heap.size]? = some (.cells (madeCells #[.string ⟨#[]⟩, .nilIface, .bool false, .slice none 0 0, .slice none 0 0] (n * 5)) 61 (0, 0)) := by rw [hw1]; exact blk_new _ _
 clear hw1
 have hcp := copy5 w1 w.heap.size n n c ⟨b, 0, none⟩ _ 61 cs hk1 hcl (fun j v hv => pw_cell_below hb1 (hsrc j v hv)) (by rw [size_madeCells]; omega) hone
 replace h := pw_cell_below hb1 h
 have hnil : (madeCells #[.string ⟨#[]⟩, .nilIface, .bool false, .slice none 0 0, .slice none 0 0] (n * 5)).toList.drop cs.length = [] := List.drop_eq_nil_of_le (by rw [Array.length_toList, size_madeCells]; omega)
 rw [hnil, List.append_nil] at hcp
 have HB := Aside0.mk (And.intro hb1 (And.intro hk1 hD))
 clear hnil hk1 hb1 hD hsrc hone
 go_wp2
 go_ret
 have hr := setRow_heap w1 w.heap.size _ cs.toArray 61 (0, 0) HB.out.2.1
 refine ⟨⟨rfl, fun b' e k v hk hv => ?_⟩, below_setRow HB.out.1 (Nat.le_refl _) _⟩
 obtain rfl : b = b' := by injection e with e; injection e
 rw [blk_cell hr k]
 simpa using HBK.out k v hk hv
theorem modev_224 (a : Addr) (w : World) (v : Value) (h : (loadVar 260 a).run Tryz.prog w = .ok v w) : Sem.run Tryz.prog (method 429 224 (.pointer (some a)) "Mode") w = .ok (103, v) w := by
 have e : Sem.run Tryz.prog (method 429 224 (.pointer (some a)) "Mode") w = (Sem.run Tryz.prog (loadVar 260 a) w).andThen (fun x w' => .ok (103, x) w') := by
  have h1 : method 429 224 (.pointer (some a)) "Mode" = (do
   let info ← typeInfo 224
   let some m := info.methods.find? (·.name == "Mode") | stuck "invoke: the dynamic type lacks the method"
   let (xt, x) ← follow m.path.toList 224 (.val (.pointer (some a)))
   match m.func with
   | none => match ← x.get xt with
    | .iface t' v' => method 428 t' v' "Mode"
    | .nilIface => runtimePanic .nilDeref
    | _ => stuck "method row: interface value expected"
   | some (f, pointerReceiver) => pure (f, ← receiverAt xt x pointerReceiver (if m.path.isEmpty then some (("Mode".splitOn ".").getLastD "Mode") else none))) := rfl
  rw [h1]
  have hf : Tryz.t224.methods.find? (·.name == "Mode") = some { name := "Mode", sig := 172, path := #[], func := some (103, false) } := by kernel_rfl
  have hi : Tryz.prog.info? 224 = some Tryz.t224 := by kernel_rfl
  have hn : ∀ s, Builtin.ssaWrapNilChk_ #[224] 224 #[.pointer (some a), strVal "", strVal s] = pure (.pointer (some a)) := fun s => rfl
  simp [typeInfo, hi, hf, follow, receiverAt, run_underlying Tryz.underlying224, Place.get, hn, asAddr]
  done
 rw [e, h]
 rfl
theorem modev_226 (a : Addr) (w : World) (v : Value) (h : (loadVar 263 a).run Tryz.prog w = .ok v w) : Sem.run Tryz.prog (method 429 226 (.pointer (some a)) "Mode") w = .ok (105, v) w := by
 have e : Sem.run Tryz.prog (method 429 226 (.pointer (some a)) "Mode") w = (Sem.run Tryz.prog (loadVar 263 a) w).andThen (fun x w' => .ok (105, x) w') := by
  have h1 : method 429 226 (.pointer (some a)) "Mode" = (do
   let info ← typeInfo 226
   let some m := info.methods.find? (·.name == "Mode") | stuck "invoke: the dynamic type lacks the method"
   let (xt, x) ← follow m.path.toList 226 (.val (.pointer (some a)))
   match m.func with
   | none => match ← x.get xt with
    | .iface t' v' => method 428 t' v' "Mode"
    | .nilIface => runtimePanic .nilDeref
    | _ => stuck "method row: interface value expected"
   | some (f, pointerReceiver) => pure (f, ← receiverAt xt x pointerReceiver (if m.path.isEmpty then some (("Mode".splitOn ".").getLastD "Mode") else none))) := rfl
  rw [h1]
  have hf : Tryz.t226.methods.find? (·.name == "Mode") = some { name := "Mode", sig := 172, path := #[], func := some (105, false) } := by kernel_rfl
  have hi : Tryz.prog.info? 226 = some Tryz.t226 := by kernel_rfl
  have hn : ∀ s, Builtin.ssaWrapNilChk_ #[226] 226 #[.pointer (some a), strVal "", strVal s] = pure (.pointer (some a)) := fun s => rfl
  simp [typeInfo, hi, hf, follow, receiverAt, run_underlying Tryz.underlying226, Place.get, hn, asAddr]
  done
 rw [e, h]
 rfl
def modeN (u : Nat) : Int := if u = 224 then 2 else 3
def ModeAt (u : Nat) (g : Nat) (w : World) : Prop := ∃ f x, Sem.run Tryz.prog (method 429 u (.pointer (some ⟨g, 0, none⟩)) "Mode") w = .ok (f, x) w ∧ (callFunc f #[x]).run Tryz.prog w = .ok (Next.enter f #[x]) w ∧ Calls Tryz.prog f #[x] w (fun e w' => e = .returned (.int .i8 (modeN u)) ∧ Below w.heap.size w w')
theorem mode_at {u g : Nat} {w : World} {cs : Array Value} (hu : u = 224 ∨ u = 226) (h : w.heap[g]? = some (.cells cs (elT u) (0, 0))) (hs : cs.size = 130) : ModeAt u g w := by
 rcases hu with rfl | rfl
 ·exact ⟨103, _, modev_224 _ w _ (run_loadVar_row w g 260 260 cs (0, 0) _ h Tryz.underlying260 rfl (by rw [hs]; kernel_rfl)), by kernel_rfl, mode103 _ w⟩
 ·exact ⟨105, _, modev_226 _ w _ (run_loadVar_row w g 263 263 cs (0, 0) _ h Tryz.underlying263 rfl (by rw [hs]; kernel_rfl)), by kernel_rfl, mode105 _ w⟩
theorem ids_at {u : Nat} (hu : u = 224 ∨ u = 226) (g : Nat) (w : World) : Sem.run Tryz.prog (method 429 u (.pointer (some ⟨g, 0, none⟩)) "ChildIDs") w = .ok (324, .pointer (some ⟨g, 0, none⟩)) w := by
 rcases hu with rfl | rfl <;> kernel_rfl
theorem fields_at {u : Nat} (hu : u = 224 ∨ u = 226) (g : Nat) (w : World) : Sem.run Tryz.prog (method 429 u (.pointer (some ⟨g, 0, none⟩)) "Fields") w = .ok (119, .pointer (some ⟨g, 0, none⟩)) w := by
 rcases hu with rfl | rfl <;> kernel_rfl
theorem codes_at {u : Nat} (hu : u = 224 ∨ u = 226) (g : Nat) (w : World) : Sem.run Tryz.prog (method 429 u (.pointer (some ⟨g, 0, none⟩)) "TypeCodes") w = .ok (118, .pointer (some ⟨g, 0, none⟩)) w := by
 rcases hu with rfl | rfl <;> kernel_rfl
theorem cf324 (x : Value) (w : World) : (callFunc 324 #[x]).run Tryz.prog w = .ok (Next.enter 324 #[x]) w := by kernel_rfl
theorem cf119 (x : Value) (w : World) : (callFunc 119 #[x]).run Tryz.prog w = .ok (Next.enter 119 #[x]) w := by kernel_rfl
theorem cf118 (x : Value) (w : World) : (callFunc 118 #[x]).run Tryz.prog w = .ok (Next.enter 118 #[x]) w := by kernel_rfl
theorem inv_ {ρ : Operand → Value} {o : Oper} {recv : Operand} {name : String} {t : TypeId} {v x : Value} {f : FuncId} {w : World} (hop : o.op = .call { callee := .invoke recv name, args := #[], argTypes := #[] }) (hr : ρ recv = .iface t v)
 (hm : Sem.run Tryz.prog (method 429 t v name) w = .ok (f, x) w) (hc : (callFunc f #[x]).run Tryz.prog w = .ok (Next.enter f #[x]) w) : (execOp ρ o).run Tryz.prog w = .ok (.enter f #[x]) w := by
 unfold execOp
 simp [hop, resolve, invoke, callMethod, hr]
 rw [show 329 + Made.depth = 429 from by kernel_rfl, hm]
 exact hc
theorem child_spec {ids : List Int} (hd : ids.Nodup) (c i : Nat) : childOf ids c = (i : Int) ↔ ids[i]? = some (c : Int) := by
 unfold childOf
 constructor
 ·intro h
  split at h
  ·rename_i j hj
   have : j = i := by exact_mod_cast h
   subst this
   obtain ⟨hl, hp, _⟩ := List.findIdx?_eq_some_iff_getElem.mp hj
   rw [List.getElem?_eq_getElem hl]
   simpa using hp
  ·exact absurd h (by omega)
 ·intro h
  obtain ⟨hl, he⟩ := List.getElem?_eq_some_iff.mp h
  have : ids.findIdx? (· == (c : Int)) = some i := by
   rw [List.findIdx?_eq_some_iff_getElem]
   refine ⟨hl, by simp [he], fun j hji => ?_⟩
   have hne : ids[j] ≠ ids[i] := List.pairwise_iff_getElem.mp hd j i (by omega) hl hji
   simpa [he] using hne
  rw [this]
theorem ids_of_row {ids ids' : List Int} (hd : ids.Nodup) (hd' : ids'.Nodup) (hr : ∀ x ∈ ids, 0 ≤ x ∧ x ≤ 126) (hr' : ∀ x ∈ ids', 0 ≤ x ∧ x ≤ 126) (h : (List.range 128).map (fun c => childOf ids c) = (List.range 128).map (fun c => childOf ids' c)) : ids = ids' := by
 have key : ∀ c < 128, childOf ids c = childOf ids' c := fun c hc => by
  have := congrArg (fun l : List Int => l[c]?) h
  simpa [hc] using this
 refine List.ext_getElem? fun i => ?_
 cases e : ids[i]? with
 | some x =>
  have hx := hr x (List.mem_of_getElem? e)
  have h1 : childOf ids x.toNat = (i : Int) := (child_spec hd _ _).mpr (by rw [e]; congr 1; omega)
  rw [key _ (by omega)] at h1
  rw [(child_spec hd' _ _).mp h1]
  congr 1
  omega
 | none =>
  cases e' : ids'[i]? with
  | none => rfl
  | some x =>
   have hx := hr' x (List.mem_of_getElem? e')
   have h1 : childOf ids' x.toNat = (i : Int) := (child_spec hd' _ _).mpr (by rw [e']; congr 1; omega)
   rw [← key _ (by omega)] at h1
   rw [(child_spec hd _ _).mp h1] at e
   cases e
section
variable {P : Program} {md : Region.Mode} {ops : Array Oper} {Q : Exit → Act → World → Prop} {S : World → Prop} {ds : List Nat} {n m fuel : Nat} {oi : Oper} {v : Value} {a a' : Act} {w : World} {l : Array Bool}
theorem rn : AllReadyL P md ops Q S ds fuel l a w [] := AllReadyL.nil
theorem rb (i N M : Nat) {rs : List Nat} (o : Obj) (hk : Kept S) (hs : S w) (h : ∀ w', w'.heap.size = w.heap.size + 1 → w'.heap[w.heap.size]? = some o → S w' → Below w.heap.size w w' → wpAnyLast P md ops Q S ds fuel (ba n M) (a.put (some N) (.pointer (some ⟨w.heap.size, 0, none⟩))) w')
 (hr : AllReadyL P md ops Q S ds fuel (ba n m) a w rs) (hi : ops[i]? = some oi := by exact rfl) (hN : oi.dst = some N := by exact rfl)
 (hl : (ba n m).setIfInBounds i true = ba n M := by kernel_rfl) (hd : i ∉ ds := by decide) (hw : Region.wanted oi (yielded ops a.tmps) = true := by rfl) (hrun : (execOp a.eval oi).run P w = .ok (.value (.pointer (some ⟨w.heap.size, 0, none⟩))) (w.alloc o) := by first | (go_simp; done) | (go_simp; rfl)) : AllReadyL P md ops Q S ds fuel (ba n m) a w (i :: rs) :=
 ra i N M o hk hs (fun h1 h2 => h _ (alloc_size_ _ _) (blk_new _ _) h1 h2) hr hi hN hl hd hw hrun
theorem sb (i M : Nat) {l0 : List Nat} {ty t : TypeId} {x y : Operand} (g : Nat) {old : Array Value} (cells : Array Value) (hg : w.heap[g]? = some (.cells old t (0, 0))) (hsz : (P.info? ty).map (·.size) = some cells.size) (ho : old.size = cells.size) (h1 : cells.all (·.oneCell') = true)
 (hs' : S (w.setRow g cells)) (h : wpAnyLast P md ops Q S ds fuel (ba n M) a (w.setRow g cells))
 (hr : AllReadyL P md ops Q S ds fuel (ba n m) a w l0) (hi : ops[i]? = some oi := by exact rfl) (hN : oi.dst = none := by exact rfl)
 (hl : (ba n m).setIfInBounds i true = ba n M := by kernel_rfl) (hd : i ∉ ds := by decide) (hw : Region.wanted oi (yielded ops a.tmps) = true := by rfl) (hop : oi.op = .store ty x y := by exact rfl) (hx : a.eval x = .pointer (some ⟨g, 0, none⟩) := by rfl) (hy : a.eval y = .agg cells := by rfl) : AllReadyL P md ops Q S ds fuel (ba n m) a w (i :: l0) := by
 refine rs i M (w.setRow g cells) ?_ hs' h hr hi hN hl hd hw
 have hr := run_storeVar_row (P := P) w g t ty old cells hg hsz ho h1
 unfold execOp
 simp only [hop, hx, hy, Instr.storeAt, Instr.sureAddr, Sem.run_bind, Sem.run_pure, Result.andThen_ok, hr]
theorem mp (S' : World → Prop) (hS : S' w) (h : Kept S' → S' w → wpAnyLast P md ops Q S' [] fuel l a w)
 (hk : Kept S' := by refine ⟨fun _ _ hb hs => ?_⟩; (repeat (obtain ⟨_, hs⟩ := hs)); (repeat' apply And.intro) <;> first | exact pw_cell_below hb (by assumption) | exact below_step (by assumption) hb | exact blk_below (by assumption) hb)
 (himp : ∀ w, S' w → S w := by intro w' hs; (repeat (obtain ⟨_, hs⟩ := hs)); (repeat' apply And.intro) <;> assumption) : wpAnyLast P md ops Q S [] fuel l a w := more_ himp hS (h hk hS)
theorem jn {σ : Type} (fuel' M' : Nat) (ns : σ → List (Tmp × Value)) (F : σ → World → Prop) (S' : σ → World → Prop)
 (hcont : ∀ s w', F s w' → wpAnyLast P md ops Q (S' s) ds fuel' (ba n M') (putAll a (ns s)) w')
 (h : (∀ s w', F s w' → wpAnyLast P md ops Q (S' s) ds fuel' (ba n M') (putAll a (ns s)) w') → wpAnyLast P md ops Q S ds fuel l a w) : wpAnyLast P md ops Q S ds fuel l a w := h hcont
end
theorem one61 (nm : ByteArray) (q : TypeId) (p : Value) (nb : Bool) : (#[.string nm, .iface q p, .bool nb, .slice none 0 0, .slice none 0 0] : Array Value).all (·.oneCell') = true := by simp [Value.oneCell']
theorem cell_setRow {w : World} {b g k : Nat} {v : Value} (cs : Array Value) (hne : b ≠ g) (h : w.cell? ⟨b, k, none⟩ = some v) : (w.setRow g cs).cell? ⟨b, k, none⟩ = some v := by
 have e := setRow_other w g b cs hne
 obtain ⟨o, ho⟩ : ∃ o, w.heap[b]? = some o := ⟨_, Array.getElem?_eq_getElem (World.block_lt_of_cell? w _ h)⟩
 rw [← h]
 unfold World.cell?
 simp [e]
end Go.Proofs.YteebgnhhjlgnjaaGreatDoor.V
