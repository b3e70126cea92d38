/- FnSchemaAdd: a field that is added at a place stands there, all others before and behind it; a place that there is not is refused; the card. -/
import Derived.Test.YteebgnhhjlgnjaaGreatDoorTie
import Derived.Test.YteebgnhhjlgnjaaGreatDoorCards
import Derived.Test.YteebgnhhjlgnjaaGreatDoorB18
import Derived.Test.YteebgnhhjlgnjaaGreatDoorRE
import Derived.Lib.LaidU8T
import Derived.Lib.LaidIn
import Derived.WalkKit
import Derived.ProofKit
import Derived.OpenShut
import Derived.ShutString
import Derived.ChangeOld
import Derived.ChangeVars
import Derived.WalkSmall
import Derived.Below
import Derived.SizedLaws
import Derived.LaidMore
import Derived.Lay
import Derived.Stop.Joined
import Derived.SevenTiedAt
namespace Go.Proofs.YteebgnhhjlgnjaaGreatDoor.fnSchemaAdd
open Go.ChangeShapes Go.WideShapes Go.ChangeAt Go.RowKit Go.Shelf Go.Lib
set_option maxHeartbeats 40000000
set_option maxRecDepth 100000
set_option linter.unusedVariables false
theorem own : ownKnob Tryz.prog.godebug = none := by kernel_rfl
theorem laidOut : laidOutB Tryz.prog = true := by kernel_rfl
theorem accept_eq : (Rows.laid_unicode_utf8_acceptRanges : DataW Unit) = acceptData := by kernel_rfl
theorem first_eq : Rows.laid_unicode_utf8_first = firstData := by kernel_rfl
theorem tabs {W : World} (h : laidMet Tryz.prog Rows.fnSchemaAddRow.laid W) : V.Tabs W :=
 utf8Tabs_of_readsT (U8Types.of196 V.Tryz_laysValid) ⟨by kernel_rfl, by kernel_rfl, by kernel_rfl, by kernel_rfl, by kernel_rfl, by kernel_rfl, by kernel_rfl⟩ (first_eq ▸ Lib.laidMet.reads h (.tail _ (.head _))) (accept_eq ▸ Lib.laidMet.reads h (.head _))
theorem lifted (os : Os) (started : os.Started) (H : Type) (enc : TypeId × Value → H) :
 ReturnsInHanded {} Tryz.checked os 3 .any (fun w args => (Rows.fnSchemaAddSpec.pre enc Tryz.prog Tryz.f3 [] false w args ∧ laidMetH Tryz.prog Rows.fnSchemaAddRow.laid w) ∧ sizedMet enc Tryz.prog Tryz.f3 (OpenSpec.ofChange Rows.fnSchemaAddSpec) false w args) (Rows.fnSchemaAddSpec.post enc Tryz.prog Tryz.f3 false true false false) := by
 refine returnsInHanded_of_change_and (C := Tryz.checked) (X := fun w _ => laidMetH Tryz.prog Rows.fnSchemaAddRow.laid w) (fun _ _ _ hh h => h.of_heap hh) own started (by kernel_rfl) Tryz.func3
  (ChangeSpec.witness_shaped (enc := enc) (C := Tryz.checked) (os := os) (X := fun w _ => laidMetH Tryz.prog Rows.fnSchemaAddRow.laid w) false (World.laidAll Tryz.prog os Rows.fnSchemaAddRow.laid) #[.agg #[.slice none 0 0, .slice none 0 0], .int .i64 0, .agg #[.string ⟨#[]⟩, .bool false, .int .i64 0, .int .i64 0, .bool false, .int .i64 0, .int .i64 0, .int .i64 0, .string ⟨#[]⟩, .bool false, .slice none 0 0, .slice none 0 0, .slice none 0 0]] 8 (World.laidAll_os _ _ _)
   (World.shaped_of_ZipB (by kernel_rfl) (by kernel_rfl)) (by kernel_rfl) (by kernel_rfl) (by kernel_rfl)
   (by rw [MakeChecks.laidMetH_plain _ _ _ (by kernel_rfl)]; exact laidMet_laidAll _ (by kernel_rfl) (by kernel_rfl))) ?_
 intro W base args ds gs before hval0 hW hcnd hsz0 hL _
 have hval : ∀ (j : Nat) t v, Tryz.f3.params[j]? = some t → args[j]? = some v → Value.okWide Tryz.prog W .any base t v := hval0
 have hW' := hW
 obtain ⟨p, q, hA0, hV0, rfl, hfz, hnd⟩ := hW
 have hA : DataW.TrodAll enc Tryz.prog W 0 (fun _ => true) true Tryz.f3.params.toList args.toList ds p := hA0
 rw [Tryz.params3] at hA hval
 obtain ⟨v0, vs0, d0, ds0, p0, q0, hargs, rfl, rfl, h0, r0⟩ := trodAll_cons hA
 obtain ⟨v1, vs1, d1, ds1, p1, q1, rfl, rfl, rfl, h1, r1⟩ := trodAll_cons r0
 obtain ⟨v2, vs2, d2, ds2, p2, q2, rfl, rfl, rfl, h2, r2⟩ := trodAll_cons r1
 obtain ⟨rfl, rfl, rfl⟩ := trodAll_nil r2
 obtain rfl : args = #[v0, v1, v2] := by cases args; simp_all
 obtain ⟨rfl, rfl⟩ := trodVars_none hV0
 rw [MakeChecks.laidMetH_plain _ _ _ (by kernel_rfl)] at hL
 have hT := tabs hL
 have k0 := h0
 have lt0 : ∀ x ∈ p0, x.block < W.heap.size := by obtain ⟨m, hm⟩ := k0; exact DataW.trod_lt m _ _ _ hm
 obtain ⟨⟨c0⟩, rfl, _⟩ := okWide_struct Tryz.underlying25 (hval 0 25 v0 rfl rfl)
 obtain ⟨fs0, mm0, A90, c90, Am0, cm0, e0, l90, g90, lm0, gm0, hS0⟩ := (show ∃ (fs : List V.S30) (mm : List V.S73) (A9 : Option Addr) (c9 : Nat) (Am : Option Addr) (cm : Nat), c0 = [.slice A9 fs.length c9, .slice Am mm.length cm] ∧ fs.length ≤ c9 ∧ V.k30.C W A9 fs.length fs ∧ mm.length ≤ cm ∧ V.k73.C W Am mm.length mm ∧ ∀ f ∈ fs, f.f0.size ≤ 9223372036854775807 ∧ V.SzT f.f2 from by obtain ⟨m, hm⟩ := h0; exact V.read25 hm)
 obtain rfl : c0 = _ := e0
 have k1 := h1
 have lt1 : ∀ x ∈ p1, x.block < W.heap.size := by obtain ⟨m, hm⟩ := k1; exact DataW.trod_lt m _ _ _ hm
 obtain ⟨a1, rfl⟩ := okWide_int Tryz.underlying3 (hval 1 3 v1 rfl rfl)
 have k2 := h2
 have lt2 : ∀ x ∈ p2, x.block < W.heap.size := by obtain ⟨m, hm⟩ := k2; exact DataW.trod_lt m _ _ _ hm
 obtain ⟨⟨c2⟩, rfl, _⟩ := okWide_struct Tryz.underlying30 (hval 2 30 v2 rfl rfl)
 obtain ⟨f2, hK2, hn2, hS2⟩ := (show ∃ f : V.S30, V.k30.K W f c2 ∧ (f.f0.size ≤ 9223372036854775807 ∧ V.SzT f.f2) from by obtain ⟨m, hm⟩ := h2; exact V.read30 (fun n _ cs x h => V.read28 n cs x h) hm)
 obtain ⟨A102, c102, A112, c112, A122, c122, e2, l102, g102, l112, g112, l122, g122⟩ := V.k30_open hK2
 obtain rfl : c2 = _ := e2
 clear hA0 hV0 hval0 hsz0
 refine (V.law3 fs0 mm0 f2.f0 f2.f1 f2.f2 f2.f3 a1 W A90 Am0 A102 A112 A122 c90 cm0 c102 c112 c122 hT hS0 hS2 hn2 g90 l90 gm0 g102 l102 g112 l112 l122 g122).mono fun e W' ⟨he, bel⟩ => ?_
 subst he
 exact ⟨_, rfl, _, _, _, [], _, [], hW', trodAll_mk1 (shut_bool Tryz.underlying4 _), (trodAll_cons_mk (Below.trod laidOut (by kernel_rfl) (of_decide_eq_true (by kernel_rfl)) k0 bel lt0) (trodAll_cons_mk (Below.trod laidOut (by kernel_rfl) (of_decide_eq_true (by kernel_rfl)) k1 bel lt1) (trodAll_cons_mk (Below.trod laidOut (by kernel_rfl) (of_decide_eq_true (by kernel_rfl)) k2 bel lt2) trodAll_mk0))), rfl, bel.frame _, fun h => by cases h⟩
theorem over : Rows.FnSchemaAddSaid :=
 OpenClaim.holds_of_wide 3 Tryz.f3 rfl rfl rfl rfl rfl rfl rfl ⟨rfl, rfl, rfl, rfl, rfl⟩ rfl rfl rfl rfl rfl (by kernel_rfl) Tryz.func3 (by kernel_rfl)
  (of_decide_eq_true (by kernel_rfl)) (by unfold Func.isWrapper; first | (rw [if_pos (by decide +kernel)]; kernel_rfl) | (rw [if_neg (by decide +kernel)]; exact ⟨rfl, rfl⟩))
  (fun os started H enc _ => lifted os started H enc)
end Go.Proofs.YteebgnhhjlgnjaaGreatDoor.fnSchemaAdd
namespace Go.Proofs.YteebgnhhjlgnjaaGreatDoor
theorem fnSchemaAdd_card : Rows.FnSchemaAddCardSaid :=
 Claim7.holds_tied_plain_at .later [] [.data, .pinned] true (true, "067e6af085d9fb4b3d38b97ae67318ec8355bffc21ff69cd29125d29f45aa49f") true
  fnSchemaAdd.over (fun _ h => by cases h) (by kernel_rfl) (fun _ h => by cases h) fnSchemaAdd_row_tie rfl ⟨rfl, rfl⟩ (by kernel_rfl) rfl
  (fun f fn hf hfn => by
   obtain rfl : f = 3 := Option.some.inj ((show Tryz.prog.funcNamed "given.example/pub-fletching/laws.FnSchemaAdd" = some 3 by kernel_rfl).symm.trans hf) |>.symm
   obtain rfl : fn = Tryz.f3 := (Option.some.inj (Tryz.func3.symm.trans hfn)).symm
   exact ⟨by kernel_rfl, fun j t ht => by
    rw [Tryz.params3] at ht
    have hm : t ∈ [25, 3, 30] := by simpa using Array.mem_of_getElem? ht
    have hall : ([25, 3, 30].all fun u => !Tryz.prog.wantsStandIn u) = true := by kernel_rfl
    exact (show Tryz.prog.wantsStandIn t = false by simpa using List.all_eq_true.1 hall t hm)⟩)
  (by kernel_rfl)
end Go.Proofs.YteebgnhhjlgnjaaGreatDoor
