/- deepType. -/
import Derived.Test.YteebgnhhjlgnjaaGreatDoorD0
import Derived.Test.YteebgnhhjlgnjaaGreatDoorDN
namespace Go.Proofs.YteebgnhhjlgnjaaGreatDoor.V
open Go.RowKit Go.Proofs.YteebgnhhjlgnjaaGreatDoorW.PrintWords Go.Proofs.YteebgnhhjlgnjaaGreatDoorW.PrintLast Go.Proofs.YteebgnhhjlgnjaaGreatDoorW.PrintMore
set_option maxHeartbeats 40000000
set_option maxRecDepth 100000
set_option linter.unusedVariables false
set_option linter.unusedSimpArgs false
theorem dp_145 (n : Nat) (hD : DpC n) (hF : FdC n) (T T' : S28) (d d' : DT) (v v' : Value) (w : World) (ok ok' : Nat → Prop) (hT : TD (n + 1) T d) (hT' : TD (n + 1) T' d') (hI : DTIn w ok d v) (hI' : DTIn w ok' d' v') (hdis : ∀ k, ok k → ok' k → False) (ht : tyN d = 145) (ht' : tyN d' = 145) :
 Calls Tryz.prog 73 #[v, v'] w fun e w' => Tells e (d = d') ∧ Below w.heap.size w w' := by
 obtain ⟨P, hP⟩ : ∃ P : Prop, P = (d = d') := ⟨_, rfl⟩
 rw [← hP]
 obtain ⟨u, rfl⟩ := TDs.num_of (show TDs (TD n) T d from hT) ht (by decide)
 obtain ⟨u', rfl⟩ := TDs.num_of (show TDs (TD n) T' d' from hT') ht' (by decide)
 simp only [DTIn, ptrAt] at hI hI'
 obtain ⟨_, g, rfl, hk, hg⟩ := hI
 obtain ⟨_, g', rfl, hk', hg'⟩ := hI'
 have HP := Aside0.mk (show P ↔ u = u' from by rw [hP]; simp)
 clear hP hD hF hdis hT hT' ht ht'
 have y0 : w.cell? ⟨g, 0, none⟩ = some (.int .i64 u) := (blk_cell hg 0).trans rfl
 have z0 : w.cell? ⟨g', 0, none⟩ = some (.int .i64 u') := (blk_cell hg' 0).trans rfl
 clear hg hg' hk hk'
 have hy : ∀ W, (Instr.typeAssert (.iface 145 (.pointer (some ⟨g, 0, none⟩))) 56 145 true).run Tryz.prog W = .ok (.tuple #[.pointer (some ⟨g, 0, none⟩), .bool true]) W := asy_145 _
 have hy' : ∀ W, (Instr.typeAssert (.iface 145 (.pointer (some ⟨g', 0, none⟩))) 56 145 true).run Tryz.prog W = .ok (.tuple #[.pointer (some ⟨g', 0, none⟩), .bool true]) W := asy_145 _
 by_cases hm0 : u = u'
 rotate_left
 ·have qb : (u == u') = false := by simpa using hm0
  have HM := Aside0.mk hm0
  clear hm0
  go_enter Tryz.func73, Tryz.ntmps73
  go_wp2_with (go_at_call 253; fail)
  refine (idc_145 _ _).mono ?_
  rintro e w1 ⟨rfl, hw1⟩
  rw [hw1]
  clear hw1
  go_wp2_with (go_at_call 253; fail)
  refine (idc_145 _ _).mono ?_
  rintro e w1 ⟨rfl, hw1⟩
  rw [hw1]
  clear hw1
  go_upto_region 9 with fail
  refine start_ (n := 13) (S := fun w' => w'.cell? ⟨g, 0, none⟩ = some (.int .i64 u) ∧ w'.cell? ⟨g', 0, none⟩ = some (.int .i64 u')) (ds := []) (ba 13 0) (by kernel_rfl) rfl rfl ⟨y0, z0⟩ (fun hHeld => ?_)
  generalize hw_ : w.drew = u0 at hHeld ⊢
  have Hu0 := Aside0.mk (show Below w.heap.size w u0 from by rw [← hw_]; exact b3_ (Below.refl _ _))
  clear hw_
  clear y0 z0
  have Su0 := Aside0.mk hHeld
  refine pu 0 61 1 ?_
  refine pu 1 62 3 ?_
  refine pu 2 63 7 ?_
  refine pu 3 64 15 ?_
  refine pu 4 65 31 ?_
  refine ta 5 66 63 ?_
  refine pu 6 67 127 ?_
  refine pu 7 68 255 ?_
  refine pu 8 69 511 ?_
  refine ta 9 70 1023 ?_
  refine pu 10 71 2047 ?_
  refine pu 11 72 4095 ?_
  refine pu 12 4 8191 ?_
  refine done_ (by kernel_rfl) ?_
  clear hHeld
  go_wp2
  go_ret
  exact ⟨tells_no (fun h => HM.out (HP.out.1 h)), Hu0.out⟩
 have HM0 := Aside0.mk hm0
 rw [← hm0] at z0
 clear hm0
 go_enter Tryz.func73, Tryz.ntmps73
 go_wp2_with (go_at_call 253; fail)
 refine (idc_145 _ _).mono ?_
 rintro e w1 ⟨rfl, hw1⟩
 rw [hw1]
 clear hw1
 go_wp2_with (go_at_call 253; fail)
 refine (idc_145 _ _).mono ?_
 rintro e w1 ⟨rfl, hw1⟩
 rw [hw1]
 clear hw1
 go_upto_region 9 with fail
 refine start_ (n := 13) (S := fun w' => w'.cell? ⟨g, 0, none⟩ = some (.int .i64 u) ∧ w'.cell? ⟨g', 0, none⟩ = some (.int .i64 u)) (ds := []) (ba 13 0) (by kernel_rfl) rfl rfl ⟨y0, z0⟩ (fun hHeld => ?_)
 generalize hw_ : w.drew = u0 at hHeld ⊢
 have Hu0 := Aside0.mk (show Below w.heap.size w u0 from by rw [← hw_]; exact b3_ (Below.refl _ _))
 clear hw_
 clear y0 z0
 have Su0 := Aside0.mk hHeld
 refine pu 0 61 1 ?_
 refine pu 1 62 3 ?_
 refine pu 2 63 7 ?_
 refine pu 3 64 15 ?_
 refine pu 4 65 31 ?_
 refine ta 5 66 63 ?_
 refine pu 6 67 127 ?_
 refine pu 7 68 255 ?_
 refine pu 8 69 511 ?_
 refine ta 9 70 1023 ?_
 refine pu 10 71 2047 ?_
 refine pu 11 72 4095 ?_
 refine pu 12 4 8191 ?_
 refine done_ (by kernel_rfl) ?_
 clear hHeld
 go_wp2
 go_ret
 exact ⟨tells_yes (HP.out.2 HM0.out), Hu0.out⟩
theorem dp_116 (n : Nat) (hD : DpC n) (hF : FdC n) (T T' : S28) (d d' : DT) (v v' : Value) (w : World) (ok ok' : Nat → Prop) (hT : TD (n + 1) T d) (hT' : TD (n + 1) T' d') (hI : DTIn w ok d v) (hI' : DTIn w ok' d' v') (hdis : ∀ k, ok k → ok' k → False) (ht : tyN d = 116) (ht' : tyN d' = 116) :
 Calls Tryz.prog 73 #[v, v'] w fun e w' => Tells e (d = d') ∧ Below w.heap.size w w' := by
 obtain ⟨P, hP⟩ : ∃ P : Prop, P = (d = d') := ⟨_, rfl⟩
 rw [← hP]
 obtain ⟨u, rfl⟩ := TDs.num_of (show TDs (TD n) T d from hT) ht (by decide)
 obtain ⟨u', rfl⟩ := TDs.num_of (show TDs (TD n) T' d' from hT') ht' (by decide)
 simp only [DTIn, ptrAt] at hI hI'
 obtain ⟨_, g, rfl, hk, hg⟩ := hI
 obtain ⟨_, g', rfl, hk', hg'⟩ := hI'
 have HP := Aside0.mk (show P ↔ u = u' from by rw [hP]; simp)
 clear hP hD hF hdis hT hT' ht ht'
 have y0 : w.cell? ⟨g, 0, none⟩ = some (.int .i64 u) := (blk_cell hg 0).trans rfl
 have z0 : w.cell? ⟨g', 0, none⟩ = some (.int .i64 u') := (blk_cell hg' 0).trans rfl
 clear hg hg' hk hk'
 have hn145 := (asn_145 116 (.pointer (some ⟨g, 0, none⟩)) (by decide)).o
 have hy : ∀ W, (Instr.typeAssert (.iface 116 (.pointer (some ⟨g, 0, none⟩))) 56 116 true).run Tryz.prog W = .ok (.tuple #[.pointer (some ⟨g, 0, none⟩), .bool true]) W := asy_116 _
 have hy' : ∀ W, (Instr.typeAssert (.iface 116 (.pointer (some ⟨g', 0, none⟩))) 56 116 true).run Tryz.prog W = .ok (.tuple #[.pointer (some ⟨g', 0, none⟩), .bool true]) W := asy_116 _
 by_cases hm0 : u = u'
 rotate_left
 ·have qb : (u == u') = false := by simpa using hm0
  have HM := Aside0.mk hm0
  clear hm0
  go_enter Tryz.func73, Tryz.ntmps73
  go_wp2_with (go_at_call 195; fail)
  refine (idc_116 _ _).mono ?_
  rintro e w1 ⟨rfl, hw1⟩
  rw [hw1]
  clear hw1
  go_wp2_with (go_at_call 195; fail)
  refine (idc_116 _ _).mono ?_
  rintro e w1 ⟨rfl, hw1⟩
  rw [hw1]
  clear hw1
  go_upto_region 13 with fail
  refine start_ (n := 13) (S := fun w' => w'.cell? ⟨g, 0, none⟩ = some (.int .i64 u) ∧ w'.cell? ⟨g', 0, none⟩ = some (.int .i64 u')) (ds := []) (ba 13 0) (by kernel_rfl) rfl rfl ⟨y0, z0⟩ (fun hHeld => ?_)
  generalize hw_ : w.drew = u0 at hHeld ⊢
  have Hu0 := Aside0.mk (show Below w.heap.size w u0 from by rw [← hw_]; exact b3_ (Below.refl _ _))
  clear hw_
  clear y0 z0
  have Su0 := Aside0.mk hHeld
  refine pu 0 81 1 ?_
  refine pu 1 82 3 ?_
  refine pu 2 83 7 ?_
  refine pu 3 84 15 ?_
  refine pu 4 85 31 ?_
  refine ta 5 86 63 ?_
  refine pu 6 87 127 ?_
  refine pu 7 88 255 ?_
  refine pu 8 89 511 ?_
  refine ta 9 90 1023 ?_
  refine pu 10 91 2047 ?_
  refine pu 11 92 4095 ?_
  refine pu 12 4 8191 ?_
  refine done_ (by kernel_rfl) ?_
  clear hHeld
  go_wp2
  go_ret
  exact ⟨tells_no (fun h => HM.out (HP.out.1 h)), Hu0.out⟩
 have HM0 := Aside0.mk hm0
 rw [← hm0] at z0
 clear hm0
 go_enter Tryz.func73, Tryz.ntmps73
 go_wp2_with (go_at_call 195; fail)
 refine (idc_116 _ _).mono ?_
 rintro e w1 ⟨rfl, hw1⟩
 rw [hw1]
 clear hw1
 go_wp2_with (go_at_call 195; fail)
 refine (idc_116 _ _).mono ?_
 rintro e w1 ⟨rfl, hw1⟩
 rw [hw1]
 clear hw1
 go_upto_region 13 with fail
 refine start_ (n := 13) (S := fun w' => w'.cell? ⟨g, 0, none⟩ = some (.int .i64 u) ∧ w'.cell? ⟨g', 0, none⟩ = some (.int .i64 u)) (ds := []) (ba 13 0) (by kernel_rfl) rfl rfl ⟨y0, z0⟩ (fun hHeld => ?_)
 generalize hw_ : w.drew = u0 at hHeld ⊢
 have Hu0 := Aside0.mk (show Below w.heap.size w u0 from by rw [← hw_]; exact b3_ (Below.refl _ _))
 clear hw_
 clear y0 z0
 have Su0 := Aside0.mk hHeld
 refine pu 0 81 1 ?_
 refine pu 1 82 3 ?_
 refine pu 2 83 7 ?_
 refine pu 3 84 15 ?_
 refine pu 4 85 31 ?_
 refine ta 5 86 63 ?_
 refine pu 6 87 127 ?_
 refine pu 7 88 255 ?_
 refine pu 8 89 511 ?_
 refine ta 9 90 1023 ?_
 refine pu 10 91 2047 ?_
 refine pu 11 92 4095 ?_
 refine pu 12 4 8191 ?_
 refine done_ (by kernel_rfl) ?_
 clear hHeld
 go_wp2
 go_ret
 exact ⟨tells_yes (HP.out.2 HM0.out), Hu0.out⟩
theorem dp_120 (n : Nat) (hD : DpC n) (hF : FdC n) (T T' : S28) (d d' : DT) (v v' : Value) (w : World) (ok ok' : Nat → Prop) (hT : TD (n + 1) T d) (hT' : TD (n + 1) T' d') (hI : DTIn w ok d v) (hI' : DTIn w ok' d' v') (hdis : ∀ k, ok k → ok' k → False) (ht : tyN d = 120) (ht' : tyN d' = 120) :
 Calls Tryz.prog 73 #[v, v'] w fun e w' => Tells e (d = d') ∧ Below w.heap.size w w' := by
 obtain ⟨P, hP⟩ : ∃ P : Prop, P = (d = d') := ⟨_, rfl⟩
 rw [← hP]
 obtain ⟨u, rfl⟩ := TDs.num_of (show TDs (TD n) T d from hT) ht (by decide)
 obtain ⟨u', rfl⟩ := TDs.num_of (show TDs (TD n) T' d' from hT') ht' (by decide)
 simp only [DTIn, ptrAt] at hI hI'
 obtain ⟨_, g, rfl, hk, hg⟩ := hI
 obtain ⟨_, g', rfl, hk', hg'⟩ := hI'
 have HP := Aside0.mk (show P ↔ u = u' from by rw [hP]; simp)
 clear hP hD hF hdis hT hT' ht ht'
 have y0 : w.cell? ⟨g, 0, none⟩ = some (.int .i64 u) := (blk_cell hg 0).trans rfl
 have z0 : w.cell? ⟨g', 0, none⟩ = some (.int .i64 u') := (blk_cell hg' 0).trans rfl
 clear hg hg' hk hk'
 have hn145 := (asn_145 120 (.pointer (some ⟨g, 0, none⟩)) (by decide)).o
 have hn116 := (asn_116 120 (.pointer (some ⟨g, 0, none⟩)) (by decide)).o
 have hy : ∀ W, (Instr.typeAssert (.iface 120 (.pointer (some ⟨g, 0, none⟩))) 56 120 true).run Tryz.prog W = .ok (.tuple #[.pointer (some ⟨g, 0, none⟩), .bool true]) W := asy_120 _
 have hy' : ∀ W, (Instr.typeAssert (.iface 120 (.pointer (some ⟨g', 0, none⟩))) 56 120 true).run Tryz.prog W = .ok (.tuple #[.pointer (some ⟨g', 0, none⟩), .bool true]) W := asy_120 _
 by_cases hm0 : u = u'
 rotate_left
 ·have qb : (u == u') = false := by simpa using hm0
  have HM := Aside0.mk hm0
  clear hm0
  go_enter Tryz.func73, Tryz.ntmps73
  go_wp2_with (go_at_call 199; fail)
  refine (idc_120 _ _).mono ?_
  rintro e w1 ⟨rfl, hw1⟩
  rw [hw1]
  clear hw1
  go_wp2_with (go_at_call 199; fail)
  refine (idc_120 _ _).mono ?_
  rintro e w1 ⟨rfl, hw1⟩
  rw [hw1]
  clear hw1
  go_upto_region 17 with fail
  refine start_ (n := 13) (S := fun w' => w'.cell? ⟨g, 0, none⟩ = some (.int .i64 u) ∧ w'.cell? ⟨g', 0, none⟩ = some (.int .i64 u')) (ds := []) (ba 13 0) (by kernel_rfl) rfl rfl ⟨y0, z0⟩ (fun hHeld => ?_)
  generalize hw_ : w.drew = u0 at hHeld ⊢
  have Hu0 := Aside0.mk (show Below w.heap.size w u0 from by rw [← hw_]; exact b3_ (Below.refl _ _))
  clear hw_
  clear y0 z0
  have Su0 := Aside0.mk hHeld
  refine pu 0 101 1 ?_
  refine pu 1 102 3 ?_
  refine pu 2 103 7 ?_
  refine pu 3 104 15 ?_
  refine pu 4 105 31 ?_
  refine ta 5 106 63 ?_
  refine pu 6 107 127 ?_
  refine pu 7 108 255 ?_
  refine pu 8 109 511 ?_
  refine ta 9 110 1023 ?_
  refine pu 10 111 2047 ?_
  refine pu 11 112 4095 ?_
  refine pu 12 4 8191 ?_
  refine done_ (by kernel_rfl) ?_
  clear hHeld
  go_wp2
  go_ret
  exact ⟨tells_no (fun h => HM.out (HP.out.1 h)), Hu0.out⟩
 have HM0 := Aside0.mk hm0
 rw [← hm0] at z0
 clear hm0
 go_enter Tryz.func73, Tryz.ntmps73
 go_wp2_with (go_at_call 199; fail)
 refine (idc_120 _ _).mono ?_
 rintro e w1 ⟨rfl, hw1⟩
 rw [hw1]
 clear hw1
 go_wp2_with (go_at_call 199; fail)
 refine (idc_120 _ _).mono ?_
 rintro e w1 ⟨rfl, hw1⟩
 rw [hw1]
 clear hw1
 go_upto_region 17 with fail
 refine start_ (n := 13) (S := fun w' => w'.cell? ⟨g, 0, none⟩ = some (.int .i64 u) ∧ w'.cell? ⟨g', 0, none⟩ = some (.int .i64 u)) (ds := []) (ba 13 0) (by kernel_rfl) rfl rfl ⟨y0, z0⟩ (fun hHeld => ?_)
 generalize hw_ : w.drew = u0 at hHeld ⊢
 have Hu0 := Aside0.mk (show Below w.heap.size w u0 from by rw [← hw_]; exact b3_ (Below.refl _ _))
 clear hw_
 clear y0 z0
 have Su0 := Aside0.mk hHeld
 refine pu 0 101 1 ?_
 refine pu 1 102 3 ?_
 refine pu 2 103 7 ?_
 refine pu 3 104 15 ?_
 refine pu 4 105 31 ?_
 refine ta 5 106 63 ?_
 refine pu 6 107 127 ?_
 refine pu 7 108 255 ?_
 refine pu 8 109 511 ?_
 refine ta 9 110 1023 ?_
 refine pu 10 111 2047 ?_
 refine pu 11 112 4095 ?_
 refine pu 12 4 8191 ?_
 refine done_ (by kernel_rfl) ?_
 clear hHeld
 go_wp2
 go_ret
 exact ⟨tells_yes (HP.out.2 HM0.out), Hu0.out⟩
theorem dp_125 (n : Nat) (hD : DpC n) (hF : FdC n) (T T' : S28) (d d' : DT) (v v' : Value) (w : World) (ok ok' : Nat → Prop) (hT : TD (n + 1) T d) (hT' : TD (n + 1) T' d') (hI : DTIn w ok d v) (hI' : DTIn w ok' d' v') (hdis : ∀ k, ok k → ok' k → False) (ht : tyN d = 125) (ht' : tyN d' = 125) :
 Calls Tryz.prog 73 #[v, v'] w fun e w' => Tells e (d = d') ∧ Below w.heap.size w w' := by
 obtain ⟨P, hP⟩ : ∃ P : Prop, P = (d = d') := ⟨_, rfl⟩
 rw [← hP]
 obtain ⟨u, rfl⟩ := TDs.num_of (show TDs (TD n) T d from hT) ht (by decide)
 obtain ⟨u', rfl⟩ := TDs.num_of (show TDs (TD n) T' d' from hT') ht' (by decide)
 simp only [DTIn, ptrAt] at hI hI'
 obtain ⟨_, g, rfl, hk, hg⟩ := hI
 obtain ⟨_, g', rfl, hk', hg'⟩ := hI'
 have HP := Aside0.mk (show P ↔ u = u' from by rw [hP]; simp)
 clear hP hD hF hdis hT hT' ht ht'
 have y0 : w.cell? ⟨g, 0, none⟩ = some (.int .i64 u) := (blk_cell hg 0).trans rfl
 have z0 : w.cell? ⟨g', 0, none⟩ = some (.int .i64 u') := (blk_cell hg' 0).trans rfl
 clear hg hg' hk hk'
 have hn145 := (asn_145 125 (.pointer (some ⟨g, 0, none⟩)) (by decide)).o
 have hn116 := (asn_116 125 (.pointer (some ⟨g, 0, none⟩)) (by decide)).o
 have hn120 := (asn_120 125 (.pointer (some ⟨g, 0, none⟩)) (by decide)).o
 have hy : ∀ W, (Instr.typeAssert (.iface 125 (.pointer (some ⟨g, 0, none⟩))) 56 125 true).run Tryz.prog W = .ok (.tuple #[.pointer (some ⟨g, 0, none⟩), .bool true]) W := asy_125 _
 have hy' : ∀ W, (Instr.typeAssert (.iface 125 (.pointer (some ⟨g', 0, none⟩))) 56 125 true).run Tryz.prog W = .ok (.tuple #[.pointer (some ⟨g', 0, none⟩), .bool true]) W := asy_125 _
 by_cases hm0 : u = u'
 rotate_left
 ·have qb : (u == u') = false := by simpa using hm0
  have HM := Aside0.mk hm0
  clear hm0
  go_enter Tryz.func73, Tryz.ntmps73
  go_wp2_with (go_at_call 207; fail)
  refine (idc_125 _ _).mono ?_
  rintro e w1 ⟨rfl, hw1⟩
  rw [hw1]
  clear hw1
  go_wp2_with (go_at_call 207; fail)
  refine (idc_125 _ _).mono ?_
  rintro e w1 ⟨rfl, hw1⟩
  rw [hw1]
  clear hw1
  go_upto_region 21 with fail
  refine start_ (n := 13) (S := fun w' => w'.cell? ⟨g, 0, none⟩ = some (.int .i64 u) ∧ w'.cell? ⟨g', 0, none⟩ = some (.int .i64 u')) (ds := []) (ba 13 0) (by kernel_rfl) rfl rfl ⟨y0, z0⟩ (fun hHeld => ?_)
  generalize hw_ : w.drew = u0 at hHeld ⊢
  have Hu0 := Aside0.mk (show Below w.heap.size w u0 from by rw [← hw_]; exact b3_ (Below.refl _ _))
  clear hw_
  clear y0 z0
  have Su0 := Aside0.mk hHeld
  refine pu 0 121 1 ?_
  refine pu 1 122 3 ?_
  refine pu 2 123 7 ?_
  refine pu 3 124 15 ?_
  refine pu 4 125 31 ?_
  refine ta 5 126 63 ?_
  refine pu 6 127 127 ?_
  refine pu 7 128 255 ?_
  refine pu 8 129 511 ?_
  refine ta 9 130 1023 ?_
  refine pu 10 131 2047 ?_
  refine pu 11 132 4095 ?_
  refine pu 12 4 8191 ?_
  refine done_ (by kernel_rfl) ?_
  clear hHeld
  go_wp2
  go_ret
  exact ⟨tells_no (fun h => HM.out (HP.out.1 h)), Hu0.out⟩
 have HM0 := Aside0.mk hm0
 rw [← hm0] at z0
 clear hm0
 go_enter Tryz.func73, Tryz.ntmps73
 go_wp2_with (go_at_call 207; fail)
 refine (idc_125 _ _).mono ?_
 rintro e w1 ⟨rfl, hw1⟩
 rw [hw1]
 clear hw1
 go_wp2_with (go_at_call 207; fail)
 refine (idc_125 _ _).mono ?_
 rintro e w1 ⟨rfl, hw1⟩
 rw [hw1]
 clear hw1
 go_upto_region 21 with fail
 refine start_ (n := 13) (S := fun w' => w'.cell? ⟨g, 0, none⟩ = some (.int .i64 u) ∧ w'.cell? ⟨g', 0, none⟩ = some (.int .i64 u)) (ds := []) (ba 13 0) (by kernel_rfl) rfl rfl ⟨y0, z0⟩ (fun hHeld => ?_)
 generalize hw_ : w.drew = u0 at hHeld ⊢
 have Hu0 := Aside0.mk (show Below w.heap.size w u0 from by rw [← hw_]; exact b3_ (Below.refl _ _))
 clear hw_
 clear y0 z0
 have Su0 := Aside0.mk hHeld
 refine pu 0 121 1 ?_
 refine pu 1 122 3 ?_
 refine pu 2 123 7 ?_
 refine pu 3 124 15 ?_
 refine pu 4 125 31 ?_
 refine ta 5 126 63 ?_
 refine pu 6 127 127 ?_
 refine pu 7 128 255 ?_
 refine pu 8 129 511 ?_
 refine ta 9 130 1023 ?_
 refine pu 10 131 2047 ?_
 refine pu 11 132 4095 ?_
 refine pu 12 4 8191 ?_
 refine done_ (by kernel_rfl) ?_
 clear hHeld
 go_wp2
 go_ret
 exact ⟨tells_yes (HP.out.2 HM0.out), Hu0.out⟩
theorem dp_122 (n : Nat) (hD : DpC n) (hF : FdC n) (T T' : S28) (d d' : DT) (v v' : Value) (w : World) (ok ok' : Nat → Prop) (hT : TD (n + 1) T d) (hT' : TD (n + 1) T' d') (hI : DTIn w ok d v) (hI' : DTIn w ok' d' v') (hdis : ∀ k, ok k → ok' k → False) (ht : tyN d = 122) (ht' : tyN d' = 122) :
 Calls Tryz.prog 73 #[v, v'] w fun e w' => Tells e (d = d') ∧ Below w.heap.size w w' := by
 obtain ⟨P, hP⟩ : ∃ P : Prop, P = (d = d') := ⟨_, rfl⟩
 rw [← hP]
 obtain ⟨u, s, rfl⟩ := TDs.stamp_of (show TDs (TD n) T d from hT) ht rfl
 obtain ⟨u', s', rfl⟩ := TDs.stamp_of (show TDs (TD n) T' d' from hT') ht' rfl
 simp only [DTIn, ptrAt] at hI hI'
 obtain ⟨g, rfl, hk, hg⟩ := hI
 obtain ⟨g', rfl, hk', hg'⟩ := hI'
 have HP := Aside0.mk (show P ↔ (u = u' ∧ s = s') from by rw [hP]; simp)
 clear hP hD hF hdis hT hT' ht ht'
 obtain ⟨y0, y1⟩ := cb2 hg
 obtain ⟨z0, z1⟩ := cb2 hg'
 clear hg hg' hk hk'
 have hn145 := (asn_145 122 (.pointer (some ⟨g, 0, none⟩)) (by decide)).o
 have hn116 := (asn_116 122 (.pointer (some ⟨g, 0, none⟩)) (by decide)).o
 have hn120 := (asn_120 122 (.pointer (some ⟨g, 0, none⟩)) (by decide)).o
 have hn125 := (asn_125 122 (.pointer (some ⟨g, 0, none⟩)) (by decide)).o
 have hy : ∀ W, (Instr.typeAssert (.iface 122 (.pointer (some ⟨g, 0, none⟩))) 56 122 true).run Tryz.prog W = .ok (.tuple #[.pointer (some ⟨g, 0, none⟩), .bool true]) W := asy_122 _
 have hy' : ∀ W, (Instr.typeAssert (.iface 122 (.pointer (some ⟨g', 0, none⟩))) 56 122 true).run Tryz.prog W = .ok (.tuple #[.pointer (some ⟨g', 0, none⟩), .bool true]) W := asy_122 _
 by_cases hm0 : u = u'
 rotate_left
 ·have qb : (u == u') = false := by simpa using hm0
  have HM := Aside0.mk hm0
  clear hm0
  go_enter Tryz.func73, Tryz.ntmps73
  go_wp2_with (go_at_call 203; fail)
  refine (idc_122 _ _).mono ?_
  rintro e w1 ⟨rfl, hw1⟩
  rw [hw1]
  clear hw1
  go_wp2_with (go_at_call 203; fail)
  refine (idc_122 _ _).mono ?_
  rintro e w1 ⟨rfl, hw1⟩
  rw [hw1]
  clear hw1
  go_upto_region 25 with fail
  refine start_ (n := 24) (S := fun w' => w'.cell? ⟨g, 0, none⟩ = some (.int .i64 u) ∧ w'.cell? ⟨g, 1, none⟩ = some (.string s) ∧ w'.cell? ⟨g', 0, none⟩ = some (.int .i64 u') ∧ w'.cell? ⟨g', 1, none⟩ = some (.string s')) (ds := []) (ba 24 0) (by kernel_rfl) rfl rfl ⟨y0, y1, z0, z1⟩ (fun hHeld => ?_)
  generalize hw_ : w.drew = u0 at hHeld ⊢
  have Hu0 := Aside0.mk (show Below w.heap.size w u0 from by rw [← hw_]; exact b3_ (Below.refl _ _))
  clear hw_
  clear y0 y1 z0 z1
  have Su0 := Aside0.mk hHeld
  refine pu 0 141 1 ?_
  refine pu 1 142 3 ?_
  refine pu 2 143 7 ?_
  refine pu 3 144 15 ?_
  refine pu 4 145 31 ?_
  refine ta 5 146 63 ?_
  refine pu 6 147 127 ?_
  refine pu 7 148 255 ?_
  refine pu 8 149 511 ?_
  refine ta 9 150 1023 ?_
  refine pu 10 151 2047 ?_
  refine pu 11 152 4095 ?_
  refine pu 12 153 8191 ?_
  refine ou 13 154 16383 ?_
  refine ou 14 155 32767 ?_
  refine ou 15 156 65535 ?_
  refine ou 16 157 131071 ?_
  refine ou 17 158 262143 ?_
  refine ou 18 159 524287 ?_
  refine ou 19 160 1048575 ?_
  refine ou 20 161 2097151 ?_
  refine ou 21 162 4194303 ?_
  refine pu 22 163 8388607 ?_
  refine pu 23 4 16777215 ?_
  refine done_ (by kernel_rfl) ?_
  clear hHeld
  go_wp2
  go_ret
  exact ⟨tells_no (fun h => HM.out (HP.out.1 h).1), Hu0.out⟩
 have HM0 := Aside0.mk hm0
 rw [← hm0] at z0
 clear hm0
 by_cases hm1 : s = s'
 rotate_left
 ·have qb : (s.toList == s'.toList) = false := by rw [beq_eq_false_iff_ne]; exact fun e => hm1 (toList_inj e)
  have HM := Aside0.mk hm1
  clear hm1
  go_enter Tryz.func73, Tryz.ntmps73
  go_wp2_with (go_at_call 203; fail)
  refine (idc_122 _ _).mono ?_
  rintro e w1 ⟨rfl, hw1⟩
  rw [hw1]
  clear hw1
  go_wp2_with (go_at_call 203; fail)
  refine (idc_122 _ _).mono ?_
  rintro e w1 ⟨rfl, hw1⟩
  rw [hw1]
  clear hw1
  go_upto_region 25 with fail
  refine start_ (n := 24) (S := fun w' => w'.cell? ⟨g, 0, none⟩ = some (.int .i64 u) ∧ w'.cell? ⟨g, 1, none⟩ = some (.string s) ∧ w'.cell? ⟨g', 0, none⟩ = some (.int .i64 u) ∧ w'.cell? ⟨g', 1, none⟩ = some (.string s')) (ds := []) (ba 24 0) (by kernel_rfl) rfl rfl ⟨y0, y1, z0, z1⟩ (fun hHeld => ?_)
  generalize hw_ : w.drew = u0 at hHeld ⊢
  have Hu0 := Aside0.mk (show Below w.heap.size w u0 from by rw [← hw_]; exact b3_ (Below.refl _ _))
  clear hw_
  clear y0 y1 z0 z1
  have Su0 := Aside0.mk hHeld
  refine pu 0 141 1 ?_
  refine pu 1 142 3 ?_
  refine pu 2 143 7 ?_
  refine pu 3 144 15 ?_
  refine pu 4 145 31 ?_
  refine ta 5 146 63 ?_
  refine pu 6 147 127 ?_
  refine pu 7 148 255 ?_
  refine pu 8 149 511 ?_
  refine ta 9 150 1023 ?_
  refine pu 10 151 2047 ?_
  refine pu 11 152 4095 ?_
  refine pu 12 153 8191 ?_
  refine pu 13 154 16383 ?_
  refine pu 14 155 32767 ?_
  refine pu 15 156 65535 ?_
  refine ta 16 157 131071 ?_
  refine pu 17 158 262143 ?_
  refine pu 18 159 524287 ?_
  refine pu 19 160 1048575 ?_
  refine ta 20 161 2097151 ?_
  refine pu 21 162 4194303 ?_
  refine pu 22 163 8388607 ?_
  refine pu 23 4 16777215 ?_
  refine done_ (by kernel_rfl) ?_
  clear hHeld
  go_wp2
  go_ret
  exact ⟨tells_no (fun h => HM.out (HP.out.1 h).2), Hu0.out⟩
 have HM1 := Aside0.mk hm1
 rw [← hm1] at z1
 clear hm1
 go_enter Tryz.func73, Tryz.ntmps73
 go_wp2_with (go_at_call 203; fail)
 refine (idc_122 _ _).mono ?_
 rintro e w1 ⟨rfl, hw1⟩
 rw [hw1]
 clear hw1
 go_wp2_with (go_at_call 203; fail)
 refine (idc_122 _ _).mono ?_
 rintro e w1 ⟨rfl, hw1⟩
 rw [hw1]
 clear hw1
 go_upto_region 25 with fail
 refine start_ (n := 24) (S := fun w' => w'.cell? ⟨g, 0, none⟩ = some (.int .i64 u) ∧ w'.cell? ⟨g, 1, none⟩ = some (.string s) ∧ w'.cell? ⟨g', 0, none⟩ = some (.int .i64 u) ∧ w'.cell? ⟨g', 1, none⟩ = some (.string s)) (ds := []) (ba 24 0) (by kernel_rfl) rfl rfl ⟨y0, y1, z0, z1⟩ (fun hHeld => ?_)
 generalize hw_ : w.drew = u0 at hHeld ⊢
 have Hu0 := Aside0.mk (show Below w.heap.size w u0 from by rw [← hw_]; exact b3_ (Below.refl _ _))
 clear hw_
 clear y0 y1 z0 z1
 have Su0 := Aside0.mk hHeld
 refine pu 0 141 1 ?_
 refine pu 1 142 3 ?_
 refine pu 2 143 7 ?_
 refine pu 3 144 15 ?_
 refine pu 4 145 31 ?_
 refine ta 5 146 63 ?_
 refine pu 6 147 127 ?_
 refine pu 7 148 255 ?_
 refine pu 8 149 511 ?_
 refine ta 9 150 1023 ?_
 refine pu 10 151 2047 ?_
 refine pu 11 152 4095 ?_
 refine pu 12 153 8191 ?_
 refine pu 13 154 16383 ?_
 refine pu 14 155 32767 ?_
 refine pu 15 156 65535 ?_
 refine ta 16 157 131071 ?_
 refine pu 17 158 262143 ?_
 refine pu 18 159 524287 ?_
 refine pu 19 160 1048575 ?_
 refine ta 20 161 2097151 ?_
 refine pu 21 162 4194303 ?_
 refine pu 22 163 8388607 ?_
 refine pu 23 4 16777215 ?_
 refine done_ (by kernel_rfl) ?_
 clear hHeld
 go_wp2
 go_ret
 exact ⟨tells_yes (HP.out.2 ⟨HM0.out, HM1.out⟩), Hu0.out⟩
theorem dp_214 (n : Nat) (hD : DpC n) (hF : FdC n) (T T' : S28) (d d' : DT) (v v' : Value) (w : World) (ok ok' : Nat → Prop) (hT : TD (n + 1) T d) (hT' : TD (n + 1) T' d') (hI : DTIn w ok d v) (hI' : DTIn w ok' d' v') (hdis : ∀ k, ok k → ok' k → False) (ht : tyN d = 214) (ht' : tyN d' = 214) :
 Calls Tryz.prog 73 #[v, v'] w fun e w' => Tells e (d = d') ∧ Below w.heap.size w w' := by
 obtain ⟨P, hP⟩ : ∃ P : Prop, P = (d = d') := ⟨_, rfl⟩
 rw [← hP]
 obtain ⟨u, s, rfl⟩ := TDs.dec_of (show TDs (TD n) T d from hT) ht (by decide)
 obtain ⟨u', s', rfl⟩ := TDs.dec_of (show TDs (TD n) T' d' from hT') ht' (by decide)
 simp only [DTIn, ptrAt] at hI hI'
 obtain ⟨_, g, rfl, hk, hg⟩ := hI
 obtain ⟨_, g', rfl, hk', hg'⟩ := hI'
 have HP := Aside0.mk (show P ↔ (u = u' ∧ s = s') from by rw [hP]; simp)
 clear hP hD hF hdis hT hT' ht ht'
 obtain ⟨y0, y1⟩ := cb2 hg
 obtain ⟨z0, z1⟩ := cb2 hg'
 clear hg hg' hk hk'
 have hn145 := (asn_145 214 (.pointer (some ⟨g, 0, none⟩)) (by decide)).o
 have hn116 := (asn_116 214 (.pointer (some ⟨g, 0, none⟩)) (by decide)).o
 have hn120 := (asn_120 214 (.pointer (some ⟨g, 0, none⟩)) (by decide)).o
 have hn125 := (asn_125 214 (.pointer (some ⟨g, 0, none⟩)) (by decide)).o
 have hn122 := (asn_122 214 (.pointer (some ⟨g, 0, none⟩)) (by decide)).o
 have hy : ∀ W, (Instr.typeAssert (.iface 214 (.pointer (some ⟨g, 0, none⟩))) 56 214 true).run Tryz.prog W = .ok (.tuple #[.pointer (some ⟨g, 0, none⟩), .bool true]) W := asy_214 _
 have hy' : ∀ W, (Instr.typeAssert (.iface 214 (.pointer (some ⟨g', 0, none⟩))) 56 214 true).run Tryz.prog W = .ok (.tuple #[.pointer (some ⟨g', 0, none⟩), .bool true]) W := asy_214 _
 by_cases hm0 : u = u'
 rotate_left
 ·have qb : (u == u') = false := by simpa using hm0
  have HM := Aside0.mk hm0
  clear hm0
  go_enter Tryz.func73, Tryz.ntmps73
  go_wp2_with (go_at_call 310; fail)
  refine (idc_214 _ _).mono ?_
  rintro e w1 ⟨rfl, hw1⟩
  rw [hw1]
  clear hw1
  go_wp2_with (go_at_call 310; fail)
  refine (idc_214 _ _).mono ?_
  rintro e w1 ⟨rfl, hw1⟩
  rw [hw1]
  clear hw1
  go_upto_region 29 with fail
  refine start_ (n := 24) (S := fun w' => w'.cell? ⟨g, 0, none⟩ = some (.int .i32 u) ∧ w'.cell? ⟨g, 1, none⟩ = some (.int .i32 s) ∧ w'.cell? ⟨g', 0, none⟩ = some (.int .i32 u') ∧ w'.cell? ⟨g', 1, none⟩ = some (.int .i32 s')) (ds := []) (ba 24 0) (by kernel_rfl) rfl rfl ⟨y0, y1, z0, z1⟩ (fun hHeld => ?_)
  generalize hw_ : w.drew = u0 at hHeld ⊢
  have Hu0 := Aside0.mk (show Below w.heap.size w u0 from by rw [← hw_]; exact b3_ (Below.refl _ _))
  clear hw_
  clear y0 y1 z0 z1
  have Su0 := Aside0.mk hHeld
  refine pu 0 172 1 ?_
  refine pu 1 173 3 ?_
  refine pu 2 174 7 ?_
  refine pu 3 175 15 ?_
  refine pu 4 176 31 ?_
  refine ta 5 177 63 ?_
  refine pu 6 178 127 ?_
  refine pu 7 179 255 ?_
  refine pu 8 180 511 ?_
  refine ta 9 181 1023 ?_
  refine pu 10 182 2047 ?_
  refine pu 11 183 4095 ?_
  refine pu 12 184 8191 ?_
  refine ou 13 185 16383 ?_
  refine ou 14 186 32767 ?_
  refine ou 15 187 65535 ?_
  refine ou 16 188 131071 ?_
  refine ou 17 189 262143 ?_
  refine ou 18 190 524287 ?_
  refine ou 19 191 1048575 ?_
  refine ou 20 192 2097151 ?_
  refine ou 21 193 4194303 ?_
  refine pu 22 194 8388607 ?_
  refine pu 23 4 16777215 ?_
  refine done_ (by kernel_rfl) ?_
  clear hHeld
  go_wp2
  go_ret
  exact ⟨tells_no (fun h => HM.out (HP.out.1 h).1), Hu0.out⟩
 have HM0 := Aside0.mk hm0
 rw [← hm0] at z0
 clear hm0
 by_cases hm1 : s = s'
 rotate_left
 ·have qb : (s == s') = false := by simpa using hm1
  have HM := Aside0.mk hm1
  clear hm1
  go_enter Tryz.func73, Tryz.ntmps73
  go_wp2_with (go_at_call 310; fail)
  refine (idc_214 _ _).mono ?_
  rintro e w1 ⟨rfl, hw1⟩
  rw [hw1]
  clear hw1
  go_wp2_with (go_at_call 310; fail)
  refine (idc_214 _ _).mono ?_
  rintro e w1 ⟨rfl, hw1⟩
  rw [hw1]
  clear hw1
  go_upto_region 29 with fail
  refine start_ (n := 24) (S := fun w' => w'.cell? ⟨g, 0, none⟩ = some (.int .i32 u) ∧ w'.cell? ⟨g, 1, none⟩ = some (.int .i32 s) ∧ w'.cell? ⟨g', 0, none⟩ = some (.int .i32 u) ∧ w'.cell? ⟨g', 1, none⟩ = some (.int .i32 s')) (ds := []) (ba 24 0) (by kernel_rfl) rfl rfl ⟨y0, y1, z0, z1⟩ (fun hHeld => ?_)
  generalize hw_ : w.drew = u0 at hHeld ⊢
  have Hu0 := Aside0.mk (show Below w.heap.size w u0 from by rw [← hw_]; exact b3_ (Below.refl _ _))
  clear hw_
  clear y0 y1 z0 z1
  have Su0 := Aside0.mk hHeld
  refine pu 0 172 1 ?_
  refine pu 1 173 3 ?_
  refine pu 2 174 7 ?_
  refine pu 3 175 15 ?_
  refine pu 4 176 31 ?_
  refine ta 5 177 63 ?_
  refine pu 6 178 127 ?_
  refine pu 7 179 255 ?_
  refine pu 8 180 511 ?_
  refine ta 9 181 1023 ?_
  refine pu 10 182 2047 ?_
  refine pu 11 183 4095 ?_
  refine pu 12 184 8191 ?_
  refine pu 13 185 16383 ?_
  refine pu 14 186 32767 ?_
  refine pu 15 187 65535 ?_
  refine ta 16 188 131071 ?_
  refine pu 17 189 262143 ?_
  refine pu 18 190 524287 ?_
  refine pu 19 191 1048575 ?_
  refine ta 20 192 2097151 ?_
  refine pu 21 193 4194303 ?_
  refine pu 22 194 8388607 ?_
  refine pu 23 4 16777215 ?_
  refine done_ (by kernel_rfl) ?_
  clear hHeld
  go_wp2
  go_ret
  exact ⟨tells_no (fun h => HM.out (HP.out.1 h).2), Hu0.out⟩
 have HM1 := Aside0.mk hm1
 rw [← hm1] at z1
 clear hm1
 go_enter Tryz.func73, Tryz.ntmps73
 go_wp2_with (go_at_call 310; fail)
 refine (idc_214 _ _).mono ?_
 rintro e w1 ⟨rfl, hw1⟩
 rw [hw1]
 clear hw1
 go_wp2_with (go_at_call 310; fail)
 refine (idc_214 _ _).mono ?_
 rintro e w1 ⟨rfl, hw1⟩
 rw [hw1]
 clear hw1
 go_upto_region 29 with fail
 refine start_ (n := 24) (S := fun w' => w'.cell? ⟨g, 0, none⟩ = some (.int .i32 u) ∧ w'.cell? ⟨g, 1, none⟩ = some (.int .i32 s) ∧ w'.cell? ⟨g', 0, none⟩ = some (.int .i32 u) ∧ w'.cell? ⟨g', 1, none⟩ = some (.int .i32 s)) (ds := []) (ba 24 0) (by kernel_rfl) rfl rfl ⟨y0, y1, z0, z1⟩ (fun hHeld => ?_)
 generalize hw_ : w.drew = u0 at hHeld ⊢
 have Hu0 := Aside0.mk (show Below w.heap.size w u0 from by rw [← hw_]; exact b3_ (Below.refl _ _))
 clear hw_
 clear y0 y1 z0 z1
 have Su0 := Aside0.mk hHeld
 refine pu 0 172 1 ?_
 refine pu 1 173 3 ?_
 refine pu 2 174 7 ?_
 refine pu 3 175 15 ?_
 refine pu 4 176 31 ?_
 refine ta 5 177 63 ?_
 refine pu 6 178 127 ?_
 refine pu 7 179 255 ?_
 refine pu 8 180 511 ?_
 refine ta 9 181 1023 ?_
 refine pu 10 182 2047 ?_
 refine pu 11 183 4095 ?_
 refine pu 12 184 8191 ?_
 refine pu 13 185 16383 ?_
 refine pu 14 186 32767 ?_
 refine pu 15 187 65535 ?_
 refine ta 16 188 131071 ?_
 refine pu 17 189 262143 ?_
 refine pu 18 190 524287 ?_
 refine pu 19 191 1048575 ?_
 refine ta 20 192 2097151 ?_
 refine pu 21 193 4194303 ?_
 refine pu 22 194 8388607 ?_
 refine pu 23 4 16777215 ?_
 refine done_ (by kernel_rfl) ?_
 clear hHeld
 go_wp2
 go_ret
 exact ⟨tells_yes (HP.out.2 ⟨HM0.out, HM1.out⟩), Hu0.out⟩
theorem dp_217 (n : Nat) (hD : DpC n) (hF : FdC n) (T T' : S28) (d d' : DT) (v v' : Value) (w : World) (ok ok' : Nat → Prop) (hT : TD (n + 1) T d) (hT' : TD (n + 1) T' d') (hI : DTIn w ok d v) (hI' : DTIn w ok' d' v') (hdis : ∀ k, ok k → ok' k → False) (ht : tyN d = 217) (ht' : tyN d' = 217) :
 Calls Tryz.prog 73 #[v, v'] w fun e w' => Tells e (d = d') ∧ Below w.heap.size w w' := by
 obtain ⟨P, hP⟩ : ∃ P : Prop, P = (d = d') := ⟨_, rfl⟩
 rw [← hP]
 obtain ⟨u, s, rfl⟩ := TDs.dec_of (show TDs (TD n) T d from hT) ht (by decide)
 obtain ⟨u', s', rfl⟩ := TDs.dec_of (show TDs (TD n) T' d' from hT') ht' (by decide)
 simp only [DTIn, ptrAt] at hI hI'
 obtain ⟨_, g, rfl, hk, hg⟩ := hI
 obtain ⟨_, g', rfl, hk', hg'⟩ := hI'
 have HP := Aside0.mk (show P ↔ (u = u' ∧ s = s') from by rw [hP]; simp)
 clear hP hD hF hdis hT hT' ht ht'
 obtain ⟨y0, y1⟩ := cb2 hg
 obtain ⟨z0, z1⟩ := cb2 hg'
 clear hg hg' hk hk'
 have hn145 := (asn_145 217 (.pointer (some ⟨g, 0, none⟩)) (by decide)).o
 have hn116 := (asn_116 217 (.pointer (some ⟨g, 0, none⟩)) (by decide)).o
 have hn120 := (asn_120 217 (.pointer (some ⟨g, 0, none⟩)) (by decide)).o
 have hn125 := (asn_125 217 (.pointer (some ⟨g, 0, none⟩)) (by decide)).o
 have hn122 := (asn_122 217 (.pointer (some ⟨g, 0, none⟩)) (by decide)).o
 have hn214 := (asn_214 217 (.pointer (some ⟨g, 0, none⟩)) (by decide)).o
 have hy : ∀ W, (Instr.typeAssert (.iface 217 (.pointer (some ⟨g, 0, none⟩))) 56 217 true).run Tryz.prog W = .ok (.tuple #[.pointer (some ⟨g, 0, none⟩), .bool true]) W := asy_217 _
 have hy' : ∀ W, (Instr.typeAssert (.iface 217 (.pointer (some ⟨g', 0, none⟩))) 56 217 true).run Tryz.prog W = .ok (.tuple #[.pointer (some ⟨g', 0, none⟩), .bool true]) W := asy_217 _
 by_cases hm0 : u = u'
 rotate_left
 ·have qb : (u == u') = false := by simpa using hm0
  have HM := Aside0.mk hm0
  clear hm0
  go_enter Tryz.func73, Tryz.ntmps73
  go_wp2_with (go_at_call 314; fail)
  refine (idc_217 _ _).mono ?_
  rintro e w1 ⟨rfl, hw1⟩
  rw [hw1]
  clear hw1
  go_wp2_with (go_at_call 314; fail)
  refine (idc_217 _ _).mono ?_
  rintro e w1 ⟨rfl, hw1⟩
  rw [hw1]
  clear hw1
  go_upto_region 33 with fail
  refine start_ (n := 24) (S := fun w' => w'.cell? ⟨g, 0, none⟩ = some (.int .i32 u) ∧ w'.cell? ⟨g, 1, none⟩ = some (.int .i32 s) ∧ w'.cell? ⟨g', 0, none⟩ = some (.int .i32 u') ∧ w'.cell? ⟨g', 1, none⟩ = some (.int .i32 s')) (ds := []) (ba 24 0) (by kernel_rfl) rfl rfl ⟨y0, y1, z0, z1⟩ (fun hHeld => ?_)
  generalize hw_ : w.drew = u0 at hHeld ⊢
  have Hu0 := Aside0.mk (show Below w.heap.size w u0 from by rw [← hw_]; exact b3_ (Below.refl _ _))
  clear hw_
  clear y0 y1 z0 z1
  have Su0 := Aside0.mk hHeld
  refine pu 0 203 1 ?_
  refine pu 1 204 3 ?_
  refine pu 2 205 7 ?_
  refine pu 3 206 15 ?_
  refine pu 4 207 31 ?_
  refine ta 5 208 63 ?_
  refine pu 6 209 127 ?_
  refine pu 7 210 255 ?_
  refine pu 8 211 511 ?_
  refine ta 9 212 1023 ?_
  refine pu 10 213 2047 ?_
  refine pu 11 214 4095 ?_
  refine pu 12 215 8191 ?_
  refine ou 13 216 16383 ?_
  refine ou 14 217 32767 ?_
  refine ou 15 218 65535 ?_
  refine ou 16 219 131071 ?_
  refine ou 17 220 262143 ?_
  refine ou 18 221 524287 ?_
  refine ou 19 222 1048575 ?_
  refine ou 20 223 2097151 ?_
  refine ou 21 224 4194303 ?_
  refine pu 22 225 8388607 ?_
  refine pu 23 4 16777215 ?_
  refine done_ (by kernel_rfl) ?_
  clear hHeld
  go_wp2
  go_ret
  exact ⟨tells_no (fun h => HM.out (HP.out.1 h).1), Hu0.out⟩
 have HM0 := Aside0.mk hm0
 rw [← hm0] at z0
 clear hm0
 by_cases hm1 : s = s'
 rotate_left
 ·have qb : (s == s') = false := by simpa using hm1
  have HM := Aside0.mk hm1
  clear hm1
  go_enter Tryz.func73, Tryz.ntmps73
  go_wp2_with (go_at_call 314; fail)
  refine (idc_217 _ _).mono ?_
  rintro e w1 ⟨rfl, hw1⟩
  rw [hw1]
  clear hw1
  go_wp2_with (go_at_call 314; fail)
  refine (idc_217 _ _).mono ?_
  rintro e w1 ⟨rfl, hw1⟩
  rw [hw1]
  clear hw1
  go_upto_region 33 with fail
  refine start_ (n := 24) (S := fun w' => w'.cell? ⟨g, 0, none⟩ = some (.int .i32 u) ∧ w'.cell? ⟨g, 1, none⟩ = some (.int .i32 s) ∧ w'.cell? ⟨g', 0, none⟩ = some (.int .i32 u) ∧ w'.cell? ⟨g', 1, none⟩ = some (.int .i32 s')) (ds := []) (ba 24 0) (by kernel_rfl) rfl rfl ⟨y0, y1, z0, z1⟩ (fun hHeld => ?_)
  generalize hw_ : w.drew = u0 at hHeld ⊢
  have Hu0 := Aside0.mk (show Below w.heap.size w u0 from by rw [← hw_]; exact b3_ (Below.refl _ _))
  clear hw_
  clear y0 y1 z0 z1
  have Su0 := Aside0.mk hHeld
  refine pu 0 203 1 ?_
  refine pu 1 204 3 ?_
  refine pu 2 205 7 ?_
  refine pu 3 206 15 ?_
  refine pu 4 207 31 ?_
  refine ta 5 208 63 ?_
  refine pu 6 209 127 ?_
  refine pu 7 210 255 ?_
  refine pu 8 211 511 ?_
  refine ta 9 212 1023 ?_
  refine pu 10 213 2047 ?_
  refine pu 11 214 4095 ?_
  refine pu 12 215 8191 ?_
  refine pu 13 216 16383 ?_
  refine pu 14 217 32767 ?_
  refine pu 15 218 65535 ?_
  refine ta 16 219 131071 ?_
  refine pu 17 220 262143 ?_
  refine pu 18 221 524287 ?_
  refine pu 19 222 1048575 ?_
  refine ta 20 223 2097151 ?_
  refine pu 21 224 4194303 ?_
  refine pu 22 225 8388607 ?_
  refine pu 23 4 16777215 ?_
  refine done_ (by kernel_rfl) ?_
  clear hHeld
  go_wp2
  go_ret
  exact ⟨tells_no (fun h => HM.out (HP.out.1 h).2), Hu0.out⟩
 have HM1 := Aside0.mk hm1
 rw [← hm1] at z1
 clear hm1
 go_enter Tryz.func73, Tryz.ntmps73
 go_wp2_with (go_at_call 314; fail)
 refine (idc_217 _ _).mono ?_
 rintro e w1 ⟨rfl, hw1⟩
 rw [hw1]
 clear hw1
 go_wp2_with (go_at_call 314; fail)
 refine (idc_217 _ _).mono ?_
 rintro e w1 ⟨rfl, hw1⟩
 rw [hw1]
 clear hw1
 go_upto_region 33 with fail
 refine start_ (n := 24) (S := fun w' => w'.cell? ⟨g, 0, none⟩ = some (.int .i32 u) ∧ w'.cell? ⟨g, 1, none⟩ = some (.int .i32 s) ∧ w'.cell? ⟨g', 0, none⟩ = some (.int .i32 u) ∧ w'.cell? ⟨g', 1, none⟩ = some (.int .i32 s)) (ds := []) (ba 24 0) (by kernel_rfl) rfl rfl ⟨y0, y1, z0, z1⟩ (fun hHeld => ?_)
 generalize hw_ : w.drew = u0 at hHeld ⊢
 have Hu0 := Aside0.mk (show Below w.heap.size w u0 from by rw [← hw_]; exact b3_ (Below.refl _ _))
 clear hw_
 clear y0 y1 z0 z1
 have Su0 := Aside0.mk hHeld
 refine pu 0 203 1 ?_
 refine pu 1 204 3 ?_
 refine pu 2 205 7 ?_
 refine pu 3 206 15 ?_
 refine pu 4 207 31 ?_
 refine ta 5 208 63 ?_
 refine pu 6 209 127 ?_
 refine pu 7 210 255 ?_
 refine pu 8 211 511 ?_
 refine ta 9 212 1023 ?_
 refine pu 10 213 2047 ?_
 refine pu 11 214 4095 ?_
 refine pu 12 215 8191 ?_
 refine pu 13 216 16383 ?_
 refine pu 14 217 32767 ?_
 refine pu 15 218 65535 ?_
 refine ta 16 219 131071 ?_
 refine pu 17 220 262143 ?_
 refine pu 18 221 524287 ?_
 refine pu 19 222 1048575 ?_
 refine ta 20 223 2097151 ?_
 refine pu 21 224 4194303 ?_
 refine pu 22 225 8388607 ?_
 refine pu 23 4 16777215 ?_
 refine done_ (by kernel_rfl) ?_
 clear hHeld
 go_wp2
 go_ret
 exact ⟨tells_yes (HP.out.2 ⟨HM0.out, HM1.out⟩), Hu0.out⟩
theorem dp_219 (n : Nat) (hD : DpC n) (hF : FdC n) (T T' : S28) (d d' : DT) (v v' : Value) (w : World) (ok ok' : Nat → Prop) (hT : TD (n + 1) T d) (hT' : TD (n + 1) T' d') (hI : DTIn w ok d v) (hI' : DTIn w ok' d' v') (hdis : ∀ k, ok k → ok' k → False) (ht : tyN d = 219) (ht' : tyN d' = 219) :
 Calls Tryz.prog 73 #[v, v'] w fun e w' => Tells e (d = d') ∧ Below w.heap.size w w' := by
 obtain ⟨P, hP⟩ : ∃ P : Prop, P = (d = d') := ⟨_, rfl⟩
 rw [← hP]
 obtain ⟨u, s, rfl⟩ := TDs.dec_of (show TDs (TD n) T d from hT) ht (by decide)
 obtain ⟨u', s', rfl⟩ := TDs.dec_of (show TDs (TD n) T' d' from hT') ht' (by decide)
 simp only [DTIn, ptrAt] at hI hI'
 obtain ⟨_, g, rfl, hk, hg⟩ := hI
 obtain ⟨_, g', rfl, hk', hg'⟩ := hI'
 have HP := Aside0.mk (show P ↔ (u = u' ∧ s = s') from by rw [hP]; simp)
 clear hP hD hF hdis hT hT' ht ht'
 obtain ⟨y0, y1⟩ := cb2 hg
 obtain ⟨z0, z1⟩ := cb2 hg'
 clear hg hg' hk hk'
 have hn145 := (asn_145 219 (.pointer (some ⟨g, 0, none⟩)) (by decide)).o
 have hn116 := (asn_116 219 (.pointer (some ⟨g, 0, none⟩)) (by decide)).o
 have hn120 := (asn_120 219 (.pointer (some ⟨g, 0, none⟩)) (by decide)).o
 have hn125 := (asn_125 219 (.pointer (some ⟨g, 0, none⟩)) (by decide)).o
 have hn122 := (asn_122 219 (.pointer (some ⟨g, 0, none⟩)) (by decide)).o
 have hn214 := (asn_214 219 (.pointer (some ⟨g, 0, none⟩)) (by decide)).o
 have hn217 := (asn_217 219 (.pointer (some ⟨g, 0, none⟩)) (by decide)).o
 have hy : ∀ W, (Instr.typeAssert (.iface 219 (.pointer (some ⟨g, 0, none⟩))) 56 219 true).run Tryz.prog W = .ok (.tuple #[.pointer (some ⟨g, 0, none⟩), .bool true]) W := asy_219 _
 have hy' : ∀ W, (Instr.typeAssert (.iface 219 (.pointer (some ⟨g', 0, none⟩))) 56 219 true).run Tryz.prog W = .ok (.tuple #[.pointer (some ⟨g', 0, none⟩), .bool true]) W := asy_219 _
 by_cases hm0 : u = u'
 rotate_left
 ·have qb : (u == u') = false := by simpa using hm0
  have HM := Aside0.mk hm0
  clear hm0
  go_enter Tryz.func73, Tryz.ntmps73
  go_wp2_with (go_at_call 318; fail)
  refine (idc_219 _ _).mono ?_
  rintro e w1 ⟨rfl, hw1⟩
  rw [hw1]
  clear hw1
  go_wp2_with (go_at_call 318; fail)
  refine (idc_219 _ _).mono ?_
  rintro e w1 ⟨rfl, hw1⟩
  rw [hw1]
  clear hw1
  go_upto_region 37 with fail
  refine start_ (n := 24) (S := fun w' => w'.cell? ⟨g, 0, none⟩ = some (.int .i32 u) ∧ w'.cell? ⟨g, 1, none⟩ = some (.int .i32 s) ∧ w'.cell? ⟨g', 0, none⟩ = some (.int .i32 u') ∧ w'.cell? ⟨g', 1, none⟩ = some (.int .i32 s')) (ds := []) (ba 24 0) (by kernel_rfl) rfl rfl ⟨y0, y1, z0, z1⟩ (fun hHeld => ?_)
  generalize hw_ : w.drew = u0 at hHeld ⊢
  have Hu0 := Aside0.mk (show Below w.heap.size w u0 from by rw [← hw_]; exact b3_ (Below.refl _ _))
  clear hw_
  clear y0 y1 z0 z1
  have Su0 := Aside0.mk hHeld
  refine pu 0 234 1 ?_
  refine pu 1 235 3 ?_
  refine pu 2 236 7 ?_
  refine pu 3 237 15 ?_
  refine pu 4 238 31 ?_
  refine ta 5 239 63 ?_
  refine pu 6 240 127 ?_
  refine pu 7 241 255 ?_
  refine pu 8 242 511 ?_
  refine ta 9 243 1023 ?_
  refine pu 10 244 2047 ?_
  refine pu 11 245 4095 ?_
  refine pu 12 246 8191 ?_
  refine ou 13 247 16383 ?_
  refine ou 14 248 32767 ?_
  refine ou 15 249 65535 ?_
  refine ou 16 250 131071 ?_
  refine ou 17 251 262143 ?_
  refine ou 18 252 524287 ?_
  refine ou 19 253 1048575 ?_
  refine ou 20 254 2097151 ?_
  refine ou 21 255 4194303 ?_
  refine pu 22 256 8388607 ?_
  refine pu 23 4 16777215 ?_
  refine done_ (by kernel_rfl) ?_
  clear hHeld
  go_wp2
  go_ret
  exact ⟨tells_no (fun h => HM.out (HP.out.1 h).1), Hu0.out⟩
 have HM0 := Aside0.mk hm0
 rw [← hm0] at z0
 clear hm0
 by_cases hm1 : s = s'
 rotate_left
 ·have qb : (s == s') = false := by simpa using hm1
  have HM := Aside0.mk hm1
  clear hm1
  go_enter Tryz.func73, Tryz.ntmps73
  go_wp2_with (go_at_call 318; fail)
  refine (idc_219 _ _).mono ?_
  rintro e w1 ⟨rfl, hw1⟩
  rw [hw1]
  clear hw1
  go_wp2_with (go_at_call 318; fail)
  refine (idc_219 _ _).mono ?_
  rintro e w1 ⟨rfl, hw1⟩
  rw [hw1]
  clear hw1
  go_upto_region 37 with fail
  refine start_ (n := 24) (S := fun w' => w'.cell? ⟨g, 0, none⟩ = some (.int .i32 u) ∧ w'.cell? ⟨g, 1, none⟩ = some (.int .i32 s) ∧ w'.cell? ⟨g', 0, none⟩ = some (.int .i32 u) ∧ w'.cell? ⟨g', 1, none⟩ = some (.int .i32 s')) (ds := []) (ba 24 0) (by kernel_rfl) rfl rfl ⟨y0, y1, z0, z1⟩ (fun hHeld => ?_)
  generalize hw_ : w.drew = u0 at hHeld ⊢
  have Hu0 := Aside0.mk (show Below w.heap.size w u0 from by rw [← hw_]; exact b3_ (Below.refl _ _))
  clear hw_
  clear y0 y1 z0 z1
  have Su0 := Aside0.mk hHeld
  refine pu 0 234 1 ?_
  refine pu 1 235 3 ?_
  refine pu 2 236 7 ?_
  refine pu 3 237 15 ?_
  refine pu 4 238 31 ?_
  refine ta 5 239 63 ?_
  refine pu 6 240 127 ?_
  refine pu 7 241 255 ?_
  refine pu 8 242 511 ?_
  refine ta 9 243 1023 ?_
  refine pu 10 244 2047 ?_
  refine pu 11 245 4095 ?_
  refine pu 12 246 8191 ?_
  refine pu 13 247 16383 ?_
  refine pu 14 248 32767 ?_
  refine pu 15 249 65535 ?_
  refine ta 16 250 131071 ?_
  refine pu 17 251 262143 ?_
  refine pu 18 252 524287 ?_
  refine pu 19 253 1048575 ?_
  refine ta 20 254 2097151 ?_
  refine pu 21 255 4194303 ?_
  refine pu 22 256 8388607 ?_
  refine pu 23 4 16777215 ?_
  refine done_ (by kernel_rfl) ?_
  clear hHeld
  go_wp2
  go_ret
  exact ⟨tells_no (fun h => HM.out (HP.out.1 h).2), Hu0.out⟩
 have HM1 := Aside0.mk hm1
 rw [← hm1] at z1
 clear hm1
 go_enter Tryz.func73, Tryz.ntmps73
 go_wp2_with (go_at_call 318; fail)
 refine (idc_219 _ _).mono ?_
 rintro e w1 ⟨rfl, hw1⟩
 rw [hw1]
 clear hw1
 go_wp2_with (go_at_call 318; fail)
 refine (idc_219 _ _).mono ?_
 rintro e w1 ⟨rfl, hw1⟩
 rw [hw1]
 clear hw1
 go_upto_region 37 with fail
 refine start_ (n := 24) (S := fun w' => w'.cell? ⟨g, 0, none⟩ = some (.int .i32 u) ∧ w'.cell? ⟨g, 1, none⟩ = some (.int .i32 s) ∧ w'.cell? ⟨g', 0, none⟩ = some (.int .i32 u) ∧ w'.cell? ⟨g', 1, none⟩ = some (.int .i32 s)) (ds := []) (ba 24 0) (by kernel_rfl) rfl rfl ⟨y0, y1, z0, z1⟩ (fun hHeld => ?_)
 generalize hw_ : w.drew = u0 at hHeld ⊢
 have Hu0 := Aside0.mk (show Below w.heap.size w u0 from by rw [← hw_]; exact b3_ (Below.refl _ _))
 clear hw_
 clear y0 y1 z0 z1
 have Su0 := Aside0.mk hHeld
 refine pu 0 234 1 ?_
 refine pu 1 235 3 ?_
 refine pu 2 236 7 ?_
 refine pu 3 237 15 ?_
 refine pu 4 238 31 ?_
 refine ta 5 239 63 ?_
 refine pu 6 240 127 ?_
 refine pu 7 241 255 ?_
 refine pu 8 242 511 ?_
 refine ta 9 243 1023 ?_
 refine pu 10 244 2047 ?_
 refine pu 11 245 4095 ?_
 refine pu 12 246 8191 ?_
 refine pu 13 247 16383 ?_
 refine pu 14 248 32767 ?_
 refine pu 15 249 65535 ?_
 refine ta 16 250 131071 ?_
 refine pu 17 251 262143 ?_
 refine pu 18 252 524287 ?_
 refine pu 19 253 1048575 ?_
 refine ta 20 254 2097151 ?_
 refine pu 21 255 4194303 ?_
 refine pu 22 256 8388607 ?_
 refine pu 23 4 16777215 ?_
 refine done_ (by kernel_rfl) ?_
 clear hHeld
 go_wp2
 go_ret
 exact ⟨tells_yes (HP.out.2 ⟨HM0.out, HM1.out⟩), Hu0.out⟩
theorem dp_221 (n : Nat) (hD : DpC n) (hF : FdC n) (T T' : S28) (d d' : DT) (v v' : Value) (w : World) (ok ok' : Nat → Prop) (hT : TD (n + 1) T d) (hT' : TD (n + 1) T' d') (hI : DTIn w ok d v) (hI' : DTIn w ok' d' v') (hdis : ∀ k, ok k → ok' k → False) (ht : tyN d = 221) (ht' : tyN d' = 221) :
 Calls Tryz.prog 73 #[v, v'] w fun e w' => Tells e (d = d') ∧ Below w.heap.size w w' := by
 obtain ⟨P, hP⟩ : ∃ P : Prop, P = (d = d') := ⟨_, rfl⟩
 rw [← hP]
 obtain ⟨u, s, rfl⟩ := TDs.dec_of (show TDs (TD n) T d from hT) ht (by decide)
 obtain ⟨u', s', rfl⟩ := TDs.dec_of (show TDs (TD n) T' d' from hT') ht' (by decide)
 simp only [DTIn, ptrAt] at hI hI'
 obtain ⟨_, g, rfl, hk, hg⟩ := hI
 obtain ⟨_, g', rfl, hk', hg'⟩ := hI'
 have HP := Aside0.mk (show P ↔ (u = u' ∧ s = s') from by rw [hP]; simp)
 clear hP hD hF hdis hT hT' ht ht'
 obtain ⟨y0, y1⟩ := cb2 hg
 obtain ⟨z0, z1⟩ := cb2 hg'
 clear hg hg' hk hk'
 have hn145 := (asn_145 221 (.pointer (some ⟨g, 0, none⟩)) (by decide)).o
 have hn116 := (asn_116 221 (.pointer (some ⟨g, 0, none⟩)) (by decide)).o
 have hn120 := (asn_120 221 (.pointer (some ⟨g, 0, none⟩)) (by decide)).o
 have hn125 := (asn_125 221 (.pointer (some ⟨g, 0, none⟩)) (by decide)).o
 have hn122 := (asn_122 221 (.pointer (some ⟨g, 0, none⟩)) (by decide)).o
 have hn214 := (asn_214 221 (.pointer (some ⟨g, 0, none⟩)) (by decide)).o
 have hn217 := (asn_217 221 (.pointer (some ⟨g, 0, none⟩)) (by decide)).o
 have hn219 := (asn_219 221 (.pointer (some ⟨g, 0, none⟩)) (by decide)).o
 have hy : ∀ W, (Instr.typeAssert (.iface 221 (.pointer (some ⟨g, 0, none⟩))) 56 221 true).run Tryz.prog W = .ok (.tuple #[.pointer (some ⟨g, 0, none⟩), .bool true]) W := asy_221 _
 have hy' : ∀ W, (Instr.typeAssert (.iface 221 (.pointer (some ⟨g', 0, none⟩))) 56 221 true).run Tryz.prog W = .ok (.tuple #[.pointer (some ⟨g', 0, none⟩), .bool true]) W := asy_221 _
 by_cases hm0 : u = u'
 rotate_left
 ·have qb : (u == u') = false := by simpa using hm0
  have HM := Aside0.mk hm0
  clear hm0
  go_enter Tryz.func73, Tryz.ntmps73
  go_wp2_with (go_at_call 322; fail)
  refine (idc_221 _ _).mono ?_
  rintro e w1 ⟨rfl, hw1⟩
  rw [hw1]
  clear hw1
  go_wp2_with (go_at_call 322; fail)
  refine (idc_221 _ _).mono ?_
  rintro e w1 ⟨rfl, hw1⟩
  rw [hw1]
  clear hw1
  go_upto_region 41 with fail
  refine start_ (n := 24) (S := fun w' => w'.cell? ⟨g, 0, none⟩ = some (.int .i32 u) ∧ w'.cell? ⟨g, 1, none⟩ = some (.int .i32 s) ∧ w'.cell? ⟨g', 0, none⟩ = some (.int .i32 u') ∧ w'.cell? ⟨g', 1, none⟩ = some (.int .i32 s')) (ds := []) (ba 24 0) (by kernel_rfl) rfl rfl ⟨y0, y1, z0, z1⟩ (fun hHeld => ?_)
  generalize hw_ : w.drew = u0 at hHeld ⊢
  have Hu0 := Aside0.mk (show Below w.heap.size w u0 from by rw [← hw_]; exact b3_ (Below.refl _ _))
  clear hw_
  clear y0 y1 z0 z1
  have Su0 := Aside0.mk hHeld
  refine pu 0 265 1 ?_
  refine pu 1 266 3 ?_
  refine pu 2 267 7 ?_
  refine pu 3 268 15 ?_
  refine pu 4 269 31 ?_
  refine ta 5 270 63 ?_
  refine pu 6 271 127 ?_
  refine pu 7 272 255 ?_
  refine pu 8 273 511 ?_
  refine ta 9 274 1023 ?_
  refine pu 10 275 2047 ?_
  refine pu 11 276 4095 ?_
  refine pu 12 277 8191 ?_
  refine ou 13 278 16383 ?_
  refine ou 14 279 32767 ?_
  refine ou 15 280 65535 ?_
  refine ou 16 281 131071 ?_
  refine ou 17 282 262143 ?_
  refine ou 18 283 524287 ?_
  refine ou 19 284 1048575 ?_
  refine ou 20 285 2097151 ?_
  refine ou 21 286 4194303 ?_
  refine pu 22 287 8388607 ?_
  refine pu 23 4 16777215 ?_
  refine done_ (by kernel_rfl) ?_
  clear hHeld
  go_wp2
  go_ret
  exact ⟨tells_no (fun h => HM.out (HP.out.1 h).1), Hu0.out⟩
 have HM0 := Aside0.mk hm0
 rw [← hm0] at z0
 clear hm0
 by_cases hm1 : s = s'
 rotate_left
 ·have qb : (s == s') = false := by simpa using hm1
  have HM := Aside0.mk hm1
  clear hm1
  go_enter Tryz.func73, Tryz.ntmps73
  go_wp2_with (go_at_call 322; fail)
  refine (idc_221 _ _).mono ?_
  rintro e w1 ⟨rfl, hw1⟩
  rw [hw1]
  clear hw1
  go_wp2_with (go_at_call 322; fail)
  refine (idc_221 _ _).mono ?_
  rintro e w1 ⟨rfl, hw1⟩
  rw [hw1]
  clear hw1
  go_upto_region 41 with fail
  refine start_ (n := 24) (S := fun w' => w'.cell? ⟨g, 0, none⟩ = some (.int .i32 u) ∧ w'.cell? ⟨g, 1, none⟩ = some (.int .i32 s) ∧ w'.cell? ⟨g', 0, none⟩ = some (.int .i32 u) ∧ w'.cell? ⟨g', 1, none⟩ = some (.int .i32 s')) (ds := []) (ba 24 0) (by kernel_rfl) rfl rfl ⟨y0, y1, z0, z1⟩ (fun hHeld => ?_)
  generalize hw_ : w.drew = u0 at hHeld ⊢
  have Hu0 := Aside0.mk (show Below w.heap.size w u0 from by rw [← hw_]; exact b3_ (Below.refl _ _))
  clear hw_
  clear y0 y1 z0 z1
  have Su0 := Aside0.mk hHeld
  refine pu 0 265 1 ?_
  refine pu 1 266 3 ?_
  refine pu 2 267 7 ?_
  refine pu 3 268 15 ?_
  refine pu 4 269 31 ?_
  refine ta 5 270 63 ?_
  refine pu 6 271 127 ?_
  refine pu 7 272 255 ?_
  refine pu 8 273 511 ?_
  refine ta 9 274 1023 ?_
  refine pu 10 275 2047 ?_
  refine pu 11 276 4095 ?_
  refine pu 12 277 8191 ?_
  refine pu 13 278 16383 ?_
  refine pu 14 279 32767 ?_
  refine pu 15 280 65535 ?_
  refine ta 16 281 131071 ?_
  refine pu 17 282 262143 ?_
  refine pu 18 283 524287 ?_
  refine pu 19 284 1048575 ?_
  refine ta 20 285 2097151 ?_
  refine pu 21 286 4194303 ?_
  refine pu 22 287 8388607 ?_
  refine pu 23 4 16777215 ?_
  refine done_ (by kernel_rfl) ?_
  clear hHeld
  go_wp2
  go_ret
  exact ⟨tells_no (fun h => HM.out (HP.out.1 h).2), Hu0.out⟩
 have HM1 := Aside0.mk hm1
 rw [← hm1] at z1
 clear hm1
 go_enter Tryz.func73, Tryz.ntmps73
 go_wp2_with (go_at_call 322; fail)
 refine (idc_221 _ _).mono ?_
 rintro e w1 ⟨rfl, hw1⟩
 rw [hw1]
 clear hw1
 go_wp2_with (go_at_call 322; fail)
 refine (idc_221 _ _).mono ?_
 rintro e w1 ⟨rfl, hw1⟩
 rw [hw1]
 clear hw1
 go_upto_region 41 with fail
 refine start_ (n := 24) (S := fun w' => w'.cell? ⟨g, 0, none⟩ = some (.int .i32 u) ∧ w'.cell? ⟨g, 1, none⟩ = some (.int .i32 s) ∧ w'.cell? ⟨g', 0, none⟩ = some (.int .i32 u) ∧ w'.cell? ⟨g', 1, none⟩ = some (.int .i32 s)) (ds := []) (ba 24 0) (by kernel_rfl) rfl rfl ⟨y0, y1, z0, z1⟩ (fun hHeld => ?_)
 generalize hw_ : w.drew = u0 at hHeld ⊢
 have Hu0 := Aside0.mk (show Below w.heap.size w u0 from by rw [← hw_]; exact b3_ (Below.refl _ _))
 clear hw_
 clear y0 y1 z0 z1
 have Su0 := Aside0.mk hHeld
 refine pu 0 265 1 ?_
 refine pu 1 266 3 ?_
 refine pu 2 267 7 ?_
 refine pu 3 268 15 ?_
 refine pu 4 269 31 ?_
 refine ta 5 270 63 ?_
 refine pu 6 271 127 ?_
 refine pu 7 272 255 ?_
 refine pu 8 273 511 ?_
 refine ta 9 274 1023 ?_
 refine pu 10 275 2047 ?_
 refine pu 11 276 4095 ?_
 refine pu 12 277 8191 ?_
 refine pu 13 278 16383 ?_
 refine pu 14 279 32767 ?_
 refine pu 15 280 65535 ?_
 refine ta 16 281 131071 ?_
 refine pu 17 282 262143 ?_
 refine pu 18 283 524287 ?_
 refine pu 19 284 1048575 ?_
 refine ta 20 285 2097151 ?_
 refine pu 21 286 4194303 ?_
 refine pu 22 287 8388607 ?_
 refine pu 23 4 16777215 ?_
 refine done_ (by kernel_rfl) ?_
 clear hHeld
 go_wp2
 go_ret
 exact ⟨tells_yes (HP.out.2 ⟨HM0.out, HM1.out⟩), Hu0.out⟩
theorem dp_229 (n : Nat) (hD : DpC n) (hF : FdC n) (T T' : S28) (d d' : DT) (v v' : Value) (w : World) (ok ok' : Nat → Prop) (hT : TD (n + 1) T d) (hT' : TD (n + 1) T' d') (hI : DTIn w ok d v) (hI' : DTIn w ok' d' v') (hdis : ∀ k, ok k → ok' k → False) (ht : tyN d = 229) (ht' : tyN d' = 229) :
 Calls Tryz.prog 73 #[v, v'] w fun e w' => Tells e (d = d') ∧ Below w.heap.size w w' := by
 obtain ⟨P, hP⟩ : ∃ P : Prop, P = (d = d') := ⟨_, rfl⟩
 rw [← hP]
 obtain ⟨R, V, dr, dv, fl, rfl, hs1, hs2⟩ := TDs.dict_of (show TDs (TD n) T d from hT) ht rfl
 obtain ⟨R', V', dr', dv', fl', rfl, hs1', hs2'⟩ := TDs.dict_of (show TDs (TD n) T' d' from hT') ht' rfl
 simp only [DTIn, ptrAt] at hI hI'
 obtain ⟨g, x, y, rfl, hk, hg, hx1, hx2⟩ := hI
 obtain ⟨g', x', y', rfl, hk', hg', hx1', hx2'⟩ := hI'
 obtain ⟨q1, a1, rfl⟩ := hx1.form
 obtain ⟨p1, hp1⟩ : ∃ p, p = Value.pointer (some a1) := ⟨_, rfl⟩
 rw [← hp1] at hx1 hg
 clear hp1
 obtain ⟨q2, a2, rfl⟩ := hx2.form
 obtain ⟨p2, hp2⟩ : ∃ p, p = Value.pointer (some a2) := ⟨_, rfl⟩
 rw [← hp2] at hx2 hg
 clear hp2
 obtain ⟨q1', a1', rfl⟩ := hx1'.form
 obtain ⟨p1', hp1'⟩ : ∃ p, p = Value.pointer (some a1') := ⟨_, rfl⟩
 rw [← hp1'] at hx1' hg'
 clear hp1'
 obtain ⟨q2', a2', rfl⟩ := hx2'.form
 obtain ⟨p2', hp2'⟩ : ∃ p, p = Value.pointer (some a2') := ⟨_, rfl⟩
 rw [← hp2'] at hx2' hg'
 clear hp2'
 have HP := Aside0.mk (show P ↔ (fl = fl' ∧ dr = dr' ∧ dv = dv') from by rw [hP]; simp [and_assoc, and_comm, and_left_comm])
 have HC := Aside0.mk (And.intro hD (And.intro hF hdis))
 have HX := Aside0.mk (And.intro hx1 (And.intro hx1' (And.intro hs1 hs1')))
 have HY := Aside0.mk (And.intro hx2 (And.intro hx2' (And.intro hs2 hs2')))
 obtain ⟨y0, y1, y2⟩ := cb3 hg
 obtain ⟨z0, z1, z2⟩ := cb3 hg'
 clear hP hD hF hdis hx1 hx1' hx2 hx2' hs1 hs1' hs2 hs2' hk hk' hg hg' hT hT' ht ht'
 have hn145 := (asn_145 229 (.pointer (some ⟨g, 0, none⟩)) (by decide)).o
 have hn116 := (asn_116 229 (.pointer (some ⟨g, 0, none⟩)) (by decide)).o
 have hn120 := (asn_120 229 (.pointer (some ⟨g, 0, none⟩)) (by decide)).o
 have hn125 := (asn_125 229 (.pointer (some ⟨g, 0, none⟩)) (by decide)).o
 have hn122 := (asn_122 229 (.pointer (some ⟨g, 0, none⟩)) (by decide)).o
 have hn214 := (asn_214 229 (.pointer (some ⟨g, 0, none⟩)) (by decide)).o
 have hn217 := (asn_217 229 (.pointer (some ⟨g, 0, none⟩)) (by decide)).o
 have hn219 := (asn_219 229 (.pointer (some ⟨g, 0, none⟩)) (by decide)).o
 have hn221 := (asn_221 229 (.pointer (some ⟨g, 0, none⟩)) (by decide)).o
 have hy : ∀ W, (Instr.typeAssert (.iface 229 (.pointer (some ⟨g, 0, none⟩))) 56 229 true).run Tryz.prog W = .ok (.tuple #[.pointer (some ⟨g, 0, none⟩), .bool true]) W := asy_229 _
 have hy' : ∀ W, (Instr.typeAssert (.iface 229 (.pointer (some ⟨g', 0, none⟩))) 56 229 true).run Tryz.prog W = .ok (.tuple #[.pointer (some ⟨g', 0, none⟩), .bool true]) W := asy_229 _
 by_cases hm : fl = fl'
 rotate_left
 ·have qb : (fl == fl') = false := by simpa using hm
  have HM := Aside0.mk hm
  clear hm
  go_enter Tryz.func73, Tryz.ntmps73
  go_wp2_with (go_at_call 335; fail)
  refine (idc_229 _ _).mono ?_
  rintro e w1 ⟨rfl, hw1⟩
  rw [hw1]
  clear hw1
  go_wp2_with (go_at_call 335; fail)
  refine (idc_229 _ _).mono ?_
  rintro e w1 ⟨rfl, hw1⟩
  rw [hw1]
  clear hw1
  go_upto_region 45 with fail
  refine start_ (n := 35) (S := fun w' => w'.cell? ⟨g, 0, none⟩ = some (.iface q1 p1) ∧ w'.cell? ⟨g, 1, none⟩ = some (.iface q2 p2) ∧ w'.cell? ⟨g, 2, none⟩ = some (.bool fl) ∧ w'.cell? ⟨g', 0, none⟩ = some (.iface q1' p1') ∧ w'.cell? ⟨g', 1, none⟩ = some (.iface q2' p2') ∧ w'.cell? ⟨g', 2, none⟩ = some (.bool fl')) (ds := []) (ba 35 0) (by kernel_rfl) rfl rfl ⟨y0, y1, y2, z0, z1, z2⟩ (fun hHeld => ?_)
  generalize hw_ : w.drew = u0 at hHeld ⊢
  have Hu0 := Aside0.mk (show Below w.heap.size w u0 from by rw [← hw_]; exact b3_ (Below.refl _ _))
  clear hw_
  clear y0 y1 y2 z0 z1 z2
  have Su0 := Aside0.mk hHeld
  refine pu 0 296 1 ?_
  refine pu 1 297 3 ?_
  refine pu 2 298 7 ?_
  refine pu 3 299 15 ?_
  refine pu 4 300 31 ?_
  refine ta 5 301 63 ?_
  refine pu 6 302 127 ?_
  refine pu 7 303 255 ?_
  refine pu 8 304 511 ?_
  refine ta 9 305 1023 ?_
  refine pu 10 306 2047 ?_
  refine pu 11 307 4095 ?_
  refine pu 12 308 8191 ?_
  refine ou 13 309 16383 ?_
  refine ou 14 310 32767 ?_
  refine ou 15 311 65535 ?_
  refine ou 16 312 131071 ?_
  refine ou 17 313 262143 ?_
  refine ou 18 314 524287 ?_
  refine ou 19 315 1048575 ?_
  refine ou 20 316 2097151 ?_
  refine ou 21 317 4194303 ?_
  refine pu 22 318 8388607 ?_
  refine pu 23 319 16777215 ?_
  refine ou 24 320 33554431 ?_
  refine ou 25 321 67108863 ?_
  refine ou 26 322 134217727 ?_
  refine ou 27 323 268435455 ?_
  refine ou 28 324 536870911 ?_
  refine ou 29 325 1073741823 ?_
  refine ou 30 326 2147483647 ?_
  refine ou 31 327 4294967295 ?_
  refine ou 32 328 8589934591 ?_
  refine pu 33 329 17179869183 ?_
  refine pu 34 4 34359738367 ?_
  refine done_ (by kernel_rfl) ?_
  clear hHeld
  go_wp2
  go_ret
  exact ⟨tells_no (fun h => by rw [HP.out] at h; exact HM.out h.1), Hu0.out⟩
 have HM := Aside0.mk hm
 rw [← hm] at z2
 clear hm
 go_enter Tryz.func73, Tryz.ntmps73
 go_wp2_with (go_at_call 335; fail)
 refine (idc_229 _ _).mono ?_
 rintro e w1 ⟨rfl, hw1⟩
 rw [hw1]
 clear hw1
 go_wp2_with (go_at_call 335; fail)
 refine (idc_229 _ _).mono ?_
 rintro e w1 ⟨rfl, hw1⟩
 rw [hw1]
 clear hw1
 go_upto_region 45 with fail
 refine start_ (n := 35) (S := fun w' => w'.cell? ⟨g, 0, none⟩ = some (.iface q1 p1) ∧ w'.cell? ⟨g, 1, none⟩ = some (.iface q2 p2) ∧ w'.cell? ⟨g, 2, none⟩ = some (.bool fl) ∧ w'.cell? ⟨g', 0, none⟩ = some (.iface q1' p1') ∧ w'.cell? ⟨g', 1, none⟩ = some (.iface q2' p2') ∧ w'.cell? ⟨g', 2, none⟩ = some (.bool fl)) (ds := []) (ba 35 0) (by kernel_rfl) rfl rfl ⟨y0, y1, y2, z0, z1, z2⟩ (fun hHeld => ?_)
 generalize hw_ : w.drew = u0 at hHeld ⊢
 have Hu0 := Aside0.mk (show Below w.heap.size w u0 from by rw [← hw_]; exact b3_ (Below.refl _ _))
 clear hw_
 clear y0 y1 y2 z0 z1 z2
 have Su0 := Aside0.mk hHeld
 refine pu 0 296 1 ?_
 refine pu 1 297 3 ?_
 refine pu 2 298 7 ?_
 refine pu 3 299 15 ?_
 refine pu 4 300 31 ?_
 refine ta 5 301 63 ?_
 refine pu 6 302 127 ?_
 refine pu 7 303 255 ?_
 refine pu 8 304 511 ?_
 refine ta 9 305 1023 ?_
 refine pu 10 306 2047 ?_
 refine pu 11 307 4095 ?_
 refine pu 12 308 8191 ?_
 refine pu 13 309 16383 ?_
 refine pu 14 310 32767 ?_
 refine pu 15 311 65535 ?_
 refine ta 16 312 131071 ?_
 refine pu 17 313 262143 ?_
 refine pu 18 314 524287 ?_
 refine pu 19 315 1048575 ?_
 refine ta 20 316 2097151 ?_
 refine one_ (i := 21) (N := some 317) (ba 35 4194303) rfl rfl (by kernel_rfl) (by decide) (fun K hK => ?_)
 refine goes_ Tryz.func73 (by kernel_rfl) rfl #[.iface q1 p1, .iface q1' p1'] (by rfl) rfl rfl (by (try simp only [List.map_toArray, List.map_cons, List.map_nil]); first | done | rfl) ?_
 refine (HC.out.1 _ _ _ _ _ _ u0 ok ok' HX.out.2.2.1 HX.out.2.2.2 (HX.out.1.below Hu0.out) (HX.out.2.1.below Hu0.out) HC.out.2.2).mono ?_
 rintro e u1 ⟨⟨r, rfl, hr⟩, hb⟩
 have Hu1 := Aside0.mk (below_step Hu0.out hb)
 have Su1 := Aside0.mk (show u1.cell? ⟨g, 0, none⟩ = some (.iface q1 p1) ∧ u1.cell? ⟨g, 1, none⟩ = some (.iface q2 p2) ∧ u1.cell? ⟨g, 2, none⟩ = some (.bool fl) ∧ u1.cell? ⟨g', 0, none⟩ = some (.iface q1' p1') ∧ u1.cell? ⟨g', 1, none⟩ = some (.iface q2' p2') ∧ u1.cell? ⟨g', 2, none⟩ = some (.bool fl) from ⟨pw_cell_below hb Su0.out.1, pw_cell_below hb Su0.out.2.1, pw_cell_below hb Su0.out.2.2.1, pw_cell_below hb Su0.out.2.2.2.1, pw_cell_below hb Su0.out.2.2.2.2.1, pw_cell_below hb Su0.out.2.2.2.2.2⟩)
 have HRR := Aside0.mk hr
 clear hr
 clear hb
 refine ⟨_, rfl, ?_⟩
 refine hK.out _ _ Su1.out (fun hHeld => ?_)
 clear hK K
 refine no 317 ?_
 cases r with
 | false =>
  refine pu 22 318 8388607 ?_
  refine pu 23 319 16777215 ?_
  refine ou 24 320 33554431 ?_
  refine ou 25 321 67108863 ?_
  refine ou 26 322 134217727 ?_
  refine ou 27 323 268435455 ?_
  refine ou 28 324 536870911 ?_
  refine ou 29 325 1073741823 ?_
  refine ou 30 326 2147483647 ?_
  refine ou 31 327 4294967295 ?_
  refine ou 32 328 8589934591 ?_
  refine pu 33 329 17179869183 ?_
  refine pu 34 4 34359738367 ?_
  refine done_ (by kernel_rfl) ?_
  clear hHeld
  go_wp2
  go_ret
  exact ⟨tells_no (fun h => by have := HRR.out.2 (HP.out.1 h).2.1; simp at this), Hu1.out⟩
 | true =>
  refine pu 22 318 8388607 ?_
  refine pu 23 319 16777215 ?_
  refine pu 24 320 33554431 ?_
  refine pu 25 321 67108863 ?_
  refine pu 26 322 134217727 ?_
  refine ta 27 323 268435455 ?_
  refine pu 28 324 536870911 ?_
  refine pu 29 325 1073741823 ?_
  refine pu 30 326 2147483647 ?_
  refine ta 31 327 4294967295 ?_
  refine one_ (i := 32) (N := some 328) (ba 35 8589934591) rfl rfl (by kernel_rfl) (by decide) (fun K hK => ?_)
  refine goes_ Tryz.func73 (by kernel_rfl) rfl #[.iface q2 p2, .iface q2' p2'] (by rfl) rfl rfl (by (try simp only [List.map_toArray, List.map_cons, List.map_nil]); first | done | rfl) ?_
  refine (HC.out.1 _ _ _ _ _ _ u1 ok ok' HY.out.2.2.1 HY.out.2.2.2 (HY.out.1.below Hu1.out) (HY.out.2.1.below Hu1.out) HC.out.2.2).mono ?_
  rintro e u2 ⟨⟨s, rfl, hs⟩, hb⟩
  have Hu2 := Aside0.mk (below_step Hu1.out hb)
  have Su2 := Aside0.mk (show u2.cell? ⟨g, 0, none⟩ = some (.iface q1 p1) ∧ u2.cell? ⟨g, 1, none⟩ = some (.iface q2 p2) ∧ u2.cell? ⟨g, 2, none⟩ = some (.bool fl) ∧ u2.cell? ⟨g', 0, none⟩ = some (.iface q1' p1') ∧ u2.cell? ⟨g', 1, none⟩ = some (.iface q2' p2') ∧ u2.cell? ⟨g', 2, none⟩ = some (.bool fl) from ⟨pw_cell_below hb Su1.out.1, pw_cell_below hb Su1.out.2.1, pw_cell_below hb Su1.out.2.2.1, pw_cell_below hb Su1.out.2.2.2.1, pw_cell_below hb Su1.out.2.2.2.2.1, pw_cell_below hb Su1.out.2.2.2.2.2⟩)
  have HSS := Aside0.mk hs
  clear hs
  clear hb
  refine ⟨_, rfl, ?_⟩
  refine hK.out _ _ Su2.out (fun hHeld => ?_)
  clear hK K
  refine no 328 ?_
  refine pu 33 329 17179869183 ?_
  refine pu 34 4 34359738367 ?_
  refine done_ (by kernel_rfl) ?_
  clear hHeld
  go_wp2
  go_ret
  exact ⟨⟨s, rfl, by rw [HP.out]; exact ⟨fun h => ⟨HM.out, HRR.out.1 (by first | rfl | trivial), HSS.out.1 h⟩, fun h => HSS.out.2 h.2.2⟩⟩, Hu2.out⟩
theorem dp_ne (n : Nat) (hD : DpC n) (hF : FdC n) (T T' : S28) (d d' : DT) (v v' : Value) (w : World) (ok ok' : Nat → Prop) (hT : TD (n + 1) T d) (hT' : TD (n + 1) T' d') (hI : DTIn w ok d v) (hI' : DTIn w ok' d' v') (hdis : ∀ k, ok k → ok' k → False) (ht : ¬ tyN d = tyN d') :
 Calls Tryz.prog 73 #[v, v'] w fun e w' => Tells e (d = d') ∧ Below w.heap.size w w' := by
 obtain ⟨P, hP⟩ : ∃ P : Prop, P = (d = d') := ⟨_, rfl⟩
 rw [← hP]
 have HP := Aside0.mk hP
 clear hP
 obtain ⟨a, rfl, f, x, m1, c1, k1⟩ := id_any hI
 obtain ⟨a', rfl, _⟩ := id_any hI'
 have HT := Aside0.mk (And.intro hT (And.intro hT' (And.intro hdis (And.intro hD hF))))
 have HI := Aside0.mk (And.intro hI hI')
 have K1 := Aside0.mk k1
 clear hT hT' hI hI' hdis hD hF k1
 go_enter Tryz.func73, Tryz.ntmps73
 go_wp2
 refine K1.out.mono ?_
 rintro e w2 ⟨rfl, hb2⟩
 have HB2 := Aside0.mk hb2
 obtain ⟨a2, e2, f2, x2, m2, c2, k2⟩ := id_any (HI.out.2.below hb2)
 obtain ⟨_, rfl⟩ := (show _ ∧ a' = a2 by injection e2 with e3 e4; injection e4 with e5; injection e5 with e6; exact ⟨trivial, e6⟩)
 have K2 := Aside0.mk k2
 clear k2 e2 m1 c1 K1 hb2
 go_wp2
 refine K2.out.mono ?_
 rintro e w3 ⟨rfl, hb3⟩
 have HB3 := Aside0.mk (below_step HB2.out hb3)
 clear hb3 m2 c2 HB2
 have hne : idN (tyN d) ≠ idN (tyN d') := fun e => ht (idN_inj _ _ (ty_mem HI.out.1) (ty_mem HI.out.2) e)
 have q1 : decide (idN (tyN d) = idN (tyN d')) = false := decide_eq_false hne
 have q2 : (idN (tyN d) = idN (tyN d')) = False := eq_false hne
 have q3 : (idN (tyN d) != idN (tyN d')) = true := by simpa using hne
 have HNE := Aside0.mk ht
 clear hne ht
 go_wp2
 go_ret
 exact ⟨tells_no (fun h => by rw [HP.out] at h; exact HNE.out (congrArg tyN h)), HB3.out⟩
theorem dp_nest (n : Nat) (hD : DpC n) (hF : FdC n) (T T' : S28) (d d' : DT) (v v' : Value) (w : World) (ok ok' : Nat → Prop) (hT : TD (n + 1) T d) (hT' : TD (n + 1) T' d') (hI : DTIn w ok d v) (hI' : DTIn w ok' d' v') (hdis : ∀ k, ok k → ok' k → False) (ht : tyN d ∈ nestL) (ht' : tyN d = tyN d') :
 Calls Tryz.prog 73 #[v, v'] w fun e w' => Tells e (d = d') ∧ Below w.heap.size w w' := by
 have hne : ∀ k, nestL.contains k = false → tyN d ≠ k := fun k hk e => by rw [e] at ht; have := List.contains_iff_mem.mpr ht; rw [hk] at this; cases this
 obtain ⟨P, hP⟩ : ∃ P : Prop, P = (d = d') := ⟨_, rfl⟩
 rw [← hP]
 have HP := Aside0.mk hP
 clear hP
 obtain ⟨a, rfl, f, x, m1, c1, k1⟩ := id_any hI
 obtain ⟨a', rfl, _⟩ := id_any hI'
 have HT := Aside0.mk (And.intro hT (And.intro hT' (And.intro hdis (And.intro hD hF))))
 have HI := Aside0.mk (And.intro hI hI')
 have K1 := Aside0.mk k1
 clear hT hT' hI hI' hdis hD hF k1
 have hn145 : ∀ W, (Instr.typeAssert (.iface (tyN d) (.pointer (some a))) 56 145 true).run Tryz.prog W = .ok (.tuple #[.pointer none, .bool false]) W := asn_145 _ _ (hne 145 (by decide))
 have hn116 : ∀ W, (Instr.typeAssert (.iface (tyN d) (.pointer (some a))) 56 116 true).run Tryz.prog W = .ok (.tuple #[.pointer none, .bool false]) W := asn_116 _ _ (hne 116 (by decide))
 have hn120 : ∀ W, (Instr.typeAssert (.iface (tyN d) (.pointer (some a))) 56 120 true).run Tryz.prog W = .ok (.tuple #[.pointer none, .bool false]) W := asn_120 _ _ (hne 120 (by decide))
 have hn125 : ∀ W, (Instr.typeAssert (.iface (tyN d) (.pointer (some a))) 56 125 true).run Tryz.prog W = .ok (.tuple #[.pointer none, .bool false]) W := asn_125 _ _ (hne 125 (by decide))
 have hn122 : ∀ W, (Instr.typeAssert (.iface (tyN d) (.pointer (some a))) 56 122 true).run Tryz.prog W = .ok (.tuple #[.pointer none, .bool false]) W := asn_122 _ _ (hne 122 (by decide))
 have hn214 : ∀ W, (Instr.typeAssert (.iface (tyN d) (.pointer (some a))) 56 214 true).run Tryz.prog W = .ok (.tuple #[.pointer none, .bool false]) W := asn_214 _ _ (hne 214 (by decide))
 have hn217 : ∀ W, (Instr.typeAssert (.iface (tyN d) (.pointer (some a))) 56 217 true).run Tryz.prog W = .ok (.tuple #[.pointer none, .bool false]) W := asn_217 _ _ (hne 217 (by decide))
 have hn219 : ∀ W, (Instr.typeAssert (.iface (tyN d) (.pointer (some a))) 56 219 true).run Tryz.prog W = .ok (.tuple #[.pointer none, .bool false]) W := asn_219 _ _ (hne 219 (by decide))
 have hn221 : ∀ W, (Instr.typeAssert (.iface (tyN d) (.pointer (some a))) 56 221 true).run Tryz.prog W = .ok (.tuple #[.pointer none, .bool false]) W := asn_221 _ _ (hne 221 (by decide))
 have hn229 : ∀ W, (Instr.typeAssert (.iface (tyN d) (.pointer (some a))) 56 229 true).run Tryz.prog W = .ok (.tuple #[.pointer none, .bool false]) W := asn_229 _ _ (hne 229 (by decide))
 have HN := Aside0.mk (And.intro ht ht')
 clear hne
 clear ht ht'
 go_enter Tryz.func73, Tryz.ntmps73
 go_wp2
 refine K1.out.mono ?_
 rintro e w2 ⟨rfl, hb2⟩
 have HB2 := Aside0.mk hb2
 obtain ⟨a2, e2, f2, x2, m2, c2, k2⟩ := id_any (HI.out.2.below hb2)
 obtain ⟨_, rfl⟩ := (show _ ∧ a' = a2 by injection e2 with e3 e4; injection e4 with e5; injection e5 with e6; exact ⟨trivial, e6⟩)
 have K2 := Aside0.mk k2
 clear k2 e2 m1 c1 K1 hb2
 go_wp2
 refine K2.out.mono ?_
 rintro e w3 ⟨rfl, hb3⟩
 have HB3 := Aside0.mk (below_step HB2.out hb3)
 clear hb3 m2 c2 HB2
 have q3 : (idN (tyN d) != idN (tyN d')) = false := by rw [HN.out.2]; simp
 go_wp2_with (go_at_call 96; fail)
 refine (dn96 n HT.out.2.2.2.1 HT.out.2.2.2.2 T T' d d' _ _ w3 ok ok' HT.out.1 HT.out.2.1 (HI.out.1.below HB3.out) (HI.out.2.below HB3.out) HT.out.2.2.1 HN.out.1 HN.out.2).mono ?_
 rintro e w4 ⟨⟨r, rfl, hr⟩, hb4⟩
 have HR := Aside0.mk (And.intro hr (below_step HB3.out hb4))
 clear hr hb4
 go_wp2
 go_ret
 exact ⟨⟨r, rfl, by rw [HP.out]; exact HR.out.1⟩, HR.out.2⟩
theorem dpC : ∀ (n : Nat), DpC n
 | 0 => fun T T' d d' v v' w ok ok' hT => hT.elim
 | n + 1 => fun T T' d d' v v' w ok ok' hT hT' hI hI' hdis => by
  have hD := dpC n
  have hF := fd106 n hD
  by_cases ht' : tyN d = tyN d'
  rotate_left
  ·exact dp_ne n hD hF T T' d d' v v' w ok ok' hT hT' hI hI' hdis ht'
  have hm := ty_mem hI
  by_cases hn : tyN d ∈ nestL
  ·exact dp_nest n hD hF T T' d d' v v' w ok ok' hT hT' hI hI' hdis hn ht'
  have h : tyN d ∈ [145, 116, 120, 125, 122, 214, 217, 219, 221, 229] := by
   have key : (idTab.map (·.1)).all (fun t => nestL.contains t || [145, 116, 120, 125, 122, 214, 217, 219, 221, 229].contains t) = true := by decide
   have h1 := List.all_eq_true.mp key _ hm
   rw [Bool.or_eq_true] at h1
   rcases h1 with h1 | h1
   ·exact absurd (List.contains_iff_mem.mp h1) hn
   ·exact List.contains_iff_mem.mp h1
  simp only [List.mem_cons, List.not_mem_nil, or_false] at h
  rcases h with h | h | h | h | h | h | h | h | h | h
  ·exact dp_145 n hD hF T T' d d' v v' w ok ok' hT hT' hI hI' hdis h (ht'.symm.trans h)
  ·exact dp_116 n hD hF T T' d d' v v' w ok ok' hT hT' hI hI' hdis h (ht'.symm.trans h)
  ·exact dp_120 n hD hF T T' d d' v v' w ok ok' hT hT' hI hI' hdis h (ht'.symm.trans h)
  ·exact dp_125 n hD hF T T' d d' v v' w ok ok' hT hT' hI hI' hdis h (ht'.symm.trans h)
  ·exact dp_122 n hD hF T T' d d' v v' w ok ok' hT hT' hI hI' hdis h (ht'.symm.trans h)
  ·exact dp_214 n hD hF T T' d d' v v' w ok ok' hT hT' hI hI' hdis h (ht'.symm.trans h)
  ·exact dp_217 n hD hF T T' d d' v v' w ok ok' hT hT' hI hI' hdis h (ht'.symm.trans h)
  ·exact dp_219 n hD hF T T' d d' v v' w ok ok' hT hT' hI hI' hdis h (ht'.symm.trans h)
  ·exact dp_221 n hD hF T T' d d' v v' w ok ok' hT hT' hI hI' hdis h (ht'.symm.trans h)
  ·exact dp_229 n hD hF T T' d d' v v' w ok ok' hT hT' hI hI' hdis h (ht'.symm.trans h)
end Go.Proofs.YteebgnhhjlgnjaaGreatDoor.V
