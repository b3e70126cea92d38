/- The numbers of the types (ID), and == of two of them. -/
import Derived.Test.YteebgnhhjlgnjaaGreatDoorD0
import Derived.LaidEql
import Derived.Handy
import Derived.Stop.Asserts
namespace Go.Proofs.YteebgnhhjlgnjaaGreatDoor.V
open Go.RowKit Go.Proofs.YteebgnhhjlgnjaaGreatDoorW.PrintWords Go.Proofs.YteebgnhhjlgnjaaGreatDoorW.PrintLast Go.Proofs.YteebgnhhjlgnjaaGreatDoorW.PrintMore
set_option maxHeartbeats 40000000
set_option maxRecDepth 100000
set_option linter.unusedVariables false
set_option linter.unusedSimpArgs false
def tyN : DT → Nat
 | .zero t => t
 | .num t _ => t
 | .stamp _ _ => 122
 | .dec t _ _ => t
 | .list t _ => t
 | .flist _ _ => 158
 | .struct _ => 165
 | .map _ _ => 161
 | .union t _ _ => t
 | .ree _ _ _ => 177
 | .dict _ _ _ => 229
def idTab : List (Nat × Int) := [(101, 0), (104, 1), (106, 10), (108, 11), (110, 12), (112, 16), (114, 17), (116, 19), (120, 20), (122, 18), (125, 33), (127, 21), (129, 22), (131, 37), (133, 14), (135, 13), (137, 35), (139, 34), (141, 40), (143, 39), (145, 15), (154, 25), (158, 32), (161, 30), (165, 26), (177, 38), (180, 41), (198, 3), (200, 5), (202, 7), (204, 9), (206, 2), (208, 4), (210, 6), (212, 8), (214, 43), (217, 44), (219, 23), (221, 24), (224, 27), (226, 28), (229, 29), (233, 36), (236, 42)]
def idN (t : Nat) : Int := ((idTab.find? (fun r => r.1 == t)).map (·.2)).getD (-1)
theorem idN_inj (t t' : Nat) (h : t ∈ idTab.map (·.1)) (h' : t' ∈ idTab.map (·.1)) (e : idN t = idN t') : t = t' := by
 have key : (idTab.map (·.1)).all (fun t => (idTab.map (·.1)).all (fun t' => !(decide (idN t = idN t')) || decide (t = t'))) = true := by decide +kernel
 have h1 := List.all_eq_true.mp (List.all_eq_true.mp key t h) t' h'
 simpa [e] using h1
theorem id_101 (a : Addr) (w : World) : Sem.run Tryz.prog (method 429 101 (.pointer (some a)) "ID") w = .ok (165, .pointer (some a)) w := by kernel_rfl
theorem idc_101 (a : Addr) (w : World) : Calls Tryz.prog 165 #[.pointer (some a)] w (fun e w' => e = .returned (.int .i64 0) ∧ w' = w) := by
 go_enter Tryz.func165, Tryz.ntmps165
 go_wp2
 go_ret
 exact ⟨rfl, rfl⟩
theorem id_104 (a : Addr) (w : World) : Sem.run Tryz.prog (method 429 104 (.pointer (some a)) "ID") w = .ok (169, .pointer (some a)) w := by kernel_rfl
theorem idc_104 (a : Addr) (w : World) : Calls Tryz.prog 169 #[.pointer (some a)] w (fun e w' => e = .returned (.int .i64 1) ∧ w' = w) := by
 go_enter Tryz.func169, Tryz.ntmps169
 go_wp2
 go_ret
 exact ⟨rfl, rfl⟩
theorem id_106 (a : Addr) (w : World) : Sem.run Tryz.prog (method 429 106 (.pointer (some a)) "ID") w = .ok (174, .pointer (some a)) w := by kernel_rfl
theorem idc_106 (a : Addr) (w : World) : Calls Tryz.prog 174 #[.pointer (some a)] w (fun e w' => e = .returned (.int .i64 10) ∧ w' = w) := by
 go_enter Tryz.func174, Tryz.ntmps174
 go_wp2
 go_ret
 exact ⟨rfl, rfl⟩
theorem id_108 (a : Addr) (w : World) : Sem.run Tryz.prog (method 429 108 (.pointer (some a)) "ID") w = .ok (179, .pointer (some a)) w := by kernel_rfl
theorem idc_108 (a : Addr) (w : World) : Calls Tryz.prog 179 #[.pointer (some a)] w (fun e w' => e = .returned (.int .i64 11) ∧ w' = w) := by
 go_enter Tryz.func179, Tryz.ntmps179
 go_wp2
 go_ret
 exact ⟨rfl, rfl⟩
theorem id_110 (a : Addr) (w : World) : Sem.run Tryz.prog (method 429 110 (.pointer (some a)) "ID") w = .ok (183, .pointer (some a)) w := by kernel_rfl
theorem idc_110 (a : Addr) (w : World) : Calls Tryz.prog 183 #[.pointer (some a)] w (fun e w' => e = .returned (.int .i64 12) ∧ w' = w) := by
 go_enter Tryz.func183, Tryz.ntmps183
 go_wp2
 go_ret
 exact ⟨rfl, rfl⟩
theorem id_112 (a : Addr) (w : World) : Sem.run Tryz.prog (method 429 112 (.pointer (some a)) "ID") w = .ok (187, .pointer (some a)) w := by kernel_rfl
theorem idc_112 (a : Addr) (w : World) : Calls Tryz.prog 187 #[.pointer (some a)] w (fun e w' => e = .returned (.int .i64 16) ∧ w' = w) := by
 go_enter Tryz.func187, Tryz.ntmps187
 go_wp2
 go_ret
 exact ⟨rfl, rfl⟩
theorem id_114 (a : Addr) (w : World) : Sem.run Tryz.prog (method 429 114 (.pointer (some a)) "ID") w = .ok (191, .pointer (some a)) w := by kernel_rfl
theorem idc_114 (a : Addr) (w : World) : Calls Tryz.prog 191 #[.pointer (some a)] w (fun e w' => e = .returned (.int .i64 17) ∧ w' = w) := by
 go_enter Tryz.func191, Tryz.ntmps191
 go_wp2
 go_ret
 exact ⟨rfl, rfl⟩
theorem id_116 (a : Addr) (w : World) : Sem.run Tryz.prog (method 429 116 (.pointer (some a)) "ID") w = .ok (195, .pointer (some a)) w := by kernel_rfl
theorem idc_116 (a : Addr) (w : World) : Calls Tryz.prog 195 #[.pointer (some a)] w (fun e w' => e = .returned (.int .i64 19) ∧ w' = w) := by
 go_enter Tryz.func195, Tryz.ntmps195
 go_wp2
 go_ret
 exact ⟨rfl, rfl⟩
theorem id_120 (a : Addr) (w : World) : Sem.run Tryz.prog (method 429 120 (.pointer (some a)) "ID") w = .ok (199, .pointer (some a)) w := by kernel_rfl
theorem idc_120 (a : Addr) (w : World) : Calls Tryz.prog 199 #[.pointer (some a)] w (fun e w' => e = .returned (.int .i64 20) ∧ w' = w) := by
 go_enter Tryz.func199, Tryz.ntmps199
 go_wp2
 go_ret
 exact ⟨rfl, rfl⟩
theorem id_122 (a : Addr) (w : World) : Sem.run Tryz.prog (method 429 122 (.pointer (some a)) "ID") w = .ok (203, .pointer (some a)) w := by kernel_rfl
theorem idc_122 (a : Addr) (w : World) : Calls Tryz.prog 203 #[.pointer (some a)] w (fun e w' => e = .returned (.int .i64 18) ∧ w' = w) := by
 go_enter Tryz.func203, Tryz.ntmps203
 go_wp2
 go_ret
 exact ⟨rfl, rfl⟩
theorem id_125 (a : Addr) (w : World) : Sem.run Tryz.prog (method 429 125 (.pointer (some a)) "ID") w = .ok (207, .pointer (some a)) w := by kernel_rfl
theorem idc_125 (a : Addr) (w : World) : Calls Tryz.prog 207 #[.pointer (some a)] w (fun e w' => e = .returned (.int .i64 33) ∧ w' = w) := by
 go_enter Tryz.func207, Tryz.ntmps207
 go_wp2
 go_ret
 exact ⟨rfl, rfl⟩
theorem id_127 (a : Addr) (w : World) : Sem.run Tryz.prog (method 429 127 (.pointer (some a)) "ID") w = .ok (211, .pointer (some a)) w := by kernel_rfl
theorem idc_127 (a : Addr) (w : World) : Calls Tryz.prog 211 #[.pointer (some a)] w (fun e w' => e = .returned (.int .i64 21) ∧ w' = w) := by
 go_enter Tryz.func211, Tryz.ntmps211
 go_wp2
 go_ret
 exact ⟨rfl, rfl⟩
theorem id_129 (a : Addr) (w : World) : Sem.run Tryz.prog (method 429 129 (.pointer (some a)) "ID") w = .ok (216, .pointer (some a)) w := by kernel_rfl
theorem idc_129 (a : Addr) (w : World) : Calls Tryz.prog 216 #[.pointer (some a)] w (fun e w' => e = .returned (.int .i64 22) ∧ w' = w) := by
 go_enter Tryz.func216, Tryz.ntmps216
 go_wp2
 go_ret
 exact ⟨rfl, rfl⟩
theorem id_131 (a : Addr) (w : World) : Sem.run Tryz.prog (method 429 131 (.pointer (some a)) "ID") w = .ok (221, .pointer (some a)) w := by kernel_rfl
theorem idc_131 (a : Addr) (w : World) : Calls Tryz.prog 221 #[.pointer (some a)] w (fun e w' => e = .returned (.int .i64 37) ∧ w' = w) := by
 go_enter Tryz.func221, Tryz.ntmps221
 go_wp2
 go_ret
 exact ⟨rfl, rfl⟩
theorem id_133 (a : Addr) (w : World) : Sem.run Tryz.prog (method 429 133 (.pointer (some a)) "ID") w = .ok (224, .pointer (some a)) w := by kernel_rfl
theorem idc_133 (a : Addr) (w : World) : Calls Tryz.prog 224 #[.pointer (some a)] w (fun e w' => e = .returned (.int .i64 14) ∧ w' = w) := by
 go_enter Tryz.func224, Tryz.ntmps224
 go_wp2
 go_ret
 exact ⟨rfl, rfl⟩
theorem id_135 (a : Addr) (w : World) : Sem.run Tryz.prog (method 429 135 (.pointer (some a)) "ID") w = .ok (229, .pointer (some a)) w := by kernel_rfl
theorem idc_135 (a : Addr) (w : World) : Calls Tryz.prog 229 #[.pointer (some a)] w (fun e w' => e = .returned (.int .i64 13) ∧ w' = w) := by
 go_enter Tryz.func229, Tryz.ntmps229
 go_wp2
 go_ret
 exact ⟨rfl, rfl⟩
theorem id_137 (a : Addr) (w : World) : Sem.run Tryz.prog (method 429 137 (.pointer (some a)) "ID") w = .ok (234, .pointer (some a)) w := by kernel_rfl
theorem idc_137 (a : Addr) (w : World) : Calls Tryz.prog 234 #[.pointer (some a)] w (fun e w' => e = .returned (.int .i64 35) ∧ w' = w) := by
 go_enter Tryz.func234, Tryz.ntmps234
 go_wp2
 go_ret
 exact ⟨rfl, rfl⟩
theorem id_139 (a : Addr) (w : World) : Sem.run Tryz.prog (method 429 139 (.pointer (some a)) "ID") w = .ok (239, .pointer (some a)) w := by kernel_rfl
theorem idc_139 (a : Addr) (w : World) : Calls Tryz.prog 239 #[.pointer (some a)] w (fun e w' => e = .returned (.int .i64 34) ∧ w' = w) := by
 go_enter Tryz.func239, Tryz.ntmps239
 go_wp2
 go_ret
 exact ⟨rfl, rfl⟩
theorem id_141 (a : Addr) (w : World) : Sem.run Tryz.prog (method 429 141 (.pointer (some a)) "ID") w = .ok (244, .pointer (some a)) w := by kernel_rfl
theorem idc_141 (a : Addr) (w : World) : Calls Tryz.prog 244 #[.pointer (some a)] w (fun e w' => e = .returned (.int .i64 40) ∧ w' = w) := by
 go_enter Tryz.func244, Tryz.ntmps244
 go_wp2
 go_ret
 exact ⟨rfl, rfl⟩
theorem id_143 (a : Addr) (w : World) : Sem.run Tryz.prog (method 429 143 (.pointer (some a)) "ID") w = .ok (248, .pointer (some a)) w := by kernel_rfl
theorem idc_143 (a : Addr) (w : World) : Calls Tryz.prog 248 #[.pointer (some a)] w (fun e w' => e = .returned (.int .i64 39) ∧ w' = w) := by
 go_enter Tryz.func248, Tryz.ntmps248
 go_wp2
 go_ret
 exact ⟨rfl, rfl⟩
theorem id_145 (a : Addr) (w : World) : Sem.run Tryz.prog (method 429 145 (.pointer (some a)) "ID") w = .ok (253, .pointer (some a)) w := by kernel_rfl
theorem idc_145 (a : Addr) (w : World) : Calls Tryz.prog 253 #[.pointer (some a)] w (fun e w' => e = .returned (.int .i64 15) ∧ w' = w) := by
 go_enter Tryz.func253, Tryz.ntmps253
 go_wp2
 go_ret
 exact ⟨rfl, rfl⟩
theorem id_154 (a : Addr) (w : World) : Sem.run Tryz.prog (method 429 154 (.pointer (some a)) "ID") w = .ok (256, .pointer (some a)) w := by kernel_rfl
theorem idc_154 (a : Addr) (w : World) : Calls Tryz.prog 256 #[.pointer (some a)] w (fun e w' => e = .returned (.int .i64 25) ∧ w' = w) := by
 go_enter Tryz.func256, Tryz.ntmps256
 go_wp2
 go_ret
 exact ⟨rfl, rfl⟩
theorem id_158 (a : Addr) (w : World) : Sem.run Tryz.prog (method 429 158 (.pointer (some a)) "ID") w = .ok (259, .pointer (some a)) w := by kernel_rfl
theorem idc_158 (a : Addr) (w : World) : Calls Tryz.prog 259 #[.pointer (some a)] w (fun e w' => e = .returned (.int .i64 32) ∧ w' = w) := by
 go_enter Tryz.func259, Tryz.ntmps259
 go_wp2
 go_ret
 exact ⟨rfl, rfl⟩
theorem id_161 (a : Addr) (w : World) : Sem.run Tryz.prog (method 429 161 (.pointer (some a)) "ID") w = .ok (262, .pointer (some a)) w := by kernel_rfl
theorem idc_161 (a : Addr) (w : World) : Calls Tryz.prog 262 #[.pointer (some a)] w (fun e w' => e = .returned (.int .i64 30) ∧ w' = w) := by
 go_enter Tryz.func262, Tryz.ntmps262
 go_wp2
 go_ret
 exact ⟨rfl, rfl⟩
theorem id_165 (a : Addr) (w : World) : Sem.run Tryz.prog (method 429 165 (.pointer (some a)) "ID") w = .ok (265, .pointer (some a)) w := by kernel_rfl
theorem idc_165 (a : Addr) (w : World) : Calls Tryz.prog 265 #[.pointer (some a)] w (fun e w' => e = .returned (.int .i64 26) ∧ w' = w) := by
 go_enter Tryz.func265, Tryz.ntmps265
 go_wp2
 go_ret
 exact ⟨rfl, rfl⟩
theorem id_177 (a : Addr) (w : World) : Sem.run Tryz.prog (method 429 177 (.pointer (some a)) "ID") w = .ok (268, .pointer (some a)) w := by kernel_rfl
theorem idc_177 (a : Addr) (w : World) : Calls Tryz.prog 268 #[.pointer (some a)] w (fun e w' => e = .returned (.int .i64 38) ∧ w' = w) := by
 go_enter Tryz.func268, Tryz.ntmps268
 go_wp2
 go_ret
 exact ⟨rfl, rfl⟩
theorem id_180 (a : Addr) (w : World) : Sem.run Tryz.prog (method 429 180 (.pointer (some a)) "ID") w = .ok (272, .pointer (some a)) w := by kernel_rfl
theorem idc_180 (a : Addr) (w : World) : Calls Tryz.prog 272 #[.pointer (some a)] w (fun e w' => e = .returned (.int .i64 41) ∧ w' = w) := by
 go_enter Tryz.func272, Tryz.ntmps272
 go_wp2
 go_ret
 exact ⟨rfl, rfl⟩
theorem id_198 (a : Addr) (w : World) : Sem.run Tryz.prog (method 429 198 (.pointer (some a)) "ID") w = .ok (278, .pointer (some a)) w := by kernel_rfl
theorem idc_198 (a : Addr) (w : World) : Calls Tryz.prog 278 #[.pointer (some a)] w (fun e w' => e = .returned (.int .i64 3) ∧ w' = w) := by
 go_enter Tryz.func278, Tryz.ntmps278
 go_wp2
 go_ret
 exact ⟨rfl, rfl⟩
theorem id_200 (a : Addr) (w : World) : Sem.run Tryz.prog (method 429 200 (.pointer (some a)) "ID") w = .ok (282, .pointer (some a)) w := by kernel_rfl
theorem idc_200 (a : Addr) (w : World) : Calls Tryz.prog 282 #[.pointer (some a)] w (fun e w' => e = .returned (.int .i64 5) ∧ w' = w) := by
 go_enter Tryz.func282, Tryz.ntmps282
 go_wp2
 go_ret
 exact ⟨rfl, rfl⟩
theorem id_202 (a : Addr) (w : World) : Sem.run Tryz.prog (method 429 202 (.pointer (some a)) "ID") w = .ok (286, .pointer (some a)) w := by kernel_rfl
theorem idc_202 (a : Addr) (w : World) : Calls Tryz.prog 286 #[.pointer (some a)] w (fun e w' => e = .returned (.int .i64 7) ∧ w' = w) := by
 go_enter Tryz.func286, Tryz.ntmps286
 go_wp2
 go_ret
 exact ⟨rfl, rfl⟩
theorem id_204 (a : Addr) (w : World) : Sem.run Tryz.prog (method 429 204 (.pointer (some a)) "ID") w = .ok (290, .pointer (some a)) w := by kernel_rfl
theorem idc_204 (a : Addr) (w : World) : Calls Tryz.prog 290 #[.pointer (some a)] w (fun e w' => e = .returned (.int .i64 9) ∧ w' = w) := by
 go_enter Tryz.func290, Tryz.ntmps290
 go_wp2
 go_ret
 exact ⟨rfl, rfl⟩
theorem id_206 (a : Addr) (w : World) : Sem.run Tryz.prog (method 429 206 (.pointer (some a)) "ID") w = .ok (294, .pointer (some a)) w := by kernel_rfl
theorem idc_206 (a : Addr) (w : World) : Calls Tryz.prog 294 #[.pointer (some a)] w (fun e w' => e = .returned (.int .i64 2) ∧ w' = w) := by
 go_enter Tryz.func294, Tryz.ntmps294
 go_wp2
 go_ret
 exact ⟨rfl, rfl⟩
theorem id_208 (a : Addr) (w : World) : Sem.run Tryz.prog (method 429 208 (.pointer (some a)) "ID") w = .ok (298, .pointer (some a)) w := by kernel_rfl
theorem idc_208 (a : Addr) (w : World) : Calls Tryz.prog 298 #[.pointer (some a)] w (fun e w' => e = .returned (.int .i64 4) ∧ w' = w) := by
 go_enter Tryz.func298, Tryz.ntmps298
 go_wp2
 go_ret
 exact ⟨rfl, rfl⟩
theorem id_210 (a : Addr) (w : World) : Sem.run Tryz.prog (method 429 210 (.pointer (some a)) "ID") w = .ok (302, .pointer (some a)) w := by kernel_rfl
theorem idc_210 (a : Addr) (w : World) : Calls Tryz.prog 302 #[.pointer (some a)] w (fun e w' => e = .returned (.int .i64 6) ∧ w' = w) := by
 go_enter Tryz.func302, Tryz.ntmps302
 go_wp2
 go_ret
 exact ⟨rfl, rfl⟩
theorem id_212 (a : Addr) (w : World) : Sem.run Tryz.prog (method 429 212 (.pointer (some a)) "ID") w = .ok (306, .pointer (some a)) w := by kernel_rfl
theorem idc_212 (a : Addr) (w : World) : Calls Tryz.prog 306 #[.pointer (some a)] w (fun e w' => e = .returned (.int .i64 8) ∧ w' = w) := by
 go_enter Tryz.func306, Tryz.ntmps306
 go_wp2
 go_ret
 exact ⟨rfl, rfl⟩
theorem id_214 (a : Addr) (w : World) : Sem.run Tryz.prog (method 429 214 (.pointer (some a)) "ID") w = .ok (310, .pointer (some a)) w := by kernel_rfl
theorem idc_214 (a : Addr) (w : World) : Calls Tryz.prog 310 #[.pointer (some a)] w (fun e w' => e = .returned (.int .i64 43) ∧ w' = w) := by
 go_enter Tryz.func310, Tryz.ntmps310
 go_wp2
 go_ret
 exact ⟨rfl, rfl⟩
theorem id_217 (a : Addr) (w : World) : Sem.run Tryz.prog (method 429 217 (.pointer (some a)) "ID") w = .ok (314, .pointer (some a)) w := by kernel_rfl
theorem idc_217 (a : Addr) (w : World) : Calls Tryz.prog 314 #[.pointer (some a)] w (fun e w' => e = .returned (.int .i64 44) ∧ w' = w) := by
 go_enter Tryz.func314, Tryz.ntmps314
 go_wp2
 go_ret
 exact ⟨rfl, rfl⟩
theorem id_219 (a : Addr) (w : World) : Sem.run Tryz.prog (method 429 219 (.pointer (some a)) "ID") w = .ok (318, .pointer (some a)) w := by kernel_rfl
theorem idc_219 (a : Addr) (w : World) : Calls Tryz.prog 318 #[.pointer (some a)] w (fun e w' => e = .returned (.int .i64 23) ∧ w' = w) := by
 go_enter Tryz.func318, Tryz.ntmps318
 go_wp2
 go_ret
 exact ⟨rfl, rfl⟩
theorem id_221 (a : Addr) (w : World) : Sem.run Tryz.prog (method 429 221 (.pointer (some a)) "ID") w = .ok (322, .pointer (some a)) w := by kernel_rfl
theorem idc_221 (a : Addr) (w : World) : Calls Tryz.prog 322 #[.pointer (some a)] w (fun e w' => e = .returned (.int .i64 24) ∧ w' = w) := by
 go_enter Tryz.func322, Tryz.ntmps322
 go_wp2
 go_ret
 exact ⟨rfl, rfl⟩
theorem id_229 (a : Addr) (w : World) : Sem.run Tryz.prog (method 429 229 (.pointer (some a)) "ID") w = .ok (335, .pointer (some a)) w := by kernel_rfl
theorem idc_229 (a : Addr) (w : World) : Calls Tryz.prog 335 #[.pointer (some a)] w (fun e w' => e = .returned (.int .i64 29) ∧ w' = w) := by
 go_enter Tryz.func335, Tryz.ntmps335
 go_wp2
 go_ret
 exact ⟨rfl, rfl⟩
theorem id_236 (a : Addr) (w : World) : Sem.run Tryz.prog (method 429 236 (.pointer (some a)) "ID") w = .ok (342, .pointer (some a)) w := by kernel_rfl
theorem idc_236 (a : Addr) (w : World) : Calls Tryz.prog 342 #[.pointer (some a)] w (fun e w' => e = .returned (.int .i64 42) ∧ w' = w) := by
 go_enter Tryz.func342, Tryz.ntmps342
 go_wp2
 go_ret
 exact ⟨rfl, rfl⟩
theorem eql_same {t te : Nat} {i j : TypeInfo} (hp : Tryz.prog.underlying t = some (.pointer te)) (hinfo : Tryz.prog.info? t = some i) (hcomp : i.comparable = true) (hte : Tryz.prog.info? te = some j) (hsz : j.size = 0) (a b : Addr) (w : World) :
 ∃ bb w', (binOp BinOp.eql 56 (.iface t (.pointer (some a))) (.iface t (.pointer (some b)))).run Tryz.prog w = .ok (.bool bb) w' ∧ (w' = w ∨ w' = w.drew) := by
 by_cases hab : a = b
 ·subst hab
  exact ⟨true, w, run_eql_iface_ptr_same w a Tryz.underlying56 hp hinfo hcomp hte, .inl rfl⟩
 ·refine ⟨decide (Question.zeroSizeEq.cut (w.tape w.drawn .zeroSizeEq) = 1), w.drew, ?_, .inr rfl⟩
  have h1 : ∀ d : Nat, (Op.equalIn (d + 2) 56 (.iface t (.pointer (some a))) (.iface t (.pointer (some b)))).run Tryz.prog w = .ok (decide (Question.zeroSizeEq.cut (w.tape w.drawn .zeroSizeEq) = 1)) w.drew := fun d => by
   simp [Op.equalIn, run_underlying Tryz.underlying56, run_underlying hp, typeInfo, hinfo, hcomp, sizeOf, hte, hsz, hab, choose, Question.forced]
   rfl
  simp only [binOp]
  simp [Op.equal, Op.maxDepth, h1 9998]
theorem eql_other (t t' : Nat) (x y : Value) (w : World) (h : t ≠ t') : (binOp BinOp.eql 56 (.iface t x) (.iface t' y)).run Tryz.prog w = .ok (.bool false) w := by
 have h1 : ∀ d : Nat, (Op.equalIn (d + 1) 56 (.iface t x) (.iface t' y)).run Tryz.prog w = .ok false w := fun d => by simp [Op.equalIn, run_underlying Tryz.underlying56, h]
 simp only [binOp]
 simp [Op.equal, Op.maxDepth, h1 9999]
theorem idv_224 (a : Addr) (w : World) (v : Value) (h : (loadVar 260 a).run Tryz.prog w = .ok v w) : Sem.run Tryz.prog (method 429 224 (.pointer (some a)) "ID") w = .ok (326, v) w := by
 have e : Sem.run Tryz.prog (method 429 224 (.pointer (some a)) "ID") w = (Sem.run Tryz.prog (loadVar 260 a) w).andThen (fun x w' => .ok (326, x) w') := by
  have h1 : method 429 224 (.pointer (some a)) "ID" = (do
   let info ← typeInfo 224
   let some m := info.methods.find? (·.name == "ID") | stuck "invoke: the dynamic type lacks the method"
   let (xt, x) ← follow m.path.toList 224 (.val (.pointer (some a)))
   match m.func with
   | none => match ← x.get xt with
    | .iface t' v' => method 428 t' v' "ID"
    | .nilIface => runtimePanic .nilDeref
    | _ => stuck "method row: interface value expected"
   | some (f, pointerReceiver) => pure (f, ← receiverAt xt x pointerReceiver (if m.path.isEmpty then some (("ID".splitOn ".").getLastD "ID") else none))) := rfl
  rw [h1]
  have hf : Tryz.t224.methods.find? (·.name == "ID") = some { name := "ID", sig := 150, path := #[], func := some (326, false) } := by kernel_rfl
  have hi : Tryz.prog.info? 224 = some Tryz.t224 := by kernel_rfl
  have hn : ∀ s, Builtin.ssaWrapNilChk_ #[224] 224 #[.pointer (some a), strVal "", strVal s] = pure (.pointer (some a)) := fun s => rfl
  simp [typeInfo, hi, hf, follow, receiverAt, run_underlying Tryz.underlying224, Place.get, hn, asAddr]
  done
 rw [e, h]
 rfl
theorem idc_224 (X : Array Value) (w : World) : Calls Tryz.prog 326 #[.agg X] w (fun e w' => e = .returned (.int .i64 27) ∧ Below w.heap.size w w') := by
 go_enter Tryz.func326, Tryz.ntmps326
 go_wp2
 go_ret
 exact ⟨rfl, bl⟩
theorem idv_226 (a : Addr) (w : World) (v : Value) (h : (loadVar 263 a).run Tryz.prog w = .ok v w) : Sem.run Tryz.prog (method 429 226 (.pointer (some a)) "ID") w = .ok (331, v) w := by
 have e : Sem.run Tryz.prog (method 429 226 (.pointer (some a)) "ID") w = (Sem.run Tryz.prog (loadVar 263 a) w).andThen (fun x w' => .ok (331, x) w') := by
  have h1 : method 429 226 (.pointer (some a)) "ID" = (do
   let info ← typeInfo 226
   let some m := info.methods.find? (·.name == "ID") | stuck "invoke: the dynamic type lacks the method"
   let (xt, x) ← follow m.path.toList 226 (.val (.pointer (some a)))
   match m.func with
   | none => match ← x.get xt with
    | .iface t' v' => method 428 t' v' "ID"
    | .nilIface => runtimePanic .nilDeref
    | _ => stuck "method row: interface value expected"
   | some (f, pointerReceiver) => pure (f, ← receiverAt xt x pointerReceiver (if m.path.isEmpty then some (("ID".splitOn ".").getLastD "ID") else none))) := rfl
  rw [h1]
  have hf : Tryz.t226.methods.find? (·.name == "ID") = some { name := "ID", sig := 150, path := #[], func := some (331, false) } := by kernel_rfl
  have hi : Tryz.prog.info? 226 = some Tryz.t226 := by kernel_rfl
  have hn : ∀ s, Builtin.ssaWrapNilChk_ #[226] 226 #[.pointer (some a), strVal "", strVal s] = pure (.pointer (some a)) := fun s => rfl
  simp [typeInfo, hi, hf, follow, receiverAt, run_underlying Tryz.underlying226, Place.get, hn, asAddr]
  done
 rw [e, h]
 rfl
theorem idc_226 (X : Array Value) (w : World) : Calls Tryz.prog 331 #[.agg X] w (fun e w' => e = .returned (.int .i64 28) ∧ Below w.heap.size w w') := by
 go_enter Tryz.func331, Tryz.ntmps331
 go_wp2
 go_ret
 exact ⟨rfl, bl⟩
theorem idv_233 (a : Addr) (w : World) (v : Value) (h : (loadVar 265 a).run Tryz.prog w = .ok v w) : Sem.run Tryz.prog (method 429 233 (.pointer (some a)) "ID") w = .ok (338, v) w := by
 have e : Sem.run Tryz.prog (method 429 233 (.pointer (some a)) "ID") w = (Sem.run Tryz.prog (loadVar 265 a) w).andThen (fun x w' => .ok (338, x) w') := by
  have h1 : method 429 233 (.pointer (some a)) "ID" = (do
   let info ← typeInfo 233
   let some m := info.methods.find? (·.name == "ID") | stuck "invoke: the dynamic type lacks the method"
   let (xt, x) ← follow m.path.toList 233 (.val (.pointer (some a)))
   match m.func with
   | none => match ← x.get xt with
    | .iface t' v' => method 428 t' v' "ID"
    | .nilIface => runtimePanic .nilDeref
    | _ => stuck "method row: interface value expected"
   | some (f, pointerReceiver) => pure (f, ← receiverAt xt x pointerReceiver (if m.path.isEmpty then some (("ID".splitOn ".").getLastD "ID") else none))) := rfl
  rw [h1]
  have hf : Tryz.t233.methods.find? (·.name == "ID") = some { name := "ID", sig := 150, path := #[], func := some (338, false) } := by kernel_rfl
  have hi : Tryz.prog.info? 233 = some Tryz.t233 := by kernel_rfl
  have hn : ∀ s, Builtin.ssaWrapNilChk_ #[233] 233 #[.pointer (some a), strVal "", strVal s] = pure (.pointer (some a)) := fun s => rfl
  simp [typeInfo, hi, hf, follow, receiverAt, run_underlying Tryz.underlying233, Place.get, hn, asAddr]
  done
 rw [e, h]
 rfl
theorem idc_233 (X : Array Value) (w : World) : Calls Tryz.prog 338 #[.agg X] w (fun e w' => e = .returned (.int .i64 36) ∧ Below w.heap.size w w') := by
 go_enter Tryz.func338, Tryz.ntmps338
 go_wp2
 go_ret
 exact ⟨rfl, bl⟩
def IdAt (t : Nat) (a : Addr) (w : World) : Prop := ∃ f x, Sem.run Tryz.prog (method 429 t (.pointer (some a)) "ID") w = .ok (f, x) w ∧ (callFunc f #[x]).run Tryz.prog w = .ok (Next.enter f #[x]) w ∧ Calls Tryz.prog f #[x] w (fun e w' => e = .returned (.int .i64 (idN t)) ∧ Below w.heap.size w w')
theorem idp_101 (a : Addr) (w : World) : IdAt 101 a w := ⟨165, _, id_101 a w, by kernel_rfl, (idc_101 a w).mono fun e w' h => ⟨h.1, by rw [h.2]; exact Below.refl _ _⟩⟩
theorem idp_104 (a : Addr) (w : World) : IdAt 104 a w := ⟨169, _, id_104 a w, by kernel_rfl, (idc_104 a w).mono fun e w' h => ⟨h.1, by rw [h.2]; exact Below.refl _ _⟩⟩
theorem idp_106 (a : Addr) (w : World) : IdAt 106 a w := ⟨174, _, id_106 a w, by kernel_rfl, (idc_106 a w).mono fun e w' h => ⟨h.1, by rw [h.2]; exact Below.refl _ _⟩⟩
theorem idp_108 (a : Addr) (w : World) : IdAt 108 a w := ⟨179, _, id_108 a w, by kernel_rfl, (idc_108 a w).mono fun e w' h => ⟨h.1, by rw [h.2]; exact Below.refl _ _⟩⟩
theorem idp_110 (a : Addr) (w : World) : IdAt 110 a w := ⟨183, _, id_110 a w, by kernel_rfl, (idc_110 a w).mono fun e w' h => ⟨h.1, by rw [h.2]; exact Below.refl _ _⟩⟩
theorem idp_112 (a : Addr) (w : World) : IdAt 112 a w := ⟨187, _, id_112 a w, by kernel_rfl, (idc_112 a w).mono fun e w' h => ⟨h.1, by rw [h.2]; exact Below.refl _ _⟩⟩
theorem idp_114 (a : Addr) (w : World) : IdAt 114 a w := ⟨191, _, id_114 a w, by kernel_rfl, (idc_114 a w).mono fun e w' h => ⟨h.1, by rw [h.2]; exact Below.refl _ _⟩⟩
theorem idp_116 (a : Addr) (w : World) : IdAt 116 a w := ⟨195, _, id_116 a w, by kernel_rfl, (idc_116 a w).mono fun e w' h => ⟨h.1, by rw [h.2]; exact Below.refl _ _⟩⟩
theorem idp_120 (a : Addr) (w : World) : IdAt 120 a w := ⟨199, _, id_120 a w, by kernel_rfl, (idc_120 a w).mono fun e w' h => ⟨h.1, by rw [h.2]; exact Below.refl _ _⟩⟩
theorem idp_122 (a : Addr) (w : World) : IdAt 122 a w := ⟨203, _, id_122 a w, by kernel_rfl, (idc_122 a w).mono fun e w' h => ⟨h.1, by rw [h.2]; exact Below.refl _ _⟩⟩
theorem idp_125 (a : Addr) (w : World) : IdAt 125 a w := ⟨207, _, id_125 a w, by kernel_rfl, (idc_125 a w).mono fun e w' h => ⟨h.1, by rw [h.2]; exact Below.refl _ _⟩⟩
theorem idp_127 (a : Addr) (w : World) : IdAt 127 a w := ⟨211, _, id_127 a w, by kernel_rfl, (idc_127 a w).mono fun e w' h => ⟨h.1, by rw [h.2]; exact Below.refl _ _⟩⟩
theorem idp_129 (a : Addr) (w : World) : IdAt 129 a w := ⟨216, _, id_129 a w, by kernel_rfl, (idc_129 a w).mono fun e w' h => ⟨h.1, by rw [h.2]; exact Below.refl _ _⟩⟩
theorem idp_131 (a : Addr) (w : World) : IdAt 131 a w := ⟨221, _, id_131 a w, by kernel_rfl, (idc_131 a w).mono fun e w' h => ⟨h.1, by rw [h.2]; exact Below.refl _ _⟩⟩
theorem idp_133 (a : Addr) (w : World) : IdAt 133 a w := ⟨224, _, id_133 a w, by kernel_rfl, (idc_133 a w).mono fun e w' h => ⟨h.1, by rw [h.2]; exact Below.refl _ _⟩⟩
theorem idp_135 (a : Addr) (w : World) : IdAt 135 a w := ⟨229, _, id_135 a w, by kernel_rfl, (idc_135 a w).mono fun e w' h => ⟨h.1, by rw [h.2]; exact Below.refl _ _⟩⟩
theorem idp_137 (a : Addr) (w : World) : IdAt 137 a w := ⟨234, _, id_137 a w, by kernel_rfl, (idc_137 a w).mono fun e w' h => ⟨h.1, by rw [h.2]; exact Below.refl _ _⟩⟩
theorem idp_139 (a : Addr) (w : World) : IdAt 139 a w := ⟨239, _, id_139 a w, by kernel_rfl, (idc_139 a w).mono fun e w' h => ⟨h.1, by rw [h.2]; exact Below.refl _ _⟩⟩
theorem idp_141 (a : Addr) (w : World) : IdAt 141 a w := ⟨244, _, id_141 a w, by kernel_rfl, (idc_141 a w).mono fun e w' h => ⟨h.1, by rw [h.2]; exact Below.refl _ _⟩⟩
theorem idp_143 (a : Addr) (w : World) : IdAt 143 a w := ⟨248, _, id_143 a w, by kernel_rfl, (idc_143 a w).mono fun e w' h => ⟨h.1, by rw [h.2]; exact Below.refl _ _⟩⟩
theorem idp_145 (a : Addr) (w : World) : IdAt 145 a w := ⟨253, _, id_145 a w, by kernel_rfl, (idc_145 a w).mono fun e w' h => ⟨h.1, by rw [h.2]; exact Below.refl _ _⟩⟩
theorem idp_154 (a : Addr) (w : World) : IdAt 154 a w := ⟨256, _, id_154 a w, by kernel_rfl, (idc_154 a w).mono fun e w' h => ⟨h.1, by rw [h.2]; exact Below.refl _ _⟩⟩
theorem idp_158 (a : Addr) (w : World) : IdAt 158 a w := ⟨259, _, id_158 a w, by kernel_rfl, (idc_158 a w).mono fun e w' h => ⟨h.1, by rw [h.2]; exact Below.refl _ _⟩⟩
theorem idp_161 (a : Addr) (w : World) : IdAt 161 a w := ⟨262, _, id_161 a w, by kernel_rfl, (idc_161 a w).mono fun e w' h => ⟨h.1, by rw [h.2]; exact Below.refl _ _⟩⟩
theorem idp_165 (a : Addr) (w : World) : IdAt 165 a w := ⟨265, _, id_165 a w, by kernel_rfl, (idc_165 a w).mono fun e w' h => ⟨h.1, by rw [h.2]; exact Below.refl _ _⟩⟩
theorem idp_177 (a : Addr) (w : World) : IdAt 177 a w := ⟨268, _, id_177 a w, by kernel_rfl, (idc_177 a w).mono fun e w' h => ⟨h.1, by rw [h.2]; exact Below.refl _ _⟩⟩
theorem idp_180 (a : Addr) (w : World) : IdAt 180 a w := ⟨272, _, id_180 a w, by kernel_rfl, (idc_180 a w).mono fun e w' h => ⟨h.1, by rw [h.2]; exact Below.refl _ _⟩⟩
theorem idp_198 (a : Addr) (w : World) : IdAt 198 a w := ⟨278, _, id_198 a w, by kernel_rfl, (idc_198 a w).mono fun e w' h => ⟨h.1, by rw [h.2]; exact Below.refl _ _⟩⟩
theorem idp_200 (a : Addr) (w : World) : IdAt 200 a w := ⟨282, _, id_200 a w, by kernel_rfl, (idc_200 a w).mono fun e w' h => ⟨h.1, by rw [h.2]; exact Below.refl _ _⟩⟩
theorem idp_202 (a : Addr) (w : World) : IdAt 202 a w := ⟨286, _, id_202 a w, by kernel_rfl, (idc_202 a w).mono fun e w' h => ⟨h.1, by rw [h.2]; exact Below.refl _ _⟩⟩
theorem idp_204 (a : Addr) (w : World) : IdAt 204 a w := ⟨290, _, id_204 a w, by kernel_rfl, (idc_204 a w).mono fun e w' h => ⟨h.1, by rw [h.2]; exact Below.refl _ _⟩⟩
theorem idp_206 (a : Addr) (w : World) : IdAt 206 a w := ⟨294, _, id_206 a w, by kernel_rfl, (idc_206 a w).mono fun e w' h => ⟨h.1, by rw [h.2]; exact Below.refl _ _⟩⟩
theorem idp_208 (a : Addr) (w : World) : IdAt 208 a w := ⟨298, _, id_208 a w, by kernel_rfl, (idc_208 a w).mono fun e w' h => ⟨h.1, by rw [h.2]; exact Below.refl _ _⟩⟩
theorem idp_210 (a : Addr) (w : World) : IdAt 210 a w := ⟨302, _, id_210 a w, by kernel_rfl, (idc_210 a w).mono fun e w' h => ⟨h.1, by rw [h.2]; exact Below.refl _ _⟩⟩
theorem idp_212 (a : Addr) (w : World) : IdAt 212 a w := ⟨306, _, id_212 a w, by kernel_rfl, (idc_212 a w).mono fun e w' h => ⟨h.1, by rw [h.2]; exact Below.refl _ _⟩⟩
theorem idp_214 (a : Addr) (w : World) : IdAt 214 a w := ⟨310, _, id_214 a w, by kernel_rfl, (idc_214 a w).mono fun e w' h => ⟨h.1, by rw [h.2]; exact Below.refl _ _⟩⟩
theorem idp_217 (a : Addr) (w : World) : IdAt 217 a w := ⟨314, _, id_217 a w, by kernel_rfl, (idc_217 a w).mono fun e w' h => ⟨h.1, by rw [h.2]; exact Below.refl _ _⟩⟩
theorem idp_219 (a : Addr) (w : World) : IdAt 219 a w := ⟨318, _, id_219 a w, by kernel_rfl, (idc_219 a w).mono fun e w' h => ⟨h.1, by rw [h.2]; exact Below.refl _ _⟩⟩
theorem idp_221 (a : Addr) (w : World) : IdAt 221 a w := ⟨322, _, id_221 a w, by kernel_rfl, (idc_221 a w).mono fun e w' h => ⟨h.1, by rw [h.2]; exact Below.refl _ _⟩⟩
theorem idp_229 (a : Addr) (w : World) : IdAt 229 a w := ⟨335, _, id_229 a w, by kernel_rfl, (idc_229 a w).mono fun e w' h => ⟨h.1, by rw [h.2]; exact Below.refl _ _⟩⟩
theorem idp_236 (a : Addr) (w : World) : IdAt 236 a w := ⟨342, _, id_236 a w, by kernel_rfl, (idc_236 a w).mono fun e w' h => ⟨h.1, by rw [h.2]; exact Below.refl _ _⟩⟩
theorem idp_224 {g : Nat} {w : World} {cs : Array Value} (h : w.heap[g]? = some (.cells cs 260 (0, 0))) (hs : cs.size = 130) : IdAt 224 ⟨g, 0, none⟩ w := ⟨326, _, idv_224 _ w _ (run_loadVar_row w g 260 260 cs (0, 0) _ h Tryz.underlying260 rfl (by rw [hs]; kernel_rfl)), by kernel_rfl, idc_224 _ w⟩
theorem idp_226 {g : Nat} {w : World} {cs : Array Value} (h : w.heap[g]? = some (.cells cs 263 (0, 0))) (hs : cs.size = 130) : IdAt 226 ⟨g, 0, none⟩ w := ⟨331, _, idv_226 _ w _ (run_loadVar_row w g 263 263 cs (0, 0) _ h Tryz.underlying263 rfl (by rw [hs]; kernel_rfl)), by kernel_rfl, idc_226 _ w⟩
theorem idp_233 {g : Nat} {w : World} {cs : Array Value} (h : w.heap[g]? = some (.cells cs 265 (0, 0))) (hs : cs.size = 5) : IdAt 233 ⟨g, 0, none⟩ w := ⟨338, _, idv_233 _ w _ (run_loadVar_row w g 265 265 cs (0, 0) _ h Tryz.underlying265 rfl (by rw [hs]; kernel_rfl)), by kernel_rfl, idc_233 _ w⟩
theorem DTIn.root {W : World} {ok : Nat → Prop} {d : DT} {v : Value} (h : DTIn W ok d v) : (∃ t, d = .zero t ∧ t ∈ zeroT ∧ ∃ a, v = .iface t (.pointer (some a))) ∨ (tyN d ∉ zeroT ∧ tyN d ∈ idTab.map (·.1) ∧ ∃ g cs q, v = ptrAt (tyN d) g ∧ ok g ∧ W.heap[g]? = some (.cells cs q (0, 0))) := by
 cases d <;> simp only [DTIn] at h
 case zero => exact .inl ⟨_, rfl, h.1, h.2⟩
 case num t u => obtain ⟨ht, g, e, hk, hg⟩ := h; exact .inr ⟨show t ∉ zeroT by revert ht; intro ht; simp only [List.mem_cons, List.not_mem_nil, or_false] at ht; rcases ht with rfl | rfl | rfl | rfl <;> decide, show t ∈ idTab.map (·.1) by revert ht; intro ht; simp only [List.mem_cons, List.not_mem_nil, or_false] at ht; rcases ht with rfl | rfl | rfl | rfl <;> decide, g, _, _, e, hk, hg⟩
 case stamp => obtain ⟨g, e, hk, hg⟩ := h; exact .inr ⟨show 122 ∉ zeroT by decide, show 122 ∈ idTab.map (·.1) by decide, g, _, _, e, hk, hg⟩
 case dec t p s => obtain ⟨ht, g, e, hk, hg⟩ := h; exact .inr ⟨show t ∉ zeroT by revert ht; intro ht; simp only [List.mem_cons, List.not_mem_nil, or_false] at ht; rcases ht with rfl | rfl | rfl | rfl <;> decide, show t ∈ idTab.map (·.1) by revert ht; intro ht; simp only [List.mem_cons, List.not_mem_nil, or_false] at ht; rcases ht with rfl | rfl | rfl | rfl <;> decide, g, _, _, e, hk, hg⟩
 case list t f => obtain ⟨ht, g, cs, e, hk, hg, _⟩ := h; exact .inr ⟨show t ∉ zeroT by revert ht; intro ht; simp only [List.mem_cons, List.not_mem_nil, or_false] at ht; rcases ht with rfl | rfl | rfl | rfl <;> decide, show t ∈ idTab.map (·.1) by revert ht; intro ht; simp only [List.mem_cons, List.not_mem_nil, or_false] at ht; rcases ht with rfl | rfl | rfl | rfl <;> decide, g, _, _, e, hk, hg⟩
 case flist => obtain ⟨g, cs, e, hk, hg, _⟩ := h; exact .inr ⟨show 158 ∉ zeroT by decide, show 158 ∈ idTab.map (·.1) by decide, g, _, _, e, hk, hg⟩
 case struct => obtain ⟨g, A, c, m, e, hk, hg, _⟩ := h; exact .inr ⟨show 165 ∉ zeroT by decide, show 165 ∈ idTab.map (·.1) by decide, g, _, _, e, hk, hg⟩
 case map => obtain ⟨g, b, cs, e, hk, _, hg, _⟩ := h; exact .inr ⟨show 161 ∉ zeroT by decide, show 161 ∈ idTab.map (·.1) by decide, g, _, _, e, hk, hg⟩
 case union t fs codes => obtain ⟨ht, g, A, c, A', c', e, hk, hg, _⟩ := h; exact .inr ⟨show t ∉ zeroT by revert ht; intro ht; simp only [List.mem_cons, List.not_mem_nil, or_false] at ht; rcases ht with rfl | rfl <;> decide, show t ∈ idTab.map (·.1) by revert ht; intro ht; simp only [List.mem_cons, List.not_mem_nil, or_false] at ht; rcases ht with rfl | rfl <;> decide, g, _, _, e, hk, hg⟩
 case ree => obtain ⟨g, x, y, e, hk, hg, _⟩ := h; exact .inr ⟨show 177 ∉ zeroT by decide, show 177 ∈ idTab.map (·.1) by decide, g, _, _, e, hk, hg⟩
 case dict => obtain ⟨g, x, y, e, hk, hg, _⟩ := h; exact .inr ⟨show 229 ∉ zeroT by decide, show 229 ∈ idTab.map (·.1) by decide, g, _, _, e, hk, hg⟩
theorem ty_mem {W : World} {ok : Nat → Prop} {d : DT} {v : Value} (h : DTIn W ok d v) : tyN d ∈ idTab.map (·.1) := by
 rcases h.root with ⟨t, rfl, ht, _⟩ | h
 ·show t ∈ _
  have key : zeroT.all (fun t => (idTab.map (·.1)).contains t) = true := by decide
  simpa using List.all_eq_true.mp key t ht
 ·exact h.2.1
theorem elt_of (t : Nat) (h : t ∈ idTab.map (·.1)) : ∃ te i j, Tryz.prog.underlying t = some (.pointer te) ∧ Tryz.prog.info? t = some i ∧ i.comparable = true ∧ Tryz.prog.info? te = some j ∧ (if t ∈ zeroT then j.size = 0 else j.size ≠ 0) := by
 simp only [idTab, List.map_cons, List.map_nil, List.mem_cons, List.not_mem_nil, or_false] at h
 rcases h with rfl | rfl | rfl | rfl | rfl | rfl | rfl | rfl | rfl | rfl | rfl | rfl | rfl | rfl | rfl | rfl | rfl | rfl | rfl | rfl | rfl | rfl | rfl | rfl | rfl | rfl | rfl | rfl | rfl | rfl | rfl | rfl | rfl | rfl | rfl | rfl | rfl | rfl | rfl | rfl | rfl | rfl | rfl | rfl
 ·exact ⟨103, Tryz.t101, Tryz.t103, Tryz.underlying101, by kernel_rfl, by kernel_rfl, by kernel_rfl, by decide⟩
 ·exact ⟨105, Tryz.t104, Tryz.t105, Tryz.underlying104, by kernel_rfl, by kernel_rfl, by kernel_rfl, by decide⟩
 ·exact ⟨107, Tryz.t106, Tryz.t107, Tryz.underlying106, by kernel_rfl, by kernel_rfl, by kernel_rfl, by decide⟩
 ·exact ⟨109, Tryz.t108, Tryz.t109, Tryz.underlying108, by kernel_rfl, by kernel_rfl, by kernel_rfl, by decide⟩
 ·exact ⟨111, Tryz.t110, Tryz.t111, Tryz.underlying110, by kernel_rfl, by kernel_rfl, by kernel_rfl, by decide⟩
 ·exact ⟨113, Tryz.t112, Tryz.t113, Tryz.underlying112, by kernel_rfl, by kernel_rfl, by kernel_rfl, by decide⟩
 ·exact ⟨115, Tryz.t114, Tryz.t115, Tryz.underlying114, by kernel_rfl, by kernel_rfl, by kernel_rfl, by decide⟩
 ·exact ⟨119, Tryz.t116, Tryz.t119, Tryz.underlying116, by kernel_rfl, by kernel_rfl, by kernel_rfl, by decide⟩
 ·exact ⟨121, Tryz.t120, Tryz.t121, Tryz.underlying120, by kernel_rfl, by kernel_rfl, by kernel_rfl, by decide⟩
 ·exact ⟨124, Tryz.t122, Tryz.t124, Tryz.underlying122, by kernel_rfl, by kernel_rfl, by kernel_rfl, by decide⟩
 ·exact ⟨126, Tryz.t125, Tryz.t126, Tryz.underlying125, by kernel_rfl, by kernel_rfl, by kernel_rfl, by decide⟩
 ·exact ⟨128, Tryz.t127, Tryz.t128, Tryz.underlying127, by kernel_rfl, by kernel_rfl, by kernel_rfl, by decide⟩
 ·exact ⟨130, Tryz.t129, Tryz.t130, Tryz.underlying129, by kernel_rfl, by kernel_rfl, by kernel_rfl, by decide⟩
 ·exact ⟨132, Tryz.t131, Tryz.t132, Tryz.underlying131, by kernel_rfl, by kernel_rfl, by kernel_rfl, by decide⟩
 ·exact ⟨134, Tryz.t133, Tryz.t134, Tryz.underlying133, by kernel_rfl, by kernel_rfl, by kernel_rfl, by decide⟩
 ·exact ⟨136, Tryz.t135, Tryz.t136, Tryz.underlying135, by kernel_rfl, by kernel_rfl, by kernel_rfl, by decide⟩
 ·exact ⟨138, Tryz.t137, Tryz.t138, Tryz.underlying137, by kernel_rfl, by kernel_rfl, by kernel_rfl, by decide⟩
 ·exact ⟨140, Tryz.t139, Tryz.t140, Tryz.underlying139, by kernel_rfl, by kernel_rfl, by kernel_rfl, by decide⟩
 ·exact ⟨142, Tryz.t141, Tryz.t142, Tryz.underlying141, by kernel_rfl, by kernel_rfl, by kernel_rfl, by decide⟩
 ·exact ⟨144, Tryz.t143, Tryz.t144, Tryz.underlying143, by kernel_rfl, by kernel_rfl, by kernel_rfl, by decide⟩
 ·exact ⟨147, Tryz.t145, Tryz.t147, Tryz.underlying145, by kernel_rfl, by kernel_rfl, by kernel_rfl, by decide⟩
 ·exact ⟨157, Tryz.t154, Tryz.t157, Tryz.underlying154, by kernel_rfl, by kernel_rfl, by kernel_rfl, by decide⟩
 ·exact ⟨160, Tryz.t158, Tryz.t160, Tryz.underlying158, by kernel_rfl, by kernel_rfl, by kernel_rfl, by decide⟩
 ·exact ⟨163, Tryz.t161, Tryz.t163, Tryz.underlying161, by kernel_rfl, by kernel_rfl, by kernel_rfl, by decide⟩
 ·exact ⟨167, Tryz.t165, Tryz.t167, Tryz.underlying165, by kernel_rfl, by kernel_rfl, by kernel_rfl, by decide⟩
 ·exact ⟨179, Tryz.t177, Tryz.t179, Tryz.underlying177, by kernel_rfl, by kernel_rfl, by kernel_rfl, by decide⟩
 ·exact ⟨181, Tryz.t180, Tryz.t181, Tryz.underlying180, by kernel_rfl, by kernel_rfl, by kernel_rfl, by decide⟩
 ·exact ⟨199, Tryz.t198, Tryz.t199, Tryz.underlying198, by kernel_rfl, by kernel_rfl, by kernel_rfl, by decide⟩
 ·exact ⟨201, Tryz.t200, Tryz.t201, Tryz.underlying200, by kernel_rfl, by kernel_rfl, by kernel_rfl, by decide⟩
 ·exact ⟨203, Tryz.t202, Tryz.t203, Tryz.underlying202, by kernel_rfl, by kernel_rfl, by kernel_rfl, by decide⟩
 ·exact ⟨205, Tryz.t204, Tryz.t205, Tryz.underlying204, by kernel_rfl, by kernel_rfl, by kernel_rfl, by decide⟩
 ·exact ⟨207, Tryz.t206, Tryz.t207, Tryz.underlying206, by kernel_rfl, by kernel_rfl, by kernel_rfl, by decide⟩
 ·exact ⟨209, Tryz.t208, Tryz.t209, Tryz.underlying208, by kernel_rfl, by kernel_rfl, by kernel_rfl, by decide⟩
 ·exact ⟨211, Tryz.t210, Tryz.t211, Tryz.underlying210, by kernel_rfl, by kernel_rfl, by kernel_rfl, by decide⟩
 ·exact ⟨213, Tryz.t212, Tryz.t213, Tryz.underlying212, by kernel_rfl, by kernel_rfl, by kernel_rfl, by decide⟩
 ·exact ⟨216, Tryz.t214, Tryz.t216, Tryz.underlying214, by kernel_rfl, by kernel_rfl, by kernel_rfl, by decide⟩
 ·exact ⟨218, Tryz.t217, Tryz.t218, Tryz.underlying217, by kernel_rfl, by kernel_rfl, by kernel_rfl, by decide⟩
 ·exact ⟨220, Tryz.t219, Tryz.t220, Tryz.underlying219, by kernel_rfl, by kernel_rfl, by kernel_rfl, by decide⟩
 ·exact ⟨222, Tryz.t221, Tryz.t222, Tryz.underlying221, by kernel_rfl, by kernel_rfl, by kernel_rfl, by decide⟩
 ·exact ⟨260, Tryz.t224, Tryz.t260, Tryz.underlying224, by kernel_rfl, by kernel_rfl, by kernel_rfl, by decide⟩
 ·exact ⟨263, Tryz.t226, Tryz.t263, Tryz.underlying226, by kernel_rfl, by kernel_rfl, by kernel_rfl, by decide⟩
 ·exact ⟨231, Tryz.t229, Tryz.t231, Tryz.underlying229, by kernel_rfl, by kernel_rfl, by kernel_rfl, by decide⟩
 ·exact ⟨265, Tryz.t233, Tryz.t265, Tryz.underlying233, by kernel_rfl, by kernel_rfl, by kernel_rfl, by decide⟩
 ·exact ⟨266, Tryz.t236, Tryz.t266, Tryz.underlying236, by kernel_rfl, by kernel_rfl, by kernel_rfl, by decide⟩
theorem root_eq {W : World} {ok ok' : Nat → Prop} {d d' : DT} {v v' : Value} (h : DTIn W ok d v) (h' : DTIn W ok' d' v') (hd : ∀ k, ok k → ok' k → False) :
 ∃ bb w', (binOp BinOp.eql 56 v v').run Tryz.prog W = .ok (.bool bb) w' ∧ (bb = true → d = d') ∧ (w' = W ∨ w' = W.drew) := by
 by_cases ht : tyN d = tyN d'
 ·obtain ⟨te, i, j, u1, u2, u3, u4, u5⟩ := elt_of _ (ty_mem h)
  rcases h.root with ⟨t, rfl, hz, a, rfl⟩ | ⟨hz, hm, g, cs, q, rfl, hk, hg⟩
  ·rcases h'.root with ⟨t', rfl, hz', a', rfl⟩ | ⟨hz', hm', g', cs', q', rfl, hk', hg'⟩
   ·have e : t = t' := ht
    subst e
    have hz2 : tyN (.zero t) ∈ zeroT := hz
    rw [if_pos hz2] at u5
    obtain ⟨bb, w', h1, h2⟩ := eql_same u1 u2 u3 u4 u5 a a' W
    exact ⟨bb, w', h1, fun _ => rfl, h2⟩
   ·exact absurd (show tyN d' ∈ zeroT by rw [← ht]; exact hz) hz'
  ·rcases h'.root with ⟨t', rfl, hz', a', rfl⟩ | ⟨hz', hm', g', cs', q', rfl, hk', hg'⟩
   ·exact absurd (show tyN d ∈ zeroT by rw [ht]; exact hz') hz
   ·rw [if_neg hz] at u5
    refine ⟨false, W, ?_, fun e => (by cases e), .inl rfl⟩
    unfold ptrAt
    rw [← ht]
    exact run_eql_iface_ptr_other W Tryz.underlying56 u1 u2 u3 u4 u5 (fun e => by injection e with e1 e2 e3; subst e1; exact hd _ hk hk') hg hg'
 ·obtain ⟨q, a, e⟩ := h.form
  obtain ⟨q', a', e'⟩ := h'.form
  have hq : q = tyN d := by
   rcases h.root with ⟨t, rfl, hz, a2, e2⟩ | ⟨hz, hm, g, cs, q2, e2, hk, hg⟩
   ·rw [e] at e2; injection e2
   ·rw [e] at e2; injection e2
  have hq' : q' = tyN d' := by
   rcases h'.root with ⟨t, rfl, hz, a2, e2⟩ | ⟨hz, hm, g, cs, q2, e2, hk, hg⟩
   ·rw [e'] at e2; injection e2
   ·rw [e'] at e2; injection e2
  rw [e, e']
  exact ⟨false, W, eql_other q q' _ _ W (by rw [hq, hq']; exact ht), fun e => (by cases e), .inl rfl⟩
theorem childIds_size (codes : List Int) : (childIds codes).length = 128 := by unfold childIds; simp
theorem id_any {W : World} {ok : Nat → Prop} {d : DT} {v : Value} (h : DTIn W ok d v) : ∃ a, v = .iface (tyN d) (.pointer (some a)) ∧ IdAt (tyN d) a W := by
 cases d <;> simp only [DTIn] at h
 case zero =>
  obtain ⟨ht, a, rfl⟩ := h
  refine ⟨a, rfl, ?_⟩
  show IdAt _ a W
  simp only [zeroT, List.mem_cons, List.not_mem_nil, or_false] at ht
  rcases ht with rfl | rfl | rfl | rfl | rfl | rfl | rfl | rfl | rfl | rfl | rfl | rfl | rfl | rfl | rfl | rfl | rfl | rfl | rfl | rfl | rfl | rfl | rfl | rfl
  ·exact idp_101 _ _
  ·exact idp_104 _ _
  ·exact idp_106 _ _
  ·exact idp_108 _ _
  ·exact idp_110 _ _
  ·exact idp_112 _ _
  ·exact idp_114 _ _
  ·exact idp_127 _ _
  ·exact idp_129 _ _
  ·exact idp_131 _ _
  ·exact idp_133 _ _
  ·exact idp_135 _ _
  ·exact idp_137 _ _
  ·exact idp_139 _ _
  ·exact idp_141 _ _
  ·exact idp_143 _ _
  ·exact idp_198 _ _
  ·exact idp_200 _ _
  ·exact idp_202 _ _
  ·exact idp_204 _ _
  ·exact idp_206 _ _
  ·exact idp_208 _ _
  ·exact idp_210 _ _
  ·exact idp_212 _ _
 case num =>
  obtain ⟨ht, g, rfl, _⟩ := h
  refine ⟨_, rfl, ?_⟩
  simp only [List.mem_cons, List.not_mem_nil, or_false] at ht
  rcases ht with rfl | rfl | rfl | rfl
  ·exact idp_116 _ _
  ·exact idp_120 _ _
  ·exact idp_125 _ _
  ·exact idp_145 _ _
 case stamp => obtain ⟨g, rfl, _⟩ := h; exact ⟨_, rfl, idp_122 _ _⟩
 case dec =>
  obtain ⟨ht, g, rfl, _⟩ := h
  refine ⟨_, rfl, ?_⟩
  simp only [List.mem_cons, List.not_mem_nil, or_false] at ht
  rcases ht with rfl | rfl | rfl | rfl
  ·exact idp_214 _ _
  ·exact idp_217 _ _
  ·exact idp_219 _ _
  ·exact idp_221 _ _
 case list =>
  obtain ⟨ht, g, cs, rfl, _, hg, hf⟩ := h
  refine ⟨_, rfl, ?_⟩
  have hl := hf.len
  simp only [List.mem_cons, List.not_mem_nil, or_false] at ht
  rcases ht with rfl | rfl | rfl | rfl
  ·exact idp_154 _ _
  ·exact idp_233 hg (by simpa using hl)
  ·exact idp_180 _ _
  ·exact idp_236 _ _
 case flist => obtain ⟨g, cs, rfl, _⟩ := h; exact ⟨_, rfl, idp_158 _ _⟩
 case struct => obtain ⟨g, A, c, m, rfl, _⟩ := h; exact ⟨_, rfl, idp_165 _ _⟩
 case map => obtain ⟨g, b, cs, rfl, _⟩ := h; exact ⟨_, rfl, idp_161 _ _⟩
 case union =>
  obtain ⟨ht, g, A, c, A', c', rfl, _, hg, _⟩ := h
  refine ⟨_, rfl, ?_⟩
  simp only [List.mem_cons, List.not_mem_nil, or_false] at ht
  rcases ht with rfl | rfl
  ·exact idp_224 hg (by simp [childIds_size])
  ·exact idp_226 hg (by simp [childIds_size])
 case ree => obtain ⟨g, x, y, rfl, _⟩ := h; exact ⟨_, rfl, idp_177 _ _⟩
 case dict => obtain ⟨g, x, y, rfl, _⟩ := h; exact ⟨_, rfl, idp_229 _ _⟩
def AsNo (t N : Nat) (v : Value) : Prop := ∀ W, (Instr.typeAssert (.iface t v) 56 N true).run Tryz.prog W = .ok (.tuple #[.pointer none, .bool false]) W
def AsYes (t : Nat) (v : Value) : Prop := ∀ W, (Instr.typeAssert (.iface t v) 56 t true).run Tryz.prog W = .ok (.tuple #[v, .bool true]) W
def AsOk (t : Nat) (v : Value) : Prop := ∀ W, (Instr.typeAssert (.iface t v) 56 t false).run Tryz.prog W = .ok v W
theorem AsNo.o {u k : Nat} {v : Value} (h : AsNo u k v) (W : World) : (Instr.typeAssert (.iface u v) 56 k true).run Tryz.prog W = .ok (.tuple #[.pointer none, .bool false]) W := h W
theorem asn_154 (u : Nat) (v : Value) (h : u ≠ 154) : AsNo u 154 v := by
 intro W
 have hz : ∀ W, (zeroValue 154).run Tryz.prog W = .ok (.pointer none) W := fun W => by kernel_rfl
 simp [Instr.typeAssert, run_underlying Tryz.underlying154, h, hz]
theorem asy_154 (v : Value) : AsYes 154 v := by
 intro W
 simp [Instr.typeAssert, run_underlying Tryz.underlying154]
theorem aso_154 (v : Value) : AsOk 154 v := by
 intro W
 simp [Instr.typeAssert, run_underlying Tryz.underlying154]
theorem asn_158 (u : Nat) (v : Value) (h : u ≠ 158) : AsNo u 158 v := by
 intro W
 have hz : ∀ W, (zeroValue 158).run Tryz.prog W = .ok (.pointer none) W := fun W => by kernel_rfl
 simp [Instr.typeAssert, run_underlying Tryz.underlying158, h, hz]
theorem asy_158 (v : Value) : AsYes 158 v := by
 intro W
 simp [Instr.typeAssert, run_underlying Tryz.underlying158]
theorem aso_158 (v : Value) : AsOk 158 v := by
 intro W
 simp [Instr.typeAssert, run_underlying Tryz.underlying158]
theorem asn_161 (u : Nat) (v : Value) (h : u ≠ 161) : AsNo u 161 v := by
 intro W
 have hz : ∀ W, (zeroValue 161).run Tryz.prog W = .ok (.pointer none) W := fun W => by kernel_rfl
 simp [Instr.typeAssert, run_underlying Tryz.underlying161, h, hz]
theorem asy_161 (v : Value) : AsYes 161 v := by
 intro W
 simp [Instr.typeAssert, run_underlying Tryz.underlying161]
theorem aso_161 (v : Value) : AsOk 161 v := by
 intro W
 simp [Instr.typeAssert, run_underlying Tryz.underlying161]
theorem asn_165 (u : Nat) (v : Value) (h : u ≠ 165) : AsNo u 165 v := by
 intro W
 have hz : ∀ W, (zeroValue 165).run Tryz.prog W = .ok (.pointer none) W := fun W => by kernel_rfl
 simp [Instr.typeAssert, run_underlying Tryz.underlying165, h, hz]
theorem asy_165 (v : Value) : AsYes 165 v := by
 intro W
 simp [Instr.typeAssert, run_underlying Tryz.underlying165]
theorem aso_165 (v : Value) : AsOk 165 v := by
 intro W
 simp [Instr.typeAssert, run_underlying Tryz.underlying165]
theorem asn_122 (u : Nat) (v : Value) (h : u ≠ 122) : AsNo u 122 v := by
 intro W
 have hz : ∀ W, (zeroValue 122).run Tryz.prog W = .ok (.pointer none) W := fun W => by kernel_rfl
 simp [Instr.typeAssert, run_underlying Tryz.underlying122, h, hz]
theorem asy_122 (v : Value) : AsYes 122 v := by
 intro W
 simp [Instr.typeAssert, run_underlying Tryz.underlying122]
theorem aso_122 (v : Value) : AsOk 122 v := by
 intro W
 simp [Instr.typeAssert, run_underlying Tryz.underlying122]
theorem asn_177 (u : Nat) (v : Value) (h : u ≠ 177) : AsNo u 177 v := by
 intro W
 have hz : ∀ W, (zeroValue 177).run Tryz.prog W = .ok (.pointer none) W := fun W => by kernel_rfl
 simp [Instr.typeAssert, run_underlying Tryz.underlying177, h, hz]
theorem asy_177 (v : Value) : AsYes 177 v := by
 intro W
 simp [Instr.typeAssert, run_underlying Tryz.underlying177]
theorem aso_177 (v : Value) : AsOk 177 v := by
 intro W
 simp [Instr.typeAssert, run_underlying Tryz.underlying177]
theorem asn_180 (u : Nat) (v : Value) (h : u ≠ 180) : AsNo u 180 v := by
 intro W
 have hz : ∀ W, (zeroValue 180).run Tryz.prog W = .ok (.pointer none) W := fun W => by kernel_rfl
 simp [Instr.typeAssert, run_underlying Tryz.underlying180, h, hz]
theorem asy_180 (v : Value) : AsYes 180 v := by
 intro W
 simp [Instr.typeAssert, run_underlying Tryz.underlying180]
theorem aso_180 (v : Value) : AsOk 180 v := by
 intro W
 simp [Instr.typeAssert, run_underlying Tryz.underlying180]
theorem asn_145 (u : Nat) (v : Value) (h : u ≠ 145) : AsNo u 145 v := by
 intro W
 have hz : ∀ W, (zeroValue 145).run Tryz.prog W = .ok (.pointer none) W := fun W => by kernel_rfl
 simp [Instr.typeAssert, run_underlying Tryz.underlying145, h, hz]
theorem asy_145 (v : Value) : AsYes 145 v := by
 intro W
 simp [Instr.typeAssert, run_underlying Tryz.underlying145]
theorem asn_116 (u : Nat) (v : Value) (h : u ≠ 116) : AsNo u 116 v := by
 intro W
 have hz : ∀ W, (zeroValue 116).run Tryz.prog W = .ok (.pointer none) W := fun W => by kernel_rfl
 simp [Instr.typeAssert, run_underlying Tryz.underlying116, h, hz]
theorem asy_116 (v : Value) : AsYes 116 v := by
 intro W
 simp [Instr.typeAssert, run_underlying Tryz.underlying116]
theorem asn_120 (u : Nat) (v : Value) (h : u ≠ 120) : AsNo u 120 v := by
 intro W
 have hz : ∀ W, (zeroValue 120).run Tryz.prog W = .ok (.pointer none) W := fun W => by kernel_rfl
 simp [Instr.typeAssert, run_underlying Tryz.underlying120, h, hz]
theorem asy_120 (v : Value) : AsYes 120 v := by
 intro W
 simp [Instr.typeAssert, run_underlying Tryz.underlying120]
theorem asn_125 (u : Nat) (v : Value) (h : u ≠ 125) : AsNo u 125 v := by
 intro W
 have hz : ∀ W, (zeroValue 125).run Tryz.prog W = .ok (.pointer none) W := fun W => by kernel_rfl
 simp [Instr.typeAssert, run_underlying Tryz.underlying125, h, hz]
theorem asy_125 (v : Value) : AsYes 125 v := by
 intro W
 simp [Instr.typeAssert, run_underlying Tryz.underlying125]
theorem asn_214 (u : Nat) (v : Value) (h : u ≠ 214) : AsNo u 214 v := by
 intro W
 have hz : ∀ W, (zeroValue 214).run Tryz.prog W = .ok (.pointer none) W := fun W => by kernel_rfl
 simp [Instr.typeAssert, run_underlying Tryz.underlying214, h, hz]
theorem asy_214 (v : Value) : AsYes 214 v := by
 intro W
 simp [Instr.typeAssert, run_underlying Tryz.underlying214]
theorem asn_217 (u : Nat) (v : Value) (h : u ≠ 217) : AsNo u 217 v := by
 intro W
 have hz : ∀ W, (zeroValue 217).run Tryz.prog W = .ok (.pointer none) W := fun W => by kernel_rfl
 simp [Instr.typeAssert, run_underlying Tryz.underlying217, h, hz]
theorem asy_217 (v : Value) : AsYes 217 v := by
 intro W
 simp [Instr.typeAssert, run_underlying Tryz.underlying217]
theorem asn_219 (u : Nat) (v : Value) (h : u ≠ 219) : AsNo u 219 v := by
 intro W
 have hz : ∀ W, (zeroValue 219).run Tryz.prog W = .ok (.pointer none) W := fun W => by kernel_rfl
 simp [Instr.typeAssert, run_underlying Tryz.underlying219, h, hz]
theorem asy_219 (v : Value) : AsYes 219 v := by
 intro W
 simp [Instr.typeAssert, run_underlying Tryz.underlying219]
theorem asn_221 (u : Nat) (v : Value) (h : u ≠ 221) : AsNo u 221 v := by
 intro W
 have hz : ∀ W, (zeroValue 221).run Tryz.prog W = .ok (.pointer none) W := fun W => by kernel_rfl
 simp [Instr.typeAssert, run_underlying Tryz.underlying221, h, hz]
theorem asy_221 (v : Value) : AsYes 221 v := by
 intro W
 simp [Instr.typeAssert, run_underlying Tryz.underlying221]
theorem asn_229 (u : Nat) (v : Value) (h : u ≠ 229) : AsNo u 229 v := by
 intro W
 have hz : ∀ W, (zeroValue 229).run Tryz.prog W = .ok (.pointer none) W := fun W => by kernel_rfl
 simp [Instr.typeAssert, run_underlying Tryz.underlying229, h, hz]
theorem asy_229 (v : Value) : AsYes 229 v := by
 intro W
 simp [Instr.typeAssert, run_underlying Tryz.underlying229]
theorem asn_233 (u : Nat) (v : Value) (h : u ≠ 233) : AsNo u 233 v := by
 intro W
 have hz : ∀ W, (zeroValue 233).run Tryz.prog W = .ok (.pointer none) W := fun W => by kernel_rfl
 simp [Instr.typeAssert, run_underlying Tryz.underlying233, h, hz]
theorem asy_233 (v : Value) : AsYes 233 v := by
 intro W
 simp [Instr.typeAssert, run_underlying Tryz.underlying233]
theorem asn_236 (u : Nat) (v : Value) (h : u ≠ 236) : AsNo u 236 v := by
 intro W
 have hz : ∀ W, (zeroValue 236).run Tryz.prog W = .ok (.pointer none) W := fun W => by kernel_rfl
 simp [Instr.typeAssert, run_underlying Tryz.underlying236, h, hz]
theorem asy_236 (v : Value) : AsYes 236 v := by
 intro W
 simp [Instr.typeAssert, run_underlying Tryz.underlying236]
theorem asn_224 (u : Nat) (v : Value) (h : u ≠ 224) : AsNo u 224 v := by
 intro W
 have hz : ∀ W, (zeroValue 224).run Tryz.prog W = .ok (.pointer none) W := fun W => by kernel_rfl
 simp [Instr.typeAssert, run_underlying Tryz.underlying224, h, hz]
theorem asy_224 (v : Value) : AsYes 224 v := by
 intro W
 simp [Instr.typeAssert, run_underlying Tryz.underlying224]
theorem asn_226 (u : Nat) (v : Value) (h : u ≠ 226) : AsNo u 226 v := by
 intro W
 have hz : ∀ W, (zeroValue 226).run Tryz.prog W = .ok (.pointer none) W := fun W => by kernel_rfl
 simp [Instr.typeAssert, run_underlying Tryz.underlying226, h, hz]
theorem asy_226 (v : Value) : AsYes 226 v := by
 intro W
 simp [Instr.typeAssert, run_underlying Tryz.underlying226]
theorem asn_un (u : Nat) (v : Value) (h : u ∈ idTab.map (·.1)) (h1 : u ≠ 224) (h2 : u ≠ 226) (W : World) : (Instr.typeAssert (.iface u v) 56 169 true).run Tryz.prog W = .ok (.tuple #[.nilIface, .bool false]) W := by
 simp only [idTab, List.map_cons, List.map_nil, List.mem_cons, List.not_mem_nil, or_false] at h
 rcases h with rfl | rfl | rfl | rfl | rfl | rfl | rfl | rfl | rfl | rfl | rfl | rfl | rfl | rfl | rfl | rfl | rfl | rfl | rfl | rfl | rfl | rfl | rfl | rfl | rfl | rfl | rfl | rfl | rfl | rfl | rfl | rfl | rfl | rfl | rfl | rfl | rfl | rfl | rfl | rfl | rfl | rfl | rfl | rfl
 ·exact run_typeAssert_lacksB Tryz.underlying169 (by kernel_rfl) (by kernel_rfl) v 56 W
 ·exact run_typeAssert_lacksB Tryz.underlying169 (by kernel_rfl) (by kernel_rfl) v 56 W
 ·exact run_typeAssert_lacksB Tryz.underlying169 (by kernel_rfl) (by kernel_rfl) v 56 W
 ·exact run_typeAssert_lacksB Tryz.underlying169 (by kernel_rfl) (by kernel_rfl) v 56 W
 ·exact run_typeAssert_lacksB Tryz.underlying169 (by kernel_rfl) (by kernel_rfl) v 56 W
 ·exact run_typeAssert_lacksB Tryz.underlying169 (by kernel_rfl) (by kernel_rfl) v 56 W
 ·exact run_typeAssert_lacksB Tryz.underlying169 (by kernel_rfl) (by kernel_rfl) v 56 W
 ·exact run_typeAssert_lacksB Tryz.underlying169 (by kernel_rfl) (by kernel_rfl) v 56 W
 ·exact run_typeAssert_lacksB Tryz.underlying169 (by kernel_rfl) (by kernel_rfl) v 56 W
 ·exact run_typeAssert_lacksB Tryz.underlying169 (by kernel_rfl) (by kernel_rfl) v 56 W
 ·exact run_typeAssert_lacksB Tryz.underlying169 (by kernel_rfl) (by kernel_rfl) v 56 W
 ·exact run_typeAssert_lacksB Tryz.underlying169 (by kernel_rfl) (by kernel_rfl) v 56 W
 ·exact run_typeAssert_lacksB Tryz.underlying169 (by kernel_rfl) (by kernel_rfl) v 56 W
 ·exact run_typeAssert_lacksB Tryz.underlying169 (by kernel_rfl) (by kernel_rfl) v 56 W
 ·exact run_typeAssert_lacksB Tryz.underlying169 (by kernel_rfl) (by kernel_rfl) v 56 W
 ·exact run_typeAssert_lacksB Tryz.underlying169 (by kernel_rfl) (by kernel_rfl) v 56 W
 ·exact run_typeAssert_lacksB Tryz.underlying169 (by kernel_rfl) (by kernel_rfl) v 56 W
 ·exact run_typeAssert_lacksB Tryz.underlying169 (by kernel_rfl) (by kernel_rfl) v 56 W
 ·exact run_typeAssert_lacksB Tryz.underlying169 (by kernel_rfl) (by kernel_rfl) v 56 W
 ·exact run_typeAssert_lacksB Tryz.underlying169 (by kernel_rfl) (by kernel_rfl) v 56 W
 ·exact run_typeAssert_lacksB Tryz.underlying169 (by kernel_rfl) (by kernel_rfl) v 56 W
 ·exact run_typeAssert_lacksB Tryz.underlying169 (by kernel_rfl) (by kernel_rfl) v 56 W
 ·exact run_typeAssert_lacksB Tryz.underlying169 (by kernel_rfl) (by kernel_rfl) v 56 W
 ·exact run_typeAssert_lacksB Tryz.underlying169 (by kernel_rfl) (by kernel_rfl) v 56 W
 ·exact run_typeAssert_lacksB Tryz.underlying169 (by kernel_rfl) (by kernel_rfl) v 56 W
 ·exact run_typeAssert_lacksB Tryz.underlying169 (by kernel_rfl) (by kernel_rfl) v 56 W
 ·exact run_typeAssert_lacksB Tryz.underlying169 (by kernel_rfl) (by kernel_rfl) v 56 W
 ·exact run_typeAssert_lacksB Tryz.underlying169 (by kernel_rfl) (by kernel_rfl) v 56 W
 ·exact run_typeAssert_lacksB Tryz.underlying169 (by kernel_rfl) (by kernel_rfl) v 56 W
 ·exact run_typeAssert_lacksB Tryz.underlying169 (by kernel_rfl) (by kernel_rfl) v 56 W
 ·exact run_typeAssert_lacksB Tryz.underlying169 (by kernel_rfl) (by kernel_rfl) v 56 W
 ·exact run_typeAssert_lacksB Tryz.underlying169 (by kernel_rfl) (by kernel_rfl) v 56 W
 ·exact run_typeAssert_lacksB Tryz.underlying169 (by kernel_rfl) (by kernel_rfl) v 56 W
 ·exact run_typeAssert_lacksB Tryz.underlying169 (by kernel_rfl) (by kernel_rfl) v 56 W
 ·exact run_typeAssert_lacksB Tryz.underlying169 (by kernel_rfl) (by kernel_rfl) v 56 W
 ·exact run_typeAssert_lacksB Tryz.underlying169 (by kernel_rfl) (by kernel_rfl) v 56 W
 ·exact run_typeAssert_lacksB Tryz.underlying169 (by kernel_rfl) (by kernel_rfl) v 56 W
 ·exact run_typeAssert_lacksB Tryz.underlying169 (by kernel_rfl) (by kernel_rfl) v 56 W
 ·exact run_typeAssert_lacksB Tryz.underlying169 (by kernel_rfl) (by kernel_rfl) v 56 W
 ·exact absurd rfl h1
 ·exact absurd rfl h2
 ·exact run_typeAssert_lacksB Tryz.underlying169 (by kernel_rfl) (by kernel_rfl) v 56 W
 ·exact run_typeAssert_lacksB Tryz.underlying169 (by kernel_rfl) (by kernel_rfl) v 56 W
 ·exact run_typeAssert_lacksB Tryz.underlying169 (by kernel_rfl) (by kernel_rfl) v 56 W
theorem asy_un (u : Nat) (v : Value) (h : u = 224 ∨ u = 226) (W : World) : (Instr.typeAssert (.iface u v) 56 169 true).run Tryz.prog W = .ok (.tuple #[.iface u v, .bool true]) W := by
 rcases h with rfl | rfl
 ·exact run_typeAssert_hasB Tryz.underlying169 (by kernel_rfl) v 56 W
 ·exact run_typeAssert_hasB Tryz.underlying169 (by kernel_rfl) v 56 W
theorem aso_un (u : Nat) (v : Value) (h : u = 224 ∨ u = 226) (W : World) : (Instr.typeAssert (.iface u v) 56 169 false).run Tryz.prog W = .ok (.iface u v) W := by
 rcases h with rfl | rfl <;> kernel_rfl
end Go.Proofs.YteebgnhhjlgnjaaGreatDoor.V
