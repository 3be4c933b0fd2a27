import JvmDerived
import JvmDerived.Pilot.@@N@@Statement
import JvmDerived.Pilot.@@N@@Code
set_option linter.unusedVariables false
set_option linter.unusedSimpArgs false
namespace Jvm.RoadKit
open Sem ClassFile Op Lib Jvm.Stand Jvm.Free Jvm.LawKit
section New
variable {p : Program} {l : Launch} {e : Env} {R : Room} {s : State} {m : MethodId} {args : Array Value} {below : List Frame} {meth : Method} {c : Code} {T : State} {locs : List Loc} {cells slots : Nat}
theorem retI (X : Stand p l e R s m args below meth c T locs cells slots) (hx : p.tables.exec = Jvm.exec) {pc : Nat} {Ls : Array Slot} {z : Int32} {rest : List Value} (hret : meth.sig.returnType = some .int) (hd : decode c.code pc = .ok (.ireturn, 1)) {fs : List Frame}
    (hl : ∀ (f : JFrame) (acts : List Action), f.method = m → f.locked = none → f.entered = [] → (doReturn e (T.setTop f) acts (some (.int z))).1 = T.setFrames fs) : Steps p.tables e below (T.setTop (mkF m pc Ls (.int z :: rest))) (T.setFrames fs) := by
  have hm' : T.vm.method? m = some meth := X.method'
  have hn : narrow .int (.int z) = .int z := rfl
  show Steps p.tables e below (T.setTop { method := m, pc := pc, locals := Ls, stack := _ :: rest, locked := none }) _
  jvm_step X.here [X.here.top, hx, hd, hm', hret, hn]
  first | (intro acts; rw [hl _ acts rfl rfl rfl]) | rw [hl _ _ rfl rfl rfl]
  exact Steps.refl _
end New
end Jvm.RoadKit
namespace Jvm.Pilot.@@N@@
open Jvm Jvm.ClassFile Sem Op Lib Jvm.Free Jvm.Stand Jvm.LawKit Jvm.RoadKit Bundle Jvm.Pilot.@@N@@.Jvm.D
def own_us (z : Int64) : Int64 := (z ^^^ ((z.toUInt64 >>> ((33 : Int32) &&& 0x3f).toInt64.toUInt64).toInt64))
def own_nt (a x : Int64) : Int64 := (x * ((2 : Int64) - (a * x)))
def own_inv (a : Int64) : Int64 := own_nt a (own_nt a (own_nt a (own_nt a (own_nt a a))))
def own_seed (r : Int64) (c : Int32) : Int64 := own_us ((own_us ((own_us ((r * (-7046029254386353131 : Int64)) + (c.toInt64))) * (-49064778989728563 : Int64))) * (-4265267296055464877 : Int64))
theorem own_us_bv (z : Int64) : (own_us z).toBitVec = z.toBitVec ^^^ (z.toBitVec >>> 33) := by
  have h : (((33 : Int32) &&& 0x3f).toInt64.toUInt64) = 33 := by decide +kernel
  unfold own_us
  rw [h]
  rfl
theorem own_us_us (z : Int64) : own_us (own_us z) = z := by
  apply Int64.toBitVec_inj.mp
  rw [own_us_bv, own_us_bv]
  generalize z.toBitVec = b
  apply BitVec.eq_of_getLsbD_eq
  intro i hi
  simp only [BitVec.getLsbD_xor, BitVec.getLsbD_ushiftRight]
  rw [BitVec.getLsbD_of_ge b (33 + (33 + i)) (by omega)]
  simp
theorem own_k3 : (-4265267296055464877 : Int64) * own_inv (-4265267296055464877 : Int64) = 1 := by decide +kernel
theorem own_k2 : (-49064778989728563 : Int64) * own_inv (-49064778989728563 : Int64) = 1 := by decide +kernel
theorem own_k1 : (-7046029254386353131 : Int64) * own_inv (-7046029254386353131 : Int64) = 1 := by decide +kernel
theorem own_back (r : Int64) (c : Int32) : ((own_us ((own_us ((own_us (own_seed r c)) * own_inv (-4265267296055464877 : Int64))) * own_inv (-49064778989728563 : Int64)) - c.toInt64) * own_inv (-7046029254386353131 : Int64)) = r := by
  unfold own_seed
  rw [own_us_us, Int64.mul_assoc, own_k3, Int64.mul_one, own_us_us, Int64.mul_assoc, own_k2, Int64.mul_one, own_us_us, Int64.add_sub_cancel, Int64.mul_assoc, own_k1, Int64.mul_one]
theorem own_ef_own_seedC (m : MethodId) (p0 : Int64) (p1 : Int32) : entryFrame m #[(.long p0), (.int p1)] 5 = mkF m 0 #[.val (.long p0), .second, .val (.int p1), .unset, .unset] [] := by first | (simp [entryFrame, mkF, argsToLocals, Value.category]; done) | rfl
def Q_own_seedC (Z : State) (p0 : Int64) (p1 : Int32)  (h0 : Heap) (n0 : Nat) (v : Option Value) (h : Heap) (L : List Loc) : Prop := v = some (.long (own_seed p0 p1)) ∧ Fr n0 L ∧ h = h0
theorem own_pn_com_example_freshline_freshline_cli_Bench : plainName "com/example/freshline/freshline/cli/Bench" = true := by first | (simp [plainName, overriddenIn]; done) | decide +kernel
theorem own_d_prog_1_method_4_0 : decode prog_1_method_4_code 0 = .ok (.lload_n 0, 1) := by decide +kernel
theorem own_d_prog_1_method_4_1 : decode prog_1_method_4_code 1 = .ok (.ldc2_w 113, 3) := by decide +kernel
theorem own_d_prog_1_method_4_4 : decode prog_1_method_4_code 4 = .ok (.lmul, 1) := by decide +kernel
theorem own_d_prog_1_method_4_5 : decode prog_1_method_4_code 5 = .ok (.iload_n 2, 1) := by decide +kernel
theorem own_d_prog_1_method_4_6 : decode prog_1_method_4_code 6 = .ok (.i2l, 1) := by decide +kernel
theorem own_d_prog_1_method_4_7 : decode prog_1_method_4_code 7 = .ok (.ladd, 1) := by decide +kernel
theorem own_d_prog_1_method_4_8 : decode prog_1_method_4_code 8 = .ok (.lstore_n 3, 1) := by decide +kernel
theorem own_d_prog_1_method_4_9 : decode prog_1_method_4_code 9 = .ok (.lload_n 3, 1) := by decide +kernel
theorem own_d_prog_1_method_4_10 : decode prog_1_method_4_code 10 = .ok (.lload_n 3, 1) := by decide +kernel
theorem own_d_prog_1_method_4_11 : decode prog_1_method_4_code 11 = .ok (.bipush 33, 2) := by decide +kernel
theorem own_d_prog_1_method_4_13 : decode prog_1_method_4_code 13 = .ok (.lushr, 1) := by decide +kernel
theorem own_d_prog_1_method_4_14 : decode prog_1_method_4_code 14 = .ok (.lxor, 1) := by decide +kernel
theorem own_d_prog_1_method_4_15 : decode prog_1_method_4_code 15 = .ok (.ldc2_w 115, 3) := by decide +kernel
theorem own_d_prog_1_method_4_18 : decode prog_1_method_4_code 18 = .ok (.lmul, 1) := by decide +kernel
theorem own_d_prog_1_method_4_19 : decode prog_1_method_4_code 19 = .ok (.lstore_n 3, 1) := by decide +kernel
theorem own_d_prog_1_method_4_20 : decode prog_1_method_4_code 20 = .ok (.lload_n 3, 1) := by decide +kernel
theorem own_d_prog_1_method_4_21 : decode prog_1_method_4_code 21 = .ok (.lload_n 3, 1) := by decide +kernel
theorem own_d_prog_1_method_4_22 : decode prog_1_method_4_code 22 = .ok (.bipush 33, 2) := by decide +kernel
theorem own_d_prog_1_method_4_24 : decode prog_1_method_4_code 24 = .ok (.lushr, 1) := by decide +kernel
theorem own_d_prog_1_method_4_25 : decode prog_1_method_4_code 25 = .ok (.lxor, 1) := by decide +kernel
theorem own_d_prog_1_method_4_26 : decode prog_1_method_4_code 26 = .ok (.ldc2_w 117, 3) := by decide +kernel
theorem own_d_prog_1_method_4_29 : decode prog_1_method_4_code 29 = .ok (.lmul, 1) := by decide +kernel
theorem own_d_prog_1_method_4_30 : decode prog_1_method_4_code 30 = .ok (.lstore_n 3, 1) := by decide +kernel
theorem own_d_prog_1_method_4_31 : decode prog_1_method_4_code 31 = .ok (.lload_n 3, 1) := by decide +kernel
theorem own_d_prog_1_method_4_32 : decode prog_1_method_4_code 32 = .ok (.lload_n 3, 1) := by decide +kernel
theorem own_d_prog_1_method_4_33 : decode prog_1_method_4_code 33 = .ok (.bipush 33, 2) := by decide +kernel
theorem own_d_prog_1_method_4_35 : decode prog_1_method_4_code 35 = .ok (.lushr, 1) := by decide +kernel
theorem own_d_prog_1_method_4_36 : decode prog_1_method_4_code 36 = .ok (.lxor, 1) := by decide +kernel
theorem own_d_prog_1_method_4_37 : decode prog_1_method_4_code 37 = .ok (.lreturn, 1) := by decide +kernel
set_option maxRecDepth 65536 in
set_option maxHeartbeats 40000000 in
theorem own_seedC (l : Launch) (Z : State) (a0 : Array Value) (hw : ∀ d ∈ tables_1, d.before a0 Z = true) (ws : List Jvm.Cond) (p0 : Int64) (p1 : Int32)  (h0 : Heap) (n0 : Nat) (Z0 : n0 ≤ h0.size)  :
    MetFree l (⟨"com/example/freshline/freshline/cli/Bench", "seed", "(JI)J"⟩ : MethodName) (head1 (Jvm.Cond.code (⟨"com/example/freshline/freshline/cli/Bench", "seed", "(JI)J"⟩ : MethodName) prog_1_method_4_code 5 (some .long) :: ws) ({ frames := 0, cells := 0, slots := 0, locals := 0 } : Room)) (fun a U => a = #[(.long p0), (.int p1)] ∧ Z.Warmed39 U.vm ∧ U.heap = h0) (fun _ _ _ _ _ => True) (fun _ U o U' => ∃ v L, o = .returned v ∧ Q_own_seedC Z p0 p1 h0 n0 v U'.heap L ∧ FrameEnd U o U' L ({ frames := 0, cells := 0, slots := 0, locals := 0 } : Room).cells ({ frames := 0, cells := 0, slots := 0, locals := 0 } : Room).slots) := by
  refine MetFree.of_bodySF (plainFor_of_name own_pn_com_example_freshline_freshline_cli_Bench) hisR ?_
  intro p e s m args below meth c s₁ Bd hml0 hP hK
  obtain ⟨rfl, hZ, hh⟩ := hP
  have hx := Bd.exec
  have hby := Bd.bytes
  have hml : c.maxLocals = 5 := hml0
  have hown : s.vm.findClass "com/example/freshline/freshline/cli/Bench" = some m.cls := findClass_of_methodNamed Bd.named
  have hnm := (name_of_methodNamed Bd.named Bd.method).1
  have X0 : Stand p l e ({ frames := 0, cells := 0, slots := 0, locals := 0 } : Room) s m #[(.long p0), (.int p1)] below meth c s₁ [] 0 0 := Stand.of_body Bd
  have e0 : s₁.heap = h0 := by rw [← hh, Bd.state]; rfl
  have N0 := Fr.nil n0
  have pre0 : ∀ t, Steps p.tables e below (s₁.setTop (mkF m 0 #[.val (.long p0), .second, .val (.int p1), .unset, .unset] [])) t → Steps p.tables e below (s₁.setTop (entryFrame m #[(.long p0), (.int p1)] 5)) t := fun t k => castTop (own_ef_own_seedC m p0 p1) k
  have pre1 : ∀ t, Steps p.tables e below (s₁.setTop (mkF m 37 #[.val (.long p0), .second, .val (.int p1), .val (.long ((((((p0 * (-7046029254386353131 : Int64)) + (p1.toInt64)) ^^^ ((((p0 * (-7046029254386353131 : Int64)) + (p1.toInt64)).toUInt64 >>> ((33 : Int32) &&& 0x3f).toInt64.toUInt64).toInt64)) * (-49064778989728563 : Int64)) ^^^ ((((((p0 * (-7046029254386353131 : Int64)) + (p1.toInt64)) ^^^ ((((p0 * (-7046029254386353131 : Int64)) + (p1.toInt64)).toUInt64 >>> ((33 : Int32) &&& 0x3f).toInt64.toUInt64).toInt64)) * (-49064778989728563 : Int64)).toUInt64 >>> ((33 : Int32) &&& 0x3f).toInt64.toUInt64).toInt64)) * (-4265267296055464877 : Int64))), .second] [(.long (((((((p0 * (-7046029254386353131 : Int64)) + (p1.toInt64)) ^^^ ((((p0 * (-7046029254386353131 : Int64)) + (p1.toInt64)).toUInt64 >>> ((33 : Int32) &&& 0x3f).toInt64.toUInt64).toInt64)) * (-49064778989728563 : Int64)) ^^^ ((((((p0 * (-7046029254386353131 : Int64)) + (p1.toInt64)) ^^^ ((((p0 * (-7046029254386353131 : Int64)) + (p1.toInt64)).toUInt64 >>> ((33 : Int32) &&& 0x3f).toInt64.toUInt64).toInt64)) * (-49064778989728563 : Int64)).toUInt64 >>> ((33 : Int32) &&& 0x3f).toInt64.toUInt64).toInt64)) * (-4265267296055464877 : Int64)) ^^^ ((((((((p0 * (-7046029254386353131 : Int64)) + (p1.toInt64)) ^^^ ((((p0 * (-7046029254386353131 : Int64)) + (p1.toInt64)).toUInt64 >>> ((33 : Int32) &&& 0x3f).toInt64.toUInt64).toInt64)) * (-49064778989728563 : Int64)) ^^^ ((((((p0 * (-7046029254386353131 : Int64)) + (p1.toInt64)) ^^^ ((((p0 * (-7046029254386353131 : Int64)) + (p1.toInt64)).toUInt64 >>> ((33 : Int32) &&& 0x3f).toInt64.toUInt64).toInt64)) * (-49064778989728563 : Int64)).toUInt64 >>> ((33 : Int32) &&& 0x3f).toInt64.toUInt64).toInt64)) * (-4265267296055464877 : Int64)).toUInt64 >>> ((33 : Int32) &&& 0x3f).toInt64.toUInt64).toInt64)))])) t → Steps p.tables e below (s₁.setTop (entryFrame m #[(.long p0), (.int p1)] 5)) t := fun t k => pre0 _ (by
    show Steps p.tables e below (s₁.setTop (mkF m 0 #[.val (.long p0), .second, .val (.int p1), .unset, .unset] [])) _
    refine XS.lloadN X0.here hx rfl (hb hby own_d_prog_1_method_4_0) rfl ?_
    show Steps p.tables e below (s₁.setTop (mkF m 1 #[.val (.long p0), .second, .val (.int p1), .unset, .unset] [(.long p0)])) _
    refine X0.ldc2J hx hown (mvT hZ (hw _ (List.mem_of_getElem? (i := 4) rfl))) rfl (hb hby own_d_prog_1_method_4_1) ?_
    show Steps p.tables e below (s₁.setTop (mkF m 4 #[.val (.long p0), .second, .val (.int p1), .unset, .unset] [(.long (-7046029254386353131 : Int64)), (.long p0)])) _
    refine XS.lmul X0.here hx rfl (hb hby own_d_prog_1_method_4_4) rfl ?_
    show Steps p.tables e below (s₁.setTop (mkF m 5 #[.val (.long p0), .second, .val (.int p1), .unset, .unset] [(.long (p0 * (-7046029254386353131 : Int64)))])) _
    refine XS.iloadN X0.here hx rfl (hb hby own_d_prog_1_method_4_5) rfl ?_
    show Steps p.tables e below (s₁.setTop (mkF m 6 #[.val (.long p0), .second, .val (.int p1), .unset, .unset] [(.int p1), (.long (p0 * (-7046029254386353131 : Int64)))])) _
    refine XS.i2l X0.here hx rfl (hb hby own_d_prog_1_method_4_6) rfl ?_
    show Steps p.tables e below (s₁.setTop (mkF m 7 #[.val (.long p0), .second, .val (.int p1), .unset, .unset] [(.long (p1.toInt64)), (.long (p0 * (-7046029254386353131 : Int64)))])) _
    refine XS.ladd X0.here hx rfl (hb hby own_d_prog_1_method_4_7) rfl ?_
    show Steps p.tables e below (s₁.setTop (mkF m 8 #[.val (.long p0), .second, .val (.int p1), .unset, .unset] [(.long ((p0 * (-7046029254386353131 : Int64)) + (p1.toInt64)))])) _
    refine XS.lstoreN X0.here hx rfl (hb hby own_d_prog_1_method_4_8) rfl (l' := #[.val (.long p0), .second, .val (.int p1), .val (.long ((p0 * (-7046029254386353131 : Int64)) + (p1.toInt64))), .second]) rfl ?_
    show Steps p.tables e below (s₁.setTop (mkF m 9 #[.val (.long p0), .second, .val (.int p1), .val (.long ((p0 * (-7046029254386353131 : Int64)) + (p1.toInt64))), .second] [])) _
    refine XS.lloadN X0.here hx rfl (hb hby own_d_prog_1_method_4_9) rfl ?_
    show Steps p.tables e below (s₁.setTop (mkF m 10 #[.val (.long p0), .second, .val (.int p1), .val (.long ((p0 * (-7046029254386353131 : Int64)) + (p1.toInt64))), .second] [(.long ((p0 * (-7046029254386353131 : Int64)) + (p1.toInt64)))])) _
    refine XS.lloadN X0.here hx rfl (hb hby own_d_prog_1_method_4_10) rfl ?_
    show Steps p.tables e below (s₁.setTop (mkF m 11 #[.val (.long p0), .second, .val (.int p1), .val (.long ((p0 * (-7046029254386353131 : Int64)) + (p1.toInt64))), .second] [(.long ((p0 * (-7046029254386353131 : Int64)) + (p1.toInt64))), (.long ((p0 * (-7046029254386353131 : Int64)) + (p1.toInt64)))])) _
    refine XT.bipushV X0.here hx rfl (33 : Int32) (hb hby own_d_prog_1_method_4_11) rfl ?_
    show Steps p.tables e below (s₁.setTop (mkF m 13 #[.val (.long p0), .second, .val (.int p1), .val (.long ((p0 * (-7046029254386353131 : Int64)) + (p1.toInt64))), .second] [(.int (33 : Int32)), (.long ((p0 * (-7046029254386353131 : Int64)) + (p1.toInt64))), (.long ((p0 * (-7046029254386353131 : Int64)) + (p1.toInt64)))])) _
    refine XS.lushr X0.here hx rfl (hb hby own_d_prog_1_method_4_13) rfl ?_
    show Steps p.tables e below (s₁.setTop (mkF m 14 #[.val (.long p0), .second, .val (.int p1), .val (.long ((p0 * (-7046029254386353131 : Int64)) + (p1.toInt64))), .second] [(.long ((((p0 * (-7046029254386353131 : Int64)) + (p1.toInt64)).toUInt64 >>> ((33 : Int32) &&& 0x3f).toInt64.toUInt64).toInt64)), (.long ((p0 * (-7046029254386353131 : Int64)) + (p1.toInt64)))])) _
    refine XS.lxor X0.here hx rfl (hb hby own_d_prog_1_method_4_14) rfl ?_
    show Steps p.tables e below (s₁.setTop (mkF m 15 #[.val (.long p0), .second, .val (.int p1), .val (.long ((p0 * (-7046029254386353131 : Int64)) + (p1.toInt64))), .second] [(.long (((p0 * (-7046029254386353131 : Int64)) + (p1.toInt64)) ^^^ ((((p0 * (-7046029254386353131 : Int64)) + (p1.toInt64)).toUInt64 >>> ((33 : Int32) &&& 0x3f).toInt64.toUInt64).toInt64)))])) _
    refine X0.ldc2J hx hown (mvT hZ (hw _ (List.mem_of_getElem? (i := 5) rfl))) rfl (hb hby own_d_prog_1_method_4_15) ?_
    show Steps p.tables e below (s₁.setTop (mkF m 18 #[.val (.long p0), .second, .val (.int p1), .val (.long ((p0 * (-7046029254386353131 : Int64)) + (p1.toInt64))), .second] [(.long (-49064778989728563 : Int64)), (.long (((p0 * (-7046029254386353131 : Int64)) + (p1.toInt64)) ^^^ ((((p0 * (-7046029254386353131 : Int64)) + (p1.toInt64)).toUInt64 >>> ((33 : Int32) &&& 0x3f).toInt64.toUInt64).toInt64)))])) _
    refine XS.lmul X0.here hx rfl (hb hby own_d_prog_1_method_4_18) rfl ?_
    show Steps p.tables e below (s₁.setTop (mkF m 19 #[.val (.long p0), .second, .val (.int p1), .val (.long ((p0 * (-7046029254386353131 : Int64)) + (p1.toInt64))), .second] [(.long ((((p0 * (-7046029254386353131 : Int64)) + (p1.toInt64)) ^^^ ((((p0 * (-7046029254386353131 : Int64)) + (p1.toInt64)).toUInt64 >>> ((33 : Int32) &&& 0x3f).toInt64.toUInt64).toInt64)) * (-49064778989728563 : Int64)))])) _
    refine XS.lstoreN X0.here hx rfl (hb hby own_d_prog_1_method_4_19) rfl (l' := #[.val (.long p0), .second, .val (.int p1), .val (.long ((((p0 * (-7046029254386353131 : Int64)) + (p1.toInt64)) ^^^ ((((p0 * (-7046029254386353131 : Int64)) + (p1.toInt64)).toUInt64 >>> ((33 : Int32) &&& 0x3f).toInt64.toUInt64).toInt64)) * (-49064778989728563 : Int64))), .second]) rfl ?_
    show Steps p.tables e below (s₁.setTop (mkF m 20 #[.val (.long p0), .second, .val (.int p1), .val (.long ((((p0 * (-7046029254386353131 : Int64)) + (p1.toInt64)) ^^^ ((((p0 * (-7046029254386353131 : Int64)) + (p1.toInt64)).toUInt64 >>> ((33 : Int32) &&& 0x3f).toInt64.toUInt64).toInt64)) * (-49064778989728563 : Int64))), .second] [])) _
    refine XS.lloadN X0.here hx rfl (hb hby own_d_prog_1_method_4_20) rfl ?_
    show Steps p.tables e below (s₁.setTop (mkF m 21 #[.val (.long p0), .second, .val (.int p1), .val (.long ((((p0 * (-7046029254386353131 : Int64)) + (p1.toInt64)) ^^^ ((((p0 * (-7046029254386353131 : Int64)) + (p1.toInt64)).toUInt64 >>> ((33 : Int32) &&& 0x3f).toInt64.toUInt64).toInt64)) * (-49064778989728563 : Int64))), .second] [(.long ((((p0 * (-7046029254386353131 : Int64)) + (p1.toInt64)) ^^^ ((((p0 * (-7046029254386353131 : Int64)) + (p1.toInt64)).toUInt64 >>> ((33 : Int32) &&& 0x3f).toInt64.toUInt64).toInt64)) * (-49064778989728563 : Int64)))])) _
    refine XS.lloadN X0.here hx rfl (hb hby own_d_prog_1_method_4_21) rfl ?_
    show Steps p.tables e below (s₁.setTop (mkF m 22 #[.val (.long p0), .second, .val (.int p1), .val (.long ((((p0 * (-7046029254386353131 : Int64)) + (p1.toInt64)) ^^^ ((((p0 * (-7046029254386353131 : Int64)) + (p1.toInt64)).toUInt64 >>> ((33 : Int32) &&& 0x3f).toInt64.toUInt64).toInt64)) * (-49064778989728563 : Int64))), .second] [(.long ((((p0 * (-7046029254386353131 : Int64)) + (p1.toInt64)) ^^^ ((((p0 * (-7046029254386353131 : Int64)) + (p1.toInt64)).toUInt64 >>> ((33 : Int32) &&& 0x3f).toInt64.toUInt64).toInt64)) * (-49064778989728563 : Int64))), (.long ((((p0 * (-7046029254386353131 : Int64)) + (p1.toInt64)) ^^^ ((((p0 * (-7046029254386353131 : Int64)) + (p1.toInt64)).toUInt64 >>> ((33 : Int32) &&& 0x3f).toInt64.toUInt64).toInt64)) * (-49064778989728563 : Int64)))])) _
    refine XT.bipushV X0.here hx rfl (33 : Int32) (hb hby own_d_prog_1_method_4_22) rfl ?_
    show Steps p.tables e below (s₁.setTop (mkF m 24 #[.val (.long p0), .second, .val (.int p1), .val (.long ((((p0 * (-7046029254386353131 : Int64)) + (p1.toInt64)) ^^^ ((((p0 * (-7046029254386353131 : Int64)) + (p1.toInt64)).toUInt64 >>> ((33 : Int32) &&& 0x3f).toInt64.toUInt64).toInt64)) * (-49064778989728563 : Int64))), .second] [(.int (33 : Int32)), (.long ((((p0 * (-7046029254386353131 : Int64)) + (p1.toInt64)) ^^^ ((((p0 * (-7046029254386353131 : Int64)) + (p1.toInt64)).toUInt64 >>> ((33 : Int32) &&& 0x3f).toInt64.toUInt64).toInt64)) * (-49064778989728563 : Int64))), (.long ((((p0 * (-7046029254386353131 : Int64)) + (p1.toInt64)) ^^^ ((((p0 * (-7046029254386353131 : Int64)) + (p1.toInt64)).toUInt64 >>> ((33 : Int32) &&& 0x3f).toInt64.toUInt64).toInt64)) * (-49064778989728563 : Int64)))])) _
    refine XS.lushr X0.here hx rfl (hb hby own_d_prog_1_method_4_24) rfl ?_
    show Steps p.tables e below (s₁.setTop (mkF m 25 #[.val (.long p0), .second, .val (.int p1), .val (.long ((((p0 * (-7046029254386353131 : Int64)) + (p1.toInt64)) ^^^ ((((p0 * (-7046029254386353131 : Int64)) + (p1.toInt64)).toUInt64 >>> ((33 : Int32) &&& 0x3f).toInt64.toUInt64).toInt64)) * (-49064778989728563 : Int64))), .second] [(.long ((((((p0 * (-7046029254386353131 : Int64)) + (p1.toInt64)) ^^^ ((((p0 * (-7046029254386353131 : Int64)) + (p1.toInt64)).toUInt64 >>> ((33 : Int32) &&& 0x3f).toInt64.toUInt64).toInt64)) * (-49064778989728563 : Int64)).toUInt64 >>> ((33 : Int32) &&& 0x3f).toInt64.toUInt64).toInt64)), (.long ((((p0 * (-7046029254386353131 : Int64)) + (p1.toInt64)) ^^^ ((((p0 * (-7046029254386353131 : Int64)) + (p1.toInt64)).toUInt64 >>> ((33 : Int32) &&& 0x3f).toInt64.toUInt64).toInt64)) * (-49064778989728563 : Int64)))])) _
    refine XS.lxor X0.here hx rfl (hb hby own_d_prog_1_method_4_25) rfl ?_
    show Steps p.tables e below (s₁.setTop (mkF m 26 #[.val (.long p0), .second, .val (.int p1), .val (.long ((((p0 * (-7046029254386353131 : Int64)) + (p1.toInt64)) ^^^ ((((p0 * (-7046029254386353131 : Int64)) + (p1.toInt64)).toUInt64 >>> ((33 : Int32) &&& 0x3f).toInt64.toUInt64).toInt64)) * (-49064778989728563 : Int64))), .second] [(.long (((((p0 * (-7046029254386353131 : Int64)) + (p1.toInt64)) ^^^ ((((p0 * (-7046029254386353131 : Int64)) + (p1.toInt64)).toUInt64 >>> ((33 : Int32) &&& 0x3f).toInt64.toUInt64).toInt64)) * (-49064778989728563 : Int64)) ^^^ ((((((p0 * (-7046029254386353131 : Int64)) + (p1.toInt64)) ^^^ ((((p0 * (-7046029254386353131 : Int64)) + (p1.toInt64)).toUInt64 >>> ((33 : Int32) &&& 0x3f).toInt64.toUInt64).toInt64)) * (-49064778989728563 : Int64)).toUInt64 >>> ((33 : Int32) &&& 0x3f).toInt64.toUInt64).toInt64)))])) _
    refine X0.ldc2J hx hown (mvT hZ (hw _ (List.mem_of_getElem? (i := 6) rfl))) rfl (hb hby own_d_prog_1_method_4_26) ?_
    show Steps p.tables e below (s₁.setTop (mkF m 29 #[.val (.long p0), .second, .val (.int p1), .val (.long ((((p0 * (-7046029254386353131 : Int64)) + (p1.toInt64)) ^^^ ((((p0 * (-7046029254386353131 : Int64)) + (p1.toInt64)).toUInt64 >>> ((33 : Int32) &&& 0x3f).toInt64.toUInt64).toInt64)) * (-49064778989728563 : Int64))), .second] [(.long (-4265267296055464877 : Int64)), (.long (((((p0 * (-7046029254386353131 : Int64)) + (p1.toInt64)) ^^^ ((((p0 * (-7046029254386353131 : Int64)) + (p1.toInt64)).toUInt64 >>> ((33 : Int32) &&& 0x3f).toInt64.toUInt64).toInt64)) * (-49064778989728563 : Int64)) ^^^ ((((((p0 * (-7046029254386353131 : Int64)) + (p1.toInt64)) ^^^ ((((p0 * (-7046029254386353131 : Int64)) + (p1.toInt64)).toUInt64 >>> ((33 : Int32) &&& 0x3f).toInt64.toUInt64).toInt64)) * (-49064778989728563 : Int64)).toUInt64 >>> ((33 : Int32) &&& 0x3f).toInt64.toUInt64).toInt64)))])) _
    refine XS.lmul X0.here hx rfl (hb hby own_d_prog_1_method_4_29) rfl ?_
    show Steps p.tables e below (s₁.setTop (mkF m 30 #[.val (.long p0), .second, .val (.int p1), .val (.long ((((p0 * (-7046029254386353131 : Int64)) + (p1.toInt64)) ^^^ ((((p0 * (-7046029254386353131 : Int64)) + (p1.toInt64)).toUInt64 >>> ((33 : Int32) &&& 0x3f).toInt64.toUInt64).toInt64)) * (-49064778989728563 : Int64))), .second] [(.long ((((((p0 * (-7046029254386353131 : Int64)) + (p1.toInt64)) ^^^ ((((p0 * (-7046029254386353131 : Int64)) + (p1.toInt64)).toUInt64 >>> ((33 : Int32) &&& 0x3f).toInt64.toUInt64).toInt64)) * (-49064778989728563 : Int64)) ^^^ ((((((p0 * (-7046029254386353131 : Int64)) + (p1.toInt64)) ^^^ ((((p0 * (-7046029254386353131 : Int64)) + (p1.toInt64)).toUInt64 >>> ((33 : Int32) &&& 0x3f).toInt64.toUInt64).toInt64)) * (-49064778989728563 : Int64)).toUInt64 >>> ((33 : Int32) &&& 0x3f).toInt64.toUInt64).toInt64)) * (-4265267296055464877 : Int64)))])) _
    refine XS.lstoreN X0.here hx rfl (hb hby own_d_prog_1_method_4_30) rfl (l' := #[.val (.long p0), .second, .val (.int p1), .val (.long ((((((p0 * (-7046029254386353131 : Int64)) + (p1.toInt64)) ^^^ ((((p0 * (-7046029254386353131 : Int64)) + (p1.toInt64)).toUInt64 >>> ((33 : Int32) &&& 0x3f).toInt64.toUInt64).toInt64)) * (-49064778989728563 : Int64)) ^^^ ((((((p0 * (-7046029254386353131 : Int64)) + (p1.toInt64)) ^^^ ((((p0 * (-7046029254386353131 : Int64)) + (p1.toInt64)).toUInt64 >>> ((33 : Int32) &&& 0x3f).toInt64.toUInt64).toInt64)) * (-49064778989728563 : Int64)).toUInt64 >>> ((33 : Int32) &&& 0x3f).toInt64.toUInt64).toInt64)) * (-4265267296055464877 : Int64))), .second]) rfl ?_
    show Steps p.tables e below (s₁.setTop (mkF m 31 #[.val (.long p0), .second, .val (.int p1), .val (.long ((((((p0 * (-7046029254386353131 : Int64)) + (p1.toInt64)) ^^^ ((((p0 * (-7046029254386353131 : Int64)) + (p1.toInt64)).toUInt64 >>> ((33 : Int32) &&& 0x3f).toInt64.toUInt64).toInt64)) * (-49064778989728563 : Int64)) ^^^ ((((((p0 * (-7046029254386353131 : Int64)) + (p1.toInt64)) ^^^ ((((p0 * (-7046029254386353131 : Int64)) + (p1.toInt64)).toUInt64 >>> ((33 : Int32) &&& 0x3f).toInt64.toUInt64).toInt64)) * (-49064778989728563 : Int64)).toUInt64 >>> ((33 : Int32) &&& 0x3f).toInt64.toUInt64).toInt64)) * (-4265267296055464877 : Int64))), .second] [])) _
    refine XS.lloadN X0.here hx rfl (hb hby own_d_prog_1_method_4_31) rfl ?_
    show Steps p.tables e below (s₁.setTop (mkF m 32 #[.val (.long p0), .second, .val (.int p1), .val (.long ((((((p0 * (-7046029254386353131 : Int64)) + (p1.toInt64)) ^^^ ((((p0 * (-7046029254386353131 : Int64)) + (p1.toInt64)).toUInt64 >>> ((33 : Int32) &&& 0x3f).toInt64.toUInt64).toInt64)) * (-49064778989728563 : Int64)) ^^^ ((((((p0 * (-7046029254386353131 : Int64)) + (p1.toInt64)) ^^^ ((((p0 * (-7046029254386353131 : Int64)) + (p1.toInt64)).toUInt64 >>> ((33 : Int32) &&& 0x3f).toInt64.toUInt64).toInt64)) * (-49064778989728563 : Int64)).toUInt64 >>> ((33 : Int32) &&& 0x3f).toInt64.toUInt64).toInt64)) * (-4265267296055464877 : Int64))), .second] [(.long ((((((p0 * (-7046029254386353131 : Int64)) + (p1.toInt64)) ^^^ ((((p0 * (-7046029254386353131 : Int64)) + (p1.toInt64)).toUInt64 >>> ((33 : Int32) &&& 0x3f).toInt64.toUInt64).toInt64)) * (-49064778989728563 : Int64)) ^^^ ((((((p0 * (-7046029254386353131 : Int64)) + (p1.toInt64)) ^^^ ((((p0 * (-7046029254386353131 : Int64)) + (p1.toInt64)).toUInt64 >>> ((33 : Int32) &&& 0x3f).toInt64.toUInt64).toInt64)) * (-49064778989728563 : Int64)).toUInt64 >>> ((33 : Int32) &&& 0x3f).toInt64.toUInt64).toInt64)) * (-4265267296055464877 : Int64)))])) _
    refine XS.lloadN X0.here hx rfl (hb hby own_d_prog_1_method_4_32) rfl ?_
    show Steps p.tables e below (s₁.setTop (mkF m 33 #[.val (.long p0), .second, .val (.int p1), .val (.long ((((((p0 * (-7046029254386353131 : Int64)) + (p1.toInt64)) ^^^ ((((p0 * (-7046029254386353131 : Int64)) + (p1.toInt64)).toUInt64 >>> ((33 : Int32) &&& 0x3f).toInt64.toUInt64).toInt64)) * (-49064778989728563 : Int64)) ^^^ ((((((p0 * (-7046029254386353131 : Int64)) + (p1.toInt64)) ^^^ ((((p0 * (-7046029254386353131 : Int64)) + (p1.toInt64)).toUInt64 >>> ((33 : Int32) &&& 0x3f).toInt64.toUInt64).toInt64)) * (-49064778989728563 : Int64)).toUInt64 >>> ((33 : Int32) &&& 0x3f).toInt64.toUInt64).toInt64)) * (-4265267296055464877 : Int64))), .second] [(.long ((((((p0 * (-7046029254386353131 : Int64)) + (p1.toInt64)) ^^^ ((((p0 * (-7046029254386353131 : Int64)) + (p1.toInt64)).toUInt64 >>> ((33 : Int32) &&& 0x3f).toInt64.toUInt64).toInt64)) * (-49064778989728563 : Int64)) ^^^ ((((((p0 * (-7046029254386353131 : Int64)) + (p1.toInt64)) ^^^ ((((p0 * (-7046029254386353131 : Int64)) + (p1.toInt64)).toUInt64 >>> ((33 : Int32) &&& 0x3f).toInt64.toUInt64).toInt64)) * (-49064778989728563 : Int64)).toUInt64 >>> ((33 : Int32) &&& 0x3f).toInt64.toUInt64).toInt64)) * (-4265267296055464877 : Int64))), (.long ((((((p0 * (-7046029254386353131 : Int64)) + (p1.toInt64)) ^^^ ((((p0 * (-7046029254386353131 : Int64)) + (p1.toInt64)).toUInt64 >>> ((33 : Int32) &&& 0x3f).toInt64.toUInt64).toInt64)) * (-49064778989728563 : Int64)) ^^^ ((((((p0 * (-7046029254386353131 : Int64)) + (p1.toInt64)) ^^^ ((((p0 * (-7046029254386353131 : Int64)) + (p1.toInt64)).toUInt64 >>> ((33 : Int32) &&& 0x3f).toInt64.toUInt64).toInt64)) * (-49064778989728563 : Int64)).toUInt64 >>> ((33 : Int32) &&& 0x3f).toInt64.toUInt64).toInt64)) * (-4265267296055464877 : Int64)))])) _
    refine XT.bipushV X0.here hx rfl (33 : Int32) (hb hby own_d_prog_1_method_4_33) rfl ?_
    show Steps p.tables e below (s₁.setTop (mkF m 35 #[.val (.long p0), .second, .val (.int p1), .val (.long ((((((p0 * (-7046029254386353131 : Int64)) + (p1.toInt64)) ^^^ ((((p0 * (-7046029254386353131 : Int64)) + (p1.toInt64)).toUInt64 >>> ((33 : Int32) &&& 0x3f).toInt64.toUInt64).toInt64)) * (-49064778989728563 : Int64)) ^^^ ((((((p0 * (-7046029254386353131 : Int64)) + (p1.toInt64)) ^^^ ((((p0 * (-7046029254386353131 : Int64)) + (p1.toInt64)).toUInt64 >>> ((33 : Int32) &&& 0x3f).toInt64.toUInt64).toInt64)) * (-49064778989728563 : Int64)).toUInt64 >>> ((33 : Int32) &&& 0x3f).toInt64.toUInt64).toInt64)) * (-4265267296055464877 : Int64))), .second] [(.int (33 : Int32)), (.long ((((((p0 * (-7046029254386353131 : Int64)) + (p1.toInt64)) ^^^ ((((p0 * (-7046029254386353131 : Int64)) + (p1.toInt64)).toUInt64 >>> ((33 : Int32) &&& 0x3f).toInt64.toUInt64).toInt64)) * (-49064778989728563 : Int64)) ^^^ ((((((p0 * (-7046029254386353131 : Int64)) + (p1.toInt64)) ^^^ ((((p0 * (-7046029254386353131 : Int64)) + (p1.toInt64)).toUInt64 >>> ((33 : Int32) &&& 0x3f).toInt64.toUInt64).toInt64)) * (-49064778989728563 : Int64)).toUInt64 >>> ((33 : Int32) &&& 0x3f).toInt64.toUInt64).toInt64)) * (-4265267296055464877 : Int64))), (.long ((((((p0 * (-7046029254386353131 : Int64)) + (p1.toInt64)) ^^^ ((((p0 * (-7046029254386353131 : Int64)) + (p1.toInt64)).toUInt64 >>> ((33 : Int32) &&& 0x3f).toInt64.toUInt64).toInt64)) * (-49064778989728563 : Int64)) ^^^ ((((((p0 * (-7046029254386353131 : Int64)) + (p1.toInt64)) ^^^ ((((p0 * (-7046029254386353131 : Int64)) + (p1.toInt64)).toUInt64 >>> ((33 : Int32) &&& 0x3f).toInt64.toUInt64).toInt64)) * (-49064778989728563 : Int64)).toUInt64 >>> ((33 : Int32) &&& 0x3f).toInt64.toUInt64).toInt64)) * (-4265267296055464877 : Int64)))])) _
    refine XS.lushr X0.here hx rfl (hb hby own_d_prog_1_method_4_35) rfl ?_
    show Steps p.tables e below (s₁.setTop (mkF m 36 #[.val (.long p0), .second, .val (.int p1), .val (.long ((((((p0 * (-7046029254386353131 : Int64)) + (p1.toInt64)) ^^^ ((((p0 * (-7046029254386353131 : Int64)) + (p1.toInt64)).toUInt64 >>> ((33 : Int32) &&& 0x3f).toInt64.toUInt64).toInt64)) * (-49064778989728563 : Int64)) ^^^ ((((((p0 * (-7046029254386353131 : Int64)) + (p1.toInt64)) ^^^ ((((p0 * (-7046029254386353131 : Int64)) + (p1.toInt64)).toUInt64 >>> ((33 : Int32) &&& 0x3f).toInt64.toUInt64).toInt64)) * (-49064778989728563 : Int64)).toUInt64 >>> ((33 : Int32) &&& 0x3f).toInt64.toUInt64).toInt64)) * (-4265267296055464877 : Int64))), .second] [(.long ((((((((p0 * (-7046029254386353131 : Int64)) + (p1.toInt64)) ^^^ ((((p0 * (-7046029254386353131 : Int64)) + (p1.toInt64)).toUInt64 >>> ((33 : Int32) &&& 0x3f).toInt64.toUInt64).toInt64)) * (-49064778989728563 : Int64)) ^^^ ((((((p0 * (-7046029254386353131 : Int64)) + (p1.toInt64)) ^^^ ((((p0 * (-7046029254386353131 : Int64)) + (p1.toInt64)).toUInt64 >>> ((33 : Int32) &&& 0x3f).toInt64.toUInt64).toInt64)) * (-49064778989728563 : Int64)).toUInt64 >>> ((33 : Int32) &&& 0x3f).toInt64.toUInt64).toInt64)) * (-4265267296055464877 : Int64)).toUInt64 >>> ((33 : Int32) &&& 0x3f).toInt64.toUInt64).toInt64)), (.long ((((((p0 * (-7046029254386353131 : Int64)) + (p1.toInt64)) ^^^ ((((p0 * (-7046029254386353131 : Int64)) + (p1.toInt64)).toUInt64 >>> ((33 : Int32) &&& 0x3f).toInt64.toUInt64).toInt64)) * (-49064778989728563 : Int64)) ^^^ ((((((p0 * (-7046029254386353131 : Int64)) + (p1.toInt64)) ^^^ ((((p0 * (-7046029254386353131 : Int64)) + (p1.toInt64)).toUInt64 >>> ((33 : Int32) &&& 0x3f).toInt64.toUInt64).toInt64)) * (-49064778989728563 : Int64)).toUInt64 >>> ((33 : Int32) &&& 0x3f).toInt64.toUInt64).toInt64)) * (-4265267296055464877 : Int64)))])) _
    refine XS.lxor X0.here hx rfl (hb hby own_d_prog_1_method_4_36) rfl ?_
    exact k)
  obtain ⟨fs, hr, hrun, hended, hW, hsame⟩ := X0.leave (v := some (.long (own_seed p0 p1))) (fun h => by rw [Bd.returns] at h; cases h)
  refine ⟨_, _, pre1 _ ?_, hrun, hended, _, _, rfl, ?_, ⟨_, rfl⟩, hW, hsame.mono (by decide) (by decide)⟩
  · show Steps p.tables e below (s₁.setTop (mkF m 37 #[.val (.long p0), .second, .val (.int p1), .val (.long ((((((p0 * (-7046029254386353131 : Int64)) + (p1.toInt64)) ^^^ ((((p0 * (-7046029254386353131 : Int64)) + (p1.toInt64)).toUInt64 >>> ((33 : Int32) &&& 0x3f).toInt64.toUInt64).toInt64)) * (-49064778989728563 : Int64)) ^^^ ((((((p0 * (-7046029254386353131 : Int64)) + (p1.toInt64)) ^^^ ((((p0 * (-7046029254386353131 : Int64)) + (p1.toInt64)).toUInt64 >>> ((33 : Int32) &&& 0x3f).toInt64.toUInt64).toInt64)) * (-49064778989728563 : Int64)).toUInt64 >>> ((33 : Int32) &&& 0x3f).toInt64.toUInt64).toInt64)) * (-4265267296055464877 : Int64))), .second] [(.long (((((((p0 * (-7046029254386353131 : Int64)) + (p1.toInt64)) ^^^ ((((p0 * (-7046029254386353131 : Int64)) + (p1.toInt64)).toUInt64 >>> ((33 : Int32) &&& 0x3f).toInt64.toUInt64).toInt64)) * (-49064778989728563 : Int64)) ^^^ ((((((p0 * (-7046029254386353131 : Int64)) + (p1.toInt64)) ^^^ ((((p0 * (-7046029254386353131 : Int64)) + (p1.toInt64)).toUInt64 >>> ((33 : Int32) &&& 0x3f).toInt64.toUInt64).toInt64)) * (-49064778989728563 : Int64)).toUInt64 >>> ((33 : Int32) &&& 0x3f).toInt64.toUInt64).toInt64)) * (-4265267296055464877 : Int64)) ^^^ ((((((((p0 * (-7046029254386353131 : Int64)) + (p1.toInt64)) ^^^ ((((p0 * (-7046029254386353131 : Int64)) + (p1.toInt64)).toUInt64 >>> ((33 : Int32) &&& 0x3f).toInt64.toUInt64).toInt64)) * (-49064778989728563 : Int64)) ^^^ ((((((p0 * (-7046029254386353131 : Int64)) + (p1.toInt64)) ^^^ ((((p0 * (-7046029254386353131 : Int64)) + (p1.toInt64)).toUInt64 >>> ((33 : Int32) &&& 0x3f).toInt64.toUInt64).toInt64)) * (-49064778989728563 : Int64)).toUInt64 >>> ((33 : Int32) &&& 0x3f).toInt64.toUInt64).toInt64)) * (-4265267296055464877 : Int64)).toUInt64 >>> ((33 : Int32) &&& 0x3f).toInt64.toUInt64).toInt64)))])) _
    exact retOut X0 hx Bd.returns rfl (Or.inr (Or.inl ⟨rfl, rfl, _, rfl⟩)) (hb hby own_d_prog_1_method_4_37) hr
  · show Q_own_seedC Z p0 p1 h0 n0 _ s₁.heap _
    rw [e0]
    exact ⟨rfl, N0, rfl⟩
theorem own_ef_own_unC (m : MethodId) (p0 : Int64) : entryFrame m #[(.long p0)] 2 = mkF m 0 #[.val (.long p0), .second] [] := by first | (simp [entryFrame, mkF, argsToLocals, Value.category]; done) | rfl
def Q_own_unC (Z : State) (p0 : Int64)  (h0 : Heap) (n0 : Nat) (v : Option Value) (h : Heap) (L : List Loc) : Prop := v = some (.long (own_us p0)) ∧ Fr n0 L ∧ h = h0
theorem own_pn_com_example_freshline_freshline_cli_BenchSeedPinLaw : plainName "com/example/freshline/freshline/cli/BenchSeedPinLaw" = true := by first | (simp [plainName, overriddenIn]; done) | decide +kernel
theorem own_d_method_3_0 : decode method_3_code 0 = .ok (.lload_n 0, 1) := by decide +kernel
theorem own_d_method_3_1 : decode method_3_code 1 = .ok (.lload_n 0, 1) := by decide +kernel
theorem own_d_method_3_2 : decode method_3_code 2 = .ok (.bipush 33, 2) := by decide +kernel
theorem own_d_method_3_4 : decode method_3_code 4 = .ok (.lushr, 1) := by decide +kernel
theorem own_d_method_3_5 : decode method_3_code 5 = .ok (.lxor, 1) := by decide +kernel
theorem own_d_method_3_6 : decode method_3_code 6 = .ok (.lreturn, 1) := by decide +kernel
set_option maxRecDepth 65536 in
set_option maxHeartbeats 40000000 in
theorem own_unC (l : Launch) (Z : State) (a0 : Array Value) (hw : ∀ d ∈ tables_1, d.before a0 Z = true) (ws : List Jvm.Cond) (p0 : Int64)  (h0 : Heap) (n0 : Nat) (Z0 : n0 ≤ h0.size)  :
    MetFree l (⟨"com/example/freshline/freshline/cli/BenchSeedPinLaw", "unshift", "(J)J"⟩ : MethodName) (head1 (Jvm.Cond.code (⟨"com/example/freshline/freshline/cli/BenchSeedPinLaw", "unshift", "(J)J"⟩ : MethodName) method_3_code 2 (some .long) :: ws) ({ frames := 0, cells := 0, slots := 0, locals := 0 } : Room)) (fun a U => a = #[(.long p0)] ∧ Z.Warmed39 U.vm ∧ U.heap = h0) (fun _ _ _ _ _ => True) (fun _ U o U' => ∃ v L, o = .returned v ∧ Q_own_unC Z p0 h0 n0 v U'.heap L ∧ FrameEnd U o U' L ({ frames := 0, cells := 0, slots := 0, locals := 0 } : Room).cells ({ frames := 0, cells := 0, slots := 0, locals := 0 } : Room).slots) := by
  refine MetFree.of_bodySF (plainFor_of_name own_pn_com_example_freshline_freshline_cli_BenchSeedPinLaw) hisR ?_
  intro p e s m args below meth c s₁ Bd hml0 hP hK
  obtain ⟨rfl, hZ, hh⟩ := hP
  have hx := Bd.exec
  have hby := Bd.bytes
  have hml : c.maxLocals = 2 := hml0
  have hown : s.vm.findClass "com/example/freshline/freshline/cli/BenchSeedPinLaw" = some m.cls := findClass_of_methodNamed Bd.named
  have hnm := (name_of_methodNamed Bd.named Bd.method).1
  have X0 : Stand p l e ({ frames := 0, cells := 0, slots := 0, locals := 0 } : Room) s m #[(.long p0)] below meth c s₁ [] 0 0 := Stand.of_body Bd
  have e0 : s₁.heap = h0 := by rw [← hh, Bd.state]; rfl
  have N0 := Fr.nil n0
  have pre0 : ∀ t, Steps p.tables e below (s₁.setTop (mkF m 0 #[.val (.long p0), .second] [])) t → Steps p.tables e below (s₁.setTop (entryFrame m #[(.long p0)] 2)) t := fun t k => castTop (own_ef_own_unC m p0) k
  have pre1 : ∀ t, Steps p.tables e below (s₁.setTop (mkF m 6 #[.val (.long p0), .second] [(.long (p0 ^^^ ((p0.toUInt64 >>> ((33 : Int32) &&& 0x3f).toInt64.toUInt64).toInt64)))])) t → Steps p.tables e below (s₁.setTop (entryFrame m #[(.long p0)] 2)) t := fun t k => pre0 _ (by
    show Steps p.tables e below (s₁.setTop (mkF m 0 #[.val (.long p0), .second] [])) _
    refine XS.lloadN X0.here hx rfl (hb hby own_d_method_3_0) rfl ?_
    show Steps p.tables e below (s₁.setTop (mkF m 1 #[.val (.long p0), .second] [(.long p0)])) _
    refine XS.lloadN X0.here hx rfl (hb hby own_d_method_3_1) rfl ?_
    show Steps p.tables e below (s₁.setTop (mkF m 2 #[.val (.long p0), .second] [(.long p0), (.long p0)])) _
    refine XT.bipushV X0.here hx rfl (33 : Int32) (hb hby own_d_method_3_2) rfl ?_
    show Steps p.tables e below (s₁.setTop (mkF m 4 #[.val (.long p0), .second] [(.int (33 : Int32)), (.long p0), (.long p0)])) _
    refine XS.lushr X0.here hx rfl (hb hby own_d_method_3_4) rfl ?_
    show Steps p.tables e below (s₁.setTop (mkF m 5 #[.val (.long p0), .second] [(.long ((p0.toUInt64 >>> ((33 : Int32) &&& 0x3f).toInt64.toUInt64).toInt64)), (.long p0)])) _
    refine XS.lxor X0.here hx rfl (hb hby own_d_method_3_5) rfl ?_
    exact k)
  obtain ⟨fs, hr, hrun, hended, hW, hsame⟩ := X0.leave (v := some (.long (own_us p0))) (fun h => by rw [Bd.returns] at h; cases h)
  refine ⟨_, _, pre1 _ ?_, hrun, hended, _, _, rfl, ?_, ⟨_, rfl⟩, hW, hsame.mono (by decide) (by decide)⟩
  · show Steps p.tables e below (s₁.setTop (mkF m 6 #[.val (.long p0), .second] [(.long (p0 ^^^ ((p0.toUInt64 >>> ((33 : Int32) &&& 0x3f).toInt64.toUInt64).toInt64)))])) _
    exact retOut X0 hx Bd.returns rfl (Or.inr (Or.inl ⟨rfl, rfl, _, rfl⟩)) (hb hby own_d_method_3_6) hr
  · show Q_own_unC Z p0 h0 n0 _ s₁.heap _
    rw [e0]
    exact ⟨rfl, N0, rfl⟩
theorem own_ef_own_invC (m : MethodId) (p0 : Int64) : entryFrame m #[(.long p0)] 4 = mkF m 0 #[.val (.long p0), .second, .unset, .unset] [] := by first | (simp [entryFrame, mkF, argsToLocals, Value.category]; done) | rfl
def Q_own_invC (Z : State) (p0 : Int64)  (h0 : Heap) (n0 : Nat) (v : Option Value) (h : Heap) (L : List Loc) : Prop := v = some (.long (own_inv p0)) ∧ Fr n0 L ∧ h = h0
theorem own_d_method_2_0 : decode method_2_code 0 = .ok (.lload_n 0, 1) := by decide +kernel
theorem own_d_method_2_1 : decode method_2_code 1 = .ok (.lstore_n 2, 1) := by decide +kernel
theorem own_d_method_2_2 : decode method_2_code 2 = .ok (.lload_n 2, 1) := by decide +kernel
theorem own_d_method_2_3 : decode method_2_code 3 = .ok (.ldc2_w 7, 3) := by decide +kernel
theorem own_d_method_2_6 : decode method_2_code 6 = .ok (.lload_n 0, 1) := by decide +kernel
theorem own_d_method_2_7 : decode method_2_code 7 = .ok (.lload_n 2, 1) := by decide +kernel
theorem own_d_method_2_8 : decode method_2_code 8 = .ok (.lmul, 1) := by decide +kernel
theorem own_d_method_2_9 : decode method_2_code 9 = .ok (.lsub, 1) := by decide +kernel
theorem own_d_method_2_10 : decode method_2_code 10 = .ok (.lmul, 1) := by decide +kernel
theorem own_d_method_2_11 : decode method_2_code 11 = .ok (.lstore_n 2, 1) := by decide +kernel
theorem own_d_method_2_12 : decode method_2_code 12 = .ok (.lload_n 2, 1) := by decide +kernel
theorem own_d_method_2_13 : decode method_2_code 13 = .ok (.ldc2_w 7, 3) := by decide +kernel
theorem own_d_method_2_16 : decode method_2_code 16 = .ok (.lload_n 0, 1) := by decide +kernel
theorem own_d_method_2_17 : decode method_2_code 17 = .ok (.lload_n 2, 1) := by decide +kernel
theorem own_d_method_2_18 : decode method_2_code 18 = .ok (.lmul, 1) := by decide +kernel
theorem own_d_method_2_19 : decode method_2_code 19 = .ok (.lsub, 1) := by decide +kernel
theorem own_d_method_2_20 : decode method_2_code 20 = .ok (.lmul, 1) := by decide +kernel
theorem own_d_method_2_21 : decode method_2_code 21 = .ok (.lstore_n 2, 1) := by decide +kernel
theorem own_d_method_2_22 : decode method_2_code 22 = .ok (.lload_n 2, 1) := by decide +kernel
theorem own_d_method_2_23 : decode method_2_code 23 = .ok (.ldc2_w 7, 3) := by decide +kernel
theorem own_d_method_2_26 : decode method_2_code 26 = .ok (.lload_n 0, 1) := by decide +kernel
theorem own_d_method_2_27 : decode method_2_code 27 = .ok (.lload_n 2, 1) := by decide +kernel
theorem own_d_method_2_28 : decode method_2_code 28 = .ok (.lmul, 1) := by decide +kernel
theorem own_d_method_2_29 : decode method_2_code 29 = .ok (.lsub, 1) := by decide +kernel
theorem own_d_method_2_30 : decode method_2_code 30 = .ok (.lmul, 1) := by decide +kernel
theorem own_d_method_2_31 : decode method_2_code 31 = .ok (.lstore_n 2, 1) := by decide +kernel
theorem own_d_method_2_32 : decode method_2_code 32 = .ok (.lload_n 2, 1) := by decide +kernel
theorem own_d_method_2_33 : decode method_2_code 33 = .ok (.ldc2_w 7, 3) := by decide +kernel
theorem own_d_method_2_36 : decode method_2_code 36 = .ok (.lload_n 0, 1) := by decide +kernel
theorem own_d_method_2_37 : decode method_2_code 37 = .ok (.lload_n 2, 1) := by decide +kernel
theorem own_d_method_2_38 : decode method_2_code 38 = .ok (.lmul, 1) := by decide +kernel
theorem own_d_method_2_39 : decode method_2_code 39 = .ok (.lsub, 1) := by decide +kernel
theorem own_d_method_2_40 : decode method_2_code 40 = .ok (.lmul, 1) := by decide +kernel
theorem own_d_method_2_41 : decode method_2_code 41 = .ok (.lstore_n 2, 1) := by decide +kernel
theorem own_d_method_2_42 : decode method_2_code 42 = .ok (.lload_n 2, 1) := by decide +kernel
theorem own_d_method_2_43 : decode method_2_code 43 = .ok (.ldc2_w 7, 3) := by decide +kernel
theorem own_d_method_2_46 : decode method_2_code 46 = .ok (.lload_n 0, 1) := by decide +kernel
theorem own_d_method_2_47 : decode method_2_code 47 = .ok (.lload_n 2, 1) := by decide +kernel
theorem own_d_method_2_48 : decode method_2_code 48 = .ok (.lmul, 1) := by decide +kernel
theorem own_d_method_2_49 : decode method_2_code 49 = .ok (.lsub, 1) := by decide +kernel
theorem own_d_method_2_50 : decode method_2_code 50 = .ok (.lmul, 1) := by decide +kernel
theorem own_d_method_2_51 : decode method_2_code 51 = .ok (.lstore_n 2, 1) := by decide +kernel
theorem own_d_method_2_52 : decode method_2_code 52 = .ok (.lload_n 2, 1) := by decide +kernel
theorem own_d_method_2_53 : decode method_2_code 53 = .ok (.lreturn, 1) := by decide +kernel
set_option maxRecDepth 65536 in
set_option maxHeartbeats 40000000 in
theorem own_invC (l : Launch) (Z : State) (a0 : Array Value) (hw : ∀ d ∈ tables_1, d.before a0 Z = true) (ws : List Jvm.Cond) (p0 : Int64)  (h0 : Heap) (n0 : Nat) (Z0 : n0 ≤ h0.size)  :
    MetFree l (⟨"com/example/freshline/freshline/cli/BenchSeedPinLaw", "inverse", "(J)J"⟩ : MethodName) (head1 (Jvm.Cond.code (⟨"com/example/freshline/freshline/cli/BenchSeedPinLaw", "inverse", "(J)J"⟩ : MethodName) method_2_code 4 (some .long) :: ws) ({ frames := 0, cells := 0, slots := 0, locals := 0 } : Room)) (fun a U => a = #[(.long p0)] ∧ Z.Warmed39 U.vm ∧ U.heap = h0) (fun _ _ _ _ _ => True) (fun _ U o U' => ∃ v L, o = .returned v ∧ Q_own_invC Z p0 h0 n0 v U'.heap L ∧ FrameEnd U o U' L ({ frames := 0, cells := 0, slots := 0, locals := 0 } : Room).cells ({ frames := 0, cells := 0, slots := 0, locals := 0 } : Room).slots) := by
  refine MetFree.of_bodySF (plainFor_of_name own_pn_com_example_freshline_freshline_cli_BenchSeedPinLaw) hisR ?_
  intro p e s m args below meth c s₁ Bd hml0 hP hK
  obtain ⟨rfl, hZ, hh⟩ := hP
  have hx := Bd.exec
  have hby := Bd.bytes
  have hml : c.maxLocals = 4 := hml0
  have hown : s.vm.findClass "com/example/freshline/freshline/cli/BenchSeedPinLaw" = some m.cls := findClass_of_methodNamed Bd.named
  have hnm := (name_of_methodNamed Bd.named Bd.method).1
  have X0 : Stand p l e ({ frames := 0, cells := 0, slots := 0, locals := 0 } : Room) s m #[(.long p0)] below meth c s₁ [] 0 0 := Stand.of_body Bd
  have e0 : s₁.heap = h0 := by rw [← hh, Bd.state]; rfl
  have N0 := Fr.nil n0
  have pre0 : ∀ t, Steps p.tables e below (s₁.setTop (mkF m 0 #[.val (.long p0), .second, .unset, .unset] [])) t → Steps p.tables e below (s₁.setTop (entryFrame m #[(.long p0)] 4)) t := fun t k => castTop (own_ef_own_invC m p0) k
  have pre1 : ∀ t, Steps p.tables e below (s₁.setTop (mkF m 53 #[.val (.long p0), .second, .val (.long (((((p0 * ((2 : Int64) - (p0 * p0))) * ((2 : Int64) - (p0 * (p0 * ((2 : Int64) - (p0 * p0)))))) * ((2 : Int64) - (p0 * ((p0 * ((2 : Int64) - (p0 * p0))) * ((2 : Int64) - (p0 * (p0 * ((2 : Int64) - (p0 * p0))))))))) * ((2 : Int64) - (p0 * (((p0 * ((2 : Int64) - (p0 * p0))) * ((2 : Int64) - (p0 * (p0 * ((2 : Int64) - (p0 * p0)))))) * ((2 : Int64) - (p0 * ((p0 * ((2 : Int64) - (p0 * p0))) * ((2 : Int64) - (p0 * (p0 * ((2 : Int64) - (p0 * p0)))))))))))) * ((2 : Int64) - (p0 * ((((p0 * ((2 : Int64) - (p0 * p0))) * ((2 : Int64) - (p0 * (p0 * ((2 : Int64) - (p0 * p0)))))) * ((2 : Int64) - (p0 * ((p0 * ((2 : Int64) - (p0 * p0))) * ((2 : Int64) - (p0 * (p0 * ((2 : Int64) - (p0 * p0))))))))) * ((2 : Int64) - (p0 * (((p0 * ((2 : Int64) - (p0 * p0))) * ((2 : Int64) - (p0 * (p0 * ((2 : Int64) - (p0 * p0)))))) * ((2 : Int64) - (p0 * ((p0 * ((2 : Int64) - (p0 * p0))) * ((2 : Int64) - (p0 * (p0 * ((2 : Int64) - (p0 * p0)))))))))))))))), .second] [(.long (((((p0 * ((2 : Int64) - (p0 * p0))) * ((2 : Int64) - (p0 * (p0 * ((2 : Int64) - (p0 * p0)))))) * ((2 : Int64) - (p0 * ((p0 * ((2 : Int64) - (p0 * p0))) * ((2 : Int64) - (p0 * (p0 * ((2 : Int64) - (p0 * p0))))))))) * ((2 : Int64) - (p0 * (((p0 * ((2 : Int64) - (p0 * p0))) * ((2 : Int64) - (p0 * (p0 * ((2 : Int64) - (p0 * p0)))))) * ((2 : Int64) - (p0 * ((p0 * ((2 : Int64) - (p0 * p0))) * ((2 : Int64) - (p0 * (p0 * ((2 : Int64) - (p0 * p0)))))))))))) * ((2 : Int64) - (p0 * ((((p0 * ((2 : Int64) - (p0 * p0))) * ((2 : Int64) - (p0 * (p0 * ((2 : Int64) - (p0 * p0)))))) * ((2 : Int64) - (p0 * ((p0 * ((2 : Int64) - (p0 * p0))) * ((2 : Int64) - (p0 * (p0 * ((2 : Int64) - (p0 * p0))))))))) * ((2 : Int64) - (p0 * (((p0 * ((2 : Int64) - (p0 * p0))) * ((2 : Int64) - (p0 * (p0 * ((2 : Int64) - (p0 * p0)))))) * ((2 : Int64) - (p0 * ((p0 * ((2 : Int64) - (p0 * p0))) * ((2 : Int64) - (p0 * (p0 * ((2 : Int64) - (p0 * p0))))))))))))))))])) t → Steps p.tables e below (s₁.setTop (entryFrame m #[(.long p0)] 4)) t := fun t k => pre0 _ (by
    show Steps p.tables e below (s₁.setTop (mkF m 0 #[.val (.long p0), .second, .unset, .unset] [])) _
    refine XS.lloadN X0.here hx rfl (hb hby own_d_method_2_0) rfl ?_
    show Steps p.tables e below (s₁.setTop (mkF m 1 #[.val (.long p0), .second, .unset, .unset] [(.long p0)])) _
    refine XS.lstoreN X0.here hx rfl (hb hby own_d_method_2_1) rfl (l' := #[.val (.long p0), .second, .val (.long p0), .second]) rfl ?_
    show Steps p.tables e below (s₁.setTop (mkF m 2 #[.val (.long p0), .second, .val (.long p0), .second] [])) _
    refine XS.lloadN X0.here hx rfl (hb hby own_d_method_2_2) rfl ?_
    show Steps p.tables e below (s₁.setTop (mkF m 3 #[.val (.long p0), .second, .val (.long p0), .second] [(.long p0)])) _
    refine X0.ldc2J hx hown (mvT hZ (hw _ (List.mem_of_getElem? (i := 15) rfl))) rfl (hb hby own_d_method_2_3) ?_
    show Steps p.tables e below (s₁.setTop (mkF m 6 #[.val (.long p0), .second, .val (.long p0), .second] [(.long (2 : Int64)), (.long p0)])) _
    refine XS.lloadN X0.here hx rfl (hb hby own_d_method_2_6) rfl ?_
    show Steps p.tables e below (s₁.setTop (mkF m 7 #[.val (.long p0), .second, .val (.long p0), .second] [(.long p0), (.long (2 : Int64)), (.long p0)])) _
    refine XS.lloadN X0.here hx rfl (hb hby own_d_method_2_7) rfl ?_
    show Steps p.tables e below (s₁.setTop (mkF m 8 #[.val (.long p0), .second, .val (.long p0), .second] [(.long p0), (.long p0), (.long (2 : Int64)), (.long p0)])) _
    refine XS.lmul X0.here hx rfl (hb hby own_d_method_2_8) rfl ?_
    show Steps p.tables e below (s₁.setTop (mkF m 9 #[.val (.long p0), .second, .val (.long p0), .second] [(.long (p0 * p0)), (.long (2 : Int64)), (.long p0)])) _
    refine XS.lsub X0.here hx rfl (hb hby own_d_method_2_9) rfl ?_
    show Steps p.tables e below (s₁.setTop (mkF m 10 #[.val (.long p0), .second, .val (.long p0), .second] [(.long ((2 : Int64) - (p0 * p0))), (.long p0)])) _
    refine XS.lmul X0.here hx rfl (hb hby own_d_method_2_10) rfl ?_
    show Steps p.tables e below (s₁.setTop (mkF m 11 #[.val (.long p0), .second, .val (.long p0), .second] [(.long (p0 * ((2 : Int64) - (p0 * p0))))])) _
    refine XS.lstoreN X0.here hx rfl (hb hby own_d_method_2_11) rfl (l' := #[.val (.long p0), .second, .val (.long (p0 * ((2 : Int64) - (p0 * p0)))), .second]) rfl ?_
    show Steps p.tables e below (s₁.setTop (mkF m 12 #[.val (.long p0), .second, .val (.long (p0 * ((2 : Int64) - (p0 * p0)))), .second] [])) _
    refine XS.lloadN X0.here hx rfl (hb hby own_d_method_2_12) rfl ?_
    show Steps p.tables e below (s₁.setTop (mkF m 13 #[.val (.long p0), .second, .val (.long (p0 * ((2 : Int64) - (p0 * p0)))), .second] [(.long (p0 * ((2 : Int64) - (p0 * p0))))])) _
    refine X0.ldc2J hx hown (mvT hZ (hw _ (List.mem_of_getElem? (i := 15) rfl))) rfl (hb hby own_d_method_2_13) ?_
    show Steps p.tables e below (s₁.setTop (mkF m 16 #[.val (.long p0), .second, .val (.long (p0 * ((2 : Int64) - (p0 * p0)))), .second] [(.long (2 : Int64)), (.long (p0 * ((2 : Int64) - (p0 * p0))))])) _
    refine XS.lloadN X0.here hx rfl (hb hby own_d_method_2_16) rfl ?_
    show Steps p.tables e below (s₁.setTop (mkF m 17 #[.val (.long p0), .second, .val (.long (p0 * ((2 : Int64) - (p0 * p0)))), .second] [(.long p0), (.long (2 : Int64)), (.long (p0 * ((2 : Int64) - (p0 * p0))))])) _
    refine XS.lloadN X0.here hx rfl (hb hby own_d_method_2_17) rfl ?_
    show Steps p.tables e below (s₁.setTop (mkF m 18 #[.val (.long p0), .second, .val (.long (p0 * ((2 : Int64) - (p0 * p0)))), .second] [(.long (p0 * ((2 : Int64) - (p0 * p0)))), (.long p0), (.long (2 : Int64)), (.long (p0 * ((2 : Int64) - (p0 * p0))))])) _
    refine XS.lmul X0.here hx rfl (hb hby own_d_method_2_18) rfl ?_
    show Steps p.tables e below (s₁.setTop (mkF m 19 #[.val (.long p0), .second, .val (.long (p0 * ((2 : Int64) - (p0 * p0)))), .second] [(.long (p0 * (p0 * ((2 : Int64) - (p0 * p0))))), (.long (2 : Int64)), (.long (p0 * ((2 : Int64) - (p0 * p0))))])) _
    refine XS.lsub X0.here hx rfl (hb hby own_d_method_2_19) rfl ?_
    show Steps p.tables e below (s₁.setTop (mkF m 20 #[.val (.long p0), .second, .val (.long (p0 * ((2 : Int64) - (p0 * p0)))), .second] [(.long ((2 : Int64) - (p0 * (p0 * ((2 : Int64) - (p0 * p0)))))), (.long (p0 * ((2 : Int64) - (p0 * p0))))])) _
    refine XS.lmul X0.here hx rfl (hb hby own_d_method_2_20) rfl ?_
    show Steps p.tables e below (s₁.setTop (mkF m 21 #[.val (.long p0), .second, .val (.long (p0 * ((2 : Int64) - (p0 * p0)))), .second] [(.long ((p0 * ((2 : Int64) - (p0 * p0))) * ((2 : Int64) - (p0 * (p0 * ((2 : Int64) - (p0 * p0)))))))])) _
    refine XS.lstoreN X0.here hx rfl (hb hby own_d_method_2_21) rfl (l' := #[.val (.long p0), .second, .val (.long ((p0 * ((2 : Int64) - (p0 * p0))) * ((2 : Int64) - (p0 * (p0 * ((2 : Int64) - (p0 * p0))))))), .second]) rfl ?_
    show Steps p.tables e below (s₁.setTop (mkF m 22 #[.val (.long p0), .second, .val (.long ((p0 * ((2 : Int64) - (p0 * p0))) * ((2 : Int64) - (p0 * (p0 * ((2 : Int64) - (p0 * p0))))))), .second] [])) _
    refine XS.lloadN X0.here hx rfl (hb hby own_d_method_2_22) rfl ?_
    show Steps p.tables e below (s₁.setTop (mkF m 23 #[.val (.long p0), .second, .val (.long ((p0 * ((2 : Int64) - (p0 * p0))) * ((2 : Int64) - (p0 * (p0 * ((2 : Int64) - (p0 * p0))))))), .second] [(.long ((p0 * ((2 : Int64) - (p0 * p0))) * ((2 : Int64) - (p0 * (p0 * ((2 : Int64) - (p0 * p0)))))))])) _
    refine X0.ldc2J hx hown (mvT hZ (hw _ (List.mem_of_getElem? (i := 15) rfl))) rfl (hb hby own_d_method_2_23) ?_
    show Steps p.tables e below (s₁.setTop (mkF m 26 #[.val (.long p0), .second, .val (.long ((p0 * ((2 : Int64) - (p0 * p0))) * ((2 : Int64) - (p0 * (p0 * ((2 : Int64) - (p0 * p0))))))), .second] [(.long (2 : Int64)), (.long ((p0 * ((2 : Int64) - (p0 * p0))) * ((2 : Int64) - (p0 * (p0 * ((2 : Int64) - (p0 * p0)))))))])) _
    refine XS.lloadN X0.here hx rfl (hb hby own_d_method_2_26) rfl ?_
    show Steps p.tables e below (s₁.setTop (mkF m 27 #[.val (.long p0), .second, .val (.long ((p0 * ((2 : Int64) - (p0 * p0))) * ((2 : Int64) - (p0 * (p0 * ((2 : Int64) - (p0 * p0))))))), .second] [(.long p0), (.long (2 : Int64)), (.long ((p0 * ((2 : Int64) - (p0 * p0))) * ((2 : Int64) - (p0 * (p0 * ((2 : Int64) - (p0 * p0)))))))])) _
    refine XS.lloadN X0.here hx rfl (hb hby own_d_method_2_27) rfl ?_
    show Steps p.tables e below (s₁.setTop (mkF m 28 #[.val (.long p0), .second, .val (.long ((p0 * ((2 : Int64) - (p0 * p0))) * ((2 : Int64) - (p0 * (p0 * ((2 : Int64) - (p0 * p0))))))), .second] [(.long ((p0 * ((2 : Int64) - (p0 * p0))) * ((2 : Int64) - (p0 * (p0 * ((2 : Int64) - (p0 * p0))))))), (.long p0), (.long (2 : Int64)), (.long ((p0 * ((2 : Int64) - (p0 * p0))) * ((2 : Int64) - (p0 * (p0 * ((2 : Int64) - (p0 * p0)))))))])) _
    refine XS.lmul X0.here hx rfl (hb hby own_d_method_2_28) rfl ?_
    show Steps p.tables e below (s₁.setTop (mkF m 29 #[.val (.long p0), .second, .val (.long ((p0 * ((2 : Int64) - (p0 * p0))) * ((2 : Int64) - (p0 * (p0 * ((2 : Int64) - (p0 * p0))))))), .second] [(.long (p0 * ((p0 * ((2 : Int64) - (p0 * p0))) * ((2 : Int64) - (p0 * (p0 * ((2 : Int64) - (p0 * p0)))))))), (.long (2 : Int64)), (.long ((p0 * ((2 : Int64) - (p0 * p0))) * ((2 : Int64) - (p0 * (p0 * ((2 : Int64) - (p0 * p0)))))))])) _
    refine XS.lsub X0.here hx rfl (hb hby own_d_method_2_29) rfl ?_
    show Steps p.tables e below (s₁.setTop (mkF m 30 #[.val (.long p0), .second, .val (.long ((p0 * ((2 : Int64) - (p0 * p0))) * ((2 : Int64) - (p0 * (p0 * ((2 : Int64) - (p0 * p0))))))), .second] [(.long ((2 : Int64) - (p0 * ((p0 * ((2 : Int64) - (p0 * p0))) * ((2 : Int64) - (p0 * (p0 * ((2 : Int64) - (p0 * p0))))))))), (.long ((p0 * ((2 : Int64) - (p0 * p0))) * ((2 : Int64) - (p0 * (p0 * ((2 : Int64) - (p0 * p0)))))))])) _
    refine XS.lmul X0.here hx rfl (hb hby own_d_method_2_30) rfl ?_
    show Steps p.tables e below (s₁.setTop (mkF m 31 #[.val (.long p0), .second, .val (.long ((p0 * ((2 : Int64) - (p0 * p0))) * ((2 : Int64) - (p0 * (p0 * ((2 : Int64) - (p0 * p0))))))), .second] [(.long (((p0 * ((2 : Int64) - (p0 * p0))) * ((2 : Int64) - (p0 * (p0 * ((2 : Int64) - (p0 * p0)))))) * ((2 : Int64) - (p0 * ((p0 * ((2 : Int64) - (p0 * p0))) * ((2 : Int64) - (p0 * (p0 * ((2 : Int64) - (p0 * p0))))))))))])) _
    refine XS.lstoreN X0.here hx rfl (hb hby own_d_method_2_31) rfl (l' := #[.val (.long p0), .second, .val (.long (((p0 * ((2 : Int64) - (p0 * p0))) * ((2 : Int64) - (p0 * (p0 * ((2 : Int64) - (p0 * p0)))))) * ((2 : Int64) - (p0 * ((p0 * ((2 : Int64) - (p0 * p0))) * ((2 : Int64) - (p0 * (p0 * ((2 : Int64) - (p0 * p0)))))))))), .second]) rfl ?_
    show Steps p.tables e below (s₁.setTop (mkF m 32 #[.val (.long p0), .second, .val (.long (((p0 * ((2 : Int64) - (p0 * p0))) * ((2 : Int64) - (p0 * (p0 * ((2 : Int64) - (p0 * p0)))))) * ((2 : Int64) - (p0 * ((p0 * ((2 : Int64) - (p0 * p0))) * ((2 : Int64) - (p0 * (p0 * ((2 : Int64) - (p0 * p0)))))))))), .second] [])) _
    refine XS.lloadN X0.here hx rfl (hb hby own_d_method_2_32) rfl ?_
    show Steps p.tables e below (s₁.setTop (mkF m 33 #[.val (.long p0), .second, .val (.long (((p0 * ((2 : Int64) - (p0 * p0))) * ((2 : Int64) - (p0 * (p0 * ((2 : Int64) - (p0 * p0)))))) * ((2 : Int64) - (p0 * ((p0 * ((2 : Int64) - (p0 * p0))) * ((2 : Int64) - (p0 * (p0 * ((2 : Int64) - (p0 * p0)))))))))), .second] [(.long (((p0 * ((2 : Int64) - (p0 * p0))) * ((2 : Int64) - (p0 * (p0 * ((2 : Int64) - (p0 * p0)))))) * ((2 : Int64) - (p0 * ((p0 * ((2 : Int64) - (p0 * p0))) * ((2 : Int64) - (p0 * (p0 * ((2 : Int64) - (p0 * p0))))))))))])) _
    refine X0.ldc2J hx hown (mvT hZ (hw _ (List.mem_of_getElem? (i := 15) rfl))) rfl (hb hby own_d_method_2_33) ?_
    show Steps p.tables e below (s₁.setTop (mkF m 36 #[.val (.long p0), .second, .val (.long (((p0 * ((2 : Int64) - (p0 * p0))) * ((2 : Int64) - (p0 * (p0 * ((2 : Int64) - (p0 * p0)))))) * ((2 : Int64) - (p0 * ((p0 * ((2 : Int64) - (p0 * p0))) * ((2 : Int64) - (p0 * (p0 * ((2 : Int64) - (p0 * p0)))))))))), .second] [(.long (2 : Int64)), (.long (((p0 * ((2 : Int64) - (p0 * p0))) * ((2 : Int64) - (p0 * (p0 * ((2 : Int64) - (p0 * p0)))))) * ((2 : Int64) - (p0 * ((p0 * ((2 : Int64) - (p0 * p0))) * ((2 : Int64) - (p0 * (p0 * ((2 : Int64) - (p0 * p0))))))))))])) _
    refine XS.lloadN X0.here hx rfl (hb hby own_d_method_2_36) rfl ?_
    show Steps p.tables e below (s₁.setTop (mkF m 37 #[.val (.long p0), .second, .val (.long (((p0 * ((2 : Int64) - (p0 * p0))) * ((2 : Int64) - (p0 * (p0 * ((2 : Int64) - (p0 * p0)))))) * ((2 : Int64) - (p0 * ((p0 * ((2 : Int64) - (p0 * p0))) * ((2 : Int64) - (p0 * (p0 * ((2 : Int64) - (p0 * p0)))))))))), .second] [(.long p0), (.long (2 : Int64)), (.long (((p0 * ((2 : Int64) - (p0 * p0))) * ((2 : Int64) - (p0 * (p0 * ((2 : Int64) - (p0 * p0)))))) * ((2 : Int64) - (p0 * ((p0 * ((2 : Int64) - (p0 * p0))) * ((2 : Int64) - (p0 * (p0 * ((2 : Int64) - (p0 * p0))))))))))])) _
    refine XS.lloadN X0.here hx rfl (hb hby own_d_method_2_37) rfl ?_
    show Steps p.tables e below (s₁.setTop (mkF m 38 #[.val (.long p0), .second, .val (.long (((p0 * ((2 : Int64) - (p0 * p0))) * ((2 : Int64) - (p0 * (p0 * ((2 : Int64) - (p0 * p0)))))) * ((2 : Int64) - (p0 * ((p0 * ((2 : Int64) - (p0 * p0))) * ((2 : Int64) - (p0 * (p0 * ((2 : Int64) - (p0 * p0)))))))))), .second] [(.long (((p0 * ((2 : Int64) - (p0 * p0))) * ((2 : Int64) - (p0 * (p0 * ((2 : Int64) - (p0 * p0)))))) * ((2 : Int64) - (p0 * ((p0 * ((2 : Int64) - (p0 * p0))) * ((2 : Int64) - (p0 * (p0 * ((2 : Int64) - (p0 * p0)))))))))), (.long p0), (.long (2 : Int64)), (.long (((p0 * ((2 : Int64) - (p0 * p0))) * ((2 : Int64) - (p0 * (p0 * ((2 : Int64) - (p0 * p0)))))) * ((2 : Int64) - (p0 * ((p0 * ((2 : Int64) - (p0 * p0))) * ((2 : Int64) - (p0 * (p0 * ((2 : Int64) - (p0 * p0))))))))))])) _
    refine XS.lmul X0.here hx rfl (hb hby own_d_method_2_38) rfl ?_
    show Steps p.tables e below (s₁.setTop (mkF m 39 #[.val (.long p0), .second, .val (.long (((p0 * ((2 : Int64) - (p0 * p0))) * ((2 : Int64) - (p0 * (p0 * ((2 : Int64) - (p0 * p0)))))) * ((2 : Int64) - (p0 * ((p0 * ((2 : Int64) - (p0 * p0))) * ((2 : Int64) - (p0 * (p0 * ((2 : Int64) - (p0 * p0)))))))))), .second] [(.long (p0 * (((p0 * ((2 : Int64) - (p0 * p0))) * ((2 : Int64) - (p0 * (p0 * ((2 : Int64) - (p0 * p0)))))) * ((2 : Int64) - (p0 * ((p0 * ((2 : Int64) - (p0 * p0))) * ((2 : Int64) - (p0 * (p0 * ((2 : Int64) - (p0 * p0))))))))))), (.long (2 : Int64)), (.long (((p0 * ((2 : Int64) - (p0 * p0))) * ((2 : Int64) - (p0 * (p0 * ((2 : Int64) - (p0 * p0)))))) * ((2 : Int64) - (p0 * ((p0 * ((2 : Int64) - (p0 * p0))) * ((2 : Int64) - (p0 * (p0 * ((2 : Int64) - (p0 * p0))))))))))])) _
    refine XS.lsub X0.here hx rfl (hb hby own_d_method_2_39) rfl ?_
    show Steps p.tables e below (s₁.setTop (mkF m 40 #[.val (.long p0), .second, .val (.long (((p0 * ((2 : Int64) - (p0 * p0))) * ((2 : Int64) - (p0 * (p0 * ((2 : Int64) - (p0 * p0)))))) * ((2 : Int64) - (p0 * ((p0 * ((2 : Int64) - (p0 * p0))) * ((2 : Int64) - (p0 * (p0 * ((2 : Int64) - (p0 * p0)))))))))), .second] [(.long ((2 : Int64) - (p0 * (((p0 * ((2 : Int64) - (p0 * p0))) * ((2 : Int64) - (p0 * (p0 * ((2 : Int64) - (p0 * p0)))))) * ((2 : Int64) - (p0 * ((p0 * ((2 : Int64) - (p0 * p0))) * ((2 : Int64) - (p0 * (p0 * ((2 : Int64) - (p0 * p0)))))))))))), (.long (((p0 * ((2 : Int64) - (p0 * p0))) * ((2 : Int64) - (p0 * (p0 * ((2 : Int64) - (p0 * p0)))))) * ((2 : Int64) - (p0 * ((p0 * ((2 : Int64) - (p0 * p0))) * ((2 : Int64) - (p0 * (p0 * ((2 : Int64) - (p0 * p0))))))))))])) _
    refine XS.lmul X0.here hx rfl (hb hby own_d_method_2_40) rfl ?_
    show Steps p.tables e below (s₁.setTop (mkF m 41 #[.val (.long p0), .second, .val (.long (((p0 * ((2 : Int64) - (p0 * p0))) * ((2 : Int64) - (p0 * (p0 * ((2 : Int64) - (p0 * p0)))))) * ((2 : Int64) - (p0 * ((p0 * ((2 : Int64) - (p0 * p0))) * ((2 : Int64) - (p0 * (p0 * ((2 : Int64) - (p0 * p0)))))))))), .second] [(.long ((((p0 * ((2 : Int64) - (p0 * p0))) * ((2 : Int64) - (p0 * (p0 * ((2 : Int64) - (p0 * p0)))))) * ((2 : Int64) - (p0 * ((p0 * ((2 : Int64) - (p0 * p0))) * ((2 : Int64) - (p0 * (p0 * ((2 : Int64) - (p0 * p0))))))))) * ((2 : Int64) - (p0 * (((p0 * ((2 : Int64) - (p0 * p0))) * ((2 : Int64) - (p0 * (p0 * ((2 : Int64) - (p0 * p0)))))) * ((2 : Int64) - (p0 * ((p0 * ((2 : Int64) - (p0 * p0))) * ((2 : Int64) - (p0 * (p0 * ((2 : Int64) - (p0 * p0)))))))))))))])) _
    refine XS.lstoreN X0.here hx rfl (hb hby own_d_method_2_41) rfl (l' := #[.val (.long p0), .second, .val (.long ((((p0 * ((2 : Int64) - (p0 * p0))) * ((2 : Int64) - (p0 * (p0 * ((2 : Int64) - (p0 * p0)))))) * ((2 : Int64) - (p0 * ((p0 * ((2 : Int64) - (p0 * p0))) * ((2 : Int64) - (p0 * (p0 * ((2 : Int64) - (p0 * p0))))))))) * ((2 : Int64) - (p0 * (((p0 * ((2 : Int64) - (p0 * p0))) * ((2 : Int64) - (p0 * (p0 * ((2 : Int64) - (p0 * p0)))))) * ((2 : Int64) - (p0 * ((p0 * ((2 : Int64) - (p0 * p0))) * ((2 : Int64) - (p0 * (p0 * ((2 : Int64) - (p0 * p0))))))))))))), .second]) rfl ?_
    show Steps p.tables e below (s₁.setTop (mkF m 42 #[.val (.long p0), .second, .val (.long ((((p0 * ((2 : Int64) - (p0 * p0))) * ((2 : Int64) - (p0 * (p0 * ((2 : Int64) - (p0 * p0)))))) * ((2 : Int64) - (p0 * ((p0 * ((2 : Int64) - (p0 * p0))) * ((2 : Int64) - (p0 * (p0 * ((2 : Int64) - (p0 * p0))))))))) * ((2 : Int64) - (p0 * (((p0 * ((2 : Int64) - (p0 * p0))) * ((2 : Int64) - (p0 * (p0 * ((2 : Int64) - (p0 * p0)))))) * ((2 : Int64) - (p0 * ((p0 * ((2 : Int64) - (p0 * p0))) * ((2 : Int64) - (p0 * (p0 * ((2 : Int64) - (p0 * p0))))))))))))), .second] [])) _
    refine XS.lloadN X0.here hx rfl (hb hby own_d_method_2_42) rfl ?_
    show Steps p.tables e below (s₁.setTop (mkF m 43 #[.val (.long p0), .second, .val (.long ((((p0 * ((2 : Int64) - (p0 * p0))) * ((2 : Int64) - (p0 * (p0 * ((2 : Int64) - (p0 * p0)))))) * ((2 : Int64) - (p0 * ((p0 * ((2 : Int64) - (p0 * p0))) * ((2 : Int64) - (p0 * (p0 * ((2 : Int64) - (p0 * p0))))))))) * ((2 : Int64) - (p0 * (((p0 * ((2 : Int64) - (p0 * p0))) * ((2 : Int64) - (p0 * (p0 * ((2 : Int64) - (p0 * p0)))))) * ((2 : Int64) - (p0 * ((p0 * ((2 : Int64) - (p0 * p0))) * ((2 : Int64) - (p0 * (p0 * ((2 : Int64) - (p0 * p0))))))))))))), .second] [(.long ((((p0 * ((2 : Int64) - (p0 * p0))) * ((2 : Int64) - (p0 * (p0 * ((2 : Int64) - (p0 * p0)))))) * ((2 : Int64) - (p0 * ((p0 * ((2 : Int64) - (p0 * p0))) * ((2 : Int64) - (p0 * (p0 * ((2 : Int64) - (p0 * p0))))))))) * ((2 : Int64) - (p0 * (((p0 * ((2 : Int64) - (p0 * p0))) * ((2 : Int64) - (p0 * (p0 * ((2 : Int64) - (p0 * p0)))))) * ((2 : Int64) - (p0 * ((p0 * ((2 : Int64) - (p0 * p0))) * ((2 : Int64) - (p0 * (p0 * ((2 : Int64) - (p0 * p0)))))))))))))])) _
    refine X0.ldc2J hx hown (mvT hZ (hw _ (List.mem_of_getElem? (i := 15) rfl))) rfl (hb hby own_d_method_2_43) ?_
    show Steps p.tables e below (s₁.setTop (mkF m 46 #[.val (.long p0), .second, .val (.long ((((p0 * ((2 : Int64) - (p0 * p0))) * ((2 : Int64) - (p0 * (p0 * ((2 : Int64) - (p0 * p0)))))) * ((2 : Int64) - (p0 * ((p0 * ((2 : Int64) - (p0 * p0))) * ((2 : Int64) - (p0 * (p0 * ((2 : Int64) - (p0 * p0))))))))) * ((2 : Int64) - (p0 * (((p0 * ((2 : Int64) - (p0 * p0))) * ((2 : Int64) - (p0 * (p0 * ((2 : Int64) - (p0 * p0)))))) * ((2 : Int64) - (p0 * ((p0 * ((2 : Int64) - (p0 * p0))) * ((2 : Int64) - (p0 * (p0 * ((2 : Int64) - (p0 * p0))))))))))))), .second] [(.long (2 : Int64)), (.long ((((p0 * ((2 : Int64) - (p0 * p0))) * ((2 : Int64) - (p0 * (p0 * ((2 : Int64) - (p0 * p0)))))) * ((2 : Int64) - (p0 * ((p0 * ((2 : Int64) - (p0 * p0))) * ((2 : Int64) - (p0 * (p0 * ((2 : Int64) - (p0 * p0))))))))) * ((2 : Int64) - (p0 * (((p0 * ((2 : Int64) - (p0 * p0))) * ((2 : Int64) - (p0 * (p0 * ((2 : Int64) - (p0 * p0)))))) * ((2 : Int64) - (p0 * ((p0 * ((2 : Int64) - (p0 * p0))) * ((2 : Int64) - (p0 * (p0 * ((2 : Int64) - (p0 * p0)))))))))))))])) _
    refine XS.lloadN X0.here hx rfl (hb hby own_d_method_2_46) rfl ?_
    show Steps p.tables e below (s₁.setTop (mkF m 47 #[.val (.long p0), .second, .val (.long ((((p0 * ((2 : Int64) - (p0 * p0))) * ((2 : Int64) - (p0 * (p0 * ((2 : Int64) - (p0 * p0)))))) * ((2 : Int64) - (p0 * ((p0 * ((2 : Int64) - (p0 * p0))) * ((2 : Int64) - (p0 * (p0 * ((2 : Int64) - (p0 * p0))))))))) * ((2 : Int64) - (p0 * (((p0 * ((2 : Int64) - (p0 * p0))) * ((2 : Int64) - (p0 * (p0 * ((2 : Int64) - (p0 * p0)))))) * ((2 : Int64) - (p0 * ((p0 * ((2 : Int64) - (p0 * p0))) * ((2 : Int64) - (p0 * (p0 * ((2 : Int64) - (p0 * p0))))))))))))), .second] [(.long p0), (.long (2 : Int64)), (.long ((((p0 * ((2 : Int64) - (p0 * p0))) * ((2 : Int64) - (p0 * (p0 * ((2 : Int64) - (p0 * p0)))))) * ((2 : Int64) - (p0 * ((p0 * ((2 : Int64) - (p0 * p0))) * ((2 : Int64) - (p0 * (p0 * ((2 : Int64) - (p0 * p0))))))))) * ((2 : Int64) - (p0 * (((p0 * ((2 : Int64) - (p0 * p0))) * ((2 : Int64) - (p0 * (p0 * ((2 : Int64) - (p0 * p0)))))) * ((2 : Int64) - (p0 * ((p0 * ((2 : Int64) - (p0 * p0))) * ((2 : Int64) - (p0 * (p0 * ((2 : Int64) - (p0 * p0)))))))))))))])) _
    refine XS.lloadN X0.here hx rfl (hb hby own_d_method_2_47) rfl ?_
    show Steps p.tables e below (s₁.setTop (mkF m 48 #[.val (.long p0), .second, .val (.long ((((p0 * ((2 : Int64) - (p0 * p0))) * ((2 : Int64) - (p0 * (p0 * ((2 : Int64) - (p0 * p0)))))) * ((2 : Int64) - (p0 * ((p0 * ((2 : Int64) - (p0 * p0))) * ((2 : Int64) - (p0 * (p0 * ((2 : Int64) - (p0 * p0))))))))) * ((2 : Int64) - (p0 * (((p0 * ((2 : Int64) - (p0 * p0))) * ((2 : Int64) - (p0 * (p0 * ((2 : Int64) - (p0 * p0)))))) * ((2 : Int64) - (p0 * ((p0 * ((2 : Int64) - (p0 * p0))) * ((2 : Int64) - (p0 * (p0 * ((2 : Int64) - (p0 * p0))))))))))))), .second] [(.long ((((p0 * ((2 : Int64) - (p0 * p0))) * ((2 : Int64) - (p0 * (p0 * ((2 : Int64) - (p0 * p0)))))) * ((2 : Int64) - (p0 * ((p0 * ((2 : Int64) - (p0 * p0))) * ((2 : Int64) - (p0 * (p0 * ((2 : Int64) - (p0 * p0))))))))) * ((2 : Int64) - (p0 * (((p0 * ((2 : Int64) - (p0 * p0))) * ((2 : Int64) - (p0 * (p0 * ((2 : Int64) - (p0 * p0)))))) * ((2 : Int64) - (p0 * ((p0 * ((2 : Int64) - (p0 * p0))) * ((2 : Int64) - (p0 * (p0 * ((2 : Int64) - (p0 * p0))))))))))))), (.long p0), (.long (2 : Int64)), (.long ((((p0 * ((2 : Int64) - (p0 * p0))) * ((2 : Int64) - (p0 * (p0 * ((2 : Int64) - (p0 * p0)))))) * ((2 : Int64) - (p0 * ((p0 * ((2 : Int64) - (p0 * p0))) * ((2 : Int64) - (p0 * (p0 * ((2 : Int64) - (p0 * p0))))))))) * ((2 : Int64) - (p0 * (((p0 * ((2 : Int64) - (p0 * p0))) * ((2 : Int64) - (p0 * (p0 * ((2 : Int64) - (p0 * p0)))))) * ((2 : Int64) - (p0 * ((p0 * ((2 : Int64) - (p0 * p0))) * ((2 : Int64) - (p0 * (p0 * ((2 : Int64) - (p0 * p0)))))))))))))])) _
    refine XS.lmul X0.here hx rfl (hb hby own_d_method_2_48) rfl ?_
    show Steps p.tables e below (s₁.setTop (mkF m 49 #[.val (.long p0), .second, .val (.long ((((p0 * ((2 : Int64) - (p0 * p0))) * ((2 : Int64) - (p0 * (p0 * ((2 : Int64) - (p0 * p0)))))) * ((2 : Int64) - (p0 * ((p0 * ((2 : Int64) - (p0 * p0))) * ((2 : Int64) - (p0 * (p0 * ((2 : Int64) - (p0 * p0))))))))) * ((2 : Int64) - (p0 * (((p0 * ((2 : Int64) - (p0 * p0))) * ((2 : Int64) - (p0 * (p0 * ((2 : Int64) - (p0 * p0)))))) * ((2 : Int64) - (p0 * ((p0 * ((2 : Int64) - (p0 * p0))) * ((2 : Int64) - (p0 * (p0 * ((2 : Int64) - (p0 * p0))))))))))))), .second] [(.long (p0 * ((((p0 * ((2 : Int64) - (p0 * p0))) * ((2 : Int64) - (p0 * (p0 * ((2 : Int64) - (p0 * p0)))))) * ((2 : Int64) - (p0 * ((p0 * ((2 : Int64) - (p0 * p0))) * ((2 : Int64) - (p0 * (p0 * ((2 : Int64) - (p0 * p0))))))))) * ((2 : Int64) - (p0 * (((p0 * ((2 : Int64) - (p0 * p0))) * ((2 : Int64) - (p0 * (p0 * ((2 : Int64) - (p0 * p0)))))) * ((2 : Int64) - (p0 * ((p0 * ((2 : Int64) - (p0 * p0))) * ((2 : Int64) - (p0 * (p0 * ((2 : Int64) - (p0 * p0)))))))))))))), (.long (2 : Int64)), (.long ((((p0 * ((2 : Int64) - (p0 * p0))) * ((2 : Int64) - (p0 * (p0 * ((2 : Int64) - (p0 * p0)))))) * ((2 : Int64) - (p0 * ((p0 * ((2 : Int64) - (p0 * p0))) * ((2 : Int64) - (p0 * (p0 * ((2 : Int64) - (p0 * p0))))))))) * ((2 : Int64) - (p0 * (((p0 * ((2 : Int64) - (p0 * p0))) * ((2 : Int64) - (p0 * (p0 * ((2 : Int64) - (p0 * p0)))))) * ((2 : Int64) - (p0 * ((p0 * ((2 : Int64) - (p0 * p0))) * ((2 : Int64) - (p0 * (p0 * ((2 : Int64) - (p0 * p0)))))))))))))])) _
    refine XS.lsub X0.here hx rfl (hb hby own_d_method_2_49) rfl ?_
    show Steps p.tables e below (s₁.setTop (mkF m 50 #[.val (.long p0), .second, .val (.long ((((p0 * ((2 : Int64) - (p0 * p0))) * ((2 : Int64) - (p0 * (p0 * ((2 : Int64) - (p0 * p0)))))) * ((2 : Int64) - (p0 * ((p0 * ((2 : Int64) - (p0 * p0))) * ((2 : Int64) - (p0 * (p0 * ((2 : Int64) - (p0 * p0))))))))) * ((2 : Int64) - (p0 * (((p0 * ((2 : Int64) - (p0 * p0))) * ((2 : Int64) - (p0 * (p0 * ((2 : Int64) - (p0 * p0)))))) * ((2 : Int64) - (p0 * ((p0 * ((2 : Int64) - (p0 * p0))) * ((2 : Int64) - (p0 * (p0 * ((2 : Int64) - (p0 * p0))))))))))))), .second] [(.long ((2 : Int64) - (p0 * ((((p0 * ((2 : Int64) - (p0 * p0))) * ((2 : Int64) - (p0 * (p0 * ((2 : Int64) - (p0 * p0)))))) * ((2 : Int64) - (p0 * ((p0 * ((2 : Int64) - (p0 * p0))) * ((2 : Int64) - (p0 * (p0 * ((2 : Int64) - (p0 * p0))))))))) * ((2 : Int64) - (p0 * (((p0 * ((2 : Int64) - (p0 * p0))) * ((2 : Int64) - (p0 * (p0 * ((2 : Int64) - (p0 * p0)))))) * ((2 : Int64) - (p0 * ((p0 * ((2 : Int64) - (p0 * p0))) * ((2 : Int64) - (p0 * (p0 * ((2 : Int64) - (p0 * p0))))))))))))))), (.long ((((p0 * ((2 : Int64) - (p0 * p0))) * ((2 : Int64) - (p0 * (p0 * ((2 : Int64) - (p0 * p0)))))) * ((2 : Int64) - (p0 * ((p0 * ((2 : Int64) - (p0 * p0))) * ((2 : Int64) - (p0 * (p0 * ((2 : Int64) - (p0 * p0))))))))) * ((2 : Int64) - (p0 * (((p0 * ((2 : Int64) - (p0 * p0))) * ((2 : Int64) - (p0 * (p0 * ((2 : Int64) - (p0 * p0)))))) * ((2 : Int64) - (p0 * ((p0 * ((2 : Int64) - (p0 * p0))) * ((2 : Int64) - (p0 * (p0 * ((2 : Int64) - (p0 * p0)))))))))))))])) _
    refine XS.lmul X0.here hx rfl (hb hby own_d_method_2_50) rfl ?_
    show Steps p.tables e below (s₁.setTop (mkF m 51 #[.val (.long p0), .second, .val (.long ((((p0 * ((2 : Int64) - (p0 * p0))) * ((2 : Int64) - (p0 * (p0 * ((2 : Int64) - (p0 * p0)))))) * ((2 : Int64) - (p0 * ((p0 * ((2 : Int64) - (p0 * p0))) * ((2 : Int64) - (p0 * (p0 * ((2 : Int64) - (p0 * p0))))))))) * ((2 : Int64) - (p0 * (((p0 * ((2 : Int64) - (p0 * p0))) * ((2 : Int64) - (p0 * (p0 * ((2 : Int64) - (p0 * p0)))))) * ((2 : Int64) - (p0 * ((p0 * ((2 : Int64) - (p0 * p0))) * ((2 : Int64) - (p0 * (p0 * ((2 : Int64) - (p0 * p0))))))))))))), .second] [(.long (((((p0 * ((2 : Int64) - (p0 * p0))) * ((2 : Int64) - (p0 * (p0 * ((2 : Int64) - (p0 * p0)))))) * ((2 : Int64) - (p0 * ((p0 * ((2 : Int64) - (p0 * p0))) * ((2 : Int64) - (p0 * (p0 * ((2 : Int64) - (p0 * p0))))))))) * ((2 : Int64) - (p0 * (((p0 * ((2 : Int64) - (p0 * p0))) * ((2 : Int64) - (p0 * (p0 * ((2 : Int64) - (p0 * p0)))))) * ((2 : Int64) - (p0 * ((p0 * ((2 : Int64) - (p0 * p0))) * ((2 : Int64) - (p0 * (p0 * ((2 : Int64) - (p0 * p0)))))))))))) * ((2 : Int64) - (p0 * ((((p0 * ((2 : Int64) - (p0 * p0))) * ((2 : Int64) - (p0 * (p0 * ((2 : Int64) - (p0 * p0)))))) * ((2 : Int64) - (p0 * ((p0 * ((2 : Int64) - (p0 * p0))) * ((2 : Int64) - (p0 * (p0 * ((2 : Int64) - (p0 * p0))))))))) * ((2 : Int64) - (p0 * (((p0 * ((2 : Int64) - (p0 * p0))) * ((2 : Int64) - (p0 * (p0 * ((2 : Int64) - (p0 * p0)))))) * ((2 : Int64) - (p0 * ((p0 * ((2 : Int64) - (p0 * p0))) * ((2 : Int64) - (p0 * (p0 * ((2 : Int64) - (p0 * p0))))))))))))))))])) _
    refine XS.lstoreN X0.here hx rfl (hb hby own_d_method_2_51) rfl (l' := #[.val (.long p0), .second, .val (.long (((((p0 * ((2 : Int64) - (p0 * p0))) * ((2 : Int64) - (p0 * (p0 * ((2 : Int64) - (p0 * p0)))))) * ((2 : Int64) - (p0 * ((p0 * ((2 : Int64) - (p0 * p0))) * ((2 : Int64) - (p0 * (p0 * ((2 : Int64) - (p0 * p0))))))))) * ((2 : Int64) - (p0 * (((p0 * ((2 : Int64) - (p0 * p0))) * ((2 : Int64) - (p0 * (p0 * ((2 : Int64) - (p0 * p0)))))) * ((2 : Int64) - (p0 * ((p0 * ((2 : Int64) - (p0 * p0))) * ((2 : Int64) - (p0 * (p0 * ((2 : Int64) - (p0 * p0)))))))))))) * ((2 : Int64) - (p0 * ((((p0 * ((2 : Int64) - (p0 * p0))) * ((2 : Int64) - (p0 * (p0 * ((2 : Int64) - (p0 * p0)))))) * ((2 : Int64) - (p0 * ((p0 * ((2 : Int64) - (p0 * p0))) * ((2 : Int64) - (p0 * (p0 * ((2 : Int64) - (p0 * p0))))))))) * ((2 : Int64) - (p0 * (((p0 * ((2 : Int64) - (p0 * p0))) * ((2 : Int64) - (p0 * (p0 * ((2 : Int64) - (p0 * p0)))))) * ((2 : Int64) - (p0 * ((p0 * ((2 : Int64) - (p0 * p0))) * ((2 : Int64) - (p0 * (p0 * ((2 : Int64) - (p0 * p0)))))))))))))))), .second]) rfl ?_
    show Steps p.tables e below (s₁.setTop (mkF m 52 #[.val (.long p0), .second, .val (.long (((((p0 * ((2 : Int64) - (p0 * p0))) * ((2 : Int64) - (p0 * (p0 * ((2 : Int64) - (p0 * p0)))))) * ((2 : Int64) - (p0 * ((p0 * ((2 : Int64) - (p0 * p0))) * ((2 : Int64) - (p0 * (p0 * ((2 : Int64) - (p0 * p0))))))))) * ((2 : Int64) - (p0 * (((p0 * ((2 : Int64) - (p0 * p0))) * ((2 : Int64) - (p0 * (p0 * ((2 : Int64) - (p0 * p0)))))) * ((2 : Int64) - (p0 * ((p0 * ((2 : Int64) - (p0 * p0))) * ((2 : Int64) - (p0 * (p0 * ((2 : Int64) - (p0 * p0)))))))))))) * ((2 : Int64) - (p0 * ((((p0 * ((2 : Int64) - (p0 * p0))) * ((2 : Int64) - (p0 * (p0 * ((2 : Int64) - (p0 * p0)))))) * ((2 : Int64) - (p0 * ((p0 * ((2 : Int64) - (p0 * p0))) * ((2 : Int64) - (p0 * (p0 * ((2 : Int64) - (p0 * p0))))))))) * ((2 : Int64) - (p0 * (((p0 * ((2 : Int64) - (p0 * p0))) * ((2 : Int64) - (p0 * (p0 * ((2 : Int64) - (p0 * p0)))))) * ((2 : Int64) - (p0 * ((p0 * ((2 : Int64) - (p0 * p0))) * ((2 : Int64) - (p0 * (p0 * ((2 : Int64) - (p0 * p0)))))))))))))))), .second] [])) _
    refine XS.lloadN X0.here hx rfl (hb hby own_d_method_2_52) rfl ?_
    exact k)
  obtain ⟨fs, hr, hrun, hended, hW, hsame⟩ := X0.leave (v := some (.long (own_inv p0))) (fun h => by rw [Bd.returns] at h; cases h)
  refine ⟨_, _, pre1 _ ?_, hrun, hended, _, _, rfl, ?_, ⟨_, rfl⟩, hW, hsame.mono (by decide) (by decide)⟩
  · show Steps p.tables e below (s₁.setTop (mkF m 53 #[.val (.long p0), .second, .val (.long (((((p0 * ((2 : Int64) - (p0 * p0))) * ((2 : Int64) - (p0 * (p0 * ((2 : Int64) - (p0 * p0)))))) * ((2 : Int64) - (p0 * ((p0 * ((2 : Int64) - (p0 * p0))) * ((2 : Int64) - (p0 * (p0 * ((2 : Int64) - (p0 * p0))))))))) * ((2 : Int64) - (p0 * (((p0 * ((2 : Int64) - (p0 * p0))) * ((2 : Int64) - (p0 * (p0 * ((2 : Int64) - (p0 * p0)))))) * ((2 : Int64) - (p0 * ((p0 * ((2 : Int64) - (p0 * p0))) * ((2 : Int64) - (p0 * (p0 * ((2 : Int64) - (p0 * p0)))))))))))) * ((2 : Int64) - (p0 * ((((p0 * ((2 : Int64) - (p0 * p0))) * ((2 : Int64) - (p0 * (p0 * ((2 : Int64) - (p0 * p0)))))) * ((2 : Int64) - (p0 * ((p0 * ((2 : Int64) - (p0 * p0))) * ((2 : Int64) - (p0 * (p0 * ((2 : Int64) - (p0 * p0))))))))) * ((2 : Int64) - (p0 * (((p0 * ((2 : Int64) - (p0 * p0))) * ((2 : Int64) - (p0 * (p0 * ((2 : Int64) - (p0 * p0)))))) * ((2 : Int64) - (p0 * ((p0 * ((2 : Int64) - (p0 * p0))) * ((2 : Int64) - (p0 * (p0 * ((2 : Int64) - (p0 * p0)))))))))))))))), .second] [(.long (((((p0 * ((2 : Int64) - (p0 * p0))) * ((2 : Int64) - (p0 * (p0 * ((2 : Int64) - (p0 * p0)))))) * ((2 : Int64) - (p0 * ((p0 * ((2 : Int64) - (p0 * p0))) * ((2 : Int64) - (p0 * (p0 * ((2 : Int64) - (p0 * p0))))))))) * ((2 : Int64) - (p0 * (((p0 * ((2 : Int64) - (p0 * p0))) * ((2 : Int64) - (p0 * (p0 * ((2 : Int64) - (p0 * p0)))))) * ((2 : Int64) - (p0 * ((p0 * ((2 : Int64) - (p0 * p0))) * ((2 : Int64) - (p0 * (p0 * ((2 : Int64) - (p0 * p0)))))))))))) * ((2 : Int64) - (p0 * ((((p0 * ((2 : Int64) - (p0 * p0))) * ((2 : Int64) - (p0 * (p0 * ((2 : Int64) - (p0 * p0)))))) * ((2 : Int64) - (p0 * ((p0 * ((2 : Int64) - (p0 * p0))) * ((2 : Int64) - (p0 * (p0 * ((2 : Int64) - (p0 * p0))))))))) * ((2 : Int64) - (p0 * (((p0 * ((2 : Int64) - (p0 * p0))) * ((2 : Int64) - (p0 * (p0 * ((2 : Int64) - (p0 * p0)))))) * ((2 : Int64) - (p0 * ((p0 * ((2 : Int64) - (p0 * p0))) * ((2 : Int64) - (p0 * (p0 * ((2 : Int64) - (p0 * p0))))))))))))))))])) _
    exact retOut X0 hx Bd.returns rfl (Or.inr (Or.inl ⟨rfl, rfl, _, rfl⟩)) (hb hby own_d_method_2_53) hr
  · show Q_own_invC Z p0 h0 n0 _ s₁.heap _
    rw [e0]
    exact ⟨rfl, N0, rfl⟩
theorem own_ef_own_law (m : MethodId) (p0 : Int64) (p1 : Int32) : entryFrame m #[(.long p0), (.int p1)] maxLocals = mkF m 0 #[.val (.long p0), .second, .val (.int p1), .unset, .unset, .unset, .unset, .unset, .unset, .unset, .unset, .unset, .unset] [] := by first | (simp [entryFrame, mkF, argsToLocals, Value.category, maxLocals]; done) | rfl
def Q_own_law (Z : State) (p0 : Int64) (p1 : Int32)  (h0 : Heap) (n0 : Nat) (v : Option Value) (h : Heap) (L : List Loc) : Prop := v = some (.int 1) ∧ Fr n0 L
theorem own_pd__JI_J : parseMethodDescriptor "(JI)J" = some ⟨[.long, .int], some .long⟩ := by decide +kernel
theorem own_pd__J_J : parseMethodDescriptor "(J)J" = some ⟨[.long], some .long⟩ := by decide +kernel
set_option maxRecDepth 65536 in
set_option maxHeartbeats 40000000 in
theorem own_law (l : Launch) (Z : State) (a0 : Array Value) (hw : ∀ d ∈ tables_1, d.before a0 Z = true) (ws : List Jvm.Cond) (p0 : Int64) (p1 : Int32)  (h0 : Heap) (n0 : Nat) (Z0 : n0 ≤ h0.size)  :
    MetFree l x (head1 (Jvm.Cond.code x code maxLocals ret :: ws) room_1) (fun a U => a = #[(.long p0), (.int p1)] ∧ Z.Warmed39 U.vm ∧ U.heap = h0) (fun _ _ _ _ _ => True) (fun _ U o U' => ∃ v L, o = .returned v ∧ Q_own_law Z p0 p1 h0 n0 v U'.heap L ∧ FrameEnd U o U' L room_1.cells room_1.slots) := by
  refine MetFree.of_bodySF (plainFor_of_name own_pn_com_example_freshline_freshline_cli_BenchSeedPinLaw) hisR ?_
  intro p e s m args below meth c s₁ Bd hml0 hP hK
  obtain ⟨rfl, hZ, hh⟩ := hP
  have hx := Bd.exec
  have hby := Bd.bytes
  have hml : c.maxLocals = 13 := hml0
  have hown : s.vm.findClass "com/example/freshline/freshline/cli/BenchSeedPinLaw" = some m.cls := findClass_of_methodNamed Bd.named
  have hnm := (name_of_methodNamed Bd.named Bd.method).1
  have X0 : Stand p l e room_1 s m #[(.long p0), (.int p1)] below meth c s₁ [] 0 0 := Stand.of_body Bd
  have e0 : s₁.heap = h0 := by rw [← hh, Bd.state]; rfl
  have N0 := Fr.nil n0
  have pre0 : ∀ t, Steps p.tables e below (s₁.setTop (mkF m 0 #[.val (.long p0), .second, .val (.int p1), .unset, .unset, .unset, .unset, .unset, .unset, .unset, .unset, .unset, .unset] [])) t → Steps p.tables e below (s₁.setTop (entryFrame m #[(.long p0), (.int p1)] maxLocals)) t := fun t k => castTop (own_ef_own_law m p0 p1) k
  have pre1 : ∀ t, Steps p.tables e below (s₁.setTop (mkF m 2 #[.val (.long p0), .second, .val (.int p1), .unset, .unset, .unset, .unset, .unset, .unset, .unset, .unset, .unset, .unset] [(.int p1), (.long p0)])) t → Steps p.tables e below (s₁.setTop (entryFrame m #[(.long p0), (.int p1)] maxLocals)) t := fun t k => pre0 _ (by
    show Steps p.tables e below (s₁.setTop (mkF m 0 #[.val (.long p0), .second, .val (.int p1), .unset, .unset, .unset, .unset, .unset, .unset, .unset, .unset, .unset, .unset] [])) _
    refine XS.lloadN X0.here hx rfl (hb hby at_0) rfl ?_
    show Steps p.tables e below (s₁.setTop (mkF m 1 #[.val (.long p0), .second, .val (.int p1), .unset, .unset, .unset, .unset, .unset, .unset, .unset, .unset, .unset, .unset] [(.long p0)])) _
    refine XS.iloadN X0.here hx rfl (hb hby at_1) rfl ?_
    exact k)
  obtain ⟨_, _, ⟨T2, L2, k2, n2⟩, -, X2, ⟨Lc2, hQ2, l2, y2, z2⟩, st2⟩ := Jvm.LawKit.callS X0 hx (y := (⟨"com/example/freshline/freshline/cli/Bench", "seed", "(JI)J"⟩ : MethodName)) hown (mvT hZ (hw _ (List.mem_of_getElem? (i := 0) rfl))) (mvT hZ (hw _ (List.mem_of_getElem? (i := 1) rfl))) (mvT hZ (hw _ (List.mem_of_getElem? (i := 2) rfl))) (mvT hZ (hw _ (List.mem_of_getElem? (i := 3) rfl))) (by decide) (backOf (W := 0) (own_seedC l Z a0 hw [] p0 p1 h0 n0 Z0) hZ (hw _ (List.mem_of_getElem? (i := 3) rfl)) (hw _ (List.mem_of_getElem? (i := 2) rfl)) (by decide) (by decide)) (g := (mkF m 2 #[.val (.long p0), .second, .val (.int p1), .unset, .unset, .unset, .unset, .unset, .unset, .unset, .unset, .unset, .unset] [(.int p1), (.long p0)])) rfl (by rw [hml]; rfl) (argsL := [(.long p0), (.int p1)]) (rest := []) (lenOf own_pd__JI_J rfl) rfl (by show 2 * 0 + _ ≤ _; exact Nat.le_of_eq rfl) (hb hby at_2) (fun _ _ => ⟨rfl, e0, (by decide : 0 + 0 ≤ _), (by decide : 0 + 0 ≤ _)⟩)
  dsimp only [Pt.U, Pt.locs, Pt.cells, Pt.slots] at X2 l2 y2 z2 st2 hQ2
  subst l2 y2 z2
  obtain ⟨rfl, N2q, e2⟩ := hQ2
  have N2 := Fr.app N0 N2q
  have pre3 : ∀ t, Steps p.tables e below (T2.setTop (mkF m 5 #[.val (.long p0), .second, .val (.int p1), .unset, .unset, .unset, .unset, .unset, .unset, .unset, .unset, .unset, .unset] [(.long (own_seed p0 p1))])) t → Steps p.tables e below (s₁.setTop (entryFrame m #[(.long p0), (.int p1)] maxLocals)) t := fun t k => pre1 _ (st2 _ k)
  have pre4 : ∀ t, Steps p.tables e below (T2.setTop (mkF m 7 #[.val (.long p0), .second, .val (.int p1), .val (.long (own_seed p0 p1)), .second, .unset, .unset, .unset, .unset, .unset, .unset, .unset, .unset] [(.long (own_seed p0 p1))])) t → Steps p.tables e below (s₁.setTop (entryFrame m #[(.long p0), (.int p1)] maxLocals)) t := fun t k => pre3 _ (by
    show Steps p.tables e below (T2.setTop (mkF m 5 #[.val (.long p0), .second, .val (.int p1), .unset, .unset, .unset, .unset, .unset, .unset, .unset, .unset, .unset, .unset] [(.long (own_seed p0 p1))])) _
    refine XS.lstoreN X2.here hx rfl (hb hby at_5) rfl (l' := #[.val (.long p0), .second, .val (.int p1), .val (.long (own_seed p0 p1)), .second, .unset, .unset, .unset, .unset, .unset, .unset, .unset, .unset]) rfl ?_
    show Steps p.tables e below (T2.setTop (mkF m 6 #[.val (.long p0), .second, .val (.int p1), .val (.long (own_seed p0 p1)), .second, .unset, .unset, .unset, .unset, .unset, .unset, .unset, .unset] [])) _
    refine XS.lloadN X2.here hx rfl (hb hby at_6) rfl ?_
    exact k)
  obtain ⟨_, _, ⟨T5, L5, k5, n5⟩, -, X5, ⟨Lc5, hQ5, l5, y5, z5⟩, st5⟩ := Jvm.LawKit.callS X2 hx (y := (⟨"com/example/freshline/freshline/cli/BenchSeedPinLaw", "unshift", "(J)J"⟩ : MethodName)) hown (mvT hZ (hw _ (List.mem_of_getElem? (i := 7) rfl))) (mvT hZ (hw _ (List.mem_of_getElem? (i := 8) rfl))) (mvT hZ (hw _ (List.mem_of_getElem? (i := 9) rfl))) (mvT hZ (hw _ (List.mem_of_getElem? (i := 10) rfl))) (by decide) (backOf (W := 0) (own_unC l Z a0 hw [] (own_seed p0 p1) h0 n0 Z0) hZ (hw _ (List.mem_of_getElem? (i := 10) rfl)) (hw _ (List.mem_of_getElem? (i := 9) rfl)) (by decide) (by decide)) (g := (mkF m 7 #[.val (.long p0), .second, .val (.int p1), .val (.long (own_seed p0 p1)), .second, .unset, .unset, .unset, .unset, .unset, .unset, .unset, .unset] [(.long (own_seed p0 p1))])) rfl (by rw [hml]; rfl) (argsL := [(.long (own_seed p0 p1))]) (rest := []) (lenOf own_pd__J_J rfl) rfl (by show 2 * 0 + _ ≤ _; exact Nat.le_of_eq rfl) (hb hby at_7) (fun _ _ => ⟨rfl, e2, (by decide : 0 + 0 ≤ _), (by decide : 0 + 0 ≤ _)⟩)
  dsimp only [Pt.U, Pt.locs, Pt.cells, Pt.slots] at X5 l5 y5 z5 st5 hQ5
  subst l5 y5 z5
  obtain ⟨rfl, N5q, e5⟩ := hQ5
  have N5 := Fr.app N2 N5q
  have pre6 : ∀ t, Steps p.tables e below (T5.setTop (mkF m 10 #[.val (.long p0), .second, .val (.int p1), .val (.long (own_seed p0 p1)), .second, .unset, .unset, .unset, .unset, .unset, .unset, .unset, .unset] [(.long (own_us (own_seed p0 p1)))])) t → Steps p.tables e below (s₁.setTop (entryFrame m #[(.long p0), (.int p1)] maxLocals)) t := fun t k => pre4 _ (st5 _ k)
  have pre7 : ∀ t, Steps p.tables e below (T5.setTop (mkF m 17 #[.val (.long p0), .second, .val (.int p1), .val (.long (own_seed p0 p1)), .second, .val (.long (own_us (own_seed p0 p1))), .second, .unset, .unset, .unset, .unset, .unset, .unset] [(.long (-4265267296055464877 : Int64)), (.long (own_us (own_seed p0 p1)))])) t → Steps p.tables e below (s₁.setTop (entryFrame m #[(.long p0), (.int p1)] maxLocals)) t := fun t k => pre6 _ (by
    show Steps p.tables e below (T5.setTop (mkF m 10 #[.val (.long p0), .second, .val (.int p1), .val (.long (own_seed p0 p1)), .second, .unset, .unset, .unset, .unset, .unset, .unset, .unset, .unset] [(.long (own_us (own_seed p0 p1)))])) _
    refine XS.lstore X5.here hx rfl (hb hby at_10) rfl (l' := #[.val (.long p0), .second, .val (.int p1), .val (.long (own_seed p0 p1)), .second, .val (.long (own_us (own_seed p0 p1))), .second, .unset, .unset, .unset, .unset, .unset, .unset]) rfl ?_
    show Steps p.tables e below (T5.setTop (mkF m 12 #[.val (.long p0), .second, .val (.int p1), .val (.long (own_seed p0 p1)), .second, .val (.long (own_us (own_seed p0 p1))), .second, .unset, .unset, .unset, .unset, .unset, .unset] [])) _
    refine XS.lload X5.here hx rfl (hb hby at_12) rfl ?_
    show Steps p.tables e below (T5.setTop (mkF m 14 #[.val (.long p0), .second, .val (.int p1), .val (.long (own_seed p0 p1)), .second, .val (.long (own_us (own_seed p0 p1))), .second, .unset, .unset, .unset, .unset, .unset, .unset] [(.long (own_us (own_seed p0 p1)))])) _
    refine X5.ldc2J hx hown (mvT hZ (hw _ (List.mem_of_getElem? (i := 11) rfl))) rfl (hb hby at_14) ?_
    exact k)
  obtain ⟨_, _, ⟨T8, L8, k8, n8⟩, -, X8, ⟨Lc8, hQ8, l8, y8, z8⟩, st8⟩ := Jvm.LawKit.callS X5 hx (y := (⟨"com/example/freshline/freshline/cli/BenchSeedPinLaw", "inverse", "(J)J"⟩ : MethodName)) hown (mvT hZ (hw _ (List.mem_of_getElem? (i := 12) rfl))) (mvT hZ (hw _ (List.mem_of_getElem? (i := 13) rfl))) (mvT hZ (hw _ (List.mem_of_getElem? (i := 9) rfl))) (mvT hZ (hw _ (List.mem_of_getElem? (i := 14) rfl))) (by decide) (backOf (W := 2) (own_invC l Z a0 hw [] (-4265267296055464877 : Int64) h0 n0 Z0) hZ (hw _ (List.mem_of_getElem? (i := 14) rfl)) (hw _ (List.mem_of_getElem? (i := 9) rfl)) (by decide) (by decide)) (g := (mkF m 17 #[.val (.long p0), .second, .val (.int p1), .val (.long (own_seed p0 p1)), .second, .val (.long (own_us (own_seed p0 p1))), .second, .unset, .unset, .unset, .unset, .unset, .unset] [(.long (-4265267296055464877 : Int64)), (.long (own_us (own_seed p0 p1)))])) rfl (by rw [hml]; rfl) (argsL := [(.long (-4265267296055464877 : Int64))]) (rest := [(.long (own_us (own_seed p0 p1)))]) (lenOf own_pd__J_J rfl) rfl (by show 2 * 0 + _ ≤ _; exact Nat.le_of_eq rfl) (hb hby at_17) (fun _ _ => ⟨rfl, e5, (by decide : 0 + 0 ≤ _), (by decide : 0 + 0 ≤ _)⟩)
  dsimp only [Pt.U, Pt.locs, Pt.cells, Pt.slots] at X8 l8 y8 z8 st8 hQ8
  subst l8 y8 z8
  obtain ⟨rfl, N8q, e8⟩ := hQ8
  have N8 := Fr.app N5 N8q
  have pre9 : ∀ t, Steps p.tables e below (T8.setTop (mkF m 20 #[.val (.long p0), .second, .val (.int p1), .val (.long (own_seed p0 p1)), .second, .val (.long (own_us (own_seed p0 p1))), .second, .unset, .unset, .unset, .unset, .unset, .unset] [(.long (own_inv (-4265267296055464877 : Int64))), (.long (own_us (own_seed p0 p1)))])) t → Steps p.tables e below (s₁.setTop (entryFrame m #[(.long p0), (.int p1)] maxLocals)) t := fun t k => pre7 _ (st8 _ k)
  have pre10 : ∀ t, Steps p.tables e below (T8.setTop (mkF m 21 #[.val (.long p0), .second, .val (.int p1), .val (.long (own_seed p0 p1)), .second, .val (.long (own_us (own_seed p0 p1))), .second, .unset, .unset, .unset, .unset, .unset, .unset] [(.long ((own_us (own_seed p0 p1)) * (own_inv (-4265267296055464877 : Int64))))])) t → Steps p.tables e below (s₁.setTop (entryFrame m #[(.long p0), (.int p1)] maxLocals)) t := fun t k => pre9 _ (by
    show Steps p.tables e below (T8.setTop (mkF m 20 #[.val (.long p0), .second, .val (.int p1), .val (.long (own_seed p0 p1)), .second, .val (.long (own_us (own_seed p0 p1))), .second, .unset, .unset, .unset, .unset, .unset, .unset] [(.long (own_inv (-4265267296055464877 : Int64))), (.long (own_us (own_seed p0 p1)))])) _
    refine XS.lmul X8.here hx rfl (hb hby at_20) rfl ?_
    exact k)
  obtain ⟨_, _, ⟨T11, L11, k11, n11⟩, -, X11, ⟨Lc11, hQ11, l11, y11, z11⟩, st11⟩ := Jvm.LawKit.callS X8 hx (y := (⟨"com/example/freshline/freshline/cli/BenchSeedPinLaw", "unshift", "(J)J"⟩ : MethodName)) hown (mvT hZ (hw _ (List.mem_of_getElem? (i := 7) rfl))) (mvT hZ (hw _ (List.mem_of_getElem? (i := 8) rfl))) (mvT hZ (hw _ (List.mem_of_getElem? (i := 9) rfl))) (mvT hZ (hw _ (List.mem_of_getElem? (i := 10) rfl))) (by decide) (backOf (W := 0) (own_unC l Z a0 hw [] ((own_us (own_seed p0 p1)) * (own_inv (-4265267296055464877 : Int64))) h0 n0 Z0) hZ (hw _ (List.mem_of_getElem? (i := 10) rfl)) (hw _ (List.mem_of_getElem? (i := 9) rfl)) (by decide) (by decide)) (g := (mkF m 21 #[.val (.long p0), .second, .val (.int p1), .val (.long (own_seed p0 p1)), .second, .val (.long (own_us (own_seed p0 p1))), .second, .unset, .unset, .unset, .unset, .unset, .unset] [(.long ((own_us (own_seed p0 p1)) * (own_inv (-4265267296055464877 : Int64))))])) rfl (by rw [hml]; rfl) (argsL := [(.long ((own_us (own_seed p0 p1)) * (own_inv (-4265267296055464877 : Int64))))]) (rest := []) (lenOf own_pd__J_J rfl) rfl (by show 2 * 0 + _ ≤ _; exact Nat.le_of_eq rfl) (hb hby at_21) (fun _ _ => ⟨rfl, e8, (by decide : 0 + 0 ≤ _), (by decide : 0 + 0 ≤ _)⟩)
  dsimp only [Pt.U, Pt.locs, Pt.cells, Pt.slots] at X11 l11 y11 z11 st11 hQ11
  subst l11 y11 z11
  obtain ⟨rfl, N11q, e11⟩ := hQ11
  have N11 := Fr.app N8 N11q
  have pre12 : ∀ t, Steps p.tables e below (T11.setTop (mkF m 24 #[.val (.long p0), .second, .val (.int p1), .val (.long (own_seed p0 p1)), .second, .val (.long (own_us (own_seed p0 p1))), .second, .unset, .unset, .unset, .unset, .unset, .unset] [(.long (own_us ((own_us (own_seed p0 p1)) * (own_inv (-4265267296055464877 : Int64)))))])) t → Steps p.tables e below (s₁.setTop (entryFrame m #[(.long p0), (.int p1)] maxLocals)) t := fun t k => pre10 _ (st11 _ k)
  have pre13 : ∀ t, Steps p.tables e below (T11.setTop (mkF m 31 #[.val (.long p0), .second, .val (.int p1), .val (.long (own_seed p0 p1)), .second, .val (.long (own_us (own_seed p0 p1))), .second, .val (.long (own_us ((own_us (own_seed p0 p1)) * (own_inv (-4265267296055464877 : Int64))))), .second, .unset, .unset, .unset, .unset] [(.long (-49064778989728563 : Int64)), (.long (own_us ((own_us (own_seed p0 p1)) * (own_inv (-4265267296055464877 : Int64)))))])) t → Steps p.tables e below (s₁.setTop (entryFrame m #[(.long p0), (.int p1)] maxLocals)) t := fun t k => pre12 _ (by
    show Steps p.tables e below (T11.setTop (mkF m 24 #[.val (.long p0), .second, .val (.int p1), .val (.long (own_seed p0 p1)), .second, .val (.long (own_us (own_seed p0 p1))), .second, .unset, .unset, .unset, .unset, .unset, .unset] [(.long (own_us ((own_us (own_seed p0 p1)) * (own_inv (-4265267296055464877 : Int64)))))])) _
    refine XS.lstore X11.here hx rfl (hb hby at_24) rfl (l' := #[.val (.long p0), .second, .val (.int p1), .val (.long (own_seed p0 p1)), .second, .val (.long (own_us (own_seed p0 p1))), .second, .val (.long (own_us ((own_us (own_seed p0 p1)) * (own_inv (-4265267296055464877 : Int64))))), .second, .unset, .unset, .unset, .unset]) rfl ?_
    show Steps p.tables e below (T11.setTop (mkF m 26 #[.val (.long p0), .second, .val (.int p1), .val (.long (own_seed p0 p1)), .second, .val (.long (own_us (own_seed p0 p1))), .second, .val (.long (own_us ((own_us (own_seed p0 p1)) * (own_inv (-4265267296055464877 : Int64))))), .second, .unset, .unset, .unset, .unset] [])) _
    refine XS.lload X11.here hx rfl (hb hby at_26) rfl ?_
    show Steps p.tables e below (T11.setTop (mkF m 28 #[.val (.long p0), .second, .val (.int p1), .val (.long (own_seed p0 p1)), .second, .val (.long (own_us (own_seed p0 p1))), .second, .val (.long (own_us ((own_us (own_seed p0 p1)) * (own_inv (-4265267296055464877 : Int64))))), .second, .unset, .unset, .unset, .unset] [(.long (own_us ((own_us (own_seed p0 p1)) * (own_inv (-4265267296055464877 : Int64)))))])) _
    refine X11.ldc2J hx hown (mvT hZ (hw _ (List.mem_of_getElem? (i := 16) rfl))) rfl (hb hby at_28) ?_
    exact k)
  obtain ⟨_, _, ⟨T14, L14, k14, n14⟩, -, X14, ⟨Lc14, hQ14, l14, y14, z14⟩, st14⟩ := Jvm.LawKit.callS X11 hx (y := (⟨"com/example/freshline/freshline/cli/BenchSeedPinLaw", "inverse", "(J)J"⟩ : MethodName)) hown (mvT hZ (hw _ (List.mem_of_getElem? (i := 12) rfl))) (mvT hZ (hw _ (List.mem_of_getElem? (i := 13) rfl))) (mvT hZ (hw _ (List.mem_of_getElem? (i := 9) rfl))) (mvT hZ (hw _ (List.mem_of_getElem? (i := 14) rfl))) (by decide) (backOf (W := 2) (own_invC l Z a0 hw [] (-49064778989728563 : Int64) h0 n0 Z0) hZ (hw _ (List.mem_of_getElem? (i := 14) rfl)) (hw _ (List.mem_of_getElem? (i := 9) rfl)) (by decide) (by decide)) (g := (mkF m 31 #[.val (.long p0), .second, .val (.int p1), .val (.long (own_seed p0 p1)), .second, .val (.long (own_us (own_seed p0 p1))), .second, .val (.long (own_us ((own_us (own_seed p0 p1)) * (own_inv (-4265267296055464877 : Int64))))), .second, .unset, .unset, .unset, .unset] [(.long (-49064778989728563 : Int64)), (.long (own_us ((own_us (own_seed p0 p1)) * (own_inv (-4265267296055464877 : Int64)))))])) rfl (by rw [hml]; rfl) (argsL := [(.long (-49064778989728563 : Int64))]) (rest := [(.long (own_us ((own_us (own_seed p0 p1)) * (own_inv (-4265267296055464877 : Int64)))))]) (lenOf own_pd__J_J rfl) rfl (by show 2 * 0 + _ ≤ _; exact Nat.le_of_eq rfl) (hb hby at_31) (fun _ _ => ⟨rfl, e11, (by decide : 0 + 0 ≤ _), (by decide : 0 + 0 ≤ _)⟩)
  dsimp only [Pt.U, Pt.locs, Pt.cells, Pt.slots] at X14 l14 y14 z14 st14 hQ14
  subst l14 y14 z14
  obtain ⟨rfl, N14q, e14⟩ := hQ14
  have N14 := Fr.app N11 N14q
  have pre15 : ∀ t, Steps p.tables e below (T14.setTop (mkF m 34 #[.val (.long p0), .second, .val (.int p1), .val (.long (own_seed p0 p1)), .second, .val (.long (own_us (own_seed p0 p1))), .second, .val (.long (own_us ((own_us (own_seed p0 p1)) * (own_inv (-4265267296055464877 : Int64))))), .second, .unset, .unset, .unset, .unset] [(.long (own_inv (-49064778989728563 : Int64))), (.long (own_us ((own_us (own_seed p0 p1)) * (own_inv (-4265267296055464877 : Int64)))))])) t → Steps p.tables e below (s₁.setTop (entryFrame m #[(.long p0), (.int p1)] maxLocals)) t := fun t k => pre13 _ (st14 _ k)
  have pre16 : ∀ t, Steps p.tables e below (T14.setTop (mkF m 35 #[.val (.long p0), .second, .val (.int p1), .val (.long (own_seed p0 p1)), .second, .val (.long (own_us (own_seed p0 p1))), .second, .val (.long (own_us ((own_us (own_seed p0 p1)) * (own_inv (-4265267296055464877 : Int64))))), .second, .unset, .unset, .unset, .unset] [(.long ((own_us ((own_us (own_seed p0 p1)) * (own_inv (-4265267296055464877 : Int64)))) * (own_inv (-49064778989728563 : Int64))))])) t → Steps p.tables e below (s₁.setTop (entryFrame m #[(.long p0), (.int p1)] maxLocals)) t := fun t k => pre15 _ (by
    show Steps p.tables e below (T14.setTop (mkF m 34 #[.val (.long p0), .second, .val (.int p1), .val (.long (own_seed p0 p1)), .second, .val (.long (own_us (own_seed p0 p1))), .second, .val (.long (own_us ((own_us (own_seed p0 p1)) * (own_inv (-4265267296055464877 : Int64))))), .second, .unset, .unset, .unset, .unset] [(.long (own_inv (-49064778989728563 : Int64))), (.long (own_us ((own_us (own_seed p0 p1)) * (own_inv (-4265267296055464877 : Int64)))))])) _
    refine XS.lmul X14.here hx rfl (hb hby at_34) rfl ?_
    exact k)
  obtain ⟨_, _, ⟨T17, L17, k17, n17⟩, -, X17, ⟨Lc17, hQ17, l17, y17, z17⟩, st17⟩ := Jvm.LawKit.callS X14 hx (y := (⟨"com/example/freshline/freshline/cli/BenchSeedPinLaw", "unshift", "(J)J"⟩ : MethodName)) hown (mvT hZ (hw _ (List.mem_of_getElem? (i := 7) rfl))) (mvT hZ (hw _ (List.mem_of_getElem? (i := 8) rfl))) (mvT hZ (hw _ (List.mem_of_getElem? (i := 9) rfl))) (mvT hZ (hw _ (List.mem_of_getElem? (i := 10) rfl))) (by decide) (backOf (W := 0) (own_unC l Z a0 hw [] ((own_us ((own_us (own_seed p0 p1)) * (own_inv (-4265267296055464877 : Int64)))) * (own_inv (-49064778989728563 : Int64))) h0 n0 Z0) hZ (hw _ (List.mem_of_getElem? (i := 10) rfl)) (hw _ (List.mem_of_getElem? (i := 9) rfl)) (by decide) (by decide)) (g := (mkF m 35 #[.val (.long p0), .second, .val (.int p1), .val (.long (own_seed p0 p1)), .second, .val (.long (own_us (own_seed p0 p1))), .second, .val (.long (own_us ((own_us (own_seed p0 p1)) * (own_inv (-4265267296055464877 : Int64))))), .second, .unset, .unset, .unset, .unset] [(.long ((own_us ((own_us (own_seed p0 p1)) * (own_inv (-4265267296055464877 : Int64)))) * (own_inv (-49064778989728563 : Int64))))])) rfl (by rw [hml]; rfl) (argsL := [(.long ((own_us ((own_us (own_seed p0 p1)) * (own_inv (-4265267296055464877 : Int64)))) * (own_inv (-49064778989728563 : Int64))))]) (rest := []) (lenOf own_pd__J_J rfl) rfl (by show 2 * 0 + _ ≤ _; exact Nat.le_of_eq rfl) (hb hby at_35) (fun _ _ => ⟨rfl, e14, (by decide : 0 + 0 ≤ _), (by decide : 0 + 0 ≤ _)⟩)
  dsimp only [Pt.U, Pt.locs, Pt.cells, Pt.slots] at X17 l17 y17 z17 st17 hQ17
  subst l17 y17 z17
  obtain ⟨rfl, N17q, e17⟩ := hQ17
  have N17 := Fr.app N14 N17q
  have pre18 : ∀ t, Steps p.tables e below (T17.setTop (mkF m 38 #[.val (.long p0), .second, .val (.int p1), .val (.long (own_seed p0 p1)), .second, .val (.long (own_us (own_seed p0 p1))), .second, .val (.long (own_us ((own_us (own_seed p0 p1)) * (own_inv (-4265267296055464877 : Int64))))), .second, .unset, .unset, .unset, .unset] [(.long (own_us ((own_us ((own_us (own_seed p0 p1)) * (own_inv (-4265267296055464877 : Int64)))) * (own_inv (-49064778989728563 : Int64)))))])) t → Steps p.tables e below (s₁.setTop (entryFrame m #[(.long p0), (.int p1)] maxLocals)) t := fun t k => pre16 _ (st17 _ k)
  have pre19 : ∀ t, Steps p.tables e below (T17.setTop (mkF m 48 #[.val (.long p0), .second, .val (.int p1), .val (.long (own_seed p0 p1)), .second, .val (.long (own_us (own_seed p0 p1))), .second, .val (.long (own_us ((own_us (own_seed p0 p1)) * (own_inv (-4265267296055464877 : Int64))))), .second, .val (.long (own_us ((own_us ((own_us (own_seed p0 p1)) * (own_inv (-4265267296055464877 : Int64)))) * (own_inv (-49064778989728563 : Int64))))), .second, .unset, .unset] [(.long (-7046029254386353131 : Int64)), (.long ((own_us ((own_us ((own_us (own_seed p0 p1)) * (own_inv (-4265267296055464877 : Int64)))) * (own_inv (-49064778989728563 : Int64)))) - (p1.toInt64)))])) t → Steps p.tables e below (s₁.setTop (entryFrame m #[(.long p0), (.int p1)] maxLocals)) t := fun t k => pre18 _ (by
    show Steps p.tables e below (T17.setTop (mkF m 38 #[.val (.long p0), .second, .val (.int p1), .val (.long (own_seed p0 p1)), .second, .val (.long (own_us (own_seed p0 p1))), .second, .val (.long (own_us ((own_us (own_seed p0 p1)) * (own_inv (-4265267296055464877 : Int64))))), .second, .unset, .unset, .unset, .unset] [(.long (own_us ((own_us ((own_us (own_seed p0 p1)) * (own_inv (-4265267296055464877 : Int64)))) * (own_inv (-49064778989728563 : Int64)))))])) _
    refine XS.lstore X17.here hx rfl (hb hby at_38) rfl (l' := #[.val (.long p0), .second, .val (.int p1), .val (.long (own_seed p0 p1)), .second, .val (.long (own_us (own_seed p0 p1))), .second, .val (.long (own_us ((own_us (own_seed p0 p1)) * (own_inv (-4265267296055464877 : Int64))))), .second, .val (.long (own_us ((own_us ((own_us (own_seed p0 p1)) * (own_inv (-4265267296055464877 : Int64)))) * (own_inv (-49064778989728563 : Int64))))), .second, .unset, .unset]) rfl ?_
    show Steps p.tables e below (T17.setTop (mkF m 40 #[.val (.long p0), .second, .val (.int p1), .val (.long (own_seed p0 p1)), .second, .val (.long (own_us (own_seed p0 p1))), .second, .val (.long (own_us ((own_us (own_seed p0 p1)) * (own_inv (-4265267296055464877 : Int64))))), .second, .val (.long (own_us ((own_us ((own_us (own_seed p0 p1)) * (own_inv (-4265267296055464877 : Int64)))) * (own_inv (-49064778989728563 : Int64))))), .second, .unset, .unset] [])) _
    refine XS.lload X17.here hx rfl (hb hby at_40) rfl ?_
    show Steps p.tables e below (T17.setTop (mkF m 42 #[.val (.long p0), .second, .val (.int p1), .val (.long (own_seed p0 p1)), .second, .val (.long (own_us (own_seed p0 p1))), .second, .val (.long (own_us ((own_us (own_seed p0 p1)) * (own_inv (-4265267296055464877 : Int64))))), .second, .val (.long (own_us ((own_us ((own_us (own_seed p0 p1)) * (own_inv (-4265267296055464877 : Int64)))) * (own_inv (-49064778989728563 : Int64))))), .second, .unset, .unset] [(.long (own_us ((own_us ((own_us (own_seed p0 p1)) * (own_inv (-4265267296055464877 : Int64)))) * (own_inv (-49064778989728563 : Int64)))))])) _
    refine XS.iloadN X17.here hx rfl (hb hby at_42) rfl ?_
    show Steps p.tables e below (T17.setTop (mkF m 43 #[.val (.long p0), .second, .val (.int p1), .val (.long (own_seed p0 p1)), .second, .val (.long (own_us (own_seed p0 p1))), .second, .val (.long (own_us ((own_us (own_seed p0 p1)) * (own_inv (-4265267296055464877 : Int64))))), .second, .val (.long (own_us ((own_us ((own_us (own_seed p0 p1)) * (own_inv (-4265267296055464877 : Int64)))) * (own_inv (-49064778989728563 : Int64))))), .second, .unset, .unset] [(.int p1), (.long (own_us ((own_us ((own_us (own_seed p0 p1)) * (own_inv (-4265267296055464877 : Int64)))) * (own_inv (-49064778989728563 : Int64)))))])) _
    refine XS.i2l X17.here hx rfl (hb hby at_43) rfl ?_
    show Steps p.tables e below (T17.setTop (mkF m 44 #[.val (.long p0), .second, .val (.int p1), .val (.long (own_seed p0 p1)), .second, .val (.long (own_us (own_seed p0 p1))), .second, .val (.long (own_us ((own_us (own_seed p0 p1)) * (own_inv (-4265267296055464877 : Int64))))), .second, .val (.long (own_us ((own_us ((own_us (own_seed p0 p1)) * (own_inv (-4265267296055464877 : Int64)))) * (own_inv (-49064778989728563 : Int64))))), .second, .unset, .unset] [(.long (p1.toInt64)), (.long (own_us ((own_us ((own_us (own_seed p0 p1)) * (own_inv (-4265267296055464877 : Int64)))) * (own_inv (-49064778989728563 : Int64)))))])) _
    refine XS.lsub X17.here hx rfl (hb hby at_44) rfl ?_
    show Steps p.tables e below (T17.setTop (mkF m 45 #[.val (.long p0), .second, .val (.int p1), .val (.long (own_seed p0 p1)), .second, .val (.long (own_us (own_seed p0 p1))), .second, .val (.long (own_us ((own_us (own_seed p0 p1)) * (own_inv (-4265267296055464877 : Int64))))), .second, .val (.long (own_us ((own_us ((own_us (own_seed p0 p1)) * (own_inv (-4265267296055464877 : Int64)))) * (own_inv (-49064778989728563 : Int64))))), .second, .unset, .unset] [(.long ((own_us ((own_us ((own_us (own_seed p0 p1)) * (own_inv (-4265267296055464877 : Int64)))) * (own_inv (-49064778989728563 : Int64)))) - (p1.toInt64)))])) _
    refine X17.ldc2J hx hown (mvT hZ (hw _ (List.mem_of_getElem? (i := 17) rfl))) rfl (hb hby at_45) ?_
    exact k)
  obtain ⟨_, _, ⟨T20, L20, k20, n20⟩, -, X20, ⟨Lc20, hQ20, l20, y20, z20⟩, st20⟩ := Jvm.LawKit.callS X17 hx (y := (⟨"com/example/freshline/freshline/cli/BenchSeedPinLaw", "inverse", "(J)J"⟩ : MethodName)) hown (mvT hZ (hw _ (List.mem_of_getElem? (i := 12) rfl))) (mvT hZ (hw _ (List.mem_of_getElem? (i := 13) rfl))) (mvT hZ (hw _ (List.mem_of_getElem? (i := 9) rfl))) (mvT hZ (hw _ (List.mem_of_getElem? (i := 14) rfl))) (by decide) (backOf (W := 2) (own_invC l Z a0 hw [] (-7046029254386353131 : Int64) h0 n0 Z0) hZ (hw _ (List.mem_of_getElem? (i := 14) rfl)) (hw _ (List.mem_of_getElem? (i := 9) rfl)) (by decide) (by decide)) (g := (mkF m 48 #[.val (.long p0), .second, .val (.int p1), .val (.long (own_seed p0 p1)), .second, .val (.long (own_us (own_seed p0 p1))), .second, .val (.long (own_us ((own_us (own_seed p0 p1)) * (own_inv (-4265267296055464877 : Int64))))), .second, .val (.long (own_us ((own_us ((own_us (own_seed p0 p1)) * (own_inv (-4265267296055464877 : Int64)))) * (own_inv (-49064778989728563 : Int64))))), .second, .unset, .unset] [(.long (-7046029254386353131 : Int64)), (.long ((own_us ((own_us ((own_us (own_seed p0 p1)) * (own_inv (-4265267296055464877 : Int64)))) * (own_inv (-49064778989728563 : Int64)))) - (p1.toInt64)))])) rfl (by rw [hml]; rfl) (argsL := [(.long (-7046029254386353131 : Int64))]) (rest := [(.long ((own_us ((own_us ((own_us (own_seed p0 p1)) * (own_inv (-4265267296055464877 : Int64)))) * (own_inv (-49064778989728563 : Int64)))) - (p1.toInt64)))]) (lenOf own_pd__J_J rfl) rfl (by show 2 * 0 + _ ≤ _; exact Nat.le_of_eq rfl) (hb hby at_48) (fun _ _ => ⟨rfl, e17, (by decide : 0 + 0 ≤ _), (by decide : 0 + 0 ≤ _)⟩)
  dsimp only [Pt.U, Pt.locs, Pt.cells, Pt.slots] at X20 l20 y20 z20 st20 hQ20
  subst l20 y20 z20
  obtain ⟨rfl, N20q, e20⟩ := hQ20
  have N20 := Fr.app N17 N20q
  have pre21 : ∀ t, Steps p.tables e below (T20.setTop (mkF m 51 #[.val (.long p0), .second, .val (.int p1), .val (.long (own_seed p0 p1)), .second, .val (.long (own_us (own_seed p0 p1))), .second, .val (.long (own_us ((own_us (own_seed p0 p1)) * (own_inv (-4265267296055464877 : Int64))))), .second, .val (.long (own_us ((own_us ((own_us (own_seed p0 p1)) * (own_inv (-4265267296055464877 : Int64)))) * (own_inv (-49064778989728563 : Int64))))), .second, .unset, .unset] [(.long (own_inv (-7046029254386353131 : Int64))), (.long ((own_us ((own_us ((own_us (own_seed p0 p1)) * (own_inv (-4265267296055464877 : Int64)))) * (own_inv (-49064778989728563 : Int64)))) - (p1.toInt64)))])) t → Steps p.tables e below (s₁.setTop (entryFrame m #[(.long p0), (.int p1)] maxLocals)) t := fun t k => pre19 _ (st20 _ k)
  have pre22 : ∀ t, Steps p.tables e below (T20.setTop (mkF m 66 #[.val (.long p0), .second, .val (.int p1), .val (.long (own_seed p0 p1)), .second, .val (.long (own_us (own_seed p0 p1))), .second, .val (.long (own_us ((own_us (own_seed p0 p1)) * (own_inv (-4265267296055464877 : Int64))))), .second, .val (.long (own_us ((own_us ((own_us (own_seed p0 p1)) * (own_inv (-4265267296055464877 : Int64)))) * (own_inv (-49064778989728563 : Int64))))), .second, .val (.long (((own_us ((own_us ((own_us (own_seed p0 p1)) * (own_inv (-4265267296055464877 : Int64)))) * (own_inv (-49064778989728563 : Int64)))) - (p1.toInt64)) * (own_inv (-7046029254386353131 : Int64)))), .second] [(.int (1 : Int32))])) t → Steps p.tables e below (s₁.setTop (entryFrame m #[(.long p0), (.int p1)] maxLocals)) t := fun t k => pre21 _ (by
    show Steps p.tables e below (T20.setTop (mkF m 51 #[.val (.long p0), .second, .val (.int p1), .val (.long (own_seed p0 p1)), .second, .val (.long (own_us (own_seed p0 p1))), .second, .val (.long (own_us ((own_us (own_seed p0 p1)) * (own_inv (-4265267296055464877 : Int64))))), .second, .val (.long (own_us ((own_us ((own_us (own_seed p0 p1)) * (own_inv (-4265267296055464877 : Int64)))) * (own_inv (-49064778989728563 : Int64))))), .second, .unset, .unset] [(.long (own_inv (-7046029254386353131 : Int64))), (.long ((own_us ((own_us ((own_us (own_seed p0 p1)) * (own_inv (-4265267296055464877 : Int64)))) * (own_inv (-49064778989728563 : Int64)))) - (p1.toInt64)))])) _
    refine XS.lmul X20.here hx rfl (hb hby at_51) rfl ?_
    show Steps p.tables e below (T20.setTop (mkF m 52 #[.val (.long p0), .second, .val (.int p1), .val (.long (own_seed p0 p1)), .second, .val (.long (own_us (own_seed p0 p1))), .second, .val (.long (own_us ((own_us (own_seed p0 p1)) * (own_inv (-4265267296055464877 : Int64))))), .second, .val (.long (own_us ((own_us ((own_us (own_seed p0 p1)) * (own_inv (-4265267296055464877 : Int64)))) * (own_inv (-49064778989728563 : Int64))))), .second, .unset, .unset] [(.long (((own_us ((own_us ((own_us (own_seed p0 p1)) * (own_inv (-4265267296055464877 : Int64)))) * (own_inv (-49064778989728563 : Int64)))) - (p1.toInt64)) * (own_inv (-7046029254386353131 : Int64))))])) _
    refine XS.lstore X20.here hx rfl (hb hby at_52) rfl (l' := #[.val (.long p0), .second, .val (.int p1), .val (.long (own_seed p0 p1)), .second, .val (.long (own_us (own_seed p0 p1))), .second, .val (.long (own_us ((own_us (own_seed p0 p1)) * (own_inv (-4265267296055464877 : Int64))))), .second, .val (.long (own_us ((own_us ((own_us (own_seed p0 p1)) * (own_inv (-4265267296055464877 : Int64)))) * (own_inv (-49064778989728563 : Int64))))), .second, .val (.long (((own_us ((own_us ((own_us (own_seed p0 p1)) * (own_inv (-4265267296055464877 : Int64)))) * (own_inv (-49064778989728563 : Int64)))) - (p1.toInt64)) * (own_inv (-7046029254386353131 : Int64)))), .second]) rfl ?_
    show Steps p.tables e below (T20.setTop (mkF m 54 #[.val (.long p0), .second, .val (.int p1), .val (.long (own_seed p0 p1)), .second, .val (.long (own_us (own_seed p0 p1))), .second, .val (.long (own_us ((own_us (own_seed p0 p1)) * (own_inv (-4265267296055464877 : Int64))))), .second, .val (.long (own_us ((own_us ((own_us (own_seed p0 p1)) * (own_inv (-4265267296055464877 : Int64)))) * (own_inv (-49064778989728563 : Int64))))), .second, .val (.long (((own_us ((own_us ((own_us (own_seed p0 p1)) * (own_inv (-4265267296055464877 : Int64)))) * (own_inv (-49064778989728563 : Int64)))) - (p1.toInt64)) * (own_inv (-7046029254386353131 : Int64)))), .second] [])) _
    refine XS.lload X20.here hx rfl (hb hby at_54) rfl ?_
    show Steps p.tables e below (T20.setTop (mkF m 56 #[.val (.long p0), .second, .val (.int p1), .val (.long (own_seed p0 p1)), .second, .val (.long (own_us (own_seed p0 p1))), .second, .val (.long (own_us ((own_us (own_seed p0 p1)) * (own_inv (-4265267296055464877 : Int64))))), .second, .val (.long (own_us ((own_us ((own_us (own_seed p0 p1)) * (own_inv (-4265267296055464877 : Int64)))) * (own_inv (-49064778989728563 : Int64))))), .second, .val (.long (((own_us ((own_us ((own_us (own_seed p0 p1)) * (own_inv (-4265267296055464877 : Int64)))) * (own_inv (-49064778989728563 : Int64)))) - (p1.toInt64)) * (own_inv (-7046029254386353131 : Int64)))), .second] [(.long (((own_us ((own_us ((own_us (own_seed p0 p1)) * (own_inv (-4265267296055464877 : Int64)))) * (own_inv (-49064778989728563 : Int64)))) - (p1.toInt64)) * (own_inv (-7046029254386353131 : Int64))))])) _
    refine XS.lloadN X20.here hx rfl (hb hby at_56) rfl ?_
    show Steps p.tables e below (T20.setTop (mkF m 57 #[.val (.long p0), .second, .val (.int p1), .val (.long (own_seed p0 p1)), .second, .val (.long (own_us (own_seed p0 p1))), .second, .val (.long (own_us ((own_us (own_seed p0 p1)) * (own_inv (-4265267296055464877 : Int64))))), .second, .val (.long (own_us ((own_us ((own_us (own_seed p0 p1)) * (own_inv (-4265267296055464877 : Int64)))) * (own_inv (-49064778989728563 : Int64))))), .second, .val (.long (((own_us ((own_us ((own_us (own_seed p0 p1)) * (own_inv (-4265267296055464877 : Int64)))) * (own_inv (-49064778989728563 : Int64)))) - (p1.toInt64)) * (own_inv (-7046029254386353131 : Int64)))), .second] [(.long p0), (.long (((own_us ((own_us ((own_us (own_seed p0 p1)) * (own_inv (-4265267296055464877 : Int64)))) * (own_inv (-49064778989728563 : Int64)))) - (p1.toInt64)) * (own_inv (-7046029254386353131 : Int64))))])) _
    refine XT.lcmp X20.here hx rfl (hb hby at_57) rfl ?_
    show Steps p.tables e below (T20.setTop (mkF m 58 #[.val (.long p0), .second, .val (.int p1), .val (.long (own_seed p0 p1)), .second, .val (.long (own_us (own_seed p0 p1))), .second, .val (.long (own_us ((own_us (own_seed p0 p1)) * (own_inv (-4265267296055464877 : Int64))))), .second, .val (.long (own_us ((own_us ((own_us (own_seed p0 p1)) * (own_inv (-4265267296055464877 : Int64)))) * (own_inv (-49064778989728563 : Int64))))), .second, .val (.long (((own_us ((own_us ((own_us (own_seed p0 p1)) * (own_inv (-4265267296055464877 : Int64)))) * (own_inv (-49064778989728563 : Int64)))) - (p1.toInt64)) * (own_inv (-7046029254386353131 : Int64)))), .second] [(.int (XT.cmpL (((own_us ((own_us ((own_us (own_seed p0 p1)) * (own_inv (-4265267296055464877 : Int64)))) * (own_inv (-49064778989728563 : Int64)))) - (p1.toInt64)) * (own_inv (-7046029254386353131 : Int64))) p0))])) _
    refine XS.ifNo X20.here hx rfl (hb hby at_58) rfl (XT.ll_ne_f (own_back p0 p1)) ?_
    show Steps p.tables e below (T20.setTop (mkF m 61 #[.val (.long p0), .second, .val (.int p1), .val (.long (own_seed p0 p1)), .second, .val (.long (own_us (own_seed p0 p1))), .second, .val (.long (own_us ((own_us (own_seed p0 p1)) * (own_inv (-4265267296055464877 : Int64))))), .second, .val (.long (own_us ((own_us ((own_us (own_seed p0 p1)) * (own_inv (-4265267296055464877 : Int64)))) * (own_inv (-49064778989728563 : Int64))))), .second, .val (.long (((own_us ((own_us ((own_us (own_seed p0 p1)) * (own_inv (-4265267296055464877 : Int64)))) * (own_inv (-49064778989728563 : Int64)))) - (p1.toInt64)) * (own_inv (-7046029254386353131 : Int64)))), .second] [])) _
    refine XT.iconstV X20.here hx rfl (1 : Int32) (hb hby at_61) rfl ?_
    show Steps p.tables e below (T20.setTop (mkF m 62 #[.val (.long p0), .second, .val (.int p1), .val (.long (own_seed p0 p1)), .second, .val (.long (own_us (own_seed p0 p1))), .second, .val (.long (own_us ((own_us (own_seed p0 p1)) * (own_inv (-4265267296055464877 : Int64))))), .second, .val (.long (own_us ((own_us ((own_us (own_seed p0 p1)) * (own_inv (-4265267296055464877 : Int64)))) * (own_inv (-49064778989728563 : Int64))))), .second, .val (.long (((own_us ((own_us ((own_us (own_seed p0 p1)) * (own_inv (-4265267296055464877 : Int64)))) * (own_inv (-49064778989728563 : Int64)))) - (p1.toInt64)) * (own_inv (-7046029254386353131 : Int64)))), .second] [(.int (1 : Int32))])) _
    refine XS.goto X20.here hx rfl (pc0 := 62) (pc' := 66) rfl (hb hby at_62) (by decide) (by decide) ?_
    exact k)
  obtain ⟨fs, hr, hrun, hended, hW, hsame⟩ := X20.leave (v := some (.int (1 : Int32))) (fun h => by rw [Bd.returns] at h; cases h)
  refine ⟨_, _, pre22 _ ?_, hrun, hended, _, _, rfl, ?_, ⟨_, rfl⟩, hW, hsame.mono (by decide) (by decide)⟩
  · show Steps p.tables e below (T20.setTop (mkF m 66 #[.val (.long p0), .second, .val (.int p1), .val (.long (own_seed p0 p1)), .second, .val (.long (own_us (own_seed p0 p1))), .second, .val (.long (own_us ((own_us (own_seed p0 p1)) * (own_inv (-4265267296055464877 : Int64))))), .second, .val (.long (own_us ((own_us ((own_us (own_seed p0 p1)) * (own_inv (-4265267296055464877 : Int64)))) * (own_inv (-49064778989728563 : Int64))))), .second, .val (.long (((own_us ((own_us ((own_us (own_seed p0 p1)) * (own_inv (-4265267296055464877 : Int64)))) * (own_inv (-49064778989728563 : Int64)))) - (p1.toInt64)) * (own_inv (-7046029254386353131 : Int64)))), .second] [(.int (1 : Int32))])) _
    exact retN X20 hx (t := .boolean) Bd.returns (by simp) (hb hby at_66) hr
  · show Q_own_law Z p0 p1 h0 n0 _ T20.heap _
    rw [e20]
    exact ⟨rfl, N20⟩
set_option maxRecDepth 65536 in
set_option maxHeartbeats 40000000 in
theorem comes_1 {Post : Tables → Env → Array Value → State → Outcome → State → Prop} (hpost : ∀ tb e args s v u, (limb_1_1.after args s (.returned v) u = true ∧ limb_1_2.after args s (.returned v) u = true ∧ True) → FrameEnd s (.returned v) u (Jvm.fieldLocs frame_1_writes args s ++ Jvm.arrayLocs frame_1_arrays args s ++ Jvm.staticLocs frame_1_statics s) 0 0 → Post tb e args s (.returned v) u) :
    ArmFor flags0 classFile x code maxLocals ret World_1 tables_1 room_1 Calls_1 rest_1 Pre_1 Post := by
  intro l hfl _ _ p e ha hc hk s m args below hf hA hF happ hP
  obtain ⟨hcalls, hrest, hpre⟩ := hP
  obtain ⟨-, -, -, hnamed, -, -, -, hat⟩ := (Spec.applies_iff hf).mp happ
  obtain ⟨hg, hn⟩ := and_e (Cond.before_iff.mp (show (Jvm.Cond.and given_1 narrow_1).before args s = true from hpre))
  obtain ⟨h1, g0⟩ := and_e hg
  obtain ⟨w0, w1, rfl⟩ : ∃ w0 w1 : Value, args = #[w0, w1] := by
    have hs : args.size = 2 := by simpa [Cond.value, given_1] using h1
    obtain ⟨L⟩ := args
    match L, hs with
    | [w0, w1], _ => exact ⟨w0, w1, rfl⟩
  have hw := fun d (hd : d ∈ tables_1) => atoms_spec (ws := Jvm.Cond.code x code maxLocals ret :: tables_1) hat d (List.mem_cons_of_mem _ hd)
  have hfit : Fit s := fun {y c} hc i hi => by
    obtain ⟨ha, rfl⟩ := Array.getElem?_eq_some_iff.mp hc
    have q := List.all_eq_true.mp ((Array.all_eq_true_iff_forall_mem.mp hF) _ (Array.getElem_mem ha)) i (List.mem_range.mpr hi)
    simpa [Array.getElem?_eq_getElem hi] using q
  obtain ⟨t0, g1⟩ := and_e g0
  obtain ⟨i0, q0⟩ := isL_v t0
  obtain rfl : w0 = (.long i0) := Option.some.inj q0
  have t1 := g1
  obtain ⟨i1, q1⟩ := is_v t1
  obtain rfl : w1 = (.int i1) := Option.some.inj q1
  obtain ⟨n, o, h1, h2, h3, _, L, rfl, ⟨rfl, N⟩, hq⟩ := own_law l s _ hw tables_1 i0 i1 s.heap s.heap.size (Nat.le_refl _)  p e ha hc hk s m _ below hf ((Spec.applies_iff_loose hf).mp happ).1 ⟨rfl, State.Warmed39.refl s, rfl⟩ trivial
  refine ⟨n, _, h1, h2, h3, hpost _ _ _ _ _ _ ⟨Cond.after_iff.mpr rfl, Cond.after_iff.mpr (eq_i res_at (Term.int_eval (1)) rfl), trivial⟩ ⟨hq.1, hq.2.1, (hq.2.2.sift fun y hy => Or.inr (N y hy)).mono (by decide) (by decide)⟩⟩
theorem main_1_1 : Claimed_1_1 := comes_1 fun _ _ _ _ _ _ h hF => ⟨h.1, hF⟩
theorem main_1_2 : Claimed_1_2 := comes_1 fun _ _ _ _ _ _ h hF => ⟨h.2.1, hF⟩
end Jvm.Pilot.@@N@@
namespace Jvm.Pilot.@@N@@
open Jvm Jvm.ClassFile Sem Op Lib Jvm.Free Jvm.Stand Jvm.Pilot.@@N@@.Jvm.D
/-! MADE BY PROGRAM (witnessworld.py) out of the Statement's table words and the real class files: 9 classes; the members and pool entries that the words name. The judged class is class 1, her method 3. -/
namespace start1
open Jvm.ClassFile
def u (s : String) : CpInfo := .utf8 (stringToUtf16 s)
/-- a pool by its gaps: so many unusable entries, then the entry; so many at the end -/
def gap : Nat → List CpInfo → List CpInfo
  | 0, r => r
  | n + 1, r => .unusable :: gap n r
def poolList (es : List (Nat × CpInfo)) (last : Nat) : List CpInfo := es.foldr (fun e r => gap e.1 (e.2 :: r)) (gap last [])
def pool (es : List (Nat × CpInfo)) (last : Nat) : Array CpInfo := ⟨poolList es last⟩
def fileOf (pool : Array CpInfo) (this : Nat) (attrs : Array Attribute := #[]) (ms : Array MethodInfo := #[]) (fl : Nat := 33) (sup : Nat := 0) (ifs : Array Nat := #[]) (fds : Array FieldInfo := #[]) : ClassFile where
  minorVersion := 0
  majorVersion := 65
  constantPool := pool
  accessFlags := fl
  thisClass := this
  superClass := sup
  interfaces := ifs
  fields := fds
  methods := ms
  attributes := attrs
def plain (name : String) (sup : Option ClassId) : Class where
  name := name
  kind := .ordinary
  loader := none
  accessFlags := 33
  super := sup
  interfaces := #[]
  cf := none
  fields := #[]
  methods := #[]
  instanceTypes := #[]
  staticTypes := #[]
  resolved := #[]
  callSites := []
  init := .initialized
  statics := none
  mirror := none

def pool0 : Array CpInfo := pool [(5, u "<init>"), (0, u "()V"), (1, .class_ 10), (1, u "java/lang/Object")] 113

def k0m0 : Method := { name := "<init>", desc := "()V", sig := { parameters := [], returnType := none }, accessFlags := 1, code := none }
/-- java/lang/Object -/
def k0 : Class := { plain "java/lang/Object" none with
  accessFlags := 33
  interfaces := #[]
  cf := some (fileOf pool0 8 #[] #[{ accessFlags := 1, nameIndex := 5, descriptorIndex := 6, attributes := #[] }] 33 0 #[] #[])
  fields := #[]
  methods := #[k0m0]
  instanceTypes := #[]
  staticTypes := #[]
  resolved := Array.replicate 124 none
  statics := none }

def pool1 : Array CpInfo := pool [(2, .class_ 4), (1, u "java/lang/Object"), (0, u "<init>"), (0, u "()V"), (0, .long 2), (1, .methodref 10 11), (0, .class_ 12), (0, .nameAndType 13 14), (0, u "com/example/freshline/freshline/cli/Bench"), (0, u "seed"), (0, u "(JI)J"), (0, .methodref 16 17), (0, .class_ 18), (0, .nameAndType 19 20), (0, u "com/example/freshline/freshline/cli/BenchSeedPinLaw"), (0, u "unshift"), (0, u "(J)J"), (0, .long 14181476777654086739), (1, .methodref 16 24), (0, .nameAndType 25 20), (0, u "inverse"), (0, .long 18397679294719823053), (1, .long 11400714819323198485), (3, u "law"), (0, u "(JI)Z")] 3

def k1m0 : Method := { name := "<init>", desc := "()V", sig := { parameters := [], returnType := none }, accessFlags := 2, code := none }
def k1c1 : Code := { maxStack := 8, maxLocals := 4, code := method_2_code, exceptionTable := #[], attributes := #[] }
def k1m1 : Method := { name := "inverse", desc := "(J)J", sig := { parameters := [.long], returnType := some .long }, accessFlags := 10, code := some k1c1 }
def k1c2 : Code := { maxStack := 5, maxLocals := 2, code := method_3_code, exceptionTable := #[], attributes := #[] }
def k1m2 : Method := { name := "unshift", desc := "(J)J", sig := { parameters := [.long], returnType := some .long }, accessFlags := 10, code := some k1c2 }
def k1c3 : Code := { maxStack := 4, maxLocals := 13, code := code, exceptionTable := #[], attributes := #[] }
def k1m3 : Method := { name := "law", desc := "(JI)Z", sig := { parameters := [.long, .int], returnType := some .boolean }, accessFlags := 9, code := some k1c3 }
/-- com/example/freshline/freshline/cli/BenchSeedPinLaw -/
def k1 : Class := { plain "com/example/freshline/freshline/cli/BenchSeedPinLaw" (some 0) with
  accessFlags := 49
  interfaces := #[]
  cf := some (fileOf pool1 16 #[] #[{ accessFlags := 2, nameIndex := 5, descriptorIndex := 6, attributes := #[] }, { accessFlags := 10, nameIndex := 25, descriptorIndex := 20, attributes := #[] }, { accessFlags := 10, nameIndex := 19, descriptorIndex := 20, attributes := #[] }, { accessFlags := 9, nameIndex := 32, descriptorIndex := 33, attributes := #[] }] 49 2 #[] #[])
  fields := #[]
  methods := #[k1m0, k1m1, k1m2, k1m3]
  instanceTypes := #[]
  staticTypes := #[]
  resolved := Array.replicate 37 none
  statics := none }

def pool2 : Array CpInfo := pool [(2, .class_ 4), (1, u "java/lang/Object"), (8, .class_ 15), (1, u "com/example/freshline/freshline/cli/Bench"), (0, u "stopped"), (0, u "Ljava/util/concurrent/CountDownLatch;"), (5, u "failure"), (0, u "Ljava/util/concurrent/atomic/AtomicReference;"), (2, u "sessions"), (0, u "Ljava/util/List;"), (2, u "limit"), (0, u "Lcom/example/freshline/freshline/cli/Bench$Limit;"), (2, u "think"), (0, u "Ljava/time/Duration;"), (2, u "rng"), (0, u "J"), (2, u "workload"), (0, u "Lcom/example/freshline/freshline/cli/Workload;"), (68, .long 11400714819323198485), (1, .long 18397679294719823053), (1, .long 14181476777654086739), (63, .class_ 182), (0, u "com/example/freshline/freshline/cli/Bench$Result"), (43, u "seed"), (0, u "(JI)J"), (7, .class_ 237), (1, u "com/example/freshline/freshline/cli/Bench$Limit"), (79, u "KEYS_PER_LOAD"), (0, u "I"), (2, u "SEED_STRIDE")] 43

def k2c0 : Code := { maxStack := 5, maxLocals := 5, code := prog_1_method_4_code, exceptionTable := #[], attributes := #[] }
def k2m0 : Method := { name := "seed", desc := "(JI)J", sig := { parameters := [.long, .int], returnType := some .long }, accessFlags := 8, code := some k2c0 }
/-- com/example/freshline/freshline/cli/Bench -/
def k2 : Class := { plain "com/example/freshline/freshline/cli/Bench" (some 0) with
  accessFlags := 48
  interfaces := #[]
  cf := some (fileOf pool2 13 #[.nestMembers #[181, 235]] #[{ accessFlags := 8, nameIndex := 226, descriptorIndex := 227, attributes := #[] }] 48 2 #[] #[{ accessFlags := 24, nameIndex := 317, descriptorIndex := 318, attributes := #[] }, { accessFlags := 26, nameIndex := 321, descriptorIndex := 40, attributes := #[] }, { accessFlags := 18, nameIndex := 27, descriptorIndex := 28, attributes := #[] }, { accessFlags := 18, nameIndex := 31, descriptorIndex := 32, attributes := #[] }, { accessFlags := 18, nameIndex := 35, descriptorIndex := 36, attributes := #[] }, { accessFlags := 18, nameIndex := 39, descriptorIndex := 40, attributes := #[] }, { accessFlags := 18, nameIndex := 43, descriptorIndex := 44, attributes := #[] }, { accessFlags := 18, nameIndex := 16, descriptorIndex := 17, attributes := #[] }, { accessFlags := 18, nameIndex := 23, descriptorIndex := 24, attributes := #[] }])
  fields := #[{ name := "KEYS_PER_LOAD", type := .int, accessFlags := 24, slot := 0, constantValue := 0 }, { name := "SEED_STRIDE", type := .long, accessFlags := 26, slot := 1, constantValue := 0 }, { name := "sessions", type := (.object "java/util/List"), accessFlags := 18, slot := 0, constantValue := 0 }, { name := "limit", type := (.object "com/example/freshline/freshline/cli/Bench$Limit"), accessFlags := 18, slot := 1, constantValue := 0 }, { name := "think", type := (.object "java/time/Duration"), accessFlags := 18, slot := 2, constantValue := 0 }, { name := "rng", type := .long, accessFlags := 18, slot := 3, constantValue := 0 }, { name := "workload", type := (.object "com/example/freshline/freshline/cli/Workload"), accessFlags := 18, slot := 4, constantValue := 0 }, { name := "stopped", type := (.object "java/util/concurrent/CountDownLatch"), accessFlags := 18, slot := 5, constantValue := 0 }, { name := "failure", type := (.object "java/util/concurrent/atomic/AtomicReference"), accessFlags := 18, slot := 6, constantValue := 0 }]
  methods := #[k2m0]
  instanceTypes := #[(.object "java/util/List"), (.object "com/example/freshline/freshline/cli/Bench$Limit"), (.object "java/time/Duration"), .long, (.object "com/example/freshline/freshline/cli/Workload"), (.object "java/util/concurrent/CountDownLatch"), (.object "java/util/concurrent/atomic/AtomicReference")]
  staticTypes := #[.int, .long]
  resolved := Array.replicate 365 none
  statics := none }

def pool3 : Array CpInfo := pool [(1, u "java/lang/Cloneable"), (0, .class_ 1), (0, u "java/lang/Object"), (0, .class_ 3)] 3

/-- java/lang/Cloneable -/
def k3 : Class := { plain "java/lang/Cloneable" (some 0) with
  accessFlags := 1537
  interfaces := #[]
  cf := some (fileOf pool3 2 #[] #[] 1537 4 #[] #[])
  fields := #[]
  methods := #[]
  instanceTypes := #[]
  staticTypes := #[]
  resolved := Array.replicate 8 none
  statics := none }

def pool4 : Array CpInfo := pool [(1, u "java/io/Serializable"), (0, .class_ 1), (0, u "java/lang/Object"), (0, .class_ 3)] 3

/-- java/io/Serializable -/
def k4 : Class := { plain "java/io/Serializable" (some 0) with
  accessFlags := 1537
  interfaces := #[]
  cf := some (fileOf pool4 2 #[] #[] 1537 4 #[] #[])
  fields := #[]
  methods := #[]
  instanceTypes := #[]
  staticTypes := #[]
  resolved := Array.replicate 8 none
  statics := none }

/-- the primitive byte -/
def k5 : Class := { plain "byte" none with kind := .primitive 'B', accessFlags := 0x411 }
/-- [B -/
def k6 : Class := { plain "[B" (some 0) with kind := .array 5 .byte, interfaces := #[3, 4], accessFlags := 1041 }

/-- the primitive int -/
def k7 : Class := { plain "int" none with kind := .primitive 'I', accessFlags := 0x411 }
/-- [I -/
def k8 : Class := { plain "[I" (some 0) with kind := .array 7 .int, interfaces := #[3, 4], accessFlags := 1041 }

def heap : Heap := #[]
def classes : Array Class := #[k0, k1, k2, k3, k4, k5, k6, k7, k8]
def interned : List (Array UInt16 × Addr) := []
def slotsUsed : Nat := 0
def theMethod : MethodId := ⟨1, 3⟩
def args0 : Array Value := #[.long 5, .int 3]
def aboutOver (below : List Frame) : State where
  vm := { classes := classes, interned := interned.toArray }
  heap := heap
  slotsUsed := slotsUsed
  threads := #[{ frames := .invoking theMethod args0 :: below }]
def below0 : List Frame := [.native { method := ⟨0, 0⟩, args := #[] }]
def about1 : State := aboutOver below0
def p0 : Program := .bare "" "" ""
def e0 : Env := launch0.env 0 0 0
theorem w_frames : about1.frames = Frame.invoking theMethod args0 :: below0 := rfl
set_option maxRecDepth 65536 in
theorem w_args : argsFit about1.vm theMethod args0 = true := by decide +kernel
set_option maxRecDepth 65536 in
theorem w_heap : heapFits about1 = true := by decide +kernel
set_option maxRecDepth 65536 in
theorem w_runnable : about1.curStatus? = some .runnable := by decide +kernel
set_option maxRecDepth 65536 in
theorem w_alone : about1.alone = true := by decide +kernel
set_option maxRecDepth 65536 in
theorem w_named : about1.methodNamed? x = some theMethod := by decide +kernel
set_option maxRecDepth 65536 in
theorem w_hears : about1.hears theMethod below0 = true := by decide +kernel
set_option maxRecDepth 65536 in
theorem w_ripe : about1.ripe theMethod args0 below0 = true := by decide +kernel
theorem w_running : about1.status = .running := rfl
set_option maxRecDepth 65536 in
theorem w_room : about1.hasRoom e0.platform room_1 = true :=
  launch0.hasRoom_least _ room_1 (by decide +kernel) (by decide +kernel) (by decide +kernel) (by decide +kernel) (by decide +kernel) (by decide +kernel)
theorem allAtoms_all (ts : List Jvm.Cond) (a : Array Jvm.Value) (st : Jvm.State) : (allAtoms ts).before a st = ts.all (fun c => c.before a st) := by
  induction ts with
  | nil => rfl
  | cons c t ih =>
    show (Jvm.Cond.and c (allAtoms t)).before a st = _
    rw [Jvm.Cond.before_and, ih, List.all_cons]
def words1 : List Jvm.Cond := Jvm.Cond.code x code maxLocals ret :: tables_1
/-- a 'code' word, met by the world's own term for the bytes: nothing is compared byte by byte -/
theorem code_word {y : MethodName} {bytes : ByteArray} {mx : Nat} {rt : Option FieldType} {a : Array Value} {s : State} {m : MethodId} {meth : Method} {c : Code} (h1 : s.methodNamed? y = some m) (h2 : s.vm.method? m = some meth) (h3 : meth.code = some c) (h4 : c.code = bytes)
    (h5 : (c.maxLocals == mx && c.exceptionTable.isEmpty && decide (c.maxStack ≤ mostOperands) && decide (meth.sig.returnType = rt) && !meth.locks && decide (parseMethodDescriptor y.desc = some meth.sig)) = true) : (Jvm.Cond.code y bytes mx rt).before a s = true := by
  simp only [Bool.and_eq_true, beq_iff_eq, Bool.not_eq_true', decide_eq_true_eq] at h5
  obtain ⟨⟨⟨⟨⟨g1, g2⟩, g3⟩, g4⟩, g5⟩, g6⟩ := h5
  simp [Cond.before, Cond.holds, Cond.value, h1, h2, h3, h4, g1, g2, g3, g4, g5, g6]
def isCode : Jvm.Cond → Bool
  | .code _ _ _ _ => true
  | _ => false
theorem all_split {L : List Jvm.Cond} {P : Jvm.Cond → Bool} (h1 : L.all (fun c => isCode c || P c) = true) (h2 : ∀ c ∈ L.filter isCode, P c = true) : L.all P = true := by
  refine List.all_eq_true.mpr fun c hc => ?_
  have h := List.all_eq_true.mp h1 c hc
  rcases Bool.eq_false_or_eq_true (isCode c) with hi | hi
  · exact h2 c (List.mem_filter.mpr ⟨hc, hi⟩)
  · simpa [hi] using h
set_option maxRecDepth 65536 in
theorem w_c0 : (Jvm.Cond.code x code maxLocals ret).before args0 about1 = true := code_word (m := ⟨1, 3⟩) (meth := k1m3) (c := k1c3) (by decide +kernel) rfl rfl rfl (by decide +kernel)
set_option maxRecDepth 65536 in
theorem w_c1 : (Jvm.Cond.code ({ cls := "com/example/freshline/freshline/cli/Bench", name := "seed", desc := "(JI)J" } : Jvm.MethodName) prog_1_method_4_code (5 : Nat) (Option.some Jvm.ClassFile.FieldType.long)).before args0 about1 = true := code_word (m := ⟨2, 0⟩) (meth := k2m0) (c := k2c0) (by decide +kernel) rfl rfl rfl (by decide +kernel)
set_option maxRecDepth 65536 in
theorem w_c2 : (Jvm.Cond.code ({ cls := "com/example/freshline/freshline/cli/BenchSeedPinLaw", name := "unshift", desc := "(J)J" } : Jvm.MethodName) method_3_code (2 : Nat) (Option.some Jvm.ClassFile.FieldType.long)).before args0 about1 = true := code_word (m := ⟨1, 2⟩) (meth := k1m2) (c := k1c2) (by decide +kernel) rfl rfl rfl (by decide +kernel)
set_option maxRecDepth 65536 in
theorem w_c3 : (Jvm.Cond.code ({ cls := "com/example/freshline/freshline/cli/BenchSeedPinLaw", name := "inverse", desc := "(J)J" } : Jvm.MethodName) method_2_code (4 : Nat) (Option.some Jvm.ClassFile.FieldType.long)).before args0 about1 = true := code_word (m := ⟨1, 1⟩) (meth := k1m1) (c := k1c1) (by decide +kernel) rfl rfl rfl (by decide +kernel)
def codes1 : List Jvm.Cond := [Jvm.Cond.code x code maxLocals ret, Jvm.Cond.code ({ cls := "com/example/freshline/freshline/cli/Bench", name := "seed", desc := "(JI)J" } : Jvm.MethodName) prog_1_method_4_code (5 : Nat) (Option.some Jvm.ClassFile.FieldType.long), Jvm.Cond.code ({ cls := "com/example/freshline/freshline/cli/BenchSeedPinLaw", name := "unshift", desc := "(J)J" } : Jvm.MethodName) method_3_code (2 : Nat) (Option.some Jvm.ClassFile.FieldType.long), Jvm.Cond.code ({ cls := "com/example/freshline/freshline/cli/BenchSeedPinLaw", name := "inverse", desc := "(J)J" } : Jvm.MethodName) method_2_code (4 : Nat) (Option.some Jvm.ClassFile.FieldType.long)]
set_option maxRecDepth 65536 in
theorem codes_eq : words1.filter isCode = codes1 := rfl
theorem w_codes : ∀ c ∈ words1.filter isCode, c.before args0 about1 = true := by
  rw [codes_eq]
  intro c hc
  simp only [codes1, List.mem_cons, List.not_mem_nil, or_false] at hc
  rcases hc with rfl | rfl | rfl | rfl
  · exact w_c0
  · exact w_c1
  · exact w_c2
  · exact w_c3
set_option maxRecDepth 65536 in
theorem w_t1 : words1.all (fun c => isCode c || c.before args0 about1) = true := by decide +kernel
theorem w_tables : (allAtoms (Jvm.Cond.code x code maxLocals ret :: tables_1)).before args0 about1 = true := by
  rw [allAtoms_all]
  show words1.all (fun c => c.before args0 about1) = true
  refine all_split ?_ w_codes
  rw [w_t1]
set_option maxRecDepth 65536 in
theorem w_case : (Jvm.Cond.and given_1 narrow_1).before args0 about1 = true := by decide +kernel
theorem w_applies : (headSpec (Jvm.Cond.code x code maxLocals ret :: tables_1) room_1).applies x e0.platform about1 = true :=
  (Spec.applies_iff w_frames).mpr ⟨w_running, w_runnable, w_alone, w_named, w_hears, w_ripe, w_room, w_tables⟩
theorem atStart : AtStart classFile x code maxLocals ret World_1 tables_1 room_1 Calls_1 rest_1 Pre_1 launch0 p0 e0 about1 theMethod args0 below0 :=
  ⟨lists_1, trivial, launch0.admits_env _ _ _, launch0.least_env, fairChoices_fair.cas, fairChoices_fair.clock, w_frames, w_args, w_heap, w_applies, trivial, trivial, w_case⟩
end start1
theorem witness_1 : WitnessClaimed_1 := ⟨start1.p0, start1.e0, start1.about1, start1.theMethod, start1.args0, start1.below0, start1.atStart⟩
end Jvm.Pilot.@@N@@
