import JvmDerived
import JvmDerived.Pilot.@@N@@Statement
import JvmDerived.Pilot.@@N@@Code
set_option linter.unusedVariables false
set_option linter.unusedSimpArgs false
namespace Jvm.RoadKit
open Sem ClassFile Op Lib Jvm.Stand Jvm.Free Jvm.LawKit
section New
variable {p : Program} {l : Launch} {e : Env} {R : Room} {s : State} {m : MethodId} {args : Array Value} {below : List Frame} {meth : Method} {c : Code} {T : State} {locs : List Loc} {cells slots : Nat}
theorem retI (X : Stand p l e R s m args below meth c T locs cells slots) (hx : p.tables.exec = Jvm.exec) {pc : Nat} {Ls : Array Slot} {z : Int32} {rest : List Value} (hret : meth.sig.returnType = some .int) (hd : decode c.code pc = .ok (.ireturn, 1)) {fs : List Frame}
    (hl : ∀ (f : JFrame) (acts : List Action), f.method = m → f.locked = none → f.entered = [] → (doReturn e (T.setTop f) acts (some (.int z))).1 = T.setFrames fs) : Steps p.tables e below (T.setTop (mkF m pc Ls (.int z :: rest))) (T.setFrames fs) := by
  have hm' : T.vm.method? m = some meth := X.method'
  have hn : narrow .int (.int z) = .int z := rfl
  show Steps p.tables e below (T.setTop { method := m, pc := pc, locals := Ls, stack := _ :: rest, locked := none }) _
  jvm_step X.here [X.here.top, hx, hd, hm', hret, hn]
  first | (intro acts; rw [hl _ acts rfl rfl rfl]) | rw [hl _ _ rfl rfl rfl]
  exact Steps.refl _
end New
end Jvm.RoadKit
namespace Jvm.Pilot.@@N@@
open Jvm Jvm.ClassFile Sem Op Lib Jvm.Free Jvm.Stand Jvm.LawKit Jvm.RoadKit Bundle Jvm.Pilot.@@N@@.Jvm.D
def own_st (con cb hp : Int32) : Int64 :=
  let e1 : Int64 := ((con.toInt64) + (cb.toInt64))
  let v : Int64 := if (100 : Int32) < hp then (e1 + ((((hp - (100 : Int32)) + (9 : Int32)) / (10 : Int32)).toInt64)) else e1
  if (25 : Int64) < v then (((2 : Int64) * v) - (25 : Int64)) else v
theorem own_ceil (hp : Int32) (h : (100 : Int32) < hp) : ((((hp - (100 : Int32)) + (9 : Int32)) / (10 : Int32)).toInt64) = (if (((hp.toInt64) - (100 : Int64)) - (((hp.toInt64) - (100 : Int64)) / (10 : Int64)) * (10 : Int64)) = (0 : Int64) then (((hp.toInt64) - (100 : Int64)) / (10 : Int64)) else ((((hp.toInt64) - (100 : Int64)) / (10 : Int64)) + (1 : Int64))) := by
  rw [Int32.lt_iff_toInt_lt] at h
  have k100 : (100 : Int32).toInt = 100 := by decide
  have k9 : (9 : Int32).toInt = 9 := by decide
  have l100 : (100 : Int64).toInt = 100 := by decide
  have l10 : (10 : Int64).toInt = 10 := by decide
  have l1 : (1 : Int64).toInt = 1 := by decide
  have l0 : (0 : Int64).toInt = 0 := by decide
  have r := rng32 hp
  have a1 := c_isub hp 100
  have r1 := rng32 (hp - 100)
  have a2 := c_iadd (hp - 100) 9
  have r2 := rng32 ((hp - 100) + 9)
  have a3 := (c_idiv ((hp - 100) + 9) 10 10 (by decide) (by decide)).1 (by omega)
  have b1 := c_lsub hp.toInt64 100
  rw [c_i2l] at b1
  have s1 := rng64 (hp.toInt64 - 100)
  have b2 := (c_ldiv (hp.toInt64 - 100) 10 10 (by decide) (by decide)).1 (by omega)
  have b3 := (c_lrem (hp.toInt64 - 100) 10 10 (by decide)).1 (by omega)
  have b4 := c_ladd ((hp.toInt64 - 100) / 10) 1
  have s4 := rng64 ((hp.toInt64 - 100) / 10 + 1)
  have e1 : (hp.toInt64 - 100).toInt = hp.toInt - 100 := by omega
  have e2 : ((hp - 100) + 9).toInt = hp.toInt - 91 := by omega
  rw [e2] at a3
  rw [e1] at b2 b3
  rw [b2, l1] at b4
  have e3 : ((hp.toInt64 - 100) / 10 + 1).toInt = (hp.toInt - 100) / 10 + 1 := by omega
  apply Int64.toInt_inj.mp
  rw [c_i2l, a3]
  by_cases q : ((hp.toInt64 - 100) - ((hp.toInt64 - 100) / 10) * 10) = 0
  · rw [if_pos q, b2]
    rw [q, l0] at b3
    omega
  · rw [if_neg q, e3]
    have q' : ((hp.toInt64 - 100) - ((hp.toInt64 - 100) / 10) * 10).toInt ≠ 0 := fun z => q (Int64.toInt_inj.mp (z.trans l0.symm))
    rw [b3] at q'
    omega
theorem own_ring (e : Int64) : ((25 : Int64) + ((2 : Int64) * (e - (25 : Int64)))) = (((2 : Int64) * e) - (25 : Int64)) := by
  have k25 : (25 : Int64).toInt = 25 := by decide
  have k2 : (2 : Int64).toInt = 2 := by decide
  have a1 := c_lsub e 25
  have a2 := c_lmul 2 (e - 25)
  have a3 := c_ladd 25 (2 * (e - 25))
  have a4 := c_lmul 2 e
  have a5 := c_lsub (2 * e) 25
  have r1 := rng64 (25 + 2 * (e - 25))
  have r2 := rng64 (2 * e - 25)
  rw [k2] at a2 a4
  rw [k25] at a1 a3 a5
  apply Int64.toInt_inj.mp
  omega
theorem own_yes (con cb hp : Int32) (h : (100 : Int32) < hp) {x y : Int64} (hx : x = (if (((hp.toInt64) - (100 : Int64)) - (((hp.toInt64) - (100 : Int64)) / (10 : Int64)) * (10 : Int64)) = (0 : Int64) then (((hp.toInt64) - (100 : Int64)) / (10 : Int64)) else ((((hp.toInt64) - (100 : Int64)) / (10 : Int64)) + (1 : Int64))))
    (hy : y = (if (25 : Int64) < (((con.toInt64) + (cb.toInt64)) + x) then ((25 : Int64) + ((2 : Int64) * ((((con.toInt64) + (cb.toInt64)) + x) - (25 : Int64)))) else (((con.toInt64) + (cb.toInt64)) + x))) : own_st con cb hp = y := by
  rw [hy]
  simp only [own_st, if_pos h]
  rw [own_ceil hp h, ← hx]
  split
  · rw [own_ring]
  · rfl
theorem own_no (con cb hp : Int32) (h : ¬ (100 : Int32) < hp) {y : Int64}
    (hy : y = (if (25 : Int64) < (((con.toInt64) + (cb.toInt64)) + (0 : Int64)) then ((25 : Int64) + ((2 : Int64) * ((((con.toInt64) + (cb.toInt64)) + (0 : Int64)) - (25 : Int64)))) else (((con.toInt64) + (cb.toInt64)) + (0 : Int64)))) : own_st con cb hp = y := by
  rw [hy]
  simp only [own_st, if_neg h, Int64.add_zero]
  split
  · rw [own_ring]
  · rfl
theorem own_k (x : Int32) (h0 : ¬ ((x &&& (2147483647 : Int32)) % (5 : Int32)) = 0) : True := trivial

theorem own_fv {args : Array Value} {s : State} {t : Jvm.Term} {a : Addr} {C n d : String} {k : Int32} (ev : t.eval args s none [] s = some (.ref a)) (h : (Jvm.Cond.eq (Jvm.Term.field t C n d) (Jvm.Term.int k)).value args s none s [] = some true) : s.fieldOf? a C n d = some (.int k) := by
  obtain ⟨x, y, h1, h2, k1, k2⟩ := cmp_v (Or.inl h)
  have h3 : y = .int k := (Option.some.inj ((Term.int_eval k).symm.trans h2)).symm
  subst h3
  obtain ⟨z, rfl⟩ := k2
  have q := gotT (Cond.eq_ints h1 h2) h
  subst q
  exact (fld_at ev).symm.trans h1
theorem own_ef_own_conC (m : MethodId) (oa : Addr) : entryFrame m #[(.ref oa)] 1 = mkF m 0 #[.val (.ref oa)] [] := by first | (simp [entryFrame, mkF, argsToLocals, Value.category]; done) | rfl
def Q_own_conC (Z : State) (oa : Addr) (cb : Int32) (h0 : Heap) (n0 : Nat) (v : Option Value) (h : Heap) (L : List Loc) : Prop := v = some (.int cb) ∧ Fr n0 L ∧ h = h0
theorem own_pn_com_example_roundkeeper_roundkeeper_rules_segmentsd100_Stats_Size : plainName "com/example/roundkeeper/roundkeeper/rules/segmentsd100/Stats$Size" = true := by first | (simp [plainName, overriddenIn]; done) | decide +kernel
theorem own_d_prog_62_method_4_0 : decode prog_62_method_4_code 0 = .ok (.aload_n 0, 1) := by decide +kernel
theorem own_d_prog_62_method_4_1 : decode prog_62_method_4_code 1 = .ok (.getfield 38, 3) := by decide +kernel
theorem own_d_prog_62_method_4_4 : decode prog_62_method_4_code 4 = .ok (.ireturn, 1) := by decide +kernel
set_option maxRecDepth 65536 in
set_option maxHeartbeats 40000000 in
theorem own_conC (l : Launch) (Z : State) (a0 : Array Value) (hw : ∀ d ∈ tables_1, d.before a0 Z = true) (ws : List Jvm.Cond) (oa : Addr) (cb : Int32) (h0 : Heap) (n0 : Nat) (Z0 : n0 ≤ h0.size) (F : Fld Z h0 oa "com/example/roundkeeper/roundkeeper/rules/segmentsd100/Stats$Size" "constitution" "I" (.int cb)) :
    MetFree l (⟨"com/example/roundkeeper/roundkeeper/rules/segmentsd100/Stats$Size", "constitution", "()I"⟩ : MethodName) (head1 (Jvm.Cond.code (⟨"com/example/roundkeeper/roundkeeper/rules/segmentsd100/Stats$Size", "constitution", "()I"⟩ : MethodName) prog_62_method_4_code 1 (some .int) :: ws) ({ frames := 0, cells := 0, slots := 0, locals := 0 } : Room)) (fun a U => a = #[(.ref oa)] ∧ Z.Warmed39 U.vm ∧ U.heap = h0) (fun _ _ _ _ _ => True) (fun _ U o U' => ∃ v L, o = .returned v ∧ Q_own_conC Z oa cb h0 n0 v U'.heap L ∧ FrameEnd U o U' L ({ frames := 0, cells := 0, slots := 0, locals := 0 } : Room).cells ({ frames := 0, cells := 0, slots := 0, locals := 0 } : Room).slots) := by
  refine MetFree.of_bodySF (plainFor_of_name own_pn_com_example_roundkeeper_roundkeeper_rules_segmentsd100_Stats_Size) hisR ?_
  intro p e s m args below meth c s₁ Bd hml0 hP hK
  obtain ⟨rfl, hZ, hh⟩ := hP
  have hx := Bd.exec
  have hby := Bd.bytes
  have hml : c.maxLocals = 1 := hml0
  have hown : s.vm.findClass "com/example/roundkeeper/roundkeeper/rules/segmentsd100/Stats$Size" = some m.cls := findClass_of_methodNamed Bd.named
  have hnm := (name_of_methodNamed Bd.named Bd.method).1
  have X0 : Stand p l e ({ frames := 0, cells := 0, slots := 0, locals := 0 } : Room) s m #[(.ref oa)] below meth c s₁ [] 0 0 := Stand.of_body Bd
  have e0 : s₁.heap = h0 := by rw [← hh, Bd.state]; rfl
  have N0 := Fr.nil n0
  have pre0 : ∀ t, Steps p.tables e below (s₁.setTop (mkF m 0 #[.val (.ref oa)] [])) t → Steps p.tables e below (s₁.setTop (entryFrame m #[(.ref oa)] 1)) t := fun t k => castTop (own_ef_own_conC m oa) k
  have pre1 : ∀ t, Steps p.tables e below (s₁.setTop (mkF m 1 #[.val (.ref oa)] [(.ref oa)])) t → Steps p.tables e below (s₁.setTop (entryFrame m #[(.ref oa)] 1)) t := fun t k => pre0 _ (by
    show Steps p.tables e below (s₁.setTop (mkF m 0 #[.val (.ref oa)] [])) _
    refine XS.aloadN X0.here hx rfl (hb hby own_d_prog_62_method_4_0) rfl rfl ?_
    exact k)
  obtain ⟨T2, X2, e2, st2⟩ := getF X0 hx hZ hown (host := "") (Or.inl (hw _ (List.mem_of_getElem? (i := 15) rfl))) Via.refl e0 F (g := (mkF m 1 #[.val (.ref oa)] [(.ref oa)])) rfl rfl (hb hby own_d_prog_62_method_4_1)
  have pre3 : ∀ t, Steps p.tables e below (T2.setTop (mkF m 4 #[.val (.ref oa)] [(.int cb)])) t → Steps p.tables e below (s₁.setTop (entryFrame m #[(.ref oa)] 1)) t := fun t k => pre1 _ (st2 _ k)
  obtain ⟨fs, hr, hrun, hended, hW, hsame⟩ := X2.leave (v := some (.int cb)) (fun h => by rw [Bd.returns] at h; cases h)
  refine ⟨_, _, pre3 _ ?_, hrun, hended, _, _, rfl, ?_, ⟨_, rfl⟩, hW, hsame.mono (by decide) (by decide)⟩
  · show Steps p.tables e below (T2.setTop (mkF m 4 #[.val (.ref oa)] [(.int cb)])) _
    exact retI X2 hx Bd.returns (hb hby own_d_prog_62_method_4_4) hr
  · show Q_own_conC Z oa cb h0 n0 _ T2.heap _
    rw [e2]
    exact ⟨rfl, N0, rfl⟩
theorem own_ef_own_stC (m : MethodId) (q0 : Int32) (oa : Addr) (q2 : Int32) : entryFrame m #[(.int q0), (.ref oa), (.int q2)] 5 = mkF m 0 #[.val (.int q0), .val (.ref oa), .val (.int q2), .unset, .unset] [] := by first | (simp [entryFrame, mkF, argsToLocals, Value.category]; done) | rfl
def Q_own_stC (Z : State) (q0 : Int32) (oa : Addr) (q2 : Int32) (cb : Int32) (h0 : Heap) (n0 : Nat) (v : Option Value) (h : Heap) (L : List Loc) : Prop := v = some (.long (own_st q0 cb q2)) ∧ Fr n0 L ∧ h = h0
theorem own_pn_com_example_roundkeeper_roundkeeper_rules_segmentsd100_Segmentsd100 : plainName "com/example/roundkeeper/roundkeeper/rules/segmentsd100/Segmentsd100" = true := by first | (simp [plainName, overriddenIn]; done) | decide +kernel
theorem own_d_prog_56_method_30_0 : decode prog_56_method_30_code 0 = .ok (.iload_n 0, 1) := by decide +kernel
theorem own_d_prog_56_method_30_1 : decode prog_56_method_30_code 1 = .ok (.i2l, 1) := by decide +kernel
theorem own_d_prog_56_method_30_2 : decode prog_56_method_30_code 2 = .ok (.aload_n 1, 1) := by decide +kernel
theorem own_pd___I : parseMethodDescriptor "()I" = some ⟨[], some .int⟩ := by decide +kernel
theorem own_d_prog_56_method_30_3 : decode prog_56_method_30_code 3 = .ok (.invokevirtual 545, 3) := by decide +kernel
theorem own_d_prog_56_method_30_6 : decode prog_56_method_30_code 6 = .ok (.i2l, 1) := by decide +kernel
theorem own_d_prog_56_method_30_7 : decode prog_56_method_30_code 7 = .ok (.ladd, 1) := by decide +kernel
theorem own_d_prog_56_method_30_8 : decode prog_56_method_30_code 8 = .ok (.lstore_n 3, 1) := by decide +kernel
theorem own_d_prog_56_method_30_9 : decode prog_56_method_30_code 9 = .ok (.iload_n 2, 1) := by decide +kernel
theorem own_d_prog_56_method_30_10 : decode prog_56_method_30_code 10 = .ok (.bipush 100, 2) := by decide +kernel
theorem own_d_prog_56_method_30_12 : decode prog_56_method_30_code 12 = .ok (.if_icmp .le 17, 3) := by decide +kernel
theorem own_d_prog_56_method_30_15 : decode prog_56_method_30_code 15 = .ok (.lload_n 3, 1) := by decide +kernel
theorem own_d_prog_56_method_30_16 : decode prog_56_method_30_code 16 = .ok (.iload_n 2, 1) := by decide +kernel
theorem own_d_prog_56_method_30_17 : decode prog_56_method_30_code 17 = .ok (.bipush 100, 2) := by decide +kernel
theorem own_d_prog_56_method_30_19 : decode prog_56_method_30_code 19 = .ok (.isub, 1) := by decide +kernel
theorem own_d_prog_56_method_30_20 : decode prog_56_method_30_code 20 = .ok (.bipush 9, 2) := by decide +kernel
theorem own_d_prog_56_method_30_22 : decode prog_56_method_30_code 22 = .ok (.iadd, 1) := by decide +kernel
theorem own_d_prog_56_method_30_23 : decode prog_56_method_30_code 23 = .ok (.bipush 10, 2) := by decide +kernel
theorem own_d_prog_56_method_30_25 : decode prog_56_method_30_code 25 = .ok (.idiv, 1) := by decide +kernel
theorem own_d_prog_56_method_30_26 : decode prog_56_method_30_code 26 = .ok (.i2l, 1) := by decide +kernel
theorem own_d_prog_56_method_30_27 : decode prog_56_method_30_code 27 = .ok (.ladd, 1) := by decide +kernel
theorem own_d_prog_56_method_30_28 : decode prog_56_method_30_code 28 = .ok (.lstore_n 3, 1) := by decide +kernel
theorem own_d_prog_56_method_30_29 : decode prog_56_method_30_code 29 = .ok (.lload_n 3, 1) := by decide +kernel
theorem own_d_prog_56_method_30_30 : decode prog_56_method_30_code 30 = .ok (.ldc2_w 548, 3) := by decide +kernel
theorem own_d_prog_56_method_30_33 : decode prog_56_method_30_code 33 = .ok (.lcmp, 1) := by decide +kernel
theorem own_d_prog_56_method_30_34 : decode prog_56_method_30_code 34 = .ok (.ifCond .gt 7, 3) := by decide +kernel
theorem own_d_prog_56_method_30_41 : decode prog_56_method_30_code 41 = .ok (.ldc2_w 550, 3) := by decide +kernel
theorem own_d_prog_56_method_30_44 : decode prog_56_method_30_code 44 = .ok (.lload_n 3, 1) := by decide +kernel
theorem own_d_prog_56_method_30_45 : decode prog_56_method_30_code 45 = .ok (.lmul, 1) := by decide +kernel
theorem own_d_prog_56_method_30_46 : decode prog_56_method_30_code 46 = .ok (.ldc2_w 548, 3) := by decide +kernel
theorem own_d_prog_56_method_30_49 : decode prog_56_method_30_code 49 = .ok (.lsub, 1) := by decide +kernel
theorem own_d_prog_56_method_30_37 : decode prog_56_method_30_code 37 = .ok (.lload_n 3, 1) := by decide +kernel
theorem own_d_prog_56_method_30_38 : decode prog_56_method_30_code 38 = .ok (.goto 12, 3) := by decide +kernel
theorem own_d_prog_56_method_30_50 : decode prog_56_method_30_code 50 = .ok (.lreturn, 1) := by decide +kernel
set_option maxRecDepth 65536 in
set_option maxHeartbeats 40000000 in
theorem own_stC (l : Launch) (Z : State) (a0 : Array Value) (hw : ∀ d ∈ tables_1, d.before a0 Z = true) (ws : List Jvm.Cond) (q0 : Int32) (oa : Addr) (q2 : Int32) (cb : Int32) (h0 : Heap) (n0 : Nat) (Z0 : n0 ≤ h0.size) (F : Fld Z h0 oa "com/example/roundkeeper/roundkeeper/rules/segmentsd100/Stats$Size" "constitution" "I" (.int cb)) (E : Exa Z h0 oa "com/example/roundkeeper/roundkeeper/rules/segmentsd100/Stats$Size") :
    MetFree l (⟨"com/example/roundkeeper/roundkeeper/rules/segmentsd100/Segmentsd100", "stunThreshold", "(ILcom/example/roundkeeper/roundkeeper/rules/segmentsd100/Stats$Size;I)J"⟩ : MethodName) (head1 (Jvm.Cond.code (⟨"com/example/roundkeeper/roundkeeper/rules/segmentsd100/Segmentsd100", "stunThreshold", "(ILcom/example/roundkeeper/roundkeeper/rules/segmentsd100/Stats$Size;I)J"⟩ : MethodName) prog_56_method_30_code 5 (some .long) :: ws) ({ frames := 1, cells := 0, slots := 0, locals := 14 } : Room)) (fun a U => a = #[(.int q0), (.ref oa), (.int q2)] ∧ Z.Warmed39 U.vm ∧ U.heap = h0) (fun _ _ _ _ _ => True) (fun _ U o U' => ∃ v L, o = .returned v ∧ Q_own_stC Z q0 oa q2 cb h0 n0 v U'.heap L ∧ FrameEnd U o U' L ({ frames := 1, cells := 0, slots := 0, locals := 14 } : Room).cells ({ frames := 1, cells := 0, slots := 0, locals := 14 } : Room).slots) := by
  refine MetFree.of_bodySF (plainFor_of_name own_pn_com_example_roundkeeper_roundkeeper_rules_segmentsd100_Segmentsd100) hisR ?_
  intro p e s m args below meth c s₁ Bd hml0 hP hK
  obtain ⟨rfl, hZ, hh⟩ := hP
  have hx := Bd.exec
  have hby := Bd.bytes
  have hml : c.maxLocals = 5 := hml0
  have hown : s.vm.findClass "com/example/roundkeeper/roundkeeper/rules/segmentsd100/Segmentsd100" = some m.cls := findClass_of_methodNamed Bd.named
  have hnm := (name_of_methodNamed Bd.named Bd.method).1
  have X0 : Stand p l e ({ frames := 1, cells := 0, slots := 0, locals := 14 } : Room) s m #[(.int q0), (.ref oa), (.int q2)] below meth c s₁ [] 0 0 := Stand.of_body Bd
  have e0 : s₁.heap = h0 := by rw [← hh, Bd.state]; rfl
  have N0 := Fr.nil n0
  have pre0 : ∀ t, Steps p.tables e below (s₁.setTop (mkF m 0 #[.val (.int q0), .val (.ref oa), .val (.int q2), .unset, .unset] [])) t → Steps p.tables e below (s₁.setTop (entryFrame m #[(.int q0), (.ref oa), (.int q2)] 5)) t := fun t k => castTop (own_ef_own_stC m q0 oa q2) k
  have pre1 : ∀ t, Steps p.tables e below (s₁.setTop (mkF m 3 #[.val (.int q0), .val (.ref oa), .val (.int q2), .unset, .unset] [(.ref oa), (.long (q0.toInt64))])) t → Steps p.tables e below (s₁.setTop (entryFrame m #[(.int q0), (.ref oa), (.int q2)] 5)) t := fun t k => pre0 _ (by
    show Steps p.tables e below (s₁.setTop (mkF m 0 #[.val (.int q0), .val (.ref oa), .val (.int q2), .unset, .unset] [])) _
    refine XS.iloadN X0.here hx rfl (hb hby own_d_prog_56_method_30_0) rfl ?_
    show Steps p.tables e below (s₁.setTop (mkF m 1 #[.val (.int q0), .val (.ref oa), .val (.int q2), .unset, .unset] [(.int q0)])) _
    refine XS.i2l X0.here hx rfl (hb hby own_d_prog_56_method_30_1) rfl ?_
    show Steps p.tables e below (s₁.setTop (mkF m 2 #[.val (.int q0), .val (.ref oa), .val (.int q2), .unset, .unset] [(.long (q0.toInt64))])) _
    refine XS.aloadN X0.here hx rfl (hb hby own_d_prog_56_method_30_2) rfl rfl ?_
    exact k)
  obtain ⟨cq2, kq2, q2a, q2b, q2c⟩ := isOf hZ e0 E
  obtain ⟨_, _, ⟨T2, L2, k2, n2⟩, -, X2, ⟨Lc2, hQ2, l2, y2, z2⟩, st2⟩ := X0.virtualBack hx (y := (⟨"com/example/roundkeeper/roundkeeper/rules/segmentsd100/Stats$Size", "constitution", "()I"⟩ : MethodName)) (z := (⟨"com/example/roundkeeper/roundkeeper/rules/segmentsd100/Stats$Size", "constitution", "()I"⟩ : MethodName)) hown (mvT hZ (hw _ (List.mem_of_getElem? (i := 10) rfl))) (mvT hZ (hw _ (List.mem_of_getElem? (i := 11) rfl))) (notFace_of_selects (args := #[]) (mvT hZ (hw _ (List.mem_of_getElem? (i := 13) rfl)))) (mvT hZ (hw _ (List.mem_of_getElem? (i := 13) rfl))) (mvT hZ (hw _ (List.mem_of_getElem? (i := 12) rfl))) (by decide) (backOf (W := 2) (own_conC l Z a0 hw [] oa cb h0 n0 Z0 F) hZ (hw _ (List.mem_of_getElem? (i := 14) rfl)) (hw _ (List.mem_of_getElem? (i := 2) rfl)) (by decide) (by decide)) q2a q2c (g := (mkF m 3 #[.val (.int q0), .val (.ref oa), .val (.int q2), .unset, .unset] [(.ref oa), (.long (q0.toInt64))])) rfl (by rw [hml]; rfl) (Steps.refl _) (argsL := []) (rest := [(.long (q0.toInt64))]) (lenOf own_pd___I rfl) rfl (by show 2 * 0 + _ ≤ _; exact Nat.le_of_eq rfl) (hb hby own_d_prog_56_method_30_3) (fun _ _ => ⟨rfl, e0, (by decide : 0 + 0 ≤ _), (by decide : 0 + 0 ≤ _)⟩)
  dsimp only [Pt.U, Pt.locs, Pt.cells, Pt.slots] at X2 l2 y2 z2 st2 hQ2
  subst l2 y2 z2
  obtain ⟨rfl, N2q, e2⟩ := hQ2
  have N2 := Fr.app N0 N2q
  have pre3 : ∀ t, Steps p.tables e below (T2.setTop (mkF m 6 #[.val (.int q0), .val (.ref oa), .val (.int q2), .unset, .unset] [(.int cb), (.long (q0.toInt64))])) t → Steps p.tables e below (s₁.setTop (entryFrame m #[(.int q0), (.ref oa), (.int q2)] 5)) t := fun t k => pre1 _ (st2.trans k)
  have pre4 : ∀ t, Steps p.tables e below (T2.setTop (mkF m 12 #[.val (.int q0), .val (.ref oa), .val (.int q2), .val (.long ((q0.toInt64) + (cb.toInt64))), .second] [(.int (100 : Int32)), (.int q2)])) t → Steps p.tables e below (s₁.setTop (entryFrame m #[(.int q0), (.ref oa), (.int q2)] 5)) t := fun t k => pre3 _ (by
    show Steps p.tables e below (T2.setTop (mkF m 6 #[.val (.int q0), .val (.ref oa), .val (.int q2), .unset, .unset] [(.int cb), (.long (q0.toInt64))])) _
    refine XS.i2l X2.here hx rfl (hb hby own_d_prog_56_method_30_6) rfl ?_
    show Steps p.tables e below (T2.setTop (mkF m 7 #[.val (.int q0), .val (.ref oa), .val (.int q2), .unset, .unset] [(.long (cb.toInt64)), (.long (q0.toInt64))])) _
    refine XS.ladd X2.here hx rfl (hb hby own_d_prog_56_method_30_7) rfl ?_
    show Steps p.tables e below (T2.setTop (mkF m 8 #[.val (.int q0), .val (.ref oa), .val (.int q2), .unset, .unset] [(.long ((q0.toInt64) + (cb.toInt64)))])) _
    refine XS.lstoreN X2.here hx rfl (hb hby own_d_prog_56_method_30_8) rfl (l' := #[.val (.int q0), .val (.ref oa), .val (.int q2), .val (.long ((q0.toInt64) + (cb.toInt64))), .second]) rfl ?_
    show Steps p.tables e below (T2.setTop (mkF m 9 #[.val (.int q0), .val (.ref oa), .val (.int q2), .val (.long ((q0.toInt64) + (cb.toInt64))), .second] [])) _
    refine XS.iloadN X2.here hx rfl (hb hby own_d_prog_56_method_30_9) rfl ?_
    show Steps p.tables e below (T2.setTop (mkF m 10 #[.val (.int q0), .val (.ref oa), .val (.int q2), .val (.long ((q0.toInt64) + (cb.toInt64))), .second] [(.int q2)])) _
    refine XT.bipushV X2.here hx rfl (100 : Int32) (hb hby own_d_prog_56_method_30_10) rfl ?_
    exact k)
  obtain ⟨v6, hv6⟩ : ∃ z : Int64, z = (if (100 : Int32) < q2 then (((q0.toInt64) + (cb.toInt64)) + ((((q2 - (100 : Int32)) + (9 : Int32)) / (10 : Int32)).toInt64)) else ((q0.toInt64) + (cb.toInt64))) := ⟨_, rfl⟩
  have pre7 : ∀ t, Steps p.tables e below (T2.setTop (mkF m 29 #[.val (.int q0), .val (.ref oa), .val (.int q2), .val (.long v6), .second] [])) t → Steps p.tables e below (s₁.setTop (entryFrame m #[(.int q0), (.ref oa), (.int q2)] 5)) t := fun t k => pre4 _ (by
    by_cases c12_5 : (100 : Int32) < q2
    · rw [show v6 = _ from hv6.trans (if_pos c12_5)] at k
      show Steps p.tables e below (T2.setTop (mkF m 12 #[.val (.int q0), .val (.ref oa), .val (.int q2), .val (.long ((q0.toInt64) + (cb.toInt64))), .second] [(.int (100 : Int32)), (.int q2)])) _
      refine XS.icmpNo X2.here hx rfl (hb hby own_d_prog_56_method_30_12) rfl (XT.ii_le_f c12_5) ?_
      show Steps p.tables e below (T2.setTop (mkF m 15 #[.val (.int q0), .val (.ref oa), .val (.int q2), .val (.long ((q0.toInt64) + (cb.toInt64))), .second] [])) _
      refine XS.lloadN X2.here hx rfl (hb hby own_d_prog_56_method_30_15) rfl ?_
      show Steps p.tables e below (T2.setTop (mkF m 16 #[.val (.int q0), .val (.ref oa), .val (.int q2), .val (.long ((q0.toInt64) + (cb.toInt64))), .second] [(.long ((q0.toInt64) + (cb.toInt64)))])) _
      refine XS.iloadN X2.here hx rfl (hb hby own_d_prog_56_method_30_16) rfl ?_
      show Steps p.tables e below (T2.setTop (mkF m 17 #[.val (.int q0), .val (.ref oa), .val (.int q2), .val (.long ((q0.toInt64) + (cb.toInt64))), .second] [(.int q2), (.long ((q0.toInt64) + (cb.toInt64)))])) _
      refine XT.bipushV X2.here hx rfl (100 : Int32) (hb hby own_d_prog_56_method_30_17) rfl ?_
      show Steps p.tables e below (T2.setTop (mkF m 19 #[.val (.int q0), .val (.ref oa), .val (.int q2), .val (.long ((q0.toInt64) + (cb.toInt64))), .second] [(.int (100 : Int32)), (.int q2), (.long ((q0.toInt64) + (cb.toInt64)))])) _
      refine XS.isub X2.here hx rfl (hb hby own_d_prog_56_method_30_19) rfl ?_
      show Steps p.tables e below (T2.setTop (mkF m 20 #[.val (.int q0), .val (.ref oa), .val (.int q2), .val (.long ((q0.toInt64) + (cb.toInt64))), .second] [(.int (q2 - (100 : Int32))), (.long ((q0.toInt64) + (cb.toInt64)))])) _
      refine XT.bipushV X2.here hx rfl (9 : Int32) (hb hby own_d_prog_56_method_30_20) rfl ?_
      show Steps p.tables e below (T2.setTop (mkF m 22 #[.val (.int q0), .val (.ref oa), .val (.int q2), .val (.long ((q0.toInt64) + (cb.toInt64))), .second] [(.int (9 : Int32)), (.int (q2 - (100 : Int32))), (.long ((q0.toInt64) + (cb.toInt64)))])) _
      refine XS.iadd X2.here hx rfl (hb hby own_d_prog_56_method_30_22) rfl ?_
      show Steps p.tables e below (T2.setTop (mkF m 23 #[.val (.int q0), .val (.ref oa), .val (.int q2), .val (.long ((q0.toInt64) + (cb.toInt64))), .second] [(.int ((q2 - (100 : Int32)) + (9 : Int32))), (.long ((q0.toInt64) + (cb.toInt64)))])) _
      refine XT.bipushV X2.here hx rfl (10 : Int32) (hb hby own_d_prog_56_method_30_23) rfl ?_
      show Steps p.tables e below (T2.setTop (mkF m 25 #[.val (.int q0), .val (.ref oa), .val (.int q2), .val (.long ((q0.toInt64) + (cb.toInt64))), .second] [(.int (10 : Int32)), (.int ((q2 - (100 : Int32)) + (9 : Int32))), (.long ((q0.toInt64) + (cb.toInt64)))])) _
      refine XS.idiv X2.here hx rfl (hb hby own_d_prog_56_method_30_25) rfl (by decide) ?_
      show Steps p.tables e below (T2.setTop (mkF m 26 #[.val (.int q0), .val (.ref oa), .val (.int q2), .val (.long ((q0.toInt64) + (cb.toInt64))), .second] [(.int (((q2 - (100 : Int32)) + (9 : Int32)) / (10 : Int32))), (.long ((q0.toInt64) + (cb.toInt64)))])) _
      refine XS.i2l X2.here hx rfl (hb hby own_d_prog_56_method_30_26) rfl ?_
      show Steps p.tables e below (T2.setTop (mkF m 27 #[.val (.int q0), .val (.ref oa), .val (.int q2), .val (.long ((q0.toInt64) + (cb.toInt64))), .second] [(.long ((((q2 - (100 : Int32)) + (9 : Int32)) / (10 : Int32)).toInt64)), (.long ((q0.toInt64) + (cb.toInt64)))])) _
      refine XS.ladd X2.here hx rfl (hb hby own_d_prog_56_method_30_27) rfl ?_
      show Steps p.tables e below (T2.setTop (mkF m 28 #[.val (.int q0), .val (.ref oa), .val (.int q2), .val (.long ((q0.toInt64) + (cb.toInt64))), .second] [(.long (((q0.toInt64) + (cb.toInt64)) + ((((q2 - (100 : Int32)) + (9 : Int32)) / (10 : Int32)).toInt64)))])) _
      refine XS.lstoreN X2.here hx rfl (hb hby own_d_prog_56_method_30_28) rfl (l' := #[.val (.int q0), .val (.ref oa), .val (.int q2), .val (.long (((q0.toInt64) + (cb.toInt64)) + ((((q2 - (100 : Int32)) + (9 : Int32)) / (10 : Int32)).toInt64))), .second]) rfl ?_
      exact k
    · rw [show v6 = _ from hv6.trans (if_neg c12_5)] at k
      show Steps p.tables e below (T2.setTop (mkF m 12 #[.val (.int q0), .val (.ref oa), .val (.int q2), .val (.long ((q0.toInt64) + (cb.toInt64))), .second] [(.int (100 : Int32)), (.int q2)])) _
      refine XS.icmpYes X2.here hx rfl (pc0 := 12) (pc' := 29) rfl (hb hby own_d_prog_56_method_30_12) rfl (XT.ii_le_t c12_5) (by decide) (by decide) ?_
      exact k)
  have pre8 : ∀ t, Steps p.tables e below (T2.setTop (mkF m 34 #[.val (.int q0), .val (.ref oa), .val (.int q2), .val (.long v6), .second] [(.int (XT.cmpL v6 (25 : Int64)))])) t → Steps p.tables e below (s₁.setTop (entryFrame m #[(.int q0), (.ref oa), (.int q2)] 5)) t := fun t k => pre7 _ (by
    show Steps p.tables e below (T2.setTop (mkF m 29 #[.val (.int q0), .val (.ref oa), .val (.int q2), .val (.long v6), .second] [])) _
    refine XS.lloadN X2.here hx rfl (hb hby own_d_prog_56_method_30_29) rfl ?_
    show Steps p.tables e below (T2.setTop (mkF m 30 #[.val (.int q0), .val (.ref oa), .val (.int q2), .val (.long v6), .second] [(.long v6)])) _
    refine X2.ldc2J hx hown (mvT hZ (hw _ (List.mem_of_getElem? (i := 17) rfl))) rfl (hb hby own_d_prog_56_method_30_30) ?_
    show Steps p.tables e below (T2.setTop (mkF m 33 #[.val (.int q0), .val (.ref oa), .val (.int q2), .val (.long v6), .second] [(.long (25 : Int64)), (.long v6)])) _
    refine XT.lcmp X2.here hx rfl (hb hby own_d_prog_56_method_30_33) rfl ?_
    exact k)
  obtain ⟨v10, hv10⟩ : ∃ z : Int64, z = (if (25 : Int64) < v6 then (((2 : Int64) * v6) - (25 : Int64)) else v6) := ⟨_, rfl⟩
  have pre11 : ∀ t, Steps p.tables e below (T2.setTop (mkF m 50 #[.val (.int q0), .val (.ref oa), .val (.int q2), .val (.long v6), .second] [(.long v10)])) t → Steps p.tables e below (s₁.setTop (entryFrame m #[(.int q0), (.ref oa), (.int q2)] 5)) t := fun t k => pre8 _ (by
    by_cases c34_9 : (25 : Int64) < v6
    · rw [show v10 = _ from hv10.trans (if_pos c34_9)] at k
      show Steps p.tables e below (T2.setTop (mkF m 34 #[.val (.int q0), .val (.ref oa), .val (.int q2), .val (.long v6), .second] [(.int (XT.cmpL v6 (25 : Int64)))])) _
      refine XS.ifYes X2.here hx rfl (pc0 := 34) (pc' := 41) rfl (hb hby own_d_prog_56_method_30_34) rfl (XT.ll_gt_t c34_9) (by decide) (by decide) ?_
      show Steps p.tables e below (T2.setTop (mkF m 41 #[.val (.int q0), .val (.ref oa), .val (.int q2), .val (.long v6), .second] [])) _
      refine X2.ldc2J hx hown (mvT hZ (hw _ (List.mem_of_getElem? (i := 23) rfl))) rfl (hb hby own_d_prog_56_method_30_41) ?_
      show Steps p.tables e below (T2.setTop (mkF m 44 #[.val (.int q0), .val (.ref oa), .val (.int q2), .val (.long v6), .second] [(.long (2 : Int64))])) _
      refine XS.lloadN X2.here hx rfl (hb hby own_d_prog_56_method_30_44) rfl ?_
      show Steps p.tables e below (T2.setTop (mkF m 45 #[.val (.int q0), .val (.ref oa), .val (.int q2), .val (.long v6), .second] [(.long v6), (.long (2 : Int64))])) _
      refine XS.lmul X2.here hx rfl (hb hby own_d_prog_56_method_30_45) rfl ?_
      show Steps p.tables e below (T2.setTop (mkF m 46 #[.val (.int q0), .val (.ref oa), .val (.int q2), .val (.long v6), .second] [(.long ((2 : Int64) * v6))])) _
      refine X2.ldc2J hx hown (mvT hZ (hw _ (List.mem_of_getElem? (i := 17) rfl))) rfl (hb hby own_d_prog_56_method_30_46) ?_
      show Steps p.tables e below (T2.setTop (mkF m 49 #[.val (.int q0), .val (.ref oa), .val (.int q2), .val (.long v6), .second] [(.long (25 : Int64)), (.long ((2 : Int64) * v6))])) _
      refine XS.lsub X2.here hx rfl (hb hby own_d_prog_56_method_30_49) rfl ?_
      exact k
    · rw [show v10 = _ from hv10.trans (if_neg c34_9)] at k
      show Steps p.tables e below (T2.setTop (mkF m 34 #[.val (.int q0), .val (.ref oa), .val (.int q2), .val (.long v6), .second] [(.int (XT.cmpL v6 (25 : Int64)))])) _
      refine XS.ifNo X2.here hx rfl (hb hby own_d_prog_56_method_30_34) rfl (XT.ll_gt_f c34_9) ?_
      show Steps p.tables e below (T2.setTop (mkF m 37 #[.val (.int q0), .val (.ref oa), .val (.int q2), .val (.long v6), .second] [])) _
      refine XS.lloadN X2.here hx rfl (hb hby own_d_prog_56_method_30_37) rfl ?_
      show Steps p.tables e below (T2.setTop (mkF m 38 #[.val (.int q0), .val (.ref oa), .val (.int q2), .val (.long v6), .second] [(.long v6)])) _
      refine XS.goto X2.here hx rfl (pc0 := 38) (pc' := 50) rfl (hb hby own_d_prog_56_method_30_38) (by decide) (by decide) ?_
      exact k)
  obtain ⟨fs, hr, hrun, hended, hW, hsame⟩ := X2.leave (v := some (.long v10)) (fun h => by rw [Bd.returns] at h; cases h)
  refine ⟨_, _, pre11 _ ?_, hrun, hended, _, _, rfl, ?_, ⟨_, rfl⟩, hW, hsame.mono (by decide) (by decide)⟩
  · show Steps p.tables e below (T2.setTop (mkF m 50 #[.val (.int q0), .val (.ref oa), .val (.int q2), .val (.long v6), .second] [(.long v10)])) _
    exact retOut X2 hx Bd.returns rfl (Or.inr (Or.inl ⟨rfl, rfl, _, rfl⟩)) (hb hby own_d_prog_56_method_30_50) hr
  · show Q_own_stC Z q0 oa q2 cb h0 n0 _ T2.heap _
    rw [e2]
    exact ⟨by rw [hv10, hv6]; rfl, N2, rfl⟩
theorem own_pd__ILcom_example_roundkeeper_roundkeeper_rules_segmentsd100_Stats_Size_I_J : parseMethodDescriptor "(ILcom/example/roundkeeper/roundkeeper/rules/segmentsd100/Stats$Size;I)J" = some ⟨[.int, (.object "com/example/roundkeeper/roundkeeper/rules/segmentsd100/Stats$Size"), .int], some .long⟩ := by decide +kernel
set_option maxRecDepth 65536 in
set_option maxHeartbeats 40000000 in
theorem own_tail {p : Program} {l : Launch} {e : Env} {s : State} {m : MethodId} {args : Array Value} {below : List Frame} {meth : Method} {c : Code} {T0 : State} {locs : List Loc} {Z : State} {a0 : Array Value} {h0 : Heap}  (q0 q1 q2 q3 : Int32) (oa : Addr) (cb : Int32) (bo : Int64) (n0 : Nat)
    (X0 : Stand p l e room_1 s m args below meth c T0 locs 0 0) (hx : p.tables.exec = Jvm.exec) (hZ : Z.Warmed39 s.vm) (hw : ∀ d ∈ tables_1, d.before a0 Z = true) (hby : c.code = code) (hml : c.maxLocals = 13) (hown : s.vm.findClass "com/example/roundkeeper/roundkeeper/rules/segmentsd100/Segmentsd100StunThresholdPinLaw" = some m.cls) (e0 : T0.heap = h0) (Z0 : n0 ≤ h0.size) (N0 : Fr n0 locs) (F : Fld Z h0 oa "com/example/roundkeeper/roundkeeper/rules/segmentsd100/Stats$Size" "constitution" "I" (.int cb)) (E : Exa Z h0 oa "com/example/roundkeeper/roundkeeper/rules/segmentsd100/Stats$Size") (hbo : bo = cb.toInt64) :
    ∃ (T' : State) (h' : Heap) (locs' : List Loc) (Ls : Array Slot) , Stand p l e room_1 s m args below meth c T' locs' 0 0 ∧ T'.heap = h' ∧ Fr n0 locs' ∧ n0 ≤ h'.size ∧ 
      ∀ t, Steps p.tables e below (T'.setTop (mkF m 184 Ls [(.int (1 : Int32))])) t → Steps p.tables e below (T0.setTop (mkF m 82 #[.val (.int q0), .val (.int q1), .val (.int q2), .val (.int q3), .val (.ref oa), .val (.long bo), .second, .unset, .unset, .unset, .unset, .unset, .unset] [])) t := by
  have pre0 : ∀ t, Steps p.tables e below (T0.setTop (mkF m 82 #[.val (.int q0), .val (.int q1), .val (.int q2), .val (.int q3), .val (.ref oa), .val (.long bo), .second, .unset, .unset, .unset, .unset, .unset, .unset] [])) t → Steps p.tables e below (T0.setTop (mkF m 82 #[.val (.int q0), .val (.int q1), .val (.int q2), .val (.int q3), .val (.ref oa), .val (.long bo), .second, .unset, .unset, .unset, .unset, .unset, .unset] [])) t := fun t k => k
  subst hbo
  have pre00 : ∀ t, Steps p.tables e below (T0.setTop (mkF m 82 #[.val (.int q0), .val (.int q1), .val (.int q2), .val (.int q3), .val (.ref oa), .val (.long (cb.toInt64)), .second, .unset, .unset, .unset, .unset, .unset, .unset] [])) t → Steps p.tables e below (T0.setTop (mkF m 82 #[.val (.int q0), .val (.int q1), .val (.int q2), .val (.int q3), .val (.ref oa), .val (.long (cb.toInt64)), .second, .unset, .unset, .unset, .unset, .unset, .unset] [])) t := fun t k => k
  have pre1 : ∀ t, Steps p.tables e below (T0.setTop (mkF m 88 #[.val (.int q0), .val (.int q1), .val (.int q2), .val (.int q3), .val (.ref oa), .val (.long (cb.toInt64)), .second, .val (.long (0 : Int64)), .second, .unset, .unset, .unset, .unset] [(.int (100 : Int32)), (.int q2)])) t → Steps p.tables e below (T0.setTop (mkF m 82 #[.val (.int q0), .val (.int q1), .val (.int q2), .val (.int q3), .val (.ref oa), .val (.long (cb.toInt64)), .second, .unset, .unset, .unset, .unset, .unset, .unset] [])) t := fun t k => pre00 _ (by
    show Steps p.tables e below (T0.setTop (mkF m 82 #[.val (.int q0), .val (.int q1), .val (.int q2), .val (.int q3), .val (.ref oa), .val (.long (cb.toInt64)), .second, .unset, .unset, .unset, .unset, .unset, .unset] [])) _
    refine XT.lconstV X0.here hx rfl (0 : Int64) (hb hby at_82) rfl ?_
    show Steps p.tables e below (T0.setTop (mkF m 83 #[.val (.int q0), .val (.int q1), .val (.int q2), .val (.int q3), .val (.ref oa), .val (.long (cb.toInt64)), .second, .unset, .unset, .unset, .unset, .unset, .unset] [(.long (0 : Int64))])) _
    refine XS.lstore X0.here hx rfl (hb hby at_83) rfl (l' := #[.val (.int q0), .val (.int q1), .val (.int q2), .val (.int q3), .val (.ref oa), .val (.long (cb.toInt64)), .second, .val (.long (0 : Int64)), .second, .unset, .unset, .unset, .unset]) rfl ?_
    show Steps p.tables e below (T0.setTop (mkF m 85 #[.val (.int q0), .val (.int q1), .val (.int q2), .val (.int q3), .val (.ref oa), .val (.long (cb.toInt64)), .second, .val (.long (0 : Int64)), .second, .unset, .unset, .unset, .unset] [])) _
    refine XS.iloadN X0.here hx rfl (hb hby at_85) rfl ?_
    show Steps p.tables e below (T0.setTop (mkF m 86 #[.val (.int q0), .val (.int q1), .val (.int q2), .val (.int q3), .val (.ref oa), .val (.long (cb.toInt64)), .second, .val (.long (0 : Int64)), .second, .unset, .unset, .unset, .unset] [(.int q2)])) _
    refine XT.bipushV X0.here hx rfl (100 : Int32) (hb hby at_86) rfl ?_
    exact k)
  by_cases c88 : (100 : Int32) < q2
  · have pre2 : ∀ t, Steps p.tables e below (T0.setTop (mkF m 115 #[.val (.int q0), .val (.int q1), .val (.int q2), .val (.int q3), .val (.ref oa), .val (.long (cb.toInt64)), .second, .val (.long (((q2.toInt64) - (100 : Int64)) / (10 : Int64))), .second, .val (.long ((q2.toInt64) - (100 : Int64))), .second, .unset, .unset] [(.int (XT.cmpL (((q2.toInt64) - (100 : Int64)) - (((q2.toInt64) - (100 : Int64)) / (10 : Int64)) * (10 : Int64)) (0 : Int64)))])) t → Steps p.tables e below (T0.setTop (mkF m 82 #[.val (.int q0), .val (.int q1), .val (.int q2), .val (.int q3), .val (.ref oa), .val (.long (cb.toInt64)), .second, .unset, .unset, .unset, .unset, .unset, .unset] [])) t := fun t k => pre1 _ (by
      show Steps p.tables e below (T0.setTop (mkF m 88 #[.val (.int q0), .val (.int q1), .val (.int q2), .val (.int q3), .val (.ref oa), .val (.long (cb.toInt64)), .second, .val (.long (0 : Int64)), .second, .unset, .unset, .unset, .unset] [(.int (100 : Int32)), (.int q2)])) _
      refine XS.icmpNo X0.here hx rfl (hb hby at_88) rfl (XT.ii_le_f c88) ?_
      show Steps p.tables e below (T0.setTop (mkF m 91 #[.val (.int q0), .val (.int q1), .val (.int q2), .val (.int q3), .val (.ref oa), .val (.long (cb.toInt64)), .second, .val (.long (0 : Int64)), .second, .unset, .unset, .unset, .unset] [])) _
      refine XS.iloadN X0.here hx rfl (hb hby at_91) rfl ?_
      show Steps p.tables e below (T0.setTop (mkF m 92 #[.val (.int q0), .val (.int q1), .val (.int q2), .val (.int q3), .val (.ref oa), .val (.long (cb.toInt64)), .second, .val (.long (0 : Int64)), .second, .unset, .unset, .unset, .unset] [(.int q2)])) _
      refine XS.i2l X0.here hx rfl (hb hby at_92) rfl ?_
      show Steps p.tables e below (T0.setTop (mkF m 93 #[.val (.int q0), .val (.int q1), .val (.int q2), .val (.int q3), .val (.ref oa), .val (.long (cb.toInt64)), .second, .val (.long (0 : Int64)), .second, .unset, .unset, .unset, .unset] [(.long (q2.toInt64))])) _
      refine X0.ldc2J hx hown (mvT hZ (hw _ (List.mem_of_getElem? (i := 26) rfl))) rfl (hb hby at_93) ?_
      show Steps p.tables e below (T0.setTop (mkF m 96 #[.val (.int q0), .val (.int q1), .val (.int q2), .val (.int q3), .val (.ref oa), .val (.long (cb.toInt64)), .second, .val (.long (0 : Int64)), .second, .unset, .unset, .unset, .unset] [(.long (100 : Int64)), (.long (q2.toInt64))])) _
      refine XS.lsub X0.here hx rfl (hb hby at_96) rfl ?_
      show Steps p.tables e below (T0.setTop (mkF m 97 #[.val (.int q0), .val (.int q1), .val (.int q2), .val (.int q3), .val (.ref oa), .val (.long (cb.toInt64)), .second, .val (.long (0 : Int64)), .second, .unset, .unset, .unset, .unset] [(.long ((q2.toInt64) - (100 : Int64)))])) _
      refine XS.lstore X0.here hx rfl (hb hby at_97) rfl (l' := #[.val (.int q0), .val (.int q1), .val (.int q2), .val (.int q3), .val (.ref oa), .val (.long (cb.toInt64)), .second, .val (.long (0 : Int64)), .second, .val (.long ((q2.toInt64) - (100 : Int64))), .second, .unset, .unset]) rfl ?_
      show Steps p.tables e below (T0.setTop (mkF m 99 #[.val (.int q0), .val (.int q1), .val (.int q2), .val (.int q3), .val (.ref oa), .val (.long (cb.toInt64)), .second, .val (.long (0 : Int64)), .second, .val (.long ((q2.toInt64) - (100 : Int64))), .second, .unset, .unset] [])) _
      refine XS.lload X0.here hx rfl (hb hby at_99) rfl ?_
      show Steps p.tables e below (T0.setTop (mkF m 101 #[.val (.int q0), .val (.int q1), .val (.int q2), .val (.int q3), .val (.ref oa), .val (.long (cb.toInt64)), .second, .val (.long (0 : Int64)), .second, .val (.long ((q2.toInt64) - (100 : Int64))), .second, .unset, .unset] [(.long ((q2.toInt64) - (100 : Int64)))])) _
      refine X0.ldc2J hx hown (mvT hZ (hw _ (List.mem_of_getElem? (i := 27) rfl))) rfl (hb hby at_101) ?_
      show Steps p.tables e below (T0.setTop (mkF m 104 #[.val (.int q0), .val (.int q1), .val (.int q2), .val (.int q3), .val (.ref oa), .val (.long (cb.toInt64)), .second, .val (.long (0 : Int64)), .second, .val (.long ((q2.toInt64) - (100 : Int64))), .second, .unset, .unset] [(.long (10 : Int64)), (.long ((q2.toInt64) - (100 : Int64)))])) _
      refine XS.ldiv X0.here hx rfl (hb hby at_104) rfl (by decide) ?_
      show Steps p.tables e below (T0.setTop (mkF m 105 #[.val (.int q0), .val (.int q1), .val (.int q2), .val (.int q3), .val (.ref oa), .val (.long (cb.toInt64)), .second, .val (.long (0 : Int64)), .second, .val (.long ((q2.toInt64) - (100 : Int64))), .second, .unset, .unset] [(.long (((q2.toInt64) - (100 : Int64)) / (10 : Int64)))])) _
      refine XS.lstore X0.here hx rfl (hb hby at_105) rfl (l' := #[.val (.int q0), .val (.int q1), .val (.int q2), .val (.int q3), .val (.ref oa), .val (.long (cb.toInt64)), .second, .val (.long (((q2.toInt64) - (100 : Int64)) / (10 : Int64))), .second, .val (.long ((q2.toInt64) - (100 : Int64))), .second, .unset, .unset]) rfl ?_
      show Steps p.tables e below (T0.setTop (mkF m 107 #[.val (.int q0), .val (.int q1), .val (.int q2), .val (.int q3), .val (.ref oa), .val (.long (cb.toInt64)), .second, .val (.long (((q2.toInt64) - (100 : Int64)) / (10 : Int64))), .second, .val (.long ((q2.toInt64) - (100 : Int64))), .second, .unset, .unset] [])) _
      refine XS.lload X0.here hx rfl (hb hby at_107) rfl ?_
      show Steps p.tables e below (T0.setTop (mkF m 109 #[.val (.int q0), .val (.int q1), .val (.int q2), .val (.int q3), .val (.ref oa), .val (.long (cb.toInt64)), .second, .val (.long (((q2.toInt64) - (100 : Int64)) / (10 : Int64))), .second, .val (.long ((q2.toInt64) - (100 : Int64))), .second, .unset, .unset] [(.long ((q2.toInt64) - (100 : Int64)))])) _
      refine X0.ldc2J hx hown (mvT hZ (hw _ (List.mem_of_getElem? (i := 27) rfl))) rfl (hb hby at_109) ?_
      show Steps p.tables e below (T0.setTop (mkF m 112 #[.val (.int q0), .val (.int q1), .val (.int q2), .val (.int q3), .val (.ref oa), .val (.long (cb.toInt64)), .second, .val (.long (((q2.toInt64) - (100 : Int64)) / (10 : Int64))), .second, .val (.long ((q2.toInt64) - (100 : Int64))), .second, .unset, .unset] [(.long (10 : Int64)), (.long ((q2.toInt64) - (100 : Int64)))])) _
      refine XS.lrem X0.here hx rfl (hb hby at_112) rfl (by decide) ?_
      show Steps p.tables e below (T0.setTop (mkF m 113 #[.val (.int q0), .val (.int q1), .val (.int q2), .val (.int q3), .val (.ref oa), .val (.long (cb.toInt64)), .second, .val (.long (((q2.toInt64) - (100 : Int64)) / (10 : Int64))), .second, .val (.long ((q2.toInt64) - (100 : Int64))), .second, .unset, .unset] [(.long (((q2.toInt64) - (100 : Int64)) - (((q2.toInt64) - (100 : Int64)) / (10 : Int64)) * (10 : Int64)))])) _
      refine XT.lconstV X0.here hx rfl (0 : Int64) (hb hby at_113) rfl ?_
      show Steps p.tables e below (T0.setTop (mkF m 114 #[.val (.int q0), .val (.int q1), .val (.int q2), .val (.int q3), .val (.ref oa), .val (.long (cb.toInt64)), .second, .val (.long (((q2.toInt64) - (100 : Int64)) / (10 : Int64))), .second, .val (.long ((q2.toInt64) - (100 : Int64))), .second, .unset, .unset] [(.long (0 : Int64)), (.long (((q2.toInt64) - (100 : Int64)) - (((q2.toInt64) - (100 : Int64)) / (10 : Int64)) * (10 : Int64)))])) _
      refine XT.lcmp X0.here hx rfl (hb hby at_114) rfl ?_
      exact k)
    obtain ⟨v4, hv4⟩ : ∃ z : Int64, z = (if (((q2.toInt64) - (100 : Int64)) - (((q2.toInt64) - (100 : Int64)) / (10 : Int64)) * (10 : Int64)) = (0 : Int64) then (((q2.toInt64) - (100 : Int64)) / (10 : Int64)) else ((((q2.toInt64) - (100 : Int64)) / (10 : Int64)) + (1 : Int64))) := ⟨_, rfl⟩
    have pre5 : ∀ t, Steps p.tables e below (T0.setTop (mkF m 124 #[.val (.int q0), .val (.int q1), .val (.int q2), .val (.int q3), .val (.ref oa), .val (.long (cb.toInt64)), .second, .val (.long v4), .second, .val (.long ((q2.toInt64) - (100 : Int64))), .second, .unset, .unset] [])) t → Steps p.tables e below (T0.setTop (mkF m 82 #[.val (.int q0), .val (.int q1), .val (.int q2), .val (.int q3), .val (.ref oa), .val (.long (cb.toInt64)), .second, .unset, .unset, .unset, .unset, .unset, .unset] [])) t := fun t k => pre2 _ (by
      by_cases c115_3 : (((q2.toInt64) - (100 : Int64)) - (((q2.toInt64) - (100 : Int64)) / (10 : Int64)) * (10 : Int64)) = (0 : Int64)
      · rw [show v4 = _ from hv4.trans (if_pos c115_3)] at k
        show Steps p.tables e below (T0.setTop (mkF m 115 #[.val (.int q0), .val (.int q1), .val (.int q2), .val (.int q3), .val (.ref oa), .val (.long (cb.toInt64)), .second, .val (.long (((q2.toInt64) - (100 : Int64)) / (10 : Int64))), .second, .val (.long ((q2.toInt64) - (100 : Int64))), .second, .unset, .unset] [(.int (XT.cmpL (((q2.toInt64) - (100 : Int64)) - (((q2.toInt64) - (100 : Int64)) / (10 : Int64)) * (10 : Int64)) (0 : Int64)))])) _
        refine XS.ifYes X0.here hx rfl (pc0 := 115) (pc' := 124) rfl (hb hby at_115) rfl (XT.ll_eq_t c115_3) (by decide) (by decide) ?_
        exact k
      · rw [show v4 = _ from hv4.trans (if_neg c115_3)] at k
        show Steps p.tables e below (T0.setTop (mkF m 115 #[.val (.int q0), .val (.int q1), .val (.int q2), .val (.int q3), .val (.ref oa), .val (.long (cb.toInt64)), .second, .val (.long (((q2.toInt64) - (100 : Int64)) / (10 : Int64))), .second, .val (.long ((q2.toInt64) - (100 : Int64))), .second, .unset, .unset] [(.int (XT.cmpL (((q2.toInt64) - (100 : Int64)) - (((q2.toInt64) - (100 : Int64)) / (10 : Int64)) * (10 : Int64)) (0 : Int64)))])) _
        refine XS.ifNo X0.here hx rfl (hb hby at_115) rfl (XT.ll_eq_f c115_3) ?_
        show Steps p.tables e below (T0.setTop (mkF m 118 #[.val (.int q0), .val (.int q1), .val (.int q2), .val (.int q3), .val (.ref oa), .val (.long (cb.toInt64)), .second, .val (.long (((q2.toInt64) - (100 : Int64)) / (10 : Int64))), .second, .val (.long ((q2.toInt64) - (100 : Int64))), .second, .unset, .unset] [])) _
        refine XS.lload X0.here hx rfl (hb hby at_118) rfl ?_
        show Steps p.tables e below (T0.setTop (mkF m 120 #[.val (.int q0), .val (.int q1), .val (.int q2), .val (.int q3), .val (.ref oa), .val (.long (cb.toInt64)), .second, .val (.long (((q2.toInt64) - (100 : Int64)) / (10 : Int64))), .second, .val (.long ((q2.toInt64) - (100 : Int64))), .second, .unset, .unset] [(.long (((q2.toInt64) - (100 : Int64)) / (10 : Int64)))])) _
        refine XT.lconstV X0.here hx rfl (1 : Int64) (hb hby at_120) rfl ?_
        show Steps p.tables e below (T0.setTop (mkF m 121 #[.val (.int q0), .val (.int q1), .val (.int q2), .val (.int q3), .val (.ref oa), .val (.long (cb.toInt64)), .second, .val (.long (((q2.toInt64) - (100 : Int64)) / (10 : Int64))), .second, .val (.long ((q2.toInt64) - (100 : Int64))), .second, .unset, .unset] [(.long (1 : Int64)), (.long (((q2.toInt64) - (100 : Int64)) / (10 : Int64)))])) _
        refine XS.ladd X0.here hx rfl (hb hby at_121) rfl ?_
        show Steps p.tables e below (T0.setTop (mkF m 122 #[.val (.int q0), .val (.int q1), .val (.int q2), .val (.int q3), .val (.ref oa), .val (.long (cb.toInt64)), .second, .val (.long (((q2.toInt64) - (100 : Int64)) / (10 : Int64))), .second, .val (.long ((q2.toInt64) - (100 : Int64))), .second, .unset, .unset] [(.long ((((q2.toInt64) - (100 : Int64)) / (10 : Int64)) + (1 : Int64)))])) _
        refine XS.lstore X0.here hx rfl (hb hby at_122) rfl (l' := #[.val (.int q0), .val (.int q1), .val (.int q2), .val (.int q3), .val (.ref oa), .val (.long (cb.toInt64)), .second, .val (.long ((((q2.toInt64) - (100 : Int64)) / (10 : Int64)) + (1 : Int64))), .second, .val (.long ((q2.toInt64) - (100 : Int64))), .second, .unset, .unset]) rfl ?_
        exact k)
    have pre6 : ∀ t, Steps p.tables e below (T0.setTop (mkF m 140 #[.val (.int q0), .val (.int q1), .val (.int q2), .val (.int q3), .val (.ref oa), .val (.long (cb.toInt64)), .second, .val (.long v4), .second, .val (.long (((q0.toInt64) + (cb.toInt64)) + v4)), .second, .unset, .unset] [(.int (XT.cmpL (((q0.toInt64) + (cb.toInt64)) + v4) (25 : Int64)))])) t → Steps p.tables e below (T0.setTop (mkF m 82 #[.val (.int q0), .val (.int q1), .val (.int q2), .val (.int q3), .val (.ref oa), .val (.long (cb.toInt64)), .second, .unset, .unset, .unset, .unset, .unset, .unset] [])) t := fun t k => pre5 _ (by
      show Steps p.tables e below (T0.setTop (mkF m 124 #[.val (.int q0), .val (.int q1), .val (.int q2), .val (.int q3), .val (.ref oa), .val (.long (cb.toInt64)), .second, .val (.long v4), .second, .val (.long ((q2.toInt64) - (100 : Int64))), .second, .unset, .unset] [])) _
      refine XS.iloadN X0.here hx rfl (hb hby at_124) rfl ?_
      show Steps p.tables e below (T0.setTop (mkF m 125 #[.val (.int q0), .val (.int q1), .val (.int q2), .val (.int q3), .val (.ref oa), .val (.long (cb.toInt64)), .second, .val (.long v4), .second, .val (.long ((q2.toInt64) - (100 : Int64))), .second, .unset, .unset] [(.int q0)])) _
      refine XS.i2l X0.here hx rfl (hb hby at_125) rfl ?_
      show Steps p.tables e below (T0.setTop (mkF m 126 #[.val (.int q0), .val (.int q1), .val (.int q2), .val (.int q3), .val (.ref oa), .val (.long (cb.toInt64)), .second, .val (.long v4), .second, .val (.long ((q2.toInt64) - (100 : Int64))), .second, .unset, .unset] [(.long (q0.toInt64))])) _
      refine XS.lload X0.here hx rfl (hb hby at_126) rfl ?_
      show Steps p.tables e below (T0.setTop (mkF m 128 #[.val (.int q0), .val (.int q1), .val (.int q2), .val (.int q3), .val (.ref oa), .val (.long (cb.toInt64)), .second, .val (.long v4), .second, .val (.long ((q2.toInt64) - (100 : Int64))), .second, .unset, .unset] [(.long (cb.toInt64)), (.long (q0.toInt64))])) _
      refine XS.ladd X0.here hx rfl (hb hby at_128) rfl ?_
      show Steps p.tables e below (T0.setTop (mkF m 129 #[.val (.int q0), .val (.int q1), .val (.int q2), .val (.int q3), .val (.ref oa), .val (.long (cb.toInt64)), .second, .val (.long v4), .second, .val (.long ((q2.toInt64) - (100 : Int64))), .second, .unset, .unset] [(.long ((q0.toInt64) + (cb.toInt64)))])) _
      refine XS.lload X0.here hx rfl (hb hby at_129) rfl ?_
      show Steps p.tables e below (T0.setTop (mkF m 131 #[.val (.int q0), .val (.int q1), .val (.int q2), .val (.int q3), .val (.ref oa), .val (.long (cb.toInt64)), .second, .val (.long v4), .second, .val (.long ((q2.toInt64) - (100 : Int64))), .second, .unset, .unset] [(.long v4), (.long ((q0.toInt64) + (cb.toInt64)))])) _
      refine XS.ladd X0.here hx rfl (hb hby at_131) rfl ?_
      show Steps p.tables e below (T0.setTop (mkF m 132 #[.val (.int q0), .val (.int q1), .val (.int q2), .val (.int q3), .val (.ref oa), .val (.long (cb.toInt64)), .second, .val (.long v4), .second, .val (.long ((q2.toInt64) - (100 : Int64))), .second, .unset, .unset] [(.long (((q0.toInt64) + (cb.toInt64)) + v4))])) _
      refine XS.lstore X0.here hx rfl (hb hby at_132) rfl (l' := #[.val (.int q0), .val (.int q1), .val (.int q2), .val (.int q3), .val (.ref oa), .val (.long (cb.toInt64)), .second, .val (.long v4), .second, .val (.long (((q0.toInt64) + (cb.toInt64)) + v4)), .second, .unset, .unset]) rfl ?_
      show Steps p.tables e below (T0.setTop (mkF m 134 #[.val (.int q0), .val (.int q1), .val (.int q2), .val (.int q3), .val (.ref oa), .val (.long (cb.toInt64)), .second, .val (.long v4), .second, .val (.long (((q0.toInt64) + (cb.toInt64)) + v4)), .second, .unset, .unset] [])) _
      refine XS.lload X0.here hx rfl (hb hby at_134) rfl ?_
      show Steps p.tables e below (T0.setTop (mkF m 136 #[.val (.int q0), .val (.int q1), .val (.int q2), .val (.int q3), .val (.ref oa), .val (.long (cb.toInt64)), .second, .val (.long v4), .second, .val (.long (((q0.toInt64) + (cb.toInt64)) + v4)), .second, .unset, .unset] [(.long (((q0.toInt64) + (cb.toInt64)) + v4))])) _
      refine X0.ldc2J hx hown (mvT hZ (hw _ (List.mem_of_getElem? (i := 5) rfl))) rfl (hb hby at_136) ?_
      show Steps p.tables e below (T0.setTop (mkF m 139 #[.val (.int q0), .val (.int q1), .val (.int q2), .val (.int q3), .val (.ref oa), .val (.long (cb.toInt64)), .second, .val (.long v4), .second, .val (.long (((q0.toInt64) + (cb.toInt64)) + v4)), .second, .unset, .unset] [(.long (25 : Int64)), (.long (((q0.toInt64) + (cb.toInt64)) + v4))])) _
      refine XT.lcmp X0.here hx rfl (hb hby at_139) rfl ?_
      exact k)
    obtain ⟨v8, hv8⟩ : ∃ z : Int64, z = (if (25 : Int64) < (((q0.toInt64) + (cb.toInt64)) + v4) then ((25 : Int64) + ((2 : Int64) * ((((q0.toInt64) + (cb.toInt64)) + v4) - (25 : Int64)))) else (((q0.toInt64) + (cb.toInt64)) + v4)) := ⟨_, rfl⟩
    have pre9 : ∀ t, Steps p.tables e below (T0.setTop (mkF m 166 #[.val (.int q0), .val (.int q1), .val (.int q2), .val (.int q3), .val (.ref oa), .val (.long (cb.toInt64)), .second, .val (.long v4), .second, .val (.long (((q0.toInt64) + (cb.toInt64)) + v4)), .second, .val (.long v8), .second] [])) t → Steps p.tables e below (T0.setTop (mkF m 82 #[.val (.int q0), .val (.int q1), .val (.int q2), .val (.int q3), .val (.ref oa), .val (.long (cb.toInt64)), .second, .unset, .unset, .unset, .unset, .unset, .unset] [])) t := fun t k => pre6 _ (by
      by_cases c140_7 : (25 : Int64) < (((q0.toInt64) + (cb.toInt64)) + v4)
      · rw [show v8 = _ from hv8.trans (if_pos c140_7)] at k
        show Steps p.tables e below (T0.setTop (mkF m 140 #[.val (.int q0), .val (.int q1), .val (.int q2), .val (.int q3), .val (.ref oa), .val (.long (cb.toInt64)), .second, .val (.long v4), .second, .val (.long (((q0.toInt64) + (cb.toInt64)) + v4)), .second, .unset, .unset] [(.int (XT.cmpL (((q0.toInt64) + (cb.toInt64)) + v4) (25 : Int64)))])) _
        refine XS.ifYes X0.here hx rfl (pc0 := 140) (pc' := 150) rfl (hb hby at_140) rfl (XT.ll_gt_t c140_7) (by decide) (by decide) ?_
        show Steps p.tables e below (T0.setTop (mkF m 150 #[.val (.int q0), .val (.int q1), .val (.int q2), .val (.int q3), .val (.ref oa), .val (.long (cb.toInt64)), .second, .val (.long v4), .second, .val (.long (((q0.toInt64) + (cb.toInt64)) + v4)), .second, .unset, .unset] [])) _
        refine X0.ldc2J hx hown (mvT hZ (hw _ (List.mem_of_getElem? (i := 5) rfl))) rfl (hb hby at_150) ?_
        show Steps p.tables e below (T0.setTop (mkF m 153 #[.val (.int q0), .val (.int q1), .val (.int q2), .val (.int q3), .val (.ref oa), .val (.long (cb.toInt64)), .second, .val (.long v4), .second, .val (.long (((q0.toInt64) + (cb.toInt64)) + v4)), .second, .unset, .unset] [(.long (25 : Int64))])) _
        refine X0.ldc2J hx hown (mvT hZ (hw _ (List.mem_of_getElem? (i := 4) rfl))) rfl (hb hby at_153) ?_
        show Steps p.tables e below (T0.setTop (mkF m 156 #[.val (.int q0), .val (.int q1), .val (.int q2), .val (.int q3), .val (.ref oa), .val (.long (cb.toInt64)), .second, .val (.long v4), .second, .val (.long (((q0.toInt64) + (cb.toInt64)) + v4)), .second, .unset, .unset] [(.long (2 : Int64)), (.long (25 : Int64))])) _
        refine XS.lload X0.here hx rfl (hb hby at_156) rfl ?_
        show Steps p.tables e below (T0.setTop (mkF m 158 #[.val (.int q0), .val (.int q1), .val (.int q2), .val (.int q3), .val (.ref oa), .val (.long (cb.toInt64)), .second, .val (.long v4), .second, .val (.long (((q0.toInt64) + (cb.toInt64)) + v4)), .second, .unset, .unset] [(.long (((q0.toInt64) + (cb.toInt64)) + v4)), (.long (2 : Int64)), (.long (25 : Int64))])) _
        refine X0.ldc2J hx hown (mvT hZ (hw _ (List.mem_of_getElem? (i := 5) rfl))) rfl (hb hby at_158) ?_
        show Steps p.tables e below (T0.setTop (mkF m 161 #[.val (.int q0), .val (.int q1), .val (.int q2), .val (.int q3), .val (.ref oa), .val (.long (cb.toInt64)), .second, .val (.long v4), .second, .val (.long (((q0.toInt64) + (cb.toInt64)) + v4)), .second, .unset, .unset] [(.long (25 : Int64)), (.long (((q0.toInt64) + (cb.toInt64)) + v4)), (.long (2 : Int64)), (.long (25 : Int64))])) _
        refine XS.lsub X0.here hx rfl (hb hby at_161) rfl ?_
        show Steps p.tables e below (T0.setTop (mkF m 162 #[.val (.int q0), .val (.int q1), .val (.int q2), .val (.int q3), .val (.ref oa), .val (.long (cb.toInt64)), .second, .val (.long v4), .second, .val (.long (((q0.toInt64) + (cb.toInt64)) + v4)), .second, .unset, .unset] [(.long ((((q0.toInt64) + (cb.toInt64)) + v4) - (25 : Int64))), (.long (2 : Int64)), (.long (25 : Int64))])) _
        refine XS.lmul X0.here hx rfl (hb hby at_162) rfl ?_
        show Steps p.tables e below (T0.setTop (mkF m 163 #[.val (.int q0), .val (.int q1), .val (.int q2), .val (.int q3), .val (.ref oa), .val (.long (cb.toInt64)), .second, .val (.long v4), .second, .val (.long (((q0.toInt64) + (cb.toInt64)) + v4)), .second, .unset, .unset] [(.long ((2 : Int64) * ((((q0.toInt64) + (cb.toInt64)) + v4) - (25 : Int64)))), (.long (25 : Int64))])) _
        refine XS.ladd X0.here hx rfl (hb hby at_163) rfl ?_
        show Steps p.tables e below (T0.setTop (mkF m 164 #[.val (.int q0), .val (.int q1), .val (.int q2), .val (.int q3), .val (.ref oa), .val (.long (cb.toInt64)), .second, .val (.long v4), .second, .val (.long (((q0.toInt64) + (cb.toInt64)) + v4)), .second, .unset, .unset] [(.long ((25 : Int64) + ((2 : Int64) * ((((q0.toInt64) + (cb.toInt64)) + v4) - (25 : Int64)))))])) _
        refine XS.lstore X0.here hx rfl (hb hby at_164) rfl (l' := #[.val (.int q0), .val (.int q1), .val (.int q2), .val (.int q3), .val (.ref oa), .val (.long (cb.toInt64)), .second, .val (.long v4), .second, .val (.long (((q0.toInt64) + (cb.toInt64)) + v4)), .second, .val (.long ((25 : Int64) + ((2 : Int64) * ((((q0.toInt64) + (cb.toInt64)) + v4) - (25 : Int64))))), .second]) rfl ?_
        exact k
      · rw [show v8 = _ from hv8.trans (if_neg c140_7)] at k
        show Steps p.tables e below (T0.setTop (mkF m 140 #[.val (.int q0), .val (.int q1), .val (.int q2), .val (.int q3), .val (.ref oa), .val (.long (cb.toInt64)), .second, .val (.long v4), .second, .val (.long (((q0.toInt64) + (cb.toInt64)) + v4)), .second, .unset, .unset] [(.int (XT.cmpL (((q0.toInt64) + (cb.toInt64)) + v4) (25 : Int64)))])) _
        refine XS.ifNo X0.here hx rfl (hb hby at_140) rfl (XT.ll_gt_f c140_7) ?_
        show Steps p.tables e below (T0.setTop (mkF m 143 #[.val (.int q0), .val (.int q1), .val (.int q2), .val (.int q3), .val (.ref oa), .val (.long (cb.toInt64)), .second, .val (.long v4), .second, .val (.long (((q0.toInt64) + (cb.toInt64)) + v4)), .second, .unset, .unset] [])) _
        refine XS.lload X0.here hx rfl (hb hby at_143) rfl ?_
        show Steps p.tables e below (T0.setTop (mkF m 145 #[.val (.int q0), .val (.int q1), .val (.int q2), .val (.int q3), .val (.ref oa), .val (.long (cb.toInt64)), .second, .val (.long v4), .second, .val (.long (((q0.toInt64) + (cb.toInt64)) + v4)), .second, .unset, .unset] [(.long (((q0.toInt64) + (cb.toInt64)) + v4))])) _
        refine XS.lstore X0.here hx rfl (hb hby at_145) rfl (l' := #[.val (.int q0), .val (.int q1), .val (.int q2), .val (.int q3), .val (.ref oa), .val (.long (cb.toInt64)), .second, .val (.long v4), .second, .val (.long (((q0.toInt64) + (cb.toInt64)) + v4)), .second, .val (.long (((q0.toInt64) + (cb.toInt64)) + v4)), .second]) rfl ?_
        show Steps p.tables e below (T0.setTop (mkF m 147 #[.val (.int q0), .val (.int q1), .val (.int q2), .val (.int q3), .val (.ref oa), .val (.long (cb.toInt64)), .second, .val (.long v4), .second, .val (.long (((q0.toInt64) + (cb.toInt64)) + v4)), .second, .val (.long (((q0.toInt64) + (cb.toInt64)) + v4)), .second] [])) _
        refine XS.goto X0.here hx rfl (pc0 := 147) (pc' := 166) rfl (hb hby at_147) (by decide) (by decide) ?_
        exact k)
    have pre10 : ∀ t, Steps p.tables e below (T0.setTop (mkF m 170 #[.val (.int q0), .val (.int q1), .val (.int q2), .val (.int q3), .val (.ref oa), .val (.long (cb.toInt64)), .second, .val (.long v4), .second, .val (.long (((q0.toInt64) + (cb.toInt64)) + v4)), .second, .val (.long v8), .second] [(.int q2), (.ref oa), (.int q0)])) t → Steps p.tables e below (T0.setTop (mkF m 82 #[.val (.int q0), .val (.int q1), .val (.int q2), .val (.int q3), .val (.ref oa), .val (.long (cb.toInt64)), .second, .unset, .unset, .unset, .unset, .unset, .unset] [])) t := fun t k => pre9 _ (by
      show Steps p.tables e below (T0.setTop (mkF m 166 #[.val (.int q0), .val (.int q1), .val (.int q2), .val (.int q3), .val (.ref oa), .val (.long (cb.toInt64)), .second, .val (.long v4), .second, .val (.long (((q0.toInt64) + (cb.toInt64)) + v4)), .second, .val (.long v8), .second] [])) _
      refine XS.iloadN X0.here hx rfl (hb hby at_166) rfl ?_
      show Steps p.tables e below (T0.setTop (mkF m 167 #[.val (.int q0), .val (.int q1), .val (.int q2), .val (.int q3), .val (.ref oa), .val (.long (cb.toInt64)), .second, .val (.long v4), .second, .val (.long (((q0.toInt64) + (cb.toInt64)) + v4)), .second, .val (.long v8), .second] [(.int q0)])) _
      refine XS.aload X0.here hx rfl (hb hby at_167) rfl rfl ?_
      show Steps p.tables e below (T0.setTop (mkF m 169 #[.val (.int q0), .val (.int q1), .val (.int q2), .val (.int q3), .val (.ref oa), .val (.long (cb.toInt64)), .second, .val (.long v4), .second, .val (.long (((q0.toInt64) + (cb.toInt64)) + v4)), .second, .val (.long v8), .second] [(.ref oa), (.int q0)])) _
      refine XS.iloadN X0.here hx rfl (hb hby at_169) rfl ?_
      exact k)
    obtain ⟨_, _, ⟨T11, L11, k11, n11⟩, -, X11, ⟨Lc11, hQ11, l11, y11, z11⟩, st11⟩ := Jvm.LawKit.callS X0 hx (y := (⟨"com/example/roundkeeper/roundkeeper/rules/segmentsd100/Segmentsd100", "stunThreshold", "(ILcom/example/roundkeeper/roundkeeper/rules/segmentsd100/Stats$Size;I)J"⟩ : MethodName)) hown (mvT hZ (hw _ (List.mem_of_getElem? (i := 6) rfl))) (mvT hZ (hw _ (List.mem_of_getElem? (i := 7) rfl))) (mvT hZ (hw _ (List.mem_of_getElem? (i := 8) rfl))) (mvT hZ (hw _ (List.mem_of_getElem? (i := 9) rfl))) (by decide) (backOf (W := 0) (own_stC l Z a0 hw [] q0 oa q2 cb h0 n0 Z0 F E) hZ (hw _ (List.mem_of_getElem? (i := 9) rfl)) (hw _ (List.mem_of_getElem? (i := 8) rfl)) (by decide) (by decide)) (g := (mkF m 170 #[.val (.int q0), .val (.int q1), .val (.int q2), .val (.int q3), .val (.ref oa), .val (.long (cb.toInt64)), .second, .val (.long v4), .second, .val (.long (((q0.toInt64) + (cb.toInt64)) + v4)), .second, .val (.long v8), .second] [(.int q2), (.ref oa), (.int q0)])) rfl (by rw [hml]; rfl) (argsL := [(.int q0), (.ref oa), (.int q2)]) (rest := []) (lenOf own_pd__ILcom_example_roundkeeper_roundkeeper_rules_segmentsd100_Stats_Size_I_J rfl) rfl (by show 2 * 0 + _ ≤ _; exact Nat.le_of_eq rfl) (hb hby at_170) (fun _ _ => ⟨rfl, e0, (by decide : 0 + 0 ≤ _), (by decide : 0 + 0 ≤ _)⟩)
    dsimp only [Pt.U, Pt.locs, Pt.cells, Pt.slots] at X11 l11 y11 z11 st11 hQ11
    subst l11 y11 z11
    obtain ⟨rfl, N11q, e11⟩ := hQ11
    have N11 := Fr.app N0 N11q
    have pre12 : ∀ t, Steps p.tables e below (T11.setTop (mkF m 173 #[.val (.int q0), .val (.int q1), .val (.int q2), .val (.int q3), .val (.ref oa), .val (.long (cb.toInt64)), .second, .val (.long v4), .second, .val (.long (((q0.toInt64) + (cb.toInt64)) + v4)), .second, .val (.long v8), .second] [(.long (own_st q0 cb q2))])) t → Steps p.tables e below (T0.setTop (mkF m 82 #[.val (.int q0), .val (.int q1), .val (.int q2), .val (.int q3), .val (.ref oa), .val (.long (cb.toInt64)), .second, .unset, .unset, .unset, .unset, .unset, .unset] [])) t := fun t k => pre10 _ (st11 _ k)
    have pre13 : ∀ t, Steps p.tables e below (T11.setTop (mkF m 184 #[.val (.int q0), .val (.int q1), .val (.int q2), .val (.int q3), .val (.ref oa), .val (.long (cb.toInt64)), .second, .val (.long v4), .second, .val (.long (((q0.toInt64) + (cb.toInt64)) + v4)), .second, .val (.long v8), .second] [(.int (1 : Int32))])) t → Steps p.tables e below (T0.setTop (mkF m 82 #[.val (.int q0), .val (.int q1), .val (.int q2), .val (.int q3), .val (.ref oa), .val (.long (cb.toInt64)), .second, .unset, .unset, .unset, .unset, .unset, .unset] [])) t := fun t k => pre12 _ (by
      show Steps p.tables e below (T11.setTop (mkF m 173 #[.val (.int q0), .val (.int q1), .val (.int q2), .val (.int q3), .val (.ref oa), .val (.long (cb.toInt64)), .second, .val (.long v4), .second, .val (.long (((q0.toInt64) + (cb.toInt64)) + v4)), .second, .val (.long v8), .second] [(.long (own_st q0 cb q2))])) _
      refine XS.lload X11.here hx rfl (hb hby at_173) rfl ?_
      show Steps p.tables e below (T11.setTop (mkF m 175 #[.val (.int q0), .val (.int q1), .val (.int q2), .val (.int q3), .val (.ref oa), .val (.long (cb.toInt64)), .second, .val (.long v4), .second, .val (.long (((q0.toInt64) + (cb.toInt64)) + v4)), .second, .val (.long v8), .second] [(.long v8), (.long (own_st q0 cb q2))])) _
      refine XT.lcmp X11.here hx rfl (hb hby at_175) rfl ?_
      show Steps p.tables e below (T11.setTop (mkF m 176 #[.val (.int q0), .val (.int q1), .val (.int q2), .val (.int q3), .val (.ref oa), .val (.long (cb.toInt64)), .second, .val (.long v4), .second, .val (.long (((q0.toInt64) + (cb.toInt64)) + v4)), .second, .val (.long v8), .second] [(.int (XT.cmpL (own_st q0 cb q2) v8))])) _
      refine XS.ifNo X11.here hx rfl (hb hby at_176) rfl (XT.ll_ne_f (own_yes q0 cb q2 c88 hv4 hv8)) ?_
      show Steps p.tables e below (T11.setTop (mkF m 179 #[.val (.int q0), .val (.int q1), .val (.int q2), .val (.int q3), .val (.ref oa), .val (.long (cb.toInt64)), .second, .val (.long v4), .second, .val (.long (((q0.toInt64) + (cb.toInt64)) + v4)), .second, .val (.long v8), .second] [])) _
      refine XT.iconstV X11.here hx rfl (1 : Int32) (hb hby at_179) rfl ?_
      show Steps p.tables e below (T11.setTop (mkF m 180 #[.val (.int q0), .val (.int q1), .val (.int q2), .val (.int q3), .val (.ref oa), .val (.long (cb.toInt64)), .second, .val (.long v4), .second, .val (.long (((q0.toInt64) + (cb.toInt64)) + v4)), .second, .val (.long v8), .second] [(.int (1 : Int32))])) _
      refine XS.goto X11.here hx rfl (pc0 := 180) (pc' := 184) rfl (hb hby at_180) (by decide) (by decide) ?_
      exact k)
    exact ⟨T11, h0, _, #[.val (.int q0), .val (.int q1), .val (.int q2), .val (.int q3), .val (.ref oa), .val (.long (cb.toInt64)), .second, .val (.long v4), .second, .val (.long (((q0.toInt64) + (cb.toInt64)) + v4)), .second, .val (.long v8), .second], X11, e11, N11, Z0, pre13⟩
  · have pre14 : ∀ t, Steps p.tables e below (T0.setTop (mkF m 140 #[.val (.int q0), .val (.int q1), .val (.int q2), .val (.int q3), .val (.ref oa), .val (.long (cb.toInt64)), .second, .val (.long (0 : Int64)), .second, .val (.long (((q0.toInt64) + (cb.toInt64)) + (0 : Int64))), .second, .unset, .unset] [(.int (XT.cmpL (((q0.toInt64) + (cb.toInt64)) + (0 : Int64)) (25 : Int64)))])) t → Steps p.tables e below (T0.setTop (mkF m 82 #[.val (.int q0), .val (.int q1), .val (.int q2), .val (.int q3), .val (.ref oa), .val (.long (cb.toInt64)), .second, .unset, .unset, .unset, .unset, .unset, .unset] [])) t := fun t k => pre1 _ (by
      show Steps p.tables e below (T0.setTop (mkF m 88 #[.val (.int q0), .val (.int q1), .val (.int q2), .val (.int q3), .val (.ref oa), .val (.long (cb.toInt64)), .second, .val (.long (0 : Int64)), .second, .unset, .unset, .unset, .unset] [(.int (100 : Int32)), (.int q2)])) _
      refine XS.icmpYes X0.here hx rfl (pc0 := 88) (pc' := 124) rfl (hb hby at_88) rfl (XT.ii_le_t c88) (by decide) (by decide) ?_
      show Steps p.tables e below (T0.setTop (mkF m 124 #[.val (.int q0), .val (.int q1), .val (.int q2), .val (.int q3), .val (.ref oa), .val (.long (cb.toInt64)), .second, .val (.long (0 : Int64)), .second, .unset, .unset, .unset, .unset] [])) _
      refine XS.iloadN X0.here hx rfl (hb hby at_124) rfl ?_
      show Steps p.tables e below (T0.setTop (mkF m 125 #[.val (.int q0), .val (.int q1), .val (.int q2), .val (.int q3), .val (.ref oa), .val (.long (cb.toInt64)), .second, .val (.long (0 : Int64)), .second, .unset, .unset, .unset, .unset] [(.int q0)])) _
      refine XS.i2l X0.here hx rfl (hb hby at_125) rfl ?_
      show Steps p.tables e below (T0.setTop (mkF m 126 #[.val (.int q0), .val (.int q1), .val (.int q2), .val (.int q3), .val (.ref oa), .val (.long (cb.toInt64)), .second, .val (.long (0 : Int64)), .second, .unset, .unset, .unset, .unset] [(.long (q0.toInt64))])) _
      refine XS.lload X0.here hx rfl (hb hby at_126) rfl ?_
      show Steps p.tables e below (T0.setTop (mkF m 128 #[.val (.int q0), .val (.int q1), .val (.int q2), .val (.int q3), .val (.ref oa), .val (.long (cb.toInt64)), .second, .val (.long (0 : Int64)), .second, .unset, .unset, .unset, .unset] [(.long (cb.toInt64)), (.long (q0.toInt64))])) _
      refine XS.ladd X0.here hx rfl (hb hby at_128) rfl ?_
      show Steps p.tables e below (T0.setTop (mkF m 129 #[.val (.int q0), .val (.int q1), .val (.int q2), .val (.int q3), .val (.ref oa), .val (.long (cb.toInt64)), .second, .val (.long (0 : Int64)), .second, .unset, .unset, .unset, .unset] [(.long ((q0.toInt64) + (cb.toInt64)))])) _
      refine XS.lload X0.here hx rfl (hb hby at_129) rfl ?_
      show Steps p.tables e below (T0.setTop (mkF m 131 #[.val (.int q0), .val (.int q1), .val (.int q2), .val (.int q3), .val (.ref oa), .val (.long (cb.toInt64)), .second, .val (.long (0 : Int64)), .second, .unset, .unset, .unset, .unset] [(.long (0 : Int64)), (.long ((q0.toInt64) + (cb.toInt64)))])) _
      refine XS.ladd X0.here hx rfl (hb hby at_131) rfl ?_
      show Steps p.tables e below (T0.setTop (mkF m 132 #[.val (.int q0), .val (.int q1), .val (.int q2), .val (.int q3), .val (.ref oa), .val (.long (cb.toInt64)), .second, .val (.long (0 : Int64)), .second, .unset, .unset, .unset, .unset] [(.long (((q0.toInt64) + (cb.toInt64)) + (0 : Int64)))])) _
      refine XS.lstore X0.here hx rfl (hb hby at_132) rfl (l' := #[.val (.int q0), .val (.int q1), .val (.int q2), .val (.int q3), .val (.ref oa), .val (.long (cb.toInt64)), .second, .val (.long (0 : Int64)), .second, .val (.long (((q0.toInt64) + (cb.toInt64)) + (0 : Int64))), .second, .unset, .unset]) rfl ?_
      show Steps p.tables e below (T0.setTop (mkF m 134 #[.val (.int q0), .val (.int q1), .val (.int q2), .val (.int q3), .val (.ref oa), .val (.long (cb.toInt64)), .second, .val (.long (0 : Int64)), .second, .val (.long (((q0.toInt64) + (cb.toInt64)) + (0 : Int64))), .second, .unset, .unset] [])) _
      refine XS.lload X0.here hx rfl (hb hby at_134) rfl ?_
      show Steps p.tables e below (T0.setTop (mkF m 136 #[.val (.int q0), .val (.int q1), .val (.int q2), .val (.int q3), .val (.ref oa), .val (.long (cb.toInt64)), .second, .val (.long (0 : Int64)), .second, .val (.long (((q0.toInt64) + (cb.toInt64)) + (0 : Int64))), .second, .unset, .unset] [(.long (((q0.toInt64) + (cb.toInt64)) + (0 : Int64)))])) _
      refine X0.ldc2J hx hown (mvT hZ (hw _ (List.mem_of_getElem? (i := 5) rfl))) rfl (hb hby at_136) ?_
      show Steps p.tables e below (T0.setTop (mkF m 139 #[.val (.int q0), .val (.int q1), .val (.int q2), .val (.int q3), .val (.ref oa), .val (.long (cb.toInt64)), .second, .val (.long (0 : Int64)), .second, .val (.long (((q0.toInt64) + (cb.toInt64)) + (0 : Int64))), .second, .unset, .unset] [(.long (25 : Int64)), (.long (((q0.toInt64) + (cb.toInt64)) + (0 : Int64)))])) _
      refine XT.lcmp X0.here hx rfl (hb hby at_139) rfl ?_
      exact k)
    obtain ⟨v16, hv16⟩ : ∃ z : Int64, z = (if (25 : Int64) < (((q0.toInt64) + (cb.toInt64)) + (0 : Int64)) then ((25 : Int64) + ((2 : Int64) * ((((q0.toInt64) + (cb.toInt64)) + (0 : Int64)) - (25 : Int64)))) else (((q0.toInt64) + (cb.toInt64)) + (0 : Int64))) := ⟨_, rfl⟩
    have pre17 : ∀ t, Steps p.tables e below (T0.setTop (mkF m 166 #[.val (.int q0), .val (.int q1), .val (.int q2), .val (.int q3), .val (.ref oa), .val (.long (cb.toInt64)), .second, .val (.long (0 : Int64)), .second, .val (.long (((q0.toInt64) + (cb.toInt64)) + (0 : Int64))), .second, .val (.long v16), .second] [])) t → Steps p.tables e below (T0.setTop (mkF m 82 #[.val (.int q0), .val (.int q1), .val (.int q2), .val (.int q3), .val (.ref oa), .val (.long (cb.toInt64)), .second, .unset, .unset, .unset, .unset, .unset, .unset] [])) t := fun t k => pre14 _ (by
      by_cases c140_15 : (25 : Int64) < (((q0.toInt64) + (cb.toInt64)) + (0 : Int64))
      · rw [show v16 = _ from hv16.trans (if_pos c140_15)] at k
        show Steps p.tables e below (T0.setTop (mkF m 140 #[.val (.int q0), .val (.int q1), .val (.int q2), .val (.int q3), .val (.ref oa), .val (.long (cb.toInt64)), .second, .val (.long (0 : Int64)), .second, .val (.long (((q0.toInt64) + (cb.toInt64)) + (0 : Int64))), .second, .unset, .unset] [(.int (XT.cmpL (((q0.toInt64) + (cb.toInt64)) + (0 : Int64)) (25 : Int64)))])) _
        refine XS.ifYes X0.here hx rfl (pc0 := 140) (pc' := 150) rfl (hb hby at_140) rfl (XT.ll_gt_t c140_15) (by decide) (by decide) ?_
        show Steps p.tables e below (T0.setTop (mkF m 150 #[.val (.int q0), .val (.int q1), .val (.int q2), .val (.int q3), .val (.ref oa), .val (.long (cb.toInt64)), .second, .val (.long (0 : Int64)), .second, .val (.long (((q0.toInt64) + (cb.toInt64)) + (0 : Int64))), .second, .unset, .unset] [])) _
        refine X0.ldc2J hx hown (mvT hZ (hw _ (List.mem_of_getElem? (i := 5) rfl))) rfl (hb hby at_150) ?_
        show Steps p.tables e below (T0.setTop (mkF m 153 #[.val (.int q0), .val (.int q1), .val (.int q2), .val (.int q3), .val (.ref oa), .val (.long (cb.toInt64)), .second, .val (.long (0 : Int64)), .second, .val (.long (((q0.toInt64) + (cb.toInt64)) + (0 : Int64))), .second, .unset, .unset] [(.long (25 : Int64))])) _
        refine X0.ldc2J hx hown (mvT hZ (hw _ (List.mem_of_getElem? (i := 4) rfl))) rfl (hb hby at_153) ?_
        show Steps p.tables e below (T0.setTop (mkF m 156 #[.val (.int q0), .val (.int q1), .val (.int q2), .val (.int q3), .val (.ref oa), .val (.long (cb.toInt64)), .second, .val (.long (0 : Int64)), .second, .val (.long (((q0.toInt64) + (cb.toInt64)) + (0 : Int64))), .second, .unset, .unset] [(.long (2 : Int64)), (.long (25 : Int64))])) _
        refine XS.lload X0.here hx rfl (hb hby at_156) rfl ?_
        show Steps p.tables e below (T0.setTop (mkF m 158 #[.val (.int q0), .val (.int q1), .val (.int q2), .val (.int q3), .val (.ref oa), .val (.long (cb.toInt64)), .second, .val (.long (0 : Int64)), .second, .val (.long (((q0.toInt64) + (cb.toInt64)) + (0 : Int64))), .second, .unset, .unset] [(.long (((q0.toInt64) + (cb.toInt64)) + (0 : Int64))), (.long (2 : Int64)), (.long (25 : Int64))])) _
        refine X0.ldc2J hx hown (mvT hZ (hw _ (List.mem_of_getElem? (i := 5) rfl))) rfl (hb hby at_158) ?_
        show Steps p.tables e below (T0.setTop (mkF m 161 #[.val (.int q0), .val (.int q1), .val (.int q2), .val (.int q3), .val (.ref oa), .val (.long (cb.toInt64)), .second, .val (.long (0 : Int64)), .second, .val (.long (((q0.toInt64) + (cb.toInt64)) + (0 : Int64))), .second, .unset, .unset] [(.long (25 : Int64)), (.long (((q0.toInt64) + (cb.toInt64)) + (0 : Int64))), (.long (2 : Int64)), (.long (25 : Int64))])) _
        refine XS.lsub X0.here hx rfl (hb hby at_161) rfl ?_
        show Steps p.tables e below (T0.setTop (mkF m 162 #[.val (.int q0), .val (.int q1), .val (.int q2), .val (.int q3), .val (.ref oa), .val (.long (cb.toInt64)), .second, .val (.long (0 : Int64)), .second, .val (.long (((q0.toInt64) + (cb.toInt64)) + (0 : Int64))), .second, .unset, .unset] [(.long ((((q0.toInt64) + (cb.toInt64)) + (0 : Int64)) - (25 : Int64))), (.long (2 : Int64)), (.long (25 : Int64))])) _
        refine XS.lmul X0.here hx rfl (hb hby at_162) rfl ?_
        show Steps p.tables e below (T0.setTop (mkF m 163 #[.val (.int q0), .val (.int q1), .val (.int q2), .val (.int q3), .val (.ref oa), .val (.long (cb.toInt64)), .second, .val (.long (0 : Int64)), .second, .val (.long (((q0.toInt64) + (cb.toInt64)) + (0 : Int64))), .second, .unset, .unset] [(.long ((2 : Int64) * ((((q0.toInt64) + (cb.toInt64)) + (0 : Int64)) - (25 : Int64)))), (.long (25 : Int64))])) _
        refine XS.ladd X0.here hx rfl (hb hby at_163) rfl ?_
        show Steps p.tables e below (T0.setTop (mkF m 164 #[.val (.int q0), .val (.int q1), .val (.int q2), .val (.int q3), .val (.ref oa), .val (.long (cb.toInt64)), .second, .val (.long (0 : Int64)), .second, .val (.long (((q0.toInt64) + (cb.toInt64)) + (0 : Int64))), .second, .unset, .unset] [(.long ((25 : Int64) + ((2 : Int64) * ((((q0.toInt64) + (cb.toInt64)) + (0 : Int64)) - (25 : Int64)))))])) _
        refine XS.lstore X0.here hx rfl (hb hby at_164) rfl (l' := #[.val (.int q0), .val (.int q1), .val (.int q2), .val (.int q3), .val (.ref oa), .val (.long (cb.toInt64)), .second, .val (.long (0 : Int64)), .second, .val (.long (((q0.toInt64) + (cb.toInt64)) + (0 : Int64))), .second, .val (.long ((25 : Int64) + ((2 : Int64) * ((((q0.toInt64) + (cb.toInt64)) + (0 : Int64)) - (25 : Int64))))), .second]) rfl ?_
        exact k
      · rw [show v16 = _ from hv16.trans (if_neg c140_15)] at k
        show Steps p.tables e below (T0.setTop (mkF m 140 #[.val (.int q0), .val (.int q1), .val (.int q2), .val (.int q3), .val (.ref oa), .val (.long (cb.toInt64)), .second, .val (.long (0 : Int64)), .second, .val (.long (((q0.toInt64) + (cb.toInt64)) + (0 : Int64))), .second, .unset, .unset] [(.int (XT.cmpL (((q0.toInt64) + (cb.toInt64)) + (0 : Int64)) (25 : Int64)))])) _
        refine XS.ifNo X0.here hx rfl (hb hby at_140) rfl (XT.ll_gt_f c140_15) ?_
        show Steps p.tables e below (T0.setTop (mkF m 143 #[.val (.int q0), .val (.int q1), .val (.int q2), .val (.int q3), .val (.ref oa), .val (.long (cb.toInt64)), .second, .val (.long (0 : Int64)), .second, .val (.long (((q0.toInt64) + (cb.toInt64)) + (0 : Int64))), .second, .unset, .unset] [])) _
        refine XS.lload X0.here hx rfl (hb hby at_143) rfl ?_
        show Steps p.tables e below (T0.setTop (mkF m 145 #[.val (.int q0), .val (.int q1), .val (.int q2), .val (.int q3), .val (.ref oa), .val (.long (cb.toInt64)), .second, .val (.long (0 : Int64)), .second, .val (.long (((q0.toInt64) + (cb.toInt64)) + (0 : Int64))), .second, .unset, .unset] [(.long (((q0.toInt64) + (cb.toInt64)) + (0 : Int64)))])) _
        refine XS.lstore X0.here hx rfl (hb hby at_145) rfl (l' := #[.val (.int q0), .val (.int q1), .val (.int q2), .val (.int q3), .val (.ref oa), .val (.long (cb.toInt64)), .second, .val (.long (0 : Int64)), .second, .val (.long (((q0.toInt64) + (cb.toInt64)) + (0 : Int64))), .second, .val (.long (((q0.toInt64) + (cb.toInt64)) + (0 : Int64))), .second]) rfl ?_
        show Steps p.tables e below (T0.setTop (mkF m 147 #[.val (.int q0), .val (.int q1), .val (.int q2), .val (.int q3), .val (.ref oa), .val (.long (cb.toInt64)), .second, .val (.long (0 : Int64)), .second, .val (.long (((q0.toInt64) + (cb.toInt64)) + (0 : Int64))), .second, .val (.long (((q0.toInt64) + (cb.toInt64)) + (0 : Int64))), .second] [])) _
        refine XS.goto X0.here hx rfl (pc0 := 147) (pc' := 166) rfl (hb hby at_147) (by decide) (by decide) ?_
        exact k)
    have pre18 : ∀ t, Steps p.tables e below (T0.setTop (mkF m 170 #[.val (.int q0), .val (.int q1), .val (.int q2), .val (.int q3), .val (.ref oa), .val (.long (cb.toInt64)), .second, .val (.long (0 : Int64)), .second, .val (.long (((q0.toInt64) + (cb.toInt64)) + (0 : Int64))), .second, .val (.long v16), .second] [(.int q2), (.ref oa), (.int q0)])) t → Steps p.tables e below (T0.setTop (mkF m 82 #[.val (.int q0), .val (.int q1), .val (.int q2), .val (.int q3), .val (.ref oa), .val (.long (cb.toInt64)), .second, .unset, .unset, .unset, .unset, .unset, .unset] [])) t := fun t k => pre17 _ (by
      show Steps p.tables e below (T0.setTop (mkF m 166 #[.val (.int q0), .val (.int q1), .val (.int q2), .val (.int q3), .val (.ref oa), .val (.long (cb.toInt64)), .second, .val (.long (0 : Int64)), .second, .val (.long (((q0.toInt64) + (cb.toInt64)) + (0 : Int64))), .second, .val (.long v16), .second] [])) _
      refine XS.iloadN X0.here hx rfl (hb hby at_166) rfl ?_
      show Steps p.tables e below (T0.setTop (mkF m 167 #[.val (.int q0), .val (.int q1), .val (.int q2), .val (.int q3), .val (.ref oa), .val (.long (cb.toInt64)), .second, .val (.long (0 : Int64)), .second, .val (.long (((q0.toInt64) + (cb.toInt64)) + (0 : Int64))), .second, .val (.long v16), .second] [(.int q0)])) _
      refine XS.aload X0.here hx rfl (hb hby at_167) rfl rfl ?_
      show Steps p.tables e below (T0.setTop (mkF m 169 #[.val (.int q0), .val (.int q1), .val (.int q2), .val (.int q3), .val (.ref oa), .val (.long (cb.toInt64)), .second, .val (.long (0 : Int64)), .second, .val (.long (((q0.toInt64) + (cb.toInt64)) + (0 : Int64))), .second, .val (.long v16), .second] [(.ref oa), (.int q0)])) _
      refine XS.iloadN X0.here hx rfl (hb hby at_169) rfl ?_
      exact k)
    obtain ⟨_, _, ⟨T19, L19, k19, n19⟩, -, X19, ⟨Lc19, hQ19, l19, y19, z19⟩, st19⟩ := Jvm.LawKit.callS X0 hx (y := (⟨"com/example/roundkeeper/roundkeeper/rules/segmentsd100/Segmentsd100", "stunThreshold", "(ILcom/example/roundkeeper/roundkeeper/rules/segmentsd100/Stats$Size;I)J"⟩ : MethodName)) hown (mvT hZ (hw _ (List.mem_of_getElem? (i := 6) rfl))) (mvT hZ (hw _ (List.mem_of_getElem? (i := 7) rfl))) (mvT hZ (hw _ (List.mem_of_getElem? (i := 8) rfl))) (mvT hZ (hw _ (List.mem_of_getElem? (i := 9) rfl))) (by decide) (backOf (W := 0) (own_stC l Z a0 hw [] q0 oa q2 cb h0 n0 Z0 F E) hZ (hw _ (List.mem_of_getElem? (i := 9) rfl)) (hw _ (List.mem_of_getElem? (i := 8) rfl)) (by decide) (by decide)) (g := (mkF m 170 #[.val (.int q0), .val (.int q1), .val (.int q2), .val (.int q3), .val (.ref oa), .val (.long (cb.toInt64)), .second, .val (.long (0 : Int64)), .second, .val (.long (((q0.toInt64) + (cb.toInt64)) + (0 : Int64))), .second, .val (.long v16), .second] [(.int q2), (.ref oa), (.int q0)])) rfl (by rw [hml]; rfl) (argsL := [(.int q0), (.ref oa), (.int q2)]) (rest := []) (lenOf own_pd__ILcom_example_roundkeeper_roundkeeper_rules_segmentsd100_Stats_Size_I_J rfl) rfl (by show 2 * 0 + _ ≤ _; exact Nat.le_of_eq rfl) (hb hby at_170) (fun _ _ => ⟨rfl, e0, (by decide : 0 + 0 ≤ _), (by decide : 0 + 0 ≤ _)⟩)
    dsimp only [Pt.U, Pt.locs, Pt.cells, Pt.slots] at X19 l19 y19 z19 st19 hQ19
    subst l19 y19 z19
    obtain ⟨rfl, N19q, e19⟩ := hQ19
    have N19 := Fr.app N0 N19q
    have pre20 : ∀ t, Steps p.tables e below (T19.setTop (mkF m 173 #[.val (.int q0), .val (.int q1), .val (.int q2), .val (.int q3), .val (.ref oa), .val (.long (cb.toInt64)), .second, .val (.long (0 : Int64)), .second, .val (.long (((q0.toInt64) + (cb.toInt64)) + (0 : Int64))), .second, .val (.long v16), .second] [(.long (own_st q0 cb q2))])) t → Steps p.tables e below (T0.setTop (mkF m 82 #[.val (.int q0), .val (.int q1), .val (.int q2), .val (.int q3), .val (.ref oa), .val (.long (cb.toInt64)), .second, .unset, .unset, .unset, .unset, .unset, .unset] [])) t := fun t k => pre18 _ (st19 _ k)
    have pre21 : ∀ t, Steps p.tables e below (T19.setTop (mkF m 184 #[.val (.int q0), .val (.int q1), .val (.int q2), .val (.int q3), .val (.ref oa), .val (.long (cb.toInt64)), .second, .val (.long (0 : Int64)), .second, .val (.long (((q0.toInt64) + (cb.toInt64)) + (0 : Int64))), .second, .val (.long v16), .second] [(.int (1 : Int32))])) t → Steps p.tables e below (T0.setTop (mkF m 82 #[.val (.int q0), .val (.int q1), .val (.int q2), .val (.int q3), .val (.ref oa), .val (.long (cb.toInt64)), .second, .unset, .unset, .unset, .unset, .unset, .unset] [])) t := fun t k => pre20 _ (by
      show Steps p.tables e below (T19.setTop (mkF m 173 #[.val (.int q0), .val (.int q1), .val (.int q2), .val (.int q3), .val (.ref oa), .val (.long (cb.toInt64)), .second, .val (.long (0 : Int64)), .second, .val (.long (((q0.toInt64) + (cb.toInt64)) + (0 : Int64))), .second, .val (.long v16), .second] [(.long (own_st q0 cb q2))])) _
      refine XS.lload X19.here hx rfl (hb hby at_173) rfl ?_
      show Steps p.tables e below (T19.setTop (mkF m 175 #[.val (.int q0), .val (.int q1), .val (.int q2), .val (.int q3), .val (.ref oa), .val (.long (cb.toInt64)), .second, .val (.long (0 : Int64)), .second, .val (.long (((q0.toInt64) + (cb.toInt64)) + (0 : Int64))), .second, .val (.long v16), .second] [(.long v16), (.long (own_st q0 cb q2))])) _
      refine XT.lcmp X19.here hx rfl (hb hby at_175) rfl ?_
      show Steps p.tables e below (T19.setTop (mkF m 176 #[.val (.int q0), .val (.int q1), .val (.int q2), .val (.int q3), .val (.ref oa), .val (.long (cb.toInt64)), .second, .val (.long (0 : Int64)), .second, .val (.long (((q0.toInt64) + (cb.toInt64)) + (0 : Int64))), .second, .val (.long v16), .second] [(.int (XT.cmpL (own_st q0 cb q2) v16))])) _
      refine XS.ifNo X19.here hx rfl (hb hby at_176) rfl (XT.ll_ne_f (own_no q0 cb q2 c88 hv16)) ?_
      show Steps p.tables e below (T19.setTop (mkF m 179 #[.val (.int q0), .val (.int q1), .val (.int q2), .val (.int q3), .val (.ref oa), .val (.long (cb.toInt64)), .second, .val (.long (0 : Int64)), .second, .val (.long (((q0.toInt64) + (cb.toInt64)) + (0 : Int64))), .second, .val (.long v16), .second] [])) _
      refine XT.iconstV X19.here hx rfl (1 : Int32) (hb hby at_179) rfl ?_
      show Steps p.tables e below (T19.setTop (mkF m 180 #[.val (.int q0), .val (.int q1), .val (.int q2), .val (.int q3), .val (.ref oa), .val (.long (cb.toInt64)), .second, .val (.long (0 : Int64)), .second, .val (.long (((q0.toInt64) + (cb.toInt64)) + (0 : Int64))), .second, .val (.long v16), .second] [(.int (1 : Int32))])) _
      refine XS.goto X19.here hx rfl (pc0 := 180) (pc' := 184) rfl (hb hby at_180) (by decide) (by decide) ?_
      exact k)
    exact ⟨T19, h0, _, #[.val (.int q0), .val (.int q1), .val (.int q2), .val (.int q3), .val (.ref oa), .val (.long (cb.toInt64)), .second, .val (.long (0 : Int64)), .second, .val (.long (((q0.toInt64) + (cb.toInt64)) + (0 : Int64))), .second, .val (.long v16), .second], X19, e19, N19, Z0, pre21⟩
theorem own_ef_own_law (m : MethodId) (p0 : Int32) (p1 : Int32) (p2 : Int32) : entryFrame m #[(.int p0), (.int p1), (.int p2)] maxLocals = mkF m 0 #[.val (.int p0), .val (.int p1), .val (.int p2), .unset, .unset, .unset, .unset, .unset, .unset, .unset, .unset, .unset, .unset] [] := by first | (simp [entryFrame, mkF, argsToLocals, Value.category, maxLocals]; done) | rfl
def Q_own_law (Z : State) (p0 : Int32) (p1 : Int32) (p2 : Int32) (o0 : Addr) (o1 : Addr) (o2 : Addr) (o3 : Addr) (o4 : Addr) (h0 : Heap) (n0 : Nat) (v : Option Value) (h : Heap) (L : List Loc) : Prop := v = some (.int 1) ∧ Fr n0 L
theorem own_pn_com_example_roundkeeper_roundkeeper_rules_segmentsd100_Segmentsd100StunThresholdPinLaw : plainName "com/example/roundkeeper/roundkeeper/rules/segmentsd100/Segmentsd100StunThresholdPinLaw" = true := by first | (simp [plainName, overriddenIn]; done) | decide +kernel
set_option maxRecDepth 65536 in
set_option maxHeartbeats 40000000 in
theorem own_law (l : Launch) (Z : State) (a0 : Array Value) (hw : ∀ d ∈ tables_1, d.before a0 Z = true) (ws : List Jvm.Cond) (p0 : Int32) (p1 : Int32) (p2 : Int32) (o0 : Addr) (o1 : Addr) (o2 : Addr) (o3 : Addr) (o4 : Addr) (h0 : Heap) (n0 : Nat) (Z0 : n0 ≤ h0.size) (S0 : Sta Z h0 "com/example/roundkeeper/roundkeeper/rules/segmentsd100/Stats$Size" "TINY" "Lcom/example/roundkeeper/roundkeeper/rules/segmentsd100/Stats$Size;" (.ref o0)) (F0 : Fld Z h0 o0 "com/example/roundkeeper/roundkeeper/rules/segmentsd100/Stats$Size" "constitution" "I" (.int (0 : Int32))) (E0 : Exa Z h0 o0 "com/example/roundkeeper/roundkeeper/rules/segmentsd100/Stats$Size") (S1 : Sta Z h0 "com/example/roundkeeper/roundkeeper/rules/segmentsd100/Stats$Size" "SMALL" "Lcom/example/roundkeeper/roundkeeper/rules/segmentsd100/Stats$Size;" (.ref o1)) (F1 : Fld Z h0 o1 "com/example/roundkeeper/roundkeeper/rules/segmentsd100/Stats$Size" "constitution" "I" (.int (0 : Int32))) (E1 : Exa Z h0 o1 "com/example/roundkeeper/roundkeeper/rules/segmentsd100/Stats$Size") (S2 : Sta Z h0 "com/example/roundkeeper/roundkeeper/rules/segmentsd100/Stats$Size" "MEDIUM" "Lcom/example/roundkeeper/roundkeeper/rules/segmentsd100/Stats$Size;" (.ref o2)) (F2 : Fld Z h0 o2 "com/example/roundkeeper/roundkeeper/rules/segmentsd100/Stats$Size" "constitution" "I" (.int (0 : Int32))) (E2 : Exa Z h0 o2 "com/example/roundkeeper/roundkeeper/rules/segmentsd100/Stats$Size") (S3 : Sta Z h0 "com/example/roundkeeper/roundkeeper/rules/segmentsd100/Stats$Size" "LARGE" "Lcom/example/roundkeeper/roundkeeper/rules/segmentsd100/Stats$Size;" (.ref o3)) (F3 : Fld Z h0 o3 "com/example/roundkeeper/roundkeeper/rules/segmentsd100/Stats$Size" "constitution" "I" (.int (2 : Int32))) (E3 : Exa Z h0 o3 "com/example/roundkeeper/roundkeeper/rules/segmentsd100/Stats$Size") (S4 : Sta Z h0 "com/example/roundkeeper/roundkeeper/rules/segmentsd100/Stats$Size" "GIANT" "Lcom/example/roundkeeper/roundkeeper/rules/segmentsd100/Stats$Size;" (.ref o4)) (F4 : Fld Z h0 o4 "com/example/roundkeeper/roundkeeper/rules/segmentsd100/Stats$Size" "constitution" "I" (.int (4 : Int32))) (E4 : Exa Z h0 o4 "com/example/roundkeeper/roundkeeper/rules/segmentsd100/Stats$Size") :
    MetFree l x (head1 (Jvm.Cond.code x code maxLocals ret :: ws) room_1) (fun a U => a = #[(.int p0), (.int p1), (.int p2)] ∧ Z.Warmed39 U.vm ∧ U.heap = h0) (fun _ _ _ _ _ => True) (fun _ U o U' => ∃ v L, o = .returned v ∧ Q_own_law Z p0 p1 p2 o0 o1 o2 o3 o4 h0 n0 v U'.heap L ∧ FrameEnd U o U' L room_1.cells room_1.slots) := by
  refine MetFree.of_bodySF (plainFor_of_name own_pn_com_example_roundkeeper_roundkeeper_rules_segmentsd100_Segmentsd100StunThresholdPinLaw) hisR ?_
  intro p e s m args below meth c s₁ Bd hml0 hP hK
  obtain ⟨rfl, hZ, hh⟩ := hP
  have hx := Bd.exec
  have hby := Bd.bytes
  have hml : c.maxLocals = 13 := hml0
  have hown : s.vm.findClass "com/example/roundkeeper/roundkeeper/rules/segmentsd100/Segmentsd100StunThresholdPinLaw" = some m.cls := findClass_of_methodNamed Bd.named
  have hnm := (name_of_methodNamed Bd.named Bd.method).1
  have X0 : Stand p l e room_1 s m #[(.int p0), (.int p1), (.int p2)] below meth c s₁ [] 0 0 := Stand.of_body Bd
  have e0 : s₁.heap = h0 := by rw [← hh, Bd.state]; rfl
  have N0 := Fr.nil n0
  have pre0 : ∀ t, Steps p.tables e below (s₁.setTop (mkF m 0 #[.val (.int p0), .val (.int p1), .val (.int p2), .unset, .unset, .unset, .unset, .unset, .unset, .unset, .unset, .unset, .unset] [])) t → Steps p.tables e below (s₁.setTop (entryFrame m #[(.int p0), (.int p1), (.int p2)] maxLocals)) t := fun t k => castTop (own_ef_own_law m p0 p1 p2) k
  have pre1 : ∀ t, Steps p.tables e below (s₁.setTop (mkF m 8 #[.val (.int p0), .val (.int p1), .val (.int p2), .val (.int ((p1 &&& (2147483647 : Int32)) % (5 : Int32))), .unset, .unset, .unset, .unset, .unset, .unset, .unset, .unset, .unset] [(.int ((p1 &&& (2147483647 : Int32)) % (5 : Int32)))])) t → Steps p.tables e below (s₁.setTop (entryFrame m #[(.int p0), (.int p1), (.int p2)] maxLocals)) t := fun t k => pre0 _ (by
    show Steps p.tables e below (s₁.setTop (mkF m 0 #[.val (.int p0), .val (.int p1), .val (.int p2), .unset, .unset, .unset, .unset, .unset, .unset, .unset, .unset, .unset, .unset] [])) _
    refine XS.iloadN X0.here hx rfl (hb hby at_0) rfl ?_
    show Steps p.tables e below (s₁.setTop (mkF m 1 #[.val (.int p0), .val (.int p1), .val (.int p2), .unset, .unset, .unset, .unset, .unset, .unset, .unset, .unset, .unset, .unset] [(.int p1)])) _
    refine X0.ldcI hx hown (mvT hZ (hw _ (List.mem_of_getElem? (i := 0) rfl))) rfl (hb hby at_1) ?_
    show Steps p.tables e below (s₁.setTop (mkF m 3 #[.val (.int p0), .val (.int p1), .val (.int p2), .unset, .unset, .unset, .unset, .unset, .unset, .unset, .unset, .unset, .unset] [(.int (2147483647 : Int32)), (.int p1)])) _
    refine XS.iand X0.here hx rfl (hb hby at_3) rfl ?_
    show Steps p.tables e below (s₁.setTop (mkF m 4 #[.val (.int p0), .val (.int p1), .val (.int p2), .unset, .unset, .unset, .unset, .unset, .unset, .unset, .unset, .unset, .unset] [(.int (p1 &&& (2147483647 : Int32)))])) _
    refine XT.iconstV X0.here hx rfl (5 : Int32) (hb hby at_4) rfl ?_
    show Steps p.tables e below (s₁.setTop (mkF m 5 #[.val (.int p0), .val (.int p1), .val (.int p2), .unset, .unset, .unset, .unset, .unset, .unset, .unset, .unset, .unset, .unset] [(.int (5 : Int32)), (.int (p1 &&& (2147483647 : Int32)))])) _
    refine iremM X0 hx rfl (hb hby at_5) rfl (by decide) ?_
    show Steps p.tables e below (s₁.setTop (mkF m 6 #[.val (.int p0), .val (.int p1), .val (.int p2), .unset, .unset, .unset, .unset, .unset, .unset, .unset, .unset, .unset, .unset] [(.int ((p1 &&& (2147483647 : Int32)) % (5 : Int32)))])) _
    refine XS.istoreN X0.here hx rfl (hb hby at_6) rfl (l' := #[.val (.int p0), .val (.int p1), .val (.int p2), .val (.int ((p1 &&& (2147483647 : Int32)) % (5 : Int32))), .unset, .unset, .unset, .unset, .unset, .unset, .unset, .unset, .unset]) rfl ?_
    show Steps p.tables e below (s₁.setTop (mkF m 7 #[.val (.int p0), .val (.int p1), .val (.int p2), .val (.int ((p1 &&& (2147483647 : Int32)) % (5 : Int32))), .unset, .unset, .unset, .unset, .unset, .unset, .unset, .unset, .unset] [])) _
    refine XS.iloadN X0.here hx rfl (hb hby at_7) rfl ?_
    exact k)
  obtain ⟨q3, hq3⟩ : ∃ z : Int32, z = ((p1 &&& (2147483647 : Int32)) % (5 : Int32)) := ⟨_, rfl⟩
  have pre2 : ∀ t, Steps p.tables e below (s₁.setTop (mkF m 8 #[.val (.int p0), .val (.int p1), .val (.int p2), .val (.int q3), .unset, .unset, .unset, .unset, .unset, .unset, .unset, .unset, .unset] [(.int q3)])) t → Steps p.tables e below (s₁.setTop (entryFrame m #[(.int p0), (.int p1), (.int p2)] maxLocals)) t := fun t k => pre1 _ (by rw [hq3] at k; exact k)
  by_cases c8 : q3 = 0
  · have pre3 : ∀ t, Steps p.tables e below (s₁.setTop (mkF m 11 #[.val (.int p0), .val (.int p1), .val (.int p2), .val (.int q3), .unset, .unset, .unset, .unset, .unset, .unset, .unset, .unset, .unset] [])) t → Steps p.tables e below (s₁.setTop (entryFrame m #[(.int p0), (.int p1), (.int p2)] maxLocals)) t := fun t k => pre2 _ (by
      show Steps p.tables e below (s₁.setTop (mkF m 8 #[.val (.int p0), .val (.int p1), .val (.int p2), .val (.int q3), .unset, .unset, .unset, .unset, .unset, .unset, .unset, .unset, .unset] [(.int q3)])) _
      refine XS.ifNo X0.here hx rfl (hb hby at_8) rfl (XT.i0_ne_f c8) ?_
      exact k)
    obtain ⟨T4, X4, e4, st4⟩ := getS X0 hx hZ hown (host := "") (hw _ (List.mem_of_getElem? (i := 28) rfl)) Via.refl e0 S0 (g := (mkF m 11 #[.val (.int p0), .val (.int p1), .val (.int p2), .val (.int q3), .unset, .unset, .unset, .unset, .unset, .unset, .unset, .unset, .unset] [])) rfl (hb hby at_11)
    have pre5 : ∀ t, Steps p.tables e below (T4.setTop (mkF m 14 #[.val (.int p0), .val (.int p1), .val (.int p2), .val (.int q3), .unset, .unset, .unset, .unset, .unset, .unset, .unset, .unset, .unset] [(.ref o0)])) t → Steps p.tables e below (s₁.setTop (entryFrame m #[(.int p0), (.int p1), (.int p2)] maxLocals)) t := fun t k => pre3 _ (st4 _ k)
    have pre6 : ∀ t, Steps p.tables e below (T4.setTop (mkF m 82 #[.val (.int p0), .val (.int p1), .val (.int p2), .val (.int q3), .val (.ref o0), .val (.long (0 : Int64)), .second, .unset, .unset, .unset, .unset, .unset, .unset] [])) t → Steps p.tables e below (s₁.setTop (entryFrame m #[(.int p0), (.int p1), (.int p2)] maxLocals)) t := fun t k => pre5 _ (by
      show Steps p.tables e below (T4.setTop (mkF m 14 #[.val (.int p0), .val (.int p1), .val (.int p2), .val (.int q3), .unset, .unset, .unset, .unset, .unset, .unset, .unset, .unset, .unset] [(.ref o0)])) _
      refine XS.astore X4.here hx rfl (hb hby at_14) rfl rfl (l' := #[.val (.int p0), .val (.int p1), .val (.int p2), .val (.int q3), .val (.ref o0), .unset, .unset, .unset, .unset, .unset, .unset, .unset, .unset]) rfl ?_
      show Steps p.tables e below (T4.setTop (mkF m 16 #[.val (.int p0), .val (.int p1), .val (.int p2), .val (.int q3), .val (.ref o0), .unset, .unset, .unset, .unset, .unset, .unset, .unset, .unset] [])) _
      refine XT.lconstV X4.here hx rfl (0 : Int64) (hb hby at_16) rfl ?_
      show Steps p.tables e below (T4.setTop (mkF m 17 #[.val (.int p0), .val (.int p1), .val (.int p2), .val (.int q3), .val (.ref o0), .unset, .unset, .unset, .unset, .unset, .unset, .unset, .unset] [(.long (0 : Int64))])) _
      refine XS.lstore X4.here hx rfl (hb hby at_17) rfl (l' := #[.val (.int p0), .val (.int p1), .val (.int p2), .val (.int q3), .val (.ref o0), .val (.long (0 : Int64)), .second, .unset, .unset, .unset, .unset, .unset, .unset]) rfl ?_
      show Steps p.tables e below (T4.setTop (mkF m 19 #[.val (.int p0), .val (.int p1), .val (.int p2), .val (.int q3), .val (.ref o0), .val (.long (0 : Int64)), .second, .unset, .unset, .unset, .unset, .unset, .unset] [])) _
      refine XS.goto X4.here hx rfl (pc0 := 19) (pc' := 82) rfl (hb hby at_19) (by decide) (by decide) ?_
      exact k)
    obtain ⟨T7, h7, locs7, Ls7, X7, e7, N7, Z7, st7⟩ := own_tail p0 p1 p2 q3 o0 (0 : Int32) (0 : Int64) n0 X4 hx hZ hw hby hml hown e4 Z0 N0 F0 E0 (by decide)
    have pre8 : ∀ t, Steps p.tables e below (T7.setTop (mkF m 184 Ls7 [(.int (1 : Int32))])) t → Steps p.tables e below (s₁.setTop (entryFrame m #[(.int p0), (.int p1), (.int p2)] maxLocals)) t := fun t k => pre6 _ (st7 _ k)
    obtain ⟨fs, hr, hrun, hended, hW, hsame⟩ := X7.leave (v := some (.int (1 : Int32))) (fun h => by rw [Bd.returns] at h; cases h)
    refine ⟨_, _, pre8 _ ?_, hrun, hended, _, _, rfl, ?_, ⟨_, rfl⟩, hW, hsame.mono (by decide) (by decide)⟩
    · show Steps p.tables e below (T7.setTop (mkF m 184 Ls7 [(.int (1 : Int32))])) _
      exact retN X7 hx (t := .boolean) Bd.returns (by simp) (hb hby at_184) hr
    · show Q_own_law Z p0 p1 p2 o0 o1 o2 o3 o4 h0 n0 _ T7.heap _
      rw [e7]
      exact ⟨rfl, N7⟩
  · have pre9 : ∀ t, Steps p.tables e below (s₁.setTop (mkF m 24 #[.val (.int p0), .val (.int p1), .val (.int p2), .val (.int q3), .unset, .unset, .unset, .unset, .unset, .unset, .unset, .unset, .unset] [(.int (1 : Int32)), (.int q3)])) t → Steps p.tables e below (s₁.setTop (entryFrame m #[(.int p0), (.int p1), (.int p2)] maxLocals)) t := fun t k => pre2 _ (by
      show Steps p.tables e below (s₁.setTop (mkF m 8 #[.val (.int p0), .val (.int p1), .val (.int p2), .val (.int q3), .unset, .unset, .unset, .unset, .unset, .unset, .unset, .unset, .unset] [(.int q3)])) _
      refine XS.ifYes X0.here hx rfl (pc0 := 8) (pc' := 22) rfl (hb hby at_8) rfl (XT.i0_ne_t c8) (by decide) (by decide) ?_
      show Steps p.tables e below (s₁.setTop (mkF m 22 #[.val (.int p0), .val (.int p1), .val (.int p2), .val (.int q3), .unset, .unset, .unset, .unset, .unset, .unset, .unset, .unset, .unset] [])) _
      refine XS.iloadN X0.here hx rfl (hb hby at_22) rfl ?_
      show Steps p.tables e below (s₁.setTop (mkF m 23 #[.val (.int p0), .val (.int p1), .val (.int p2), .val (.int q3), .unset, .unset, .unset, .unset, .unset, .unset, .unset, .unset, .unset] [(.int q3)])) _
      refine XT.iconstV X0.here hx rfl (1 : Int32) (hb hby at_23) rfl ?_
      exact k)
    by_cases c24 : q3 = (1 : Int32)
    · have pre10 : ∀ t, Steps p.tables e below (s₁.setTop (mkF m 27 #[.val (.int p0), .val (.int p1), .val (.int p2), .val (.int q3), .unset, .unset, .unset, .unset, .unset, .unset, .unset, .unset, .unset] [])) t → Steps p.tables e below (s₁.setTop (entryFrame m #[(.int p0), (.int p1), (.int p2)] maxLocals)) t := fun t k => pre9 _ (by
        show Steps p.tables e below (s₁.setTop (mkF m 24 #[.val (.int p0), .val (.int p1), .val (.int p2), .val (.int q3), .unset, .unset, .unset, .unset, .unset, .unset, .unset, .unset, .unset] [(.int (1 : Int32)), (.int q3)])) _
        refine XS.icmpNo X0.here hx rfl (hb hby at_24) rfl (XT.ii_ne_f c24) ?_
        exact k)
      obtain ⟨T11, X11, e11, st11⟩ := getS X0 hx hZ hown (host := "") (hw _ (List.mem_of_getElem? (i := 24) rfl)) Via.refl e0 S1 (g := (mkF m 27 #[.val (.int p0), .val (.int p1), .val (.int p2), .val (.int q3), .unset, .unset, .unset, .unset, .unset, .unset, .unset, .unset, .unset] [])) rfl (hb hby at_27)
      have pre12 : ∀ t, Steps p.tables e below (T11.setTop (mkF m 30 #[.val (.int p0), .val (.int p1), .val (.int p2), .val (.int q3), .unset, .unset, .unset, .unset, .unset, .unset, .unset, .unset, .unset] [(.ref o1)])) t → Steps p.tables e below (s₁.setTop (entryFrame m #[(.int p0), (.int p1), (.int p2)] maxLocals)) t := fun t k => pre10 _ (st11 _ k)
      have pre13 : ∀ t, Steps p.tables e below (T11.setTop (mkF m 82 #[.val (.int p0), .val (.int p1), .val (.int p2), .val (.int q3), .val (.ref o1), .val (.long (0 : Int64)), .second, .unset, .unset, .unset, .unset, .unset, .unset] [])) t → Steps p.tables e below (s₁.setTop (entryFrame m #[(.int p0), (.int p1), (.int p2)] maxLocals)) t := fun t k => pre12 _ (by
        show Steps p.tables e below (T11.setTop (mkF m 30 #[.val (.int p0), .val (.int p1), .val (.int p2), .val (.int q3), .unset, .unset, .unset, .unset, .unset, .unset, .unset, .unset, .unset] [(.ref o1)])) _
        refine XS.astore X11.here hx rfl (hb hby at_30) rfl rfl (l' := #[.val (.int p0), .val (.int p1), .val (.int p2), .val (.int q3), .val (.ref o1), .unset, .unset, .unset, .unset, .unset, .unset, .unset, .unset]) rfl ?_
        show Steps p.tables e below (T11.setTop (mkF m 32 #[.val (.int p0), .val (.int p1), .val (.int p2), .val (.int q3), .val (.ref o1), .unset, .unset, .unset, .unset, .unset, .unset, .unset, .unset] [])) _
        refine XT.lconstV X11.here hx rfl (0 : Int64) (hb hby at_32) rfl ?_
        show Steps p.tables e below (T11.setTop (mkF m 33 #[.val (.int p0), .val (.int p1), .val (.int p2), .val (.int q3), .val (.ref o1), .unset, .unset, .unset, .unset, .unset, .unset, .unset, .unset] [(.long (0 : Int64))])) _
        refine XS.lstore X11.here hx rfl (hb hby at_33) rfl (l' := #[.val (.int p0), .val (.int p1), .val (.int p2), .val (.int q3), .val (.ref o1), .val (.long (0 : Int64)), .second, .unset, .unset, .unset, .unset, .unset, .unset]) rfl ?_
        show Steps p.tables e below (T11.setTop (mkF m 35 #[.val (.int p0), .val (.int p1), .val (.int p2), .val (.int q3), .val (.ref o1), .val (.long (0 : Int64)), .second, .unset, .unset, .unset, .unset, .unset, .unset] [])) _
        refine XS.goto X11.here hx rfl (pc0 := 35) (pc' := 82) rfl (hb hby at_35) (by decide) (by decide) ?_
        exact k)
      obtain ⟨T14, h14, locs14, Ls14, X14, e14, N14, Z14, st14⟩ := own_tail p0 p1 p2 q3 o1 (0 : Int32) (0 : Int64) n0 X11 hx hZ hw hby hml hown e11 Z0 N0 F1 E1 (by decide)
      have pre15 : ∀ t, Steps p.tables e below (T14.setTop (mkF m 184 Ls14 [(.int (1 : Int32))])) t → Steps p.tables e below (s₁.setTop (entryFrame m #[(.int p0), (.int p1), (.int p2)] maxLocals)) t := fun t k => pre13 _ (st14 _ k)
      obtain ⟨fs, hr, hrun, hended, hW, hsame⟩ := X14.leave (v := some (.int (1 : Int32))) (fun h => by rw [Bd.returns] at h; cases h)
      refine ⟨_, _, pre15 _ ?_, hrun, hended, _, _, rfl, ?_, ⟨_, rfl⟩, hW, hsame.mono (by decide) (by decide)⟩
      · show Steps p.tables e below (T14.setTop (mkF m 184 Ls14 [(.int (1 : Int32))])) _
        exact retN X14 hx (t := .boolean) Bd.returns (by simp) (hb hby at_184) hr
      · show Q_own_law Z p0 p1 p2 o0 o1 o2 o3 o4 h0 n0 _ T14.heap _
        rw [e14]
        exact ⟨rfl, N14⟩
    · have pre16 : ∀ t, Steps p.tables e below (s₁.setTop (mkF m 40 #[.val (.int p0), .val (.int p1), .val (.int p2), .val (.int q3), .unset, .unset, .unset, .unset, .unset, .unset, .unset, .unset, .unset] [(.int (2 : Int32)), (.int q3)])) t → Steps p.tables e below (s₁.setTop (entryFrame m #[(.int p0), (.int p1), (.int p2)] maxLocals)) t := fun t k => pre9 _ (by
        show Steps p.tables e below (s₁.setTop (mkF m 24 #[.val (.int p0), .val (.int p1), .val (.int p2), .val (.int q3), .unset, .unset, .unset, .unset, .unset, .unset, .unset, .unset, .unset] [(.int (1 : Int32)), (.int q3)])) _
        refine XS.icmpYes X0.here hx rfl (pc0 := 24) (pc' := 38) rfl (hb hby at_24) rfl (XT.ii_ne_t c24) (by decide) (by decide) ?_
        show Steps p.tables e below (s₁.setTop (mkF m 38 #[.val (.int p0), .val (.int p1), .val (.int p2), .val (.int q3), .unset, .unset, .unset, .unset, .unset, .unset, .unset, .unset, .unset] [])) _
        refine XS.iloadN X0.here hx rfl (hb hby at_38) rfl ?_
        show Steps p.tables e below (s₁.setTop (mkF m 39 #[.val (.int p0), .val (.int p1), .val (.int p2), .val (.int q3), .unset, .unset, .unset, .unset, .unset, .unset, .unset, .unset, .unset] [(.int q3)])) _
        refine XT.iconstV X0.here hx rfl (2 : Int32) (hb hby at_39) rfl ?_
        exact k)
      by_cases c40 : q3 = (2 : Int32)
      · have pre17 : ∀ t, Steps p.tables e below (s₁.setTop (mkF m 43 #[.val (.int p0), .val (.int p1), .val (.int p2), .val (.int q3), .unset, .unset, .unset, .unset, .unset, .unset, .unset, .unset, .unset] [])) t → Steps p.tables e below (s₁.setTop (entryFrame m #[(.int p0), (.int p1), (.int p2)] maxLocals)) t := fun t k => pre16 _ (by
          show Steps p.tables e below (s₁.setTop (mkF m 40 #[.val (.int p0), .val (.int p1), .val (.int p2), .val (.int q3), .unset, .unset, .unset, .unset, .unset, .unset, .unset, .unset, .unset] [(.int (2 : Int32)), (.int q3)])) _
          refine XS.icmpNo X0.here hx rfl (hb hby at_40) rfl (XT.ii_ne_f c40) ?_
          exact k)
        obtain ⟨T18, X18, e18, st18⟩ := getS X0 hx hZ hown (host := "") (hw _ (List.mem_of_getElem? (i := 18) rfl)) Via.refl e0 S2 (g := (mkF m 43 #[.val (.int p0), .val (.int p1), .val (.int p2), .val (.int q3), .unset, .unset, .unset, .unset, .unset, .unset, .unset, .unset, .unset] [])) rfl (hb hby at_43)
        have pre19 : ∀ t, Steps p.tables e below (T18.setTop (mkF m 46 #[.val (.int p0), .val (.int p1), .val (.int p2), .val (.int q3), .unset, .unset, .unset, .unset, .unset, .unset, .unset, .unset, .unset] [(.ref o2)])) t → Steps p.tables e below (s₁.setTop (entryFrame m #[(.int p0), (.int p1), (.int p2)] maxLocals)) t := fun t k => pre17 _ (st18 _ k)
        have pre20 : ∀ t, Steps p.tables e below (T18.setTop (mkF m 82 #[.val (.int p0), .val (.int p1), .val (.int p2), .val (.int q3), .val (.ref o2), .val (.long (0 : Int64)), .second, .unset, .unset, .unset, .unset, .unset, .unset] [])) t → Steps p.tables e below (s₁.setTop (entryFrame m #[(.int p0), (.int p1), (.int p2)] maxLocals)) t := fun t k => pre19 _ (by
          show Steps p.tables e below (T18.setTop (mkF m 46 #[.val (.int p0), .val (.int p1), .val (.int p2), .val (.int q3), .unset, .unset, .unset, .unset, .unset, .unset, .unset, .unset, .unset] [(.ref o2)])) _
          refine XS.astore X18.here hx rfl (hb hby at_46) rfl rfl (l' := #[.val (.int p0), .val (.int p1), .val (.int p2), .val (.int q3), .val (.ref o2), .unset, .unset, .unset, .unset, .unset, .unset, .unset, .unset]) rfl ?_
          show Steps p.tables e below (T18.setTop (mkF m 48 #[.val (.int p0), .val (.int p1), .val (.int p2), .val (.int q3), .val (.ref o2), .unset, .unset, .unset, .unset, .unset, .unset, .unset, .unset] [])) _
          refine XT.lconstV X18.here hx rfl (0 : Int64) (hb hby at_48) rfl ?_
          show Steps p.tables e below (T18.setTop (mkF m 49 #[.val (.int p0), .val (.int p1), .val (.int p2), .val (.int q3), .val (.ref o2), .unset, .unset, .unset, .unset, .unset, .unset, .unset, .unset] [(.long (0 : Int64))])) _
          refine XS.lstore X18.here hx rfl (hb hby at_49) rfl (l' := #[.val (.int p0), .val (.int p1), .val (.int p2), .val (.int q3), .val (.ref o2), .val (.long (0 : Int64)), .second, .unset, .unset, .unset, .unset, .unset, .unset]) rfl ?_
          show Steps p.tables e below (T18.setTop (mkF m 51 #[.val (.int p0), .val (.int p1), .val (.int p2), .val (.int q3), .val (.ref o2), .val (.long (0 : Int64)), .second, .unset, .unset, .unset, .unset, .unset, .unset] [])) _
          refine XS.goto X18.here hx rfl (pc0 := 51) (pc' := 82) rfl (hb hby at_51) (by decide) (by decide) ?_
          exact k)
        obtain ⟨T21, h21, locs21, Ls21, X21, e21, N21, Z21, st21⟩ := own_tail p0 p1 p2 q3 o2 (0 : Int32) (0 : Int64) n0 X18 hx hZ hw hby hml hown e18 Z0 N0 F2 E2 (by decide)
        have pre22 : ∀ t, Steps p.tables e below (T21.setTop (mkF m 184 Ls21 [(.int (1 : Int32))])) t → Steps p.tables e below (s₁.setTop (entryFrame m #[(.int p0), (.int p1), (.int p2)] maxLocals)) t := fun t k => pre20 _ (st21 _ k)
        obtain ⟨fs, hr, hrun, hended, hW, hsame⟩ := X21.leave (v := some (.int (1 : Int32))) (fun h => by rw [Bd.returns] at h; cases h)
        refine ⟨_, _, pre22 _ ?_, hrun, hended, _, _, rfl, ?_, ⟨_, rfl⟩, hW, hsame.mono (by decide) (by decide)⟩
        · show Steps p.tables e below (T21.setTop (mkF m 184 Ls21 [(.int (1 : Int32))])) _
          exact retN X21 hx (t := .boolean) Bd.returns (by simp) (hb hby at_184) hr
        · show Q_own_law Z p0 p1 p2 o0 o1 o2 o3 o4 h0 n0 _ T21.heap _
          rw [e21]
          exact ⟨rfl, N21⟩
      · have pre23 : ∀ t, Steps p.tables e below (s₁.setTop (mkF m 56 #[.val (.int p0), .val (.int p1), .val (.int p2), .val (.int q3), .unset, .unset, .unset, .unset, .unset, .unset, .unset, .unset, .unset] [(.int (3 : Int32)), (.int q3)])) t → Steps p.tables e below (s₁.setTop (entryFrame m #[(.int p0), (.int p1), (.int p2)] maxLocals)) t := fun t k => pre16 _ (by
          show Steps p.tables e below (s₁.setTop (mkF m 40 #[.val (.int p0), .val (.int p1), .val (.int p2), .val (.int q3), .unset, .unset, .unset, .unset, .unset, .unset, .unset, .unset, .unset] [(.int (2 : Int32)), (.int q3)])) _
          refine XS.icmpYes X0.here hx rfl (pc0 := 40) (pc' := 54) rfl (hb hby at_40) rfl (XT.ii_ne_t c40) (by decide) (by decide) ?_
          show Steps p.tables e below (s₁.setTop (mkF m 54 #[.val (.int p0), .val (.int p1), .val (.int p2), .val (.int q3), .unset, .unset, .unset, .unset, .unset, .unset, .unset, .unset, .unset] [])) _
          refine XS.iloadN X0.here hx rfl (hb hby at_54) rfl ?_
          show Steps p.tables e below (s₁.setTop (mkF m 55 #[.val (.int p0), .val (.int p1), .val (.int p2), .val (.int q3), .unset, .unset, .unset, .unset, .unset, .unset, .unset, .unset, .unset] [(.int q3)])) _
          refine XT.iconstV X0.here hx rfl (3 : Int32) (hb hby at_55) rfl ?_
          exact k)
        by_cases c56 : q3 = (3 : Int32)
        · have pre24 : ∀ t, Steps p.tables e below (s₁.setTop (mkF m 59 #[.val (.int p0), .val (.int p1), .val (.int p2), .val (.int q3), .unset, .unset, .unset, .unset, .unset, .unset, .unset, .unset, .unset] [])) t → Steps p.tables e below (s₁.setTop (entryFrame m #[(.int p0), (.int p1), (.int p2)] maxLocals)) t := fun t k => pre23 _ (by
            show Steps p.tables e below (s₁.setTop (mkF m 56 #[.val (.int p0), .val (.int p1), .val (.int p2), .val (.int q3), .unset, .unset, .unset, .unset, .unset, .unset, .unset, .unset, .unset] [(.int (3 : Int32)), (.int q3)])) _
            refine XS.icmpNo X0.here hx rfl (hb hby at_56) rfl (XT.ii_ne_f c56) ?_
            exact k)
          obtain ⟨T25, X25, e25, st25⟩ := getS X0 hx hZ hown (host := "") (hw _ (List.mem_of_getElem? (i := 1) rfl)) Via.refl e0 S3 (g := (mkF m 59 #[.val (.int p0), .val (.int p1), .val (.int p2), .val (.int q3), .unset, .unset, .unset, .unset, .unset, .unset, .unset, .unset, .unset] [])) rfl (hb hby at_59)
          have pre26 : ∀ t, Steps p.tables e below (T25.setTop (mkF m 62 #[.val (.int p0), .val (.int p1), .val (.int p2), .val (.int q3), .unset, .unset, .unset, .unset, .unset, .unset, .unset, .unset, .unset] [(.ref o3)])) t → Steps p.tables e below (s₁.setTop (entryFrame m #[(.int p0), (.int p1), (.int p2)] maxLocals)) t := fun t k => pre24 _ (st25 _ k)
          have pre27 : ∀ t, Steps p.tables e below (T25.setTop (mkF m 82 #[.val (.int p0), .val (.int p1), .val (.int p2), .val (.int q3), .val (.ref o3), .val (.long (2 : Int64)), .second, .unset, .unset, .unset, .unset, .unset, .unset] [])) t → Steps p.tables e below (s₁.setTop (entryFrame m #[(.int p0), (.int p1), (.int p2)] maxLocals)) t := fun t k => pre26 _ (by
            show Steps p.tables e below (T25.setTop (mkF m 62 #[.val (.int p0), .val (.int p1), .val (.int p2), .val (.int q3), .unset, .unset, .unset, .unset, .unset, .unset, .unset, .unset, .unset] [(.ref o3)])) _
            refine XS.astore X25.here hx rfl (hb hby at_62) rfl rfl (l' := #[.val (.int p0), .val (.int p1), .val (.int p2), .val (.int q3), .val (.ref o3), .unset, .unset, .unset, .unset, .unset, .unset, .unset, .unset]) rfl ?_
            show Steps p.tables e below (T25.setTop (mkF m 64 #[.val (.int p0), .val (.int p1), .val (.int p2), .val (.int q3), .val (.ref o3), .unset, .unset, .unset, .unset, .unset, .unset, .unset, .unset] [])) _
            refine X25.ldc2J hx hown (mvT hZ (hw _ (List.mem_of_getElem? (i := 4) rfl))) rfl (hb hby at_64) ?_
            show Steps p.tables e below (T25.setTop (mkF m 67 #[.val (.int p0), .val (.int p1), .val (.int p2), .val (.int q3), .val (.ref o3), .unset, .unset, .unset, .unset, .unset, .unset, .unset, .unset] [(.long (2 : Int64))])) _
            refine XS.lstore X25.here hx rfl (hb hby at_67) rfl (l' := #[.val (.int p0), .val (.int p1), .val (.int p2), .val (.int q3), .val (.ref o3), .val (.long (2 : Int64)), .second, .unset, .unset, .unset, .unset, .unset, .unset]) rfl ?_
            show Steps p.tables e below (T25.setTop (mkF m 69 #[.val (.int p0), .val (.int p1), .val (.int p2), .val (.int q3), .val (.ref o3), .val (.long (2 : Int64)), .second, .unset, .unset, .unset, .unset, .unset, .unset] [])) _
            refine XS.goto X25.here hx rfl (pc0 := 69) (pc' := 82) rfl (hb hby at_69) (by decide) (by decide) ?_
            exact k)
          obtain ⟨T28, h28, locs28, Ls28, X28, e28, N28, Z28, st28⟩ := own_tail p0 p1 p2 q3 o3 (2 : Int32) (2 : Int64) n0 X25 hx hZ hw hby hml hown e25 Z0 N0 F3 E3 (by decide)
          have pre29 : ∀ t, Steps p.tables e below (T28.setTop (mkF m 184 Ls28 [(.int (1 : Int32))])) t → Steps p.tables e below (s₁.setTop (entryFrame m #[(.int p0), (.int p1), (.int p2)] maxLocals)) t := fun t k => pre27 _ (st28 _ k)
          obtain ⟨fs, hr, hrun, hended, hW, hsame⟩ := X28.leave (v := some (.int (1 : Int32))) (fun h => by rw [Bd.returns] at h; cases h)
          refine ⟨_, _, pre29 _ ?_, hrun, hended, _, _, rfl, ?_, ⟨_, rfl⟩, hW, hsame.mono (by decide) (by decide)⟩
          · show Steps p.tables e below (T28.setTop (mkF m 184 Ls28 [(.int (1 : Int32))])) _
            exact retN X28 hx (t := .boolean) Bd.returns (by simp) (hb hby at_184) hr
          · show Q_own_law Z p0 p1 p2 o0 o1 o2 o3 o4 h0 n0 _ T28.heap _
            rw [e28]
            exact ⟨rfl, N28⟩
        · have pre30 : ∀ t, Steps p.tables e below (s₁.setTop (mkF m 72 #[.val (.int p0), .val (.int p1), .val (.int p2), .val (.int q3), .unset, .unset, .unset, .unset, .unset, .unset, .unset, .unset, .unset] [])) t → Steps p.tables e below (s₁.setTop (entryFrame m #[(.int p0), (.int p1), (.int p2)] maxLocals)) t := fun t k => pre23 _ (by
            show Steps p.tables e below (s₁.setTop (mkF m 56 #[.val (.int p0), .val (.int p1), .val (.int p2), .val (.int q3), .unset, .unset, .unset, .unset, .unset, .unset, .unset, .unset, .unset] [(.int (3 : Int32)), (.int q3)])) _
            refine XS.icmpYes X0.here hx rfl (pc0 := 56) (pc' := 72) rfl (hb hby at_56) rfl (XT.ii_ne_t c56) (by decide) (by decide) ?_
            exact k)
          obtain ⟨T31, X31, e31, st31⟩ := getS X0 hx hZ hown (host := "") (hw _ (List.mem_of_getElem? (i := 20) rfl)) Via.refl e0 S4 (g := (mkF m 72 #[.val (.int p0), .val (.int p1), .val (.int p2), .val (.int q3), .unset, .unset, .unset, .unset, .unset, .unset, .unset, .unset, .unset] [])) rfl (hb hby at_72)
          have pre32 : ∀ t, Steps p.tables e below (T31.setTop (mkF m 75 #[.val (.int p0), .val (.int p1), .val (.int p2), .val (.int q3), .unset, .unset, .unset, .unset, .unset, .unset, .unset, .unset, .unset] [(.ref o4)])) t → Steps p.tables e below (s₁.setTop (entryFrame m #[(.int p0), (.int p1), (.int p2)] maxLocals)) t := fun t k => pre30 _ (st31 _ k)
          have pre33 : ∀ t, Steps p.tables e below (T31.setTop (mkF m 82 #[.val (.int p0), .val (.int p1), .val (.int p2), .val (.int q3), .val (.ref o4), .val (.long (4 : Int64)), .second, .unset, .unset, .unset, .unset, .unset, .unset] [])) t → Steps p.tables e below (s₁.setTop (entryFrame m #[(.int p0), (.int p1), (.int p2)] maxLocals)) t := fun t k => pre32 _ (by
            show Steps p.tables e below (T31.setTop (mkF m 75 #[.val (.int p0), .val (.int p1), .val (.int p2), .val (.int q3), .unset, .unset, .unset, .unset, .unset, .unset, .unset, .unset, .unset] [(.ref o4)])) _
            refine XS.astore X31.here hx rfl (hb hby at_75) rfl rfl (l' := #[.val (.int p0), .val (.int p1), .val (.int p2), .val (.int q3), .val (.ref o4), .unset, .unset, .unset, .unset, .unset, .unset, .unset, .unset]) rfl ?_
            show Steps p.tables e below (T31.setTop (mkF m 77 #[.val (.int p0), .val (.int p1), .val (.int p2), .val (.int q3), .val (.ref o4), .unset, .unset, .unset, .unset, .unset, .unset, .unset, .unset] [])) _
            refine X31.ldc2J hx hown (mvT hZ (hw _ (List.mem_of_getElem? (i := 22) rfl))) rfl (hb hby at_77) ?_
            show Steps p.tables e below (T31.setTop (mkF m 80 #[.val (.int p0), .val (.int p1), .val (.int p2), .val (.int q3), .val (.ref o4), .unset, .unset, .unset, .unset, .unset, .unset, .unset, .unset] [(.long (4 : Int64))])) _
            refine XS.lstore X31.here hx rfl (hb hby at_80) rfl (l' := #[.val (.int p0), .val (.int p1), .val (.int p2), .val (.int q3), .val (.ref o4), .val (.long (4 : Int64)), .second, .unset, .unset, .unset, .unset, .unset, .unset]) rfl ?_
            exact k)
          obtain ⟨T34, h34, locs34, Ls34, X34, e34, N34, Z34, st34⟩ := own_tail p0 p1 p2 q3 o4 (4 : Int32) (4 : Int64) n0 X31 hx hZ hw hby hml hown e31 Z0 N0 F4 E4 (by decide)
          have pre35 : ∀ t, Steps p.tables e below (T34.setTop (mkF m 184 Ls34 [(.int (1 : Int32))])) t → Steps p.tables e below (s₁.setTop (entryFrame m #[(.int p0), (.int p1), (.int p2)] maxLocals)) t := fun t k => pre33 _ (st34 _ k)
          obtain ⟨fs, hr, hrun, hended, hW, hsame⟩ := X34.leave (v := some (.int (1 : Int32))) (fun h => by rw [Bd.returns] at h; cases h)
          refine ⟨_, _, pre35 _ ?_, hrun, hended, _, _, rfl, ?_, ⟨_, rfl⟩, hW, hsame.mono (by decide) (by decide)⟩
          · show Steps p.tables e below (T34.setTop (mkF m 184 Ls34 [(.int (1 : Int32))])) _
            exact retN X34 hx (t := .boolean) Bd.returns (by simp) (hb hby at_184) hr
          · show Q_own_law Z p0 p1 p2 o0 o1 o2 o3 o4 h0 n0 _ T34.heap _
            rw [e34]
            exact ⟨rfl, N34⟩
set_option maxRecDepth 65536 in
set_option maxHeartbeats 40000000 in
theorem comes_1 {Post : Tables → Env → Array Value → State → Outcome → State → Prop} (hpost : ∀ tb e args s v u, (limb_1_1.after args s (.returned v) u = true ∧ limb_1_2.after args s (.returned v) u = true ∧ True) → FrameEnd s (.returned v) u (Jvm.fieldLocs frame_1_writes args s ++ Jvm.arrayLocs frame_1_arrays args s ++ Jvm.staticLocs frame_1_statics s) 0 0 → Post tb e args s (.returned v) u) :
    ArmFor flags0 classFile x code maxLocals ret World_1 tables_1 room_1 Calls_1 rest_1 Pre_1 Post := by
  intro l hfl _ _ p e ha hc hk s m args below hf hA hF happ hP
  obtain ⟨hcalls, hrest, hpre⟩ := hP
  obtain ⟨-, -, -, hnamed, -, -, -, hat⟩ := (Spec.applies_iff hf).mp happ
  obtain ⟨hg, hn⟩ := and_e (Cond.before_iff.mp (show (Jvm.Cond.and given_1 narrow_1).before args s = true from hpre))
  obtain ⟨h1, g0⟩ := and_e hg
  obtain ⟨w0, w1, w2, rfl⟩ : ∃ w0 w1 w2 : Value, args = #[w0, w1, w2] := by
    have hs : args.size = 3 := by simpa [Cond.value, given_1] using h1
    obtain ⟨L⟩ := args
    match L, hs with
    | [w0, w1, w2], _ => exact ⟨w0, w1, w2, rfl⟩
  have hw := fun d (hd : d ∈ tables_1) => atoms_spec (ws := Jvm.Cond.code x code maxLocals ret :: tables_1) hat d (List.mem_cons_of_mem _ hd)
  have hfit : Fit s := fun {y c} hc i hi => by
    obtain ⟨ha, rfl⟩ := Array.getElem?_eq_some_iff.mp hc
    have q := List.all_eq_true.mp ((Array.all_eq_true_iff_forall_mem.mp hF) _ (Array.getElem_mem ha)) i (List.mem_range.mpr hi)
    simpa [Array.getElem?_eq_getElem hi] using q
  obtain ⟨t0, g1⟩ := and_e g0
  obtain ⟨i0, q0⟩ := is_v t0
  obtain rfl : w0 = (.int i0) := Option.some.inj q0
  obtain ⟨t1, g2⟩ := and_e g1
  obtain ⟨i1, q1⟩ := is_v t1
  obtain rfl : w1 = (.int i1) := Option.some.inj q1
  have t2 := g2
  obtain ⟨i2, q2⟩ := is_v t2
  obtain rfl : w2 = (.int i2) := Option.some.inj q2
  obtain ⟨x3, y3⟩ := and_e hn
  obtain ⟨y3, r3⟩ := and_e y3
  obtain ⟨o3, ev3⟩ := exa_v x3
  have E3 := Exa.start ev3 x3
  have S3 := Sta.start ev3 (Or.inr ⟨(hw _ (List.mem_of_getElem? (i := 2) rfl)), (hw _ (List.mem_of_getElem? (i := 3) rfl))⟩)
  have F3 : Fld s s.heap o3 "com/example/roundkeeper/roundkeeper/rules/segmentsd100/Stats$Size" "constitution" "I" (.int (2 : Int32)) := Fld.start (own_fv ev3 y3)
  obtain ⟨x2, y2⟩ := and_e r3
  obtain ⟨y2, r2⟩ := and_e y2
  obtain ⟨o2, ev2⟩ := exa_v x2
  have E2 := Exa.start ev2 x2
  have S2 := Sta.start ev2 (Or.inr ⟨(hw _ (List.mem_of_getElem? (i := 2) rfl)), (hw _ (List.mem_of_getElem? (i := 19) rfl))⟩)
  have F2 : Fld s s.heap o2 "com/example/roundkeeper/roundkeeper/rules/segmentsd100/Stats$Size" "constitution" "I" (.int (0 : Int32)) := Fld.start (own_fv ev2 y2)
  obtain ⟨x4, y4⟩ := and_e r2
  obtain ⟨y4, r4⟩ := and_e y4
  obtain ⟨o4, ev4⟩ := exa_v x4
  have E4 := Exa.start ev4 x4
  have S4 := Sta.start ev4 (Or.inr ⟨(hw _ (List.mem_of_getElem? (i := 2) rfl)), (hw _ (List.mem_of_getElem? (i := 21) rfl))⟩)
  have F4 : Fld s s.heap o4 "com/example/roundkeeper/roundkeeper/rules/segmentsd100/Stats$Size" "constitution" "I" (.int (4 : Int32)) := Fld.start (own_fv ev4 y4)
  obtain ⟨x1, y1⟩ := and_e r4
  obtain ⟨y1, r1⟩ := and_e y1
  obtain ⟨o1, ev1⟩ := exa_v x1
  have E1 := Exa.start ev1 x1
  have S1 := Sta.start ev1 (Or.inr ⟨(hw _ (List.mem_of_getElem? (i := 2) rfl)), (hw _ (List.mem_of_getElem? (i := 25) rfl))⟩)
  have F1 : Fld s s.heap o1 "com/example/roundkeeper/roundkeeper/rules/segmentsd100/Stats$Size" "constitution" "I" (.int (0 : Int32)) := Fld.start (own_fv ev1 y1)
  obtain ⟨x0, y0⟩ := and_e r1
  obtain ⟨o0, ev0⟩ := exa_v x0
  have E0 := Exa.start ev0 x0
  have S0 := Sta.start ev0 (Or.inr ⟨(hw _ (List.mem_of_getElem? (i := 2) rfl)), (hw _ (List.mem_of_getElem? (i := 29) rfl))⟩)
  have F0 : Fld s s.heap o0 "com/example/roundkeeper/roundkeeper/rules/segmentsd100/Stats$Size" "constitution" "I" (.int (0 : Int32)) := Fld.start (own_fv ev0 y0)
  obtain ⟨n, o, h1, h2, h3, _, L, rfl, ⟨rfl, N⟩, hq⟩ := own_law l s _ hw tables_1 i0 i1 i2 o0 o1 o2 o3 o4 s.heap s.heap.size (Nat.le_refl _) S0 F0 E0 S1 F1 E1 S2 F2 E2 S3 F3 E3 S4 F4 E4 p e ha hc hk s m _ below hf ((Spec.applies_iff_loose hf).mp happ).1 ⟨rfl, State.Warmed39.refl s, rfl⟩ trivial
  refine ⟨n, _, h1, h2, h3, hpost _ _ _ _ _ _ ⟨Cond.after_iff.mpr rfl, Cond.after_iff.mpr (eq_i res_at (Term.int_eval (1)) rfl), trivial⟩ ⟨hq.1, hq.2.1, (hq.2.2.sift fun y hy => Or.inr (N y hy)).mono (by decide) (by decide)⟩⟩
theorem main_1_1 : Claimed_1_1 := comes_1 fun _ _ _ _ _ _ h hF => ⟨h.1, hF⟩
theorem main_1_2 : Claimed_1_2 := comes_1 fun _ _ _ _ _ _ h hF => ⟨h.2.1, hF⟩
end Jvm.Pilot.@@N@@
namespace Jvm.Pilot.@@N@@
open Jvm Jvm.ClassFile Sem Op Lib Jvm.Free Jvm.Stand Jvm.Pilot.@@N@@.Jvm.D
/-! MADE BY PROGRAM (witnessworld.py) out of the Statement's table words and the real class files: 14 classes; the members and pool entries that the words name. The judged class is class 1, her method 1. -/
namespace start1
open Jvm.ClassFile
def u (s : String) : CpInfo := .utf8 (stringToUtf16 s)
/-- a pool by its gaps: so many unusable entries, then the entry; so many at the end -/
def gap : Nat → List CpInfo → List CpInfo
  | 0, r => r
  | n + 1, r => .unusable :: gap n r
def poolList (es : List (Nat × CpInfo)) (last : Nat) : List CpInfo := es.foldr (fun e r => gap e.1 (e.2 :: r)) (gap last [])
def pool (es : List (Nat × CpInfo)) (last : Nat) : Array CpInfo := ⟨poolList es last⟩
def fileOf (pool : Array CpInfo) (this : Nat) (attrs : Array Attribute := #[]) (ms : Array MethodInfo := #[]) (fl : Nat := 33) (sup : Nat := 0) (ifs : Array Nat := #[]) (fds : Array FieldInfo := #[]) : ClassFile where
  minorVersion := 0
  majorVersion := 65
  constantPool := pool
  accessFlags := fl
  thisClass := this
  superClass := sup
  interfaces := ifs
  fields := fds
  methods := ms
  attributes := attrs
def plain (name : String) (sup : Option ClassId) : Class where
  name := name
  kind := .ordinary
  loader := none
  accessFlags := 33
  super := sup
  interfaces := #[]
  cf := none
  fields := #[]
  methods := #[]
  instanceTypes := #[]
  staticTypes := #[]
  resolved := #[]
  callSites := []
  init := .initialized
  statics := none
  mirror := none

def pool0 : Array CpInfo := pool [(5, u "<init>"), (0, u "()V"), (1, .class_ 10), (1, u "java/lang/Object")] 113

def k0m0 : Method := { name := "<init>", desc := "()V", sig := { parameters := [], returnType := none }, accessFlags := 1, code := none }
/-- java/lang/Object -/
def k0 : Class := { plain "java/lang/Object" none with
  accessFlags := 33
  interfaces := #[]
  cf := some (fileOf pool0 8 #[] #[{ accessFlags := 1, nameIndex := 5, descriptorIndex := 6, attributes := #[] }] 33 0 #[] #[])
  fields := #[]
  methods := #[k0m0]
  instanceTypes := #[]
  staticTypes := #[]
  resolved := Array.replicate 124 none
  statics := none }

def pool1 : Array CpInfo := pool [(2, .class_ 4), (1, u "java/lang/Object"), (0, u "<init>"), (0, u "()V"), (0, .integer 2147483647), (0, .fieldref 9 10), (0, .class_ 11), (0, .nameAndType 12 13), (0, u "com/example/roundkeeper/roundkeeper/rules/segmentsd100/Stats$Size"), (0, u "TINY"), (0, u "Lcom/example/roundkeeper/roundkeeper/rules/segmentsd100/Stats$Size;"), (0, .fieldref 9 15), (0, .nameAndType 16 13), (0, u "SMALL"), (0, .fieldref 9 18), (0, .nameAndType 19 13), (0, u "MEDIUM"), (0, .fieldref 9 21), (0, .nameAndType 22 13), (0, u "LARGE"), (0, .long 2), (1, .fieldref 9 26), (0, .nameAndType 27 13), (0, u "GIANT"), (0, .long 4), (1, .long 100), (1, .long 10), (1, .long 25), (1, .methodref 37 38), (0, .class_ 39), (0, .nameAndType 40 41), (0, u "com/example/roundkeeper/roundkeeper/rules/segmentsd100/Segmentsd100"), (0, u "stunThreshold"), (0, u "(ILcom/example/roundkeeper/roundkeeper/rules/segmentsd100/Stats$Size;I)J"), (0, .class_ 43), (0, u "com/example/roundkeeper/roundkeeper/rules/segmentsd100/Segmentsd100StunThresholdPinLaw"), (2, u "law"), (0, u "(III)Z")] 7

def k1m0 : Method := { name := "<init>", desc := "()V", sig := { parameters := [], returnType := none }, accessFlags := 1, code := none }
def k1c1 : Code := { maxStack := 8, maxLocals := 13, code := code, exceptionTable := #[], attributes := #[] }
def k1m1 : Method := { name := "law", desc := "(III)Z", sig := { parameters := [.int, .int, .int], returnType := some .boolean }, accessFlags := 9, code := some k1c1 }
/-- com/example/roundkeeper/roundkeeper/rules/segmentsd100/Segmentsd100StunThresholdPinLaw -/
def k1 : Class := { plain "com/example/roundkeeper/roundkeeper/rules/segmentsd100/Segmentsd100StunThresholdPinLaw" (some 0) with
  accessFlags := 49
  interfaces := #[]
  cf := some (fileOf pool1 42 #[] #[{ accessFlags := 1, nameIndex := 5, descriptorIndex := 6, attributes := #[] }, { accessFlags := 9, nameIndex := 46, descriptorIndex := 47, attributes := #[] }] 49 2 #[] #[])
  fields := #[]
  methods := #[k1m0, k1m1]
  instanceTypes := #[]
  staticTypes := #[]
  resolved := Array.replicate 55 none
  statics := none }

def pool2 : Array CpInfo := pool [(1, .class_ 2), (0, u "java/lang/constant/Constable"), (0, .class_ 4), (0, u "java/lang/Object")] 6

/-- java/lang/constant/Constable -/
def k2 : Class := { plain "java/lang/constant/Constable" (some 0) with
  accessFlags := 1537
  interfaces := #[]
  cf := some (fileOf pool2 1 #[] #[] 1537 3 #[] #[])
  fields := #[]
  methods := #[]
  instanceTypes := #[]
  staticTypes := #[]
  resolved := Array.replicate 11 none
  statics := none }

def pool3 : Array CpInfo := pool [(1, .class_ 2), (0, u "java/lang/Comparable"), (0, .class_ 4), (0, u "java/lang/Object")] 7

/-- java/lang/Comparable -/
def k3 : Class := { plain "java/lang/Comparable" (some 0) with
  accessFlags := 1537
  interfaces := #[]
  cf := some (fileOf pool3 1 #[] #[] 1537 3 #[] #[])
  fields := #[]
  methods := #[]
  instanceTypes := #[]
  staticTypes := #[]
  resolved := Array.replicate 12 none
  statics := none }

def pool4 : Array CpInfo := pool [(1, .class_ 2), (0, u "java/io/Serializable"), (0, .class_ 4), (0, u "java/lang/Object")] 2

/-- java/io/Serializable -/
def k4 : Class := { plain "java/io/Serializable" (some 0) with
  accessFlags := 1537
  interfaces := #[]
  cf := some (fileOf pool4 1 #[] #[] 1537 3 #[] #[])
  fields := #[]
  methods := #[]
  instanceTypes := #[]
  staticTypes := #[]
  resolved := Array.replicate 7 none
  statics := none }

def pool5 : Array CpInfo := pool [(2, .class_ 4), (1, u "java/lang/Enum"), (0, u "name"), (0, u "Ljava/lang/String;"), (2, u "ordinal"), (0, u "I"), (1, .class_ 14), (1, u "java/lang/Object"), (4, u "hash"), (86, .class_ 108), (1, u "java/lang/Enum$EnumDesc"), (2, .class_ 112), (0, u "java/lang/constant/Constable"), (0, .class_ 114), (0, u "java/lang/Comparable"), (0, .class_ 116), (0, u "java/io/Serializable")] 87

/-- java/lang/Enum -/
def k5 : Class := { plain "java/lang/Enum" (some 0) with
  accessFlags := 1057
  interfaces := #[2, 3, 4]
  cf := some (fileOf pool5 2 #[.nestMembers #[106]] #[] 1057 12 #[111, 113, 115] #[{ accessFlags := 18, nameIndex := 5, descriptorIndex := 6, attributes := #[] }, { accessFlags := 18, nameIndex := 9, descriptorIndex := 10, attributes := #[] }, { accessFlags := 2, nameIndex := 19, descriptorIndex := 10, attributes := #[] }])
  fields := #[{ name := "name", type := (.object "java/lang/String"), accessFlags := 18, slot := 0, constantValue := 0 }, { name := "ordinal", type := .int, accessFlags := 18, slot := 1, constantValue := 0 }, { name := "hash", type := .int, accessFlags := 2, slot := 2, constantValue := 0 }]
  methods := #[]
  instanceTypes := #[(.object "java/lang/String"), .int, .int]
  staticTypes := #[]
  resolved := Array.replicate 204 none
  statics := none }

def pool6 : Array CpInfo := pool [(1, .class_ 2), (0, u "com/example/roundkeeper/roundkeeper/rules/segmentsd100/Stats$Size"), (2, u "TINY"), (0, u "Lcom/example/roundkeeper/roundkeeper/rules/segmentsd100/Stats$Size;"), (2, u "SMALL"), (2, u "MEDIUM"), (2, u "LARGE"), (2, u "GIANT"), (2, u "$VALUES"), (0, u "[Lcom/example/roundkeeper/roundkeeper/rules/segmentsd100/Stats$Size;"), (6, .class_ 31), (1, u "java/lang/Enum"), (6, .fieldref 1 39), (0, .nameAndType 40 41), (0, u "constitution"), (0, u "I"), (35, u "()I"), (7, .class_ 86), (0, u "com/example/roundkeeper/roundkeeper/rules/segmentsd100/Stats")] 2

def k6c0 : Code := { maxStack := 1, maxLocals := 1, code := prog_62_method_4_code, exceptionTable := #[], attributes := #[] }
def k6m0 : Method := { name := "constitution", desc := "()I", sig := { parameters := [], returnType := some .int }, accessFlags := 0, code := some k6c0 }
/-- com/example/roundkeeper/roundkeeper/rules/segmentsd100/Stats$Size -/
def k6 : Class := { plain "com/example/roundkeeper/roundkeeper/rules/segmentsd100/Stats$Size" (some 5) with
  accessFlags := 16433
  interfaces := #[]
  cf := some (fileOf pool6 1 #[.nestHost 85] #[{ accessFlags := 0, nameIndex := 40, descriptorIndex := 77, attributes := #[] }] 16433 29 #[] #[{ accessFlags := 16409, nameIndex := 5, descriptorIndex := 6, attributes := #[] }, { accessFlags := 16409, nameIndex := 9, descriptorIndex := 6, attributes := #[] }, { accessFlags := 16409, nameIndex := 12, descriptorIndex := 6, attributes := #[] }, { accessFlags := 16409, nameIndex := 15, descriptorIndex := 6, attributes := #[] }, { accessFlags := 16409, nameIndex := 18, descriptorIndex := 6, attributes := #[] }, { accessFlags := 18, nameIndex := 40, descriptorIndex := 41, attributes := #[] }, { accessFlags := 4122, nameIndex := 21, descriptorIndex := 22, attributes := #[] }])
  fields := #[{ name := "TINY", type := (.object "com/example/roundkeeper/roundkeeper/rules/segmentsd100/Stats$Size"), accessFlags := 16409, slot := 0, constantValue := 0 }, { name := "SMALL", type := (.object "com/example/roundkeeper/roundkeeper/rules/segmentsd100/Stats$Size"), accessFlags := 16409, slot := 1, constantValue := 0 }, { name := "MEDIUM", type := (.object "com/example/roundkeeper/roundkeeper/rules/segmentsd100/Stats$Size"), accessFlags := 16409, slot := 2, constantValue := 0 }, { name := "LARGE", type := (.object "com/example/roundkeeper/roundkeeper/rules/segmentsd100/Stats$Size"), accessFlags := 16409, slot := 3, constantValue := 0 }, { name := "GIANT", type := (.object "com/example/roundkeeper/roundkeeper/rules/segmentsd100/Stats$Size"), accessFlags := 16409, slot := 4, constantValue := 0 }, { name := "constitution", type := .int, accessFlags := 18, slot := 3, constantValue := 0 }, { name := "$VALUES", type := (.array (.object "com/example/roundkeeper/roundkeeper/rules/segmentsd100/Stats$Size")), accessFlags := 4122, slot := 5, constantValue := 0 }]
  methods := #[k6m0]
  instanceTypes := #[(.object "java/lang/String"), .int, .int, .int]
  staticTypes := #[(.object "com/example/roundkeeper/roundkeeper/rules/segmentsd100/Stats$Size"), (.object "com/example/roundkeeper/roundkeeper/rules/segmentsd100/Stats$Size"), (.object "com/example/roundkeeper/roundkeeper/rules/segmentsd100/Stats$Size"), (.object "com/example/roundkeeper/roundkeeper/rules/segmentsd100/Stats$Size"), (.object "com/example/roundkeeper/roundkeeper/rules/segmentsd100/Stats$Size"), (.array (.object "com/example/roundkeeper/roundkeeper/rules/segmentsd100/Stats$Size"))]
  resolved := Array.replicate 89 none
  statics := some 0 }

def pool7 : Array CpInfo := pool [(2, .class_ 4), (1, u "com/example/roundkeeper/roundkeeper/rules/RuleSystem"), (52, .class_ 58), (0, u "java/lang/Object")] 104

/-- com/example/roundkeeper/roundkeeper/rules/RuleSystem -/
def k7 : Class := { plain "com/example/roundkeeper/roundkeeper/rules/RuleSystem" (some 0) with
  accessFlags := 1537
  interfaces := #[]
  cf := some (fileOf pool7 2 #[] #[] 1537 57 #[] #[])
  fields := #[]
  methods := #[]
  instanceTypes := #[]
  staticTypes := #[]
  resolved := Array.replicate 163 none
  statics := none }

def pool8 : Array CpInfo := pool [(2, .class_ 4), (1, u "java/lang/Object"), (0, u "<init>"), (0, u "()V"), (17, .class_ 26), (1, u "com/example/roundkeeper/roundkeeper/rules/segmentsd100/Segmentsd100"), (49, .class_ 78), (1, u "com/example/roundkeeper/roundkeeper/rules/segmentsd100/Segmentsd100$Hit"), (18, u "()I"), (1, .class_ 101), (1, u "com/example/roundkeeper/roundkeeper/rules/segmentsd100/Segmentsd100$Needed"), (90, u "I"), (121, u "INITIATIVE_DICE"), (0, u "[I"), (116, .class_ 434), (1, u "com/example/roundkeeper/roundkeeper/rules/RuleSystem"), (52, .nameAndType 488 97), (0, u "constitution"), (8, u "stunThreshold"), (0, u "(ILcom/example/roundkeeper/roundkeeper/rules/segmentsd100/Stats$Size;I)J"), (24, u "D100"), (0, u "Lcom/example/roundkeeper/roundkeeper/dice/DiceExpression;"), (6, u "ALWAYS_HITS"), (0, u "[Lcom/example/roundkeeper/roundkeeper/rules/segmentsd100/Segmentsd100$Hit;"), (6, u "Ljava/lang/String;"), (5, .methodref 546 487), (0, .class_ 547), (0, u "com/example/roundkeeper/roundkeeper/rules/segmentsd100/Stats$Size"), (0, .long 25), (1, .long 2), (3, u "WOUNDS"), (0, u "Ljava/util/List;"), (0, .class_ 557), (0, u "com/example/roundkeeper/roundkeeper/rules/segmentsd100/Segmentsd100$Wound"), (43, u "D100_FACES"), (2, u "ALWAYS_MISSES_FROM"), (1, u "GANG_UP"), (1, u "PLAIN_THRESHOLD_UP_TO"), (3, u "LOST_FROM"), (1, u "STUNNED"), (0, u "DOWN"), (0, u "PROT"), (0, u "ATTACKERS")] 135

def k8m0 : Method := { name := "<init>", desc := "()V", sig := { parameters := [], returnType := none }, accessFlags := 1, code := none }
def k8c1 : Code := { maxStack := 4, maxLocals := 5, code := prog_56_method_30_code, exceptionTable := #[], attributes := #[] }
def k8m1 : Method := { name := "stunThreshold", desc := "(ILcom/example/roundkeeper/roundkeeper/rules/segmentsd100/Stats$Size;I)J", sig := { parameters := [.int, (.object "com/example/roundkeeper/roundkeeper/rules/segmentsd100/Stats$Size"), .int], returnType := some .long }, accessFlags := 8, code := some k8c1 }
/-- com/example/roundkeeper/roundkeeper/rules/segmentsd100/Segmentsd100 -/
def k8 : Class := { plain "com/example/roundkeeper/roundkeeper/rules/segmentsd100/Segmentsd100" (some 0) with
  accessFlags := 49
  interfaces := #[7]
  cf := some (fileOf pool8 24 #[.nestMembers #[556, 76, 99]] #[{ accessFlags := 1, nameIndex := 5, descriptorIndex := 6, attributes := #[] }, { accessFlags := 8, nameIndex := 497, descriptorIndex := 498, attributes := #[] }] 49 2 #[432] #[{ accessFlags := 26, nameIndex := 601, descriptorIndex := 192, attributes := #[] }, { accessFlags := 26, nameIndex := 523, descriptorIndex := 524, attributes := #[] }, { accessFlags := 26, nameIndex := 604, descriptorIndex := 192, attributes := #[] }, { accessFlags := 26, nameIndex := 531, descriptorIndex := 532, attributes := #[] }, { accessFlags := 26, nameIndex := 606, descriptorIndex := 192, attributes := #[] }, { accessFlags := 26, nameIndex := 608, descriptorIndex := 192, attributes := #[] }, { accessFlags := 26, nameIndex := 554, descriptorIndex := 555, attributes := #[] }, { accessFlags := 26, nameIndex := 314, descriptorIndex := 315, attributes := #[] }, { accessFlags := 26, nameIndex := 612, descriptorIndex := 192, attributes := #[] }, { accessFlags := 26, nameIndex := 614, descriptorIndex := 539, attributes := #[] }, { accessFlags := 26, nameIndex := 615, descriptorIndex := 539, attributes := #[] }, { accessFlags := 26, nameIndex := 616, descriptorIndex := 539, attributes := #[] }, { accessFlags := 26, nameIndex := 617, descriptorIndex := 539, attributes := #[] }])
  fields := #[{ name := "D100_FACES", type := .int, accessFlags := 26, slot := 0, constantValue := 0 }, { name := "D100", type := (.object "com/example/roundkeeper/roundkeeper/dice/DiceExpression"), accessFlags := 26, slot := 1, constantValue := 0 }, { name := "ALWAYS_MISSES_FROM", type := .int, accessFlags := 26, slot := 2, constantValue := 0 }, { name := "ALWAYS_HITS", type := (.array (.object "com/example/roundkeeper/roundkeeper/rules/segmentsd100/Segmentsd100$Hit")), accessFlags := 26, slot := 3, constantValue := 0 }, { name := "GANG_UP", type := .int, accessFlags := 26, slot := 4, constantValue := 0 }, { name := "PLAIN_THRESHOLD_UP_TO", type := .int, accessFlags := 26, slot := 5, constantValue := 0 }, { name := "WOUNDS", type := (.object "java/util/List"), accessFlags := 26, slot := 6, constantValue := 0 }, { name := "INITIATIVE_DICE", type := (.array .int), accessFlags := 26, slot := 7, constantValue := 0 }, { name := "LOST_FROM", type := .int, accessFlags := 26, slot := 8, constantValue := 0 }, { name := "STUNNED", type := (.object "java/lang/String"), accessFlags := 26, slot := 9, constantValue := 0 }, { name := "DOWN", type := (.object "java/lang/String"), accessFlags := 26, slot := 10, constantValue := 0 }, { name := "PROT", type := (.object "java/lang/String"), accessFlags := 26, slot := 11, constantValue := 0 }, { name := "ATTACKERS", type := (.object "java/lang/String"), accessFlags := 26, slot := 12, constantValue := 0 }]
  methods := #[k8m0, k8m1]
  instanceTypes := #[]
  staticTypes := #[.int, (.object "com/example/roundkeeper/roundkeeper/dice/DiceExpression"), .int, (.array (.object "com/example/roundkeeper/roundkeeper/rules/segmentsd100/Segmentsd100$Hit")), .int, .int, (.object "java/util/List"), (.array .int), .int, (.object "java/lang/String"), (.object "java/lang/String"), (.object "java/lang/String"), (.object "java/lang/String")]
  resolved := Array.replicate 753 none
  statics := none }

def pool9 : Array CpInfo := pool [(1, u "java/lang/Cloneable"), (0, .class_ 1), (0, u "java/lang/Object"), (0, .class_ 3)] 3

/-- java/lang/Cloneable -/
def k9 : Class := { plain "java/lang/Cloneable" (some 0) with
  accessFlags := 1537
  interfaces := #[]
  cf := some (fileOf pool9 2 #[] #[] 1537 4 #[] #[])
  fields := #[]
  methods := #[]
  instanceTypes := #[]
  staticTypes := #[]
  resolved := Array.replicate 8 none
  statics := none }

/-- the primitive byte -/
def k10 : Class := { plain "byte" none with kind := .primitive 'B', accessFlags := 0x411 }
/-- [B -/
def k11 : Class := { plain "[B" (some 0) with kind := .array 10 .byte, interfaces := #[9, 4], accessFlags := 1041 }

/-- the primitive int -/
def k12 : Class := { plain "int" none with kind := .primitive 'I', accessFlags := 0x411 }
/-- [I -/
def k13 : Class := { plain "[I" (some 0) with kind := .array 12 .int, interfaces := #[9, 4], accessFlags := 1041 }

def heap : Heap := #[{ cls := 6, slots := #[.ref 1, .ref 2, .ref 3, .ref 4, .ref 5, .null], vm := .statics 6 },
  { cls := 6, slots := #[.null, .int 0, .int 0, .int 0], vm := .none },
  { cls := 6, slots := #[.null, .int 0, .int 0, .int 0], vm := .none },
  { cls := 6, slots := #[.null, .int 0, .int 0, .int 0], vm := .none },
  { cls := 6, slots := #[.null, .int 0, .int 0, .int 2], vm := .none },
  { cls := 6, slots := #[.null, .int 0, .int 0, .int 4], vm := .none }]
def classes : Array Class := #[k0, k1, k2, k3, k4, k5, k6, k7, k8, k9, k10, k11, k12, k13]
def interned : List (Array UInt16 × Addr) := []
def slotsUsed : Nat := 26
def theMethod : MethodId := ⟨1, 1⟩
def args0 : Array Value := #[.int 3, .int 4, .int 120]
def aboutOver (below : List Frame) : State where
  vm := { classes := classes, interned := interned.toArray }
  heap := heap
  slotsUsed := slotsUsed
  threads := #[{ frames := .invoking theMethod args0 :: below }]
def below0 : List Frame := [.native { method := ⟨0, 0⟩, args := #[] }]
def about1 : State := aboutOver below0
def p0 : Program := .bare "" "" ""
def e0 : Env := launch0.env 0 0 0
theorem w_frames : about1.frames = Frame.invoking theMethod args0 :: below0 := rfl
set_option maxRecDepth 65536 in
theorem w_args : argsFit about1.vm theMethod args0 = true := by decide +kernel
set_option maxRecDepth 65536 in
theorem w_heap : heapFits about1 = true := by decide +kernel
set_option maxRecDepth 65536 in
theorem w_runnable : about1.curStatus? = some .runnable := by decide +kernel
set_option maxRecDepth 65536 in
theorem w_alone : about1.alone = true := by decide +kernel
set_option maxRecDepth 65536 in
theorem w_named : about1.methodNamed? x = some theMethod := by decide +kernel
set_option maxRecDepth 65536 in
theorem w_hears : about1.hears theMethod below0 = true := by decide +kernel
set_option maxRecDepth 65536 in
theorem w_ripe : about1.ripe theMethod args0 below0 = true := by decide +kernel
theorem w_running : about1.status = .running := rfl
set_option maxRecDepth 65536 in
theorem w_room : about1.hasRoom e0.platform room_1 = true :=
  launch0.hasRoom_least _ room_1 (by decide +kernel) (by decide +kernel) (by decide +kernel) (by decide +kernel) (by decide +kernel) (by decide +kernel)
theorem allAtoms_all (ts : List Jvm.Cond) (a : Array Jvm.Value) (st : Jvm.State) : (allAtoms ts).before a st = ts.all (fun c => c.before a st) := by
  induction ts with
  | nil => rfl
  | cons c t ih =>
    show (Jvm.Cond.and c (allAtoms t)).before a st = _
    rw [Jvm.Cond.before_and, ih, List.all_cons]
def words1 : List Jvm.Cond := Jvm.Cond.code x code maxLocals ret :: tables_1
/-- a 'code' word, met by the world's own term for the bytes: nothing is compared byte by byte -/
theorem code_word {y : MethodName} {bytes : ByteArray} {mx : Nat} {rt : Option FieldType} {a : Array Value} {s : State} {m : MethodId} {meth : Method} {c : Code} (h1 : s.methodNamed? y = some m) (h2 : s.vm.method? m = some meth) (h3 : meth.code = some c) (h4 : c.code = bytes)
    (h5 : (c.maxLocals == mx && c.exceptionTable.isEmpty && decide (c.maxStack ≤ mostOperands) && decide (meth.sig.returnType = rt) && !meth.locks && decide (parseMethodDescriptor y.desc = some meth.sig)) = true) : (Jvm.Cond.code y bytes mx rt).before a s = true := by
  simp only [Bool.and_eq_true, beq_iff_eq, Bool.not_eq_true', decide_eq_true_eq] at h5
  obtain ⟨⟨⟨⟨⟨g1, g2⟩, g3⟩, g4⟩, g5⟩, g6⟩ := h5
  simp [Cond.before, Cond.holds, Cond.value, h1, h2, h3, h4, g1, g2, g3, g4, g5, g6]
def isCode : Jvm.Cond → Bool
  | .code _ _ _ _ => true
  | _ => false
theorem all_split {L : List Jvm.Cond} {P : Jvm.Cond → Bool} (h1 : L.all (fun c => isCode c || P c) = true) (h2 : ∀ c ∈ L.filter isCode, P c = true) : L.all P = true := by
  refine List.all_eq_true.mpr fun c hc => ?_
  have h := List.all_eq_true.mp h1 c hc
  rcases Bool.eq_false_or_eq_true (isCode c) with hi | hi
  · exact h2 c (List.mem_filter.mpr ⟨hc, hi⟩)
  · simpa [hi] using h
set_option maxRecDepth 65536 in
theorem w_c0 : (Jvm.Cond.code x code maxLocals ret).before args0 about1 = true := code_word (m := ⟨1, 1⟩) (meth := k1m1) (c := k1c1) (by decide +kernel) rfl rfl rfl (by decide +kernel)
set_option maxRecDepth 65536 in
theorem w_c1 : (Jvm.Cond.code ({ cls := "com/example/roundkeeper/roundkeeper/rules/segmentsd100/Segmentsd100", name := "stunThreshold", desc := "(ILcom/example/roundkeeper/roundkeeper/rules/segmentsd100/Stats$Size;I)J" } : Jvm.MethodName) prog_56_method_30_code (5 : Nat) (Option.some Jvm.ClassFile.FieldType.long)).before args0 about1 = true := code_word (m := ⟨8, 1⟩) (meth := k8m1) (c := k8c1) (by decide +kernel) rfl rfl rfl (by decide +kernel)
set_option maxRecDepth 65536 in
theorem w_c2 : (Jvm.Cond.code ({ cls := "com/example/roundkeeper/roundkeeper/rules/segmentsd100/Stats$Size", name := "constitution", desc := "()I" } : Jvm.MethodName) prog_62_method_4_code (1 : Nat) (Option.some Jvm.ClassFile.FieldType.int)).before args0 about1 = true := code_word (m := ⟨6, 0⟩) (meth := k6m0) (c := k6c0) (by decide +kernel) rfl rfl rfl (by decide +kernel)
def codes1 : List Jvm.Cond := [Jvm.Cond.code x code maxLocals ret, Jvm.Cond.code ({ cls := "com/example/roundkeeper/roundkeeper/rules/segmentsd100/Segmentsd100", name := "stunThreshold", desc := "(ILcom/example/roundkeeper/roundkeeper/rules/segmentsd100/Stats$Size;I)J" } : Jvm.MethodName) prog_56_method_30_code (5 : Nat) (Option.some Jvm.ClassFile.FieldType.long), Jvm.Cond.code ({ cls := "com/example/roundkeeper/roundkeeper/rules/segmentsd100/Stats$Size", name := "constitution", desc := "()I" } : Jvm.MethodName) prog_62_method_4_code (1 : Nat) (Option.some Jvm.ClassFile.FieldType.int)]
set_option maxRecDepth 65536 in
theorem codes_eq : words1.filter isCode = codes1 := rfl
theorem w_codes : ∀ c ∈ words1.filter isCode, c.before args0 about1 = true := by
  rw [codes_eq]
  intro c hc
  simp only [codes1, List.mem_cons, List.not_mem_nil, or_false] at hc
  rcases hc with rfl | rfl | rfl
  · exact w_c0
  · exact w_c1
  · exact w_c2
set_option maxRecDepth 65536 in
theorem w_t1 : (words1.take 24).all (fun c => isCode c || c.before args0 about1) = true := by decide +kernel
set_option maxRecDepth 65536 in
theorem w_t2 : (words1.drop 24).all (fun c => isCode c || c.before args0 about1) = true := by decide +kernel
theorem w_tables : (allAtoms (Jvm.Cond.code x code maxLocals ret :: tables_1)).before args0 about1 = true := by
  rw [allAtoms_all]
  show words1.all (fun c => c.before args0 about1) = true
  refine all_split ?_ w_codes
  rw [← List.take_append_drop 24 words1, List.all_append, w_t1, w_t2]
  rfl
set_option maxRecDepth 65536 in
theorem w_case : (Jvm.Cond.and given_1 narrow_1).before args0 about1 = true := by decide +kernel
theorem w_applies : (headSpec (Jvm.Cond.code x code maxLocals ret :: tables_1) room_1).applies x e0.platform about1 = true :=
  (Spec.applies_iff w_frames).mpr ⟨w_running, w_runnable, w_alone, w_named, w_hears, w_ripe, w_room, w_tables⟩
theorem atStart : AtStart classFile x code maxLocals ret World_1 tables_1 room_1 Calls_1 rest_1 Pre_1 launch0 p0 e0 about1 theMethod args0 below0 :=
  ⟨lists_1, trivial, launch0.admits_env _ _ _, launch0.least_env, fairChoices_fair.cas, fairChoices_fair.clock, w_frames, w_args, w_heap, w_applies, trivial, trivial, w_case⟩
end start1
theorem witness_1 : WitnessClaimed_1 := ⟨start1.p0, start1.e0, start1.about1, start1.theMethod, start1.args0, start1.below0, start1.atStart⟩
end Jvm.Pilot.@@N@@
