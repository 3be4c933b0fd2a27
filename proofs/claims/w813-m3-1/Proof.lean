import JvmDerived
import JvmDerived.Pilot.@@N@@Statement
import JvmDerived.Pilot.@@N@@Code
set_option linter.unusedVariables false
set_option linter.unusedSimpArgs false
namespace Jvm.RoadKit
open Sem ClassFile Op Lib Jvm.Stand Jvm.Free Jvm.LawKit
section New
variable {p : Program} {l : Launch} {e : Env} {R : Room} {s : State} {m : MethodId} {args : Array Value} {below : List Frame} {meth : Method} {c : Code} {T : State} {locs : List Loc} {cells slots : Nat}
theorem retI (X : Stand p l e R s m args below meth c T locs cells slots) (hx : p.tables.exec = Jvm.exec) {pc : Nat} {Ls : Array Slot} {z : Int32} {rest : List Value} (hret : meth.sig.returnType = some .int) (hd : decode c.code pc = .ok (.ireturn, 1)) {fs : List Frame}
    (hl : ∀ (f : JFrame) (acts : List Action), f.method = m → f.locked = none → f.entered = [] → (doReturn e (T.setTop f) acts (some (.int z))).1 = T.setFrames fs) : Steps p.tables e below (T.setTop (mkF m pc Ls (.int z :: rest))) (T.setFrames fs) := by
  have hm' : T.vm.method? m = some meth := X.method'
  have hn : narrow .int (.int z) = .int z := rfl
  show Steps p.tables e below (T.setTop { method := m, pc := pc, locals := Ls, stack := _ :: rest, locked := none }) _
  jvm_step X.here [X.here.top, hx, hd, hm', hret, hn]
  first | (intro acts; rw [hl _ acts rfl rfl rfl]) | rw [hl _ _ rfl rfl rfl]
  exact Steps.refl _
end New
end Jvm.RoadKit
namespace Jvm.Pilot.@@N@@
open Jvm Jvm.ClassFile Sem Op Lib Jvm.Free Jvm.Stand Jvm.LawKit Jvm.RoadKit Bundle Jvm.Pilot.@@N@@.Jvm.D
theorem own_since (s : State) (n : Nat) : s.Since s.vm n := ⟨State.Warmed39.refl s, (State.WarmedH.refl s).no_new_pair _⟩
theorem own_nos {x : Int64} (h : ¬ x < 0) : ¬ ((x - (x / (1000000000 : Int64)) * (1000000000 : Int64)).toInt32) < 0 := by
  rw [Int64.lt_iff_toInt_lt] at h
  rw [Int32.lt_iff_toInt_lt]
  have z : (0 : Int64).toInt = 0 := by decide
  have z' : (0 : Int32).toInt = 0 := by decide
  have a := (c_lrem x 1000000000 1000000000 (by decide)).1 (by omega)
  have b := c_l2i (x - (x / 1000000000) * 1000000000)
  have r := rng32 ((x - (x / 1000000000) * 1000000000).toInt32)
  omega
theorem own_max (x : Int64) : ¬ (x &&& (9223372036854775807 : Int64)) < 0 := by
  have q := c_maskL x 9223372036854775807 63 (by decide) (by decide)
  rw [Int64.lt_iff_toInt_lt]
  have z : (0 : Int64).toInt = 0 := by decide
  omega
theorem own_k3 {p k : Int32} (hk : k = ((p &&& (2147483647 : Int32)) % (3 : Int32))) (h0 : ¬ k = 0) (h1 : ¬ k = 1) : k = 2 := by
  have q := c_mask p 2147483647 31 (by decide) (by decide)
  have r := (c_irem (p &&& 2147483647) 3 3 (by decide)).1 (by omega)
  rw [← hk] at r
  have a0 : k.toInt ≠ 0 := fun z => h0 (Int32.toInt_inj.mp (z.trans (by decide)))
  have a1 : k.toInt ≠ 1 := fun z => h1 (Int32.toInt_inj.mp (z.trans (by decide)))
  have a2 : k.toInt = 2 := by omega
  exact Int32.toInt_inj.mp (a2.trans (by decide))
theorem own_fvi {args : Array Value} {s : State} {t : Jvm.Term} {a : Addr} {C n d : String} {k : Int32} (ev : t.eval args s none [] s = some (.ref a)) (h : (Jvm.Cond.eq (Jvm.Term.field t C n d) (Jvm.Term.int k)).value args s none s [] = some true) : s.fieldOf? a C n d = some (.int k) := (fld_at ev).symm.trans (eqv_i (Term.int_eval k) h)
theorem own_fvn {args : Array Value} {s : State} {t : Jvm.Term} {a : Addr} {C n d : String} (ev : t.eval args s none [] s = some (.ref a)) (h : (Jvm.Cond.eq (Jvm.Term.field t C n d) Jvm.Term.null).value args s none s [] = some true) : s.fieldOf? a C n d = some .null := (fld_at ev).symm.trans (null_v h)

theorem own_strs : ∀ q ∈ Bundle.stringAtoms, q ∈ tables_1 := by
  intro q hq
  simp only [Bundle.stringAtoms, List.mem_cons, List.not_mem_nil, or_false] at hq
  rcases hq with rfl | rfl | rfl | rfl | rfl | rfl | rfl
  · exact List.mem_of_getElem? (i := 56) rfl
  · exact List.mem_of_getElem? (i := 57) rfl
  · exact List.mem_of_getElem? (i := 58) rfl
  · exact List.mem_of_getElem? (i := 59) rfl
  · exact List.mem_of_getElem? (i := 60) rfl
  · exact List.mem_of_getElem? (i := 61) rfl
  · exact List.mem_of_getElem? (i := 62) rfl
theorem own_ef_own_durI (m : MethodId) (oa : Addr) (q1 : Int64) (q3 : Int32) : entryFrame m #[(.ref oa), (.long q1), (.int q3)] 4 = mkF m 0 #[.val (.ref oa), .val (.long q1), .second, .val (.int q3)] [] := by first | (simp [entryFrame, mkF, argsToLocals, Value.category]; done) | rfl
def Q_own_durI (Z : State) (oa : Addr) (q1 : Int64) (q3 : Int32)  (h0 : Heap) (n0 : Nat) (v : Option Value) (h : Heap) (L : List Loc) : Prop := v = none ∧ Fr n0 L ∧ Keep h0 h [oa]
theorem own_pn_java_time_Duration : plainName "java/time/Duration" = true := by first | (simp [plainName, overriddenIn]; done) | decide +kernel
theorem own_d_jdk_2316_method_17_0 : decode jdk_2316_method_17_code 0 = .ok (.aload_n 0, 1) := by decide +kernel
theorem own_d_jdk_2316_method_17_1 : decode jdk_2316_method_17_code 1 = .ok (.invokespecial 218, 3) := by decide +kernel
theorem own_d_jdk_2316_method_17_4 : decode jdk_2316_method_17_code 4 = .ok (.aload_n 0, 1) := by decide +kernel
theorem own_d_jdk_2316_method_17_5 : decode jdk_2316_method_17_code 5 = .ok (.lload_n 1, 1) := by decide +kernel
theorem own_d_jdk_2316_method_17_6 : decode jdk_2316_method_17_code 6 = .ok (.putfield 221, 3) := by decide +kernel
theorem own_d_jdk_2316_method_17_9 : decode jdk_2316_method_17_code 9 = .ok (.aload_n 0, 1) := by decide +kernel
theorem own_d_jdk_2316_method_17_10 : decode jdk_2316_method_17_code 10 = .ok (.iload_n 3, 1) := by decide +kernel
theorem own_d_jdk_2316_method_17_11 : decode jdk_2316_method_17_code 11 = .ok (.putfield 224, 3) := by decide +kernel
theorem own_d_jdk_2316_method_17_14 : decode jdk_2316_method_17_code 14 = .ok (.return_, 1) := by decide +kernel
set_option maxRecDepth 65536 in
set_option maxHeartbeats 40000000 in
theorem own_durI (l : Launch) (Z : State) (a0 : Array Value) (hw : ∀ d ∈ tables_1, d.before a0 Z = true) (ws : List Jvm.Cond) (oa : Addr) (q1 : Int64) (q3 : Int32)  (h0 : Heap) (n0 : Nat) (Z0 : n0 ≤ h0.size) (F1 : Fld Z h0 oa "java/time/Duration" "seconds" "J" (.long (0 : Int64))) (F2 : Fld Z h0 oa "java/time/Duration" "nanos" "I" (.int (0 : Int32))) (E : Exa Z h0 oa "java/time/Duration") (ge_oa : n0 ≤ oa) :
    MetFree l (⟨"java/time/Duration", "<init>", "(JI)V"⟩ : MethodName) (head1 (Jvm.Cond.code (⟨"java/time/Duration", "<init>", "(JI)V"⟩ : MethodName) jdk_2316_method_17_code 4 none :: ws) ({ frames := 1, cells := 0, slots := 0, locals := 12 } : Room)) (fun a U => a = #[(.ref oa), (.long q1), (.int q3)] ∧ Z.Warmed39 U.vm ∧ U.heap = h0) (fun _ _ _ _ _ => True) (fun _ U o U' => ∃ v L, o = .returned v ∧ Q_own_durI Z oa q1 q3 h0 n0 v U'.heap L ∧ FrameEnd U o U' L ({ frames := 1, cells := 0, slots := 0, locals := 12 } : Room).cells ({ frames := 1, cells := 0, slots := 0, locals := 12 } : Room).slots) := by
  refine MetFree.of_bodySF (plainFor_of_name own_pn_java_time_Duration) hisR ?_
  intro p e s m args below meth c s₁ Bd hml0 hP hK
  obtain ⟨rfl, hZ, hh⟩ := hP
  have hx := Bd.exec
  have hby := Bd.bytes
  have hml : c.maxLocals = 4 := hml0
  have hown : s.vm.findClass "java/time/Duration" = some m.cls := findClass_of_methodNamed Bd.named
  have hnm := (name_of_methodNamed Bd.named Bd.method).1
  have X0 : Stand p l e ({ frames := 1, cells := 0, slots := 0, locals := 12 } : Room) s m #[(.ref oa), (.long q1), (.int q3)] below meth c s₁ [] 0 0 := Stand.of_body Bd
  have e0 : s₁.heap = h0 := by rw [← hh, Bd.state]; rfl
  have N0 := Fr.nil n0
  have pre0 : ∀ t, Steps p.tables e below (s₁.setTop (mkF m 0 #[.val (.ref oa), .val (.long q1), .second, .val (.int q3)] [])) t → Steps p.tables e below (s₁.setTop (entryFrame m #[(.ref oa), (.long q1), (.int q3)] 4)) t := fun t k => castTop (own_ef_own_durI m oa q1 q3) k
  have pre1 : ∀ t, Steps p.tables e below (s₁.setTop (mkF m 1 #[.val (.ref oa), .val (.long q1), .second, .val (.int q3)] [(.ref oa)])) t → Steps p.tables e below (s₁.setTop (entryFrame m #[(.ref oa), (.long q1), (.int q3)] 4)) t := fun t k => pre0 _ (by
    show Steps p.tables e below (s₁.setTop (mkF m 0 #[.val (.ref oa), .val (.long q1), .second, .val (.int q3)] [])) _
    refine XS.aloadN X0.here hx rfl (hb hby own_d_jdk_2316_method_17_0) rfl rfl ?_
    exact k)
  obtain ⟨T2, X2, e2, st2⟩ := initO X0 hx hZ hown (hw _ (List.mem_of_getElem? (i := 19) rfl)) (hw _ (List.mem_of_getElem? (i := 20) rfl)) (hw _ (List.mem_of_getElem? (i := 21) rfl)) e0 (g := (mkF m 1 #[.val (.ref oa), .val (.long q1), .second, .val (.int q3)] [(.ref oa)])) rfl (by rw [hml]; rfl) rfl (hb hby own_d_jdk_2316_method_17_1) (by decide) (W := 0) (by show 2 * 0 + _ ≤ _; exact Nat.le_of_eq rfl) (by decide)
  have pre3 : ∀ t, Steps p.tables e below (T2.setTop (mkF m 4 #[.val (.ref oa), .val (.long q1), .second, .val (.int q3)] [])) t → Steps p.tables e below (s₁.setTop (entryFrame m #[(.ref oa), (.long q1), (.int q3)] 4)) t := fun t k => pre1 _ (st2 _ k)
  have pre4 : ∀ t, Steps p.tables e below (T2.setTop (mkF m 6 #[.val (.ref oa), .val (.long q1), .second, .val (.int q3)] [(.long q1), (.ref oa)])) t → Steps p.tables e below (s₁.setTop (entryFrame m #[(.ref oa), (.long q1), (.int q3)] 4)) t := fun t k => pre3 _ (by
    show Steps p.tables e below (T2.setTop (mkF m 4 #[.val (.ref oa), .val (.long q1), .second, .val (.int q3)] [])) _
    refine XS.aloadN X2.here hx rfl (hb hby own_d_jdk_2316_method_17_4) rfl rfl ?_
    show Steps p.tables e below (T2.setTop (mkF m 5 #[.val (.ref oa), .val (.long q1), .second, .val (.int q3)] [(.ref oa)])) _
    refine XS.lloadN X2.here hx rfl (hb hby own_d_jdk_2316_method_17_5) rfl ?_
    exact k)
  obtain ⟨T5, h5, X5, e5, W5, st5⟩ := putF X2 hx hZ hown (host := "") (Or.inl (hw _ (List.mem_of_getElem? (i := 22) rfl))) Via.refl e2 F1 E (Or.inr ⟨(hw _ (List.mem_of_getElem? (i := 23) rfl)), rfl, hnm⟩) (hw _ (List.mem_of_getElem? (i := 14) rfl)) (ty := .long) (by decide) rfl rfl (g := (mkF m 6 #[.val (.ref oa), .val (.long q1), .second, .val (.int q3)] [(.long q1), (.ref oa)])) rfl rfl (hb hby own_d_jdk_2316_method_17_6)
  have N5 := Fr.snoc X5 N0 ge_oa
  have Z5 : n0 ≤ h5.size := Nat.le_trans Z0 (Keep.of_wr W5).1
  have F5 : Fld Z h5 oa "java/time/Duration" "seconds" "J" (.long q1) := F1.same W5
  have pre6 : ∀ t, Steps p.tables e below (T5.setTop (mkF m 9 #[.val (.ref oa), .val (.long q1), .second, .val (.int q3)] [])) t → Steps p.tables e below (s₁.setTop (entryFrame m #[(.ref oa), (.long q1), (.int q3)] 4)) t := fun t k => pre4 _ (st5 _ k)
  have pre7 : ∀ t, Steps p.tables e below (T5.setTop (mkF m 11 #[.val (.ref oa), .val (.long q1), .second, .val (.int q3)] [(.int q3), (.ref oa)])) t → Steps p.tables e below (s₁.setTop (entryFrame m #[(.ref oa), (.long q1), (.int q3)] 4)) t := fun t k => pre6 _ (by
    show Steps p.tables e below (T5.setTop (mkF m 9 #[.val (.ref oa), .val (.long q1), .second, .val (.int q3)] [])) _
    refine XS.aloadN X5.here hx rfl (hb hby own_d_jdk_2316_method_17_9) rfl rfl ?_
    show Steps p.tables e below (T5.setTop (mkF m 10 #[.val (.ref oa), .val (.long q1), .second, .val (.int q3)] [(.ref oa)])) _
    refine XS.iloadN X5.here hx rfl (hb hby own_d_jdk_2316_method_17_10) rfl ?_
    exact k)
  obtain ⟨T8, h8, X8, e8, W8, st8⟩ := putF X5 hx hZ hown (host := "") (Or.inl (hw _ (List.mem_of_getElem? (i := 24) rfl))) Via.refl e5 (F2.other W5 (Or.inr (slot_ne (C := "java/time/Duration") (Or.inr (hw _ (List.mem_of_getElem? (i := 25) rfl))) (Or.inr (hw _ (List.mem_of_getElem? (i := 23) rfl))) (by decide) (t := .int) (t' := .long) (by decide) (by decide)))) (E.wr W5) (Or.inr ⟨(hw _ (List.mem_of_getElem? (i := 25) rfl)), rfl, hnm⟩) (hw _ (List.mem_of_getElem? (i := 14) rfl)) (ty := .int) (by decide) rfl rfl (g := (mkF m 11 #[.val (.ref oa), .val (.long q1), .second, .val (.int q3)] [(.int q3), (.ref oa)])) rfl rfl (hb hby own_d_jdk_2316_method_17_11)
  have N8 := Fr.snoc X8 N5 ge_oa
  have Z8 : n0 ≤ h8.size := Nat.le_trans Z5 (Keep.of_wr W8).1
  have F8 : Fld Z h8 oa "java/time/Duration" "nanos" "I" (.int q3) := (F2.other W5 (Or.inr (slot_ne (C := "java/time/Duration") (Or.inr (hw _ (List.mem_of_getElem? (i := 25) rfl))) (Or.inr (hw _ (List.mem_of_getElem? (i := 23) rfl))) (by decide) (t := .int) (t' := .long) (by decide) (by decide)))).same W8
  have pre9 : ∀ t, Steps p.tables e below (T8.setTop (mkF m 14 #[.val (.ref oa), .val (.long q1), .second, .val (.int q3)] [])) t → Steps p.tables e below (s₁.setTop (entryFrame m #[(.ref oa), (.long q1), (.int q3)] 4)) t := fun t k => pre7 _ (st8 _ k)
  obtain ⟨fs, hr, hrun, hended, hW, hsame⟩ := X8.leave (v := none) (fun _ => rfl)
  refine ⟨_, _, pre9 _ ?_, hrun, hended, _, _, rfl, ?_, ⟨_, rfl⟩, hW, hsame.mono (by decide) (by decide)⟩
  · show Steps p.tables e below (T8.setTop (mkF m 14 #[.val (.ref oa), .val (.long q1), .second, .val (.int q3)] [])) _
    exact X8.returnOut hx Bd.returns (hb hby own_d_jdk_2316_method_17_14) hr
  · show Q_own_durI Z oa q1 q3 h0 n0 _ T8.heap _
    rw [e8]
    exact ⟨rfl, N8, ((Keep.refl _ _).wr W5 (Or.inl (List.mem_of_getElem? (i := 0) rfl))).wr W8 (Or.inl (List.mem_of_getElem? (i := 0) rfl))⟩
theorem own_ef_own_create (m : MethodId) (q0 : Int64) (q2 : Int32) : entryFrame m #[(.long q0), (.int q2)] 3 = mkF m 0 #[.val (.long q0), .second, .val (.int q2)] [] := by first | (simp [entryFrame, mkF, argsToLocals, Value.category]; done) | rfl
def Q_own_create (Z : State) (q0 : Int64) (q2 : Int32) (zr : Addr) (h0 : Heap) (n0 : Nat) (v : Option Value) (h : Heap) (L : List Loc) : Prop := ∃ r : Addr, v = some (.ref r) ∧ Fr n0 L ∧ Keep h0 h []
theorem own_d_jdk_2316_method_16_0 : decode jdk_2316_method_16_code 0 = .ok (.lload_n 0, 1) := by decide +kernel
theorem own_d_jdk_2316_method_16_1 : decode jdk_2316_method_16_code 1 = .ok (.iload_n 2, 1) := by decide +kernel
theorem own_d_jdk_2316_method_16_2 : decode jdk_2316_method_16_code 2 = .ok (.i2l, 1) := by decide +kernel
theorem own_d_jdk_2316_method_16_3 : decode jdk_2316_method_16_code 3 = .ok (.lor, 1) := by decide +kernel
theorem own_d_jdk_2316_method_16_4 : decode jdk_2316_method_16_code 4 = .ok (.lconst 0, 1) := by decide +kernel
theorem own_d_jdk_2316_method_16_5 : decode jdk_2316_method_16_code 5 = .ok (.lcmp, 1) := by decide +kernel
theorem own_d_jdk_2316_method_16_6 : decode jdk_2316_method_16_code 6 = .ok (.ifCond .ne 7, 3) := by decide +kernel
theorem own_d_jdk_2316_method_16_9 : decode jdk_2316_method_16_code 9 = .ok (.getstatic 32, 3) := by decide +kernel
theorem own_d_jdk_2316_method_16_12 : decode jdk_2316_method_16_code 12 = .ok (.areturn, 1) := by decide +kernel
theorem own_d_jdk_2316_method_16_13 : decode jdk_2316_method_16_code 13 = .ok (.new 11, 3) := by decide +kernel
theorem own_d_jdk_2316_method_16_16 : decode jdk_2316_method_16_code 16 = .ok (.dup, 1) := by decide +kernel
theorem own_d_jdk_2316_method_16_17 : decode jdk_2316_method_16_code 17 = .ok (.lload_n 0, 1) := by decide +kernel
theorem own_d_jdk_2316_method_16_18 : decode jdk_2316_method_16_code 18 = .ok (.iload_n 2, 1) := by decide +kernel
theorem own_pd__JI_V : parseMethodDescriptor "(JI)V" = some ⟨[.long, .int], none⟩ := by decide +kernel
theorem own_d_jdk_2316_method_16_19 : decode jdk_2316_method_16_code 19 = .ok (.invokespecial 215, 3) := by decide +kernel
theorem own_d_jdk_2316_method_16_22 : decode jdk_2316_method_16_code 22 = .ok (.areturn, 1) := by decide +kernel
set_option maxRecDepth 65536 in
set_option maxHeartbeats 40000000 in
theorem own_create (l : Launch) (Z : State) (a0 : Array Value) (hw : ∀ d ∈ tables_1, d.before a0 Z = true) (ws : List Jvm.Cond) (q0 : Int64) (q2 : Int32) (zr : Addr) (h0 : Heap) (n0 : Nat) (Z0 : n0 ≤ h0.size) (SZ : Sta Z h0 "java/time/Duration" "ZERO" "Ljava/time/Duration;" (.ref zr)) :
    MetFree l (⟨"java/time/Duration", "create", "(JI)Ljava/time/Duration;"⟩ : MethodName) (head1 (Jvm.Cond.code (⟨"java/time/Duration", "create", "(JI)Ljava/time/Duration;"⟩ : MethodName) jdk_2316_method_16_code 3 (some (.object "java/time/Duration")) :: ws) ({ frames := 2, cells := 1, slots := 2, locals := 40 } : Room)) (fun a U => a = #[(.long q0), (.int q2)] ∧ Z.Warmed39 U.vm ∧ U.heap = h0) (fun _ _ _ _ _ => True) (fun _ U o U' => ∃ v L, o = .returned v ∧ Q_own_create Z q0 q2 zr h0 n0 v U'.heap L ∧ FrameEnd U o U' L ({ frames := 2, cells := 1, slots := 2, locals := 40 } : Room).cells ({ frames := 2, cells := 1, slots := 2, locals := 40 } : Room).slots) := by
  refine MetFree.of_bodySF (plainFor_of_name own_pn_java_time_Duration) hisR ?_
  intro p e s m args below meth c s₁ Bd hml0 hP hK
  obtain ⟨rfl, hZ, hh⟩ := hP
  have hx := Bd.exec
  have hby := Bd.bytes
  have hml : c.maxLocals = 3 := hml0
  have hown : s.vm.findClass "java/time/Duration" = some m.cls := findClass_of_methodNamed Bd.named
  have hnm := (name_of_methodNamed Bd.named Bd.method).1
  have X0 : Stand p l e ({ frames := 2, cells := 1, slots := 2, locals := 40 } : Room) s m #[(.long q0), (.int q2)] below meth c s₁ [] 0 0 := Stand.of_body Bd
  have e0 : s₁.heap = h0 := by rw [← hh, Bd.state]; rfl
  have N0 := Fr.nil n0
  have pre0 : ∀ t, Steps p.tables e below (s₁.setTop (mkF m 0 #[.val (.long q0), .second, .val (.int q2)] [])) t → Steps p.tables e below (s₁.setTop (entryFrame m #[(.long q0), (.int q2)] 3)) t := fun t k => castTop (own_ef_own_create m q0 q2) k
  have pre1 : ∀ t, Steps p.tables e below (s₁.setTop (mkF m 6 #[.val (.long q0), .second, .val (.int q2)] [(.int (XT.cmpL (q0 ||| (q2.toInt64)) (0 : Int64)))])) t → Steps p.tables e below (s₁.setTop (entryFrame m #[(.long q0), (.int q2)] 3)) t := fun t k => pre0 _ (by
    show Steps p.tables e below (s₁.setTop (mkF m 0 #[.val (.long q0), .second, .val (.int q2)] [])) _
    refine XS.lloadN X0.here hx rfl (hb hby own_d_jdk_2316_method_16_0) rfl ?_
    show Steps p.tables e below (s₁.setTop (mkF m 1 #[.val (.long q0), .second, .val (.int q2)] [(.long q0)])) _
    refine XS.iloadN X0.here hx rfl (hb hby own_d_jdk_2316_method_16_1) rfl ?_
    show Steps p.tables e below (s₁.setTop (mkF m 2 #[.val (.long q0), .second, .val (.int q2)] [(.int q2), (.long q0)])) _
    refine XS.i2l X0.here hx rfl (hb hby own_d_jdk_2316_method_16_2) rfl ?_
    show Steps p.tables e below (s₁.setTop (mkF m 3 #[.val (.long q0), .second, .val (.int q2)] [(.long (q2.toInt64)), (.long q0)])) _
    refine XS.lor X0.here hx rfl (hb hby own_d_jdk_2316_method_16_3) rfl ?_
    show Steps p.tables e below (s₁.setTop (mkF m 4 #[.val (.long q0), .second, .val (.int q2)] [(.long (q0 ||| (q2.toInt64)))])) _
    refine XT.lconstV X0.here hx rfl (0 : Int64) (hb hby own_d_jdk_2316_method_16_4) rfl ?_
    show Steps p.tables e below (s₁.setTop (mkF m 5 #[.val (.long q0), .second, .val (.int q2)] [(.long (0 : Int64)), (.long (q0 ||| (q2.toInt64)))])) _
    refine XT.lcmp X0.here hx rfl (hb hby own_d_jdk_2316_method_16_5) rfl ?_
    exact k)
  by_cases c6 : (q0 ||| (q2.toInt64)) = (0 : Int64)
  · have pre2 : ∀ t, Steps p.tables e below (s₁.setTop (mkF m 9 #[.val (.long q0), .second, .val (.int q2)] [])) t → Steps p.tables e below (s₁.setTop (entryFrame m #[(.long q0), (.int q2)] 3)) t := fun t k => pre1 _ (by
      show Steps p.tables e below (s₁.setTop (mkF m 6 #[.val (.long q0), .second, .val (.int q2)] [(.int (XT.cmpL (q0 ||| (q2.toInt64)) (0 : Int64)))])) _
      refine XS.ifNo X0.here hx rfl (hb hby own_d_jdk_2316_method_16_6) rfl (XT.ll_ne_f c6) ?_
      exact k)
    obtain ⟨T3, X3, e3, st3⟩ := getS X0 hx hZ hown (host := "") (hw _ (List.mem_of_getElem? (i := 96) rfl)) Via.refl e0 SZ (g := (mkF m 9 #[.val (.long q0), .second, .val (.int q2)] [])) rfl (hb hby own_d_jdk_2316_method_16_9)
    have pre4 : ∀ t, Steps p.tables e below (T3.setTop (mkF m 12 #[.val (.long q0), .second, .val (.int q2)] [(.ref zr)])) t → Steps p.tables e below (s₁.setTop (entryFrame m #[(.long q0), (.int q2)] 3)) t := fun t k => pre2 _ (st3 _ k)
    obtain ⟨fs, hr, hrun, hended, hW, hsame⟩ := X3.leave (v := some (.ref zr)) (fun h => by rw [Bd.returns] at h; cases h)
    refine ⟨_, _, pre4 _ ?_, hrun, hended, _, _, rfl, ?_, ⟨_, rfl⟩, hW, hsame.mono (by decide) (by decide)⟩
    · show Steps p.tables e below (T3.setTop (mkF m 12 #[.val (.long q0), .second, .val (.int q2)] [(.ref zr)])) _
      exact retOut X3 hx Bd.returns rfl (Or.inr (Or.inr (Or.inr (Or.inr ⟨rfl, rfl, rfl⟩)))) (hb hby own_d_jdk_2316_method_16_12) hr
    · show Q_own_create Z q0 q2 zr h0 n0 _ T3.heap _
      rw [e3]
      exact ⟨zr, rfl, N0, Keep.refl _ _⟩
  · have pre5 : ∀ t, Steps p.tables e below (s₁.setTop (mkF m 13 #[.val (.long q0), .second, .val (.int q2)] [])) t → Steps p.tables e below (s₁.setTop (entryFrame m #[(.long q0), (.int q2)] 3)) t := fun t k => pre1 _ (by
      show Steps p.tables e below (s₁.setTop (mkF m 6 #[.val (.long q0), .second, .val (.int q2)] [(.int (XT.cmpL (q0 ||| (q2.toInt64)) (0 : Int64)))])) _
      refine XS.ifYes X0.here hx rfl (pc0 := 6) (pc' := 13) rfl (hb hby own_d_jdk_2316_method_16_6) rfl (XT.ll_ne_t c6) (by decide) (by decide) ?_
      exact k)
    obtain ⟨T6, h6, X6, e6, E6, A6, D6, -, st6⟩ := newO X0 hx hZ hown (hw _ (List.mem_of_getElem? (i := 13) rfl)) (hw _ (List.mem_of_getElem? (i := 14) rfl)) (hw _ (List.mem_of_getElem? (i := 7) rfl)) e0 (g := (mkF m 13 #[.val (.long q0), .second, .val (.int q2)] [])) rfl (hb hby own_d_jdk_2316_method_16_13) (by decide) (by decide)
    obtain ⟨a6, ga6⟩ : ∃ z, z = h0.size := ⟨_, rfl⟩
    rw [← ga6] at A6 D6 st6
    have ge_a6 : n0 ≤ a6 := Nat.le_trans Z0 (Nat.le_of_eq ga6.symm)
    have F6_seconds : Fld Z h6 a6 "java/time/Duration" "seconds" "J" (.long (0 : Int64)) := D6 (Or.inr (hw _ (List.mem_of_getElem? (i := 23) rfl))) (ty := .long) (by decide)
    have F6_nanos : Fld Z h6 a6 "java/time/Duration" "nanos" "I" (.int (0 : Int32)) := D6 (Or.inr (hw _ (List.mem_of_getElem? (i := 25) rfl))) (ty := .int) (by decide)
    have Z6 : n0 ≤ h6.size := Nat.le_trans Z0 E6.1
    have pre7 : ∀ t, Steps p.tables e below (T6.setTop (mkF m 16 #[.val (.long q0), .second, .val (.int q2)] [(.ref a6)])) t → Steps p.tables e below (s₁.setTop (entryFrame m #[(.long q0), (.int q2)] 3)) t := fun t k => pre5 _ (st6 _ k)
    have pre8 : ∀ t, Steps p.tables e below (T6.setTop (mkF m 19 #[.val (.long q0), .second, .val (.int q2)] [(.int q2), (.long q0), (.ref a6), (.ref a6)])) t → Steps p.tables e below (s₁.setTop (entryFrame m #[(.long q0), (.int q2)] 3)) t := fun t k => pre7 _ (by
      show Steps p.tables e below (T6.setTop (mkF m 16 #[.val (.long q0), .second, .val (.int q2)] [(.ref a6)])) _
      refine XS.dup X6.here hx rfl (hb hby own_d_jdk_2316_method_16_16) rfl rfl ?_
      show Steps p.tables e below (T6.setTop (mkF m 17 #[.val (.long q0), .second, .val (.int q2)] [(.ref a6), (.ref a6)])) _
      refine XS.lloadN X6.here hx rfl (hb hby own_d_jdk_2316_method_16_17) rfl ?_
      show Steps p.tables e below (T6.setTop (mkF m 18 #[.val (.long q0), .second, .val (.int q2)] [(.long q0), (.ref a6), (.ref a6)])) _
      refine XS.iloadN X6.here hx rfl (hb hby own_d_jdk_2316_method_16_18) rfl ?_
      exact k)
    obtain ⟨_, _, ⟨T9, L9, k9, n9⟩, -, X9, ⟨Lc9, hQ9, l9, y9, z9⟩, st9⟩ := X6.specialBack hx (y := (⟨"java/time/Duration", "<init>", "(JI)V"⟩ : MethodName)) rfl hown (mvT hZ (hw _ (List.mem_of_getElem? (i := 15) rfl))) (mvT hZ (hw _ (List.mem_of_getElem? (i := 16) rfl))) (mvT hZ (hw _ (List.mem_of_getElem? (i := 18) rfl))) (by decide) (backOf (W := 1) (own_durI l Z a0 hw [] a6 q0 q2 h6 n0 Z6 F6_seconds F6_nanos A6 ge_a6) hZ (hw _ (List.mem_of_getElem? (i := 18) rfl)) (hw _ (List.mem_of_getElem? (i := 7) rfl)) (by decide) (by decide)) (g := (mkF m 19 #[.val (.long q0), .second, .val (.int q2)] [(.int q2), (.long q0), (.ref a6), (.ref a6)])) rfl (by rw [hml]; rfl) (Steps.refl _) (a := a6) (argsL := [(.long q0), (.int q2)]) (rest := [(.ref a6)]) (lenOf own_pd__JI_V rfl) rfl (by show 2 * 0 + _ ≤ _; exact Nat.le_of_eq rfl) (hb hby own_d_jdk_2316_method_16_19) (fun _ _ => ⟨rfl, e6, (by decide : 1 + 0 ≤ _), (by decide : 2 + 0 ≤ _)⟩)
    dsimp only [Pt.U, Pt.locs, Pt.cells, Pt.slots] at X9 l9 y9 z9 st9 hQ9
    subst l9 y9 z9
    obtain ⟨h9, e9⟩ : ∃ z, T9.heap = z := ⟨_, rfl⟩
    rw [e9] at hQ9
    obtain ⟨rfl, N9q, K9⟩ := hQ9
    have Z9 : n0 ≤ h9.size := Nat.le_trans Z6 K9.1
    have N9 := Fr.app N0 N9q
    have pre10 : ∀ t, Steps p.tables e below (T9.setTop (mkF m 22 #[.val (.long q0), .second, .val (.int q2)] [(.ref a6)])) t → Steps p.tables e below (s₁.setTop (entryFrame m #[(.long q0), (.int q2)] 3)) t := fun t k => pre8 _ (st9.trans k)
    obtain ⟨fs, hr, hrun, hended, hW, hsame⟩ := X9.leave (v := some (.ref a6)) (fun h => by rw [Bd.returns] at h; cases h)
    refine ⟨_, _, pre10 _ ?_, hrun, hended, _, _, rfl, ?_, ⟨_, rfl⟩, hW, hsame.mono (by decide) (by decide)⟩
    · show Steps p.tables e below (T9.setTop (mkF m 22 #[.val (.long q0), .second, .val (.int q2)] [(.ref a6)])) _
      exact retOut X9 hx Bd.returns rfl (Or.inr (Or.inr (Or.inr (Or.inr ⟨rfl, rfl, rfl⟩)))) (hb hby own_d_jdk_2316_method_16_22) hr
    · show Q_own_create Z q0 q2 zr h0 n0 _ T9.heap _
      rw [e9]
      exact ⟨a6, rfl, N9, ((Keep.refl _ _).ext E6).trans K9 (allS (Or.inr (Nat.le_of_eq ga6.symm)) all0)⟩
theorem own_ef_own_nanos (m : MethodId) (q0 : Int64) : entryFrame m #[(.long q0)] 5 = mkF m 0 #[.val (.long q0), .second, .unset, .unset, .unset] [] := by first | (simp [entryFrame, mkF, argsToLocals, Value.category]; done) | rfl
def Q_own_nanos (Z : State) (q0 : Int64) (zr : Addr) (h0 : Heap) (n0 : Nat) (v : Option Value) (h : Heap) (L : List Loc) : Prop := ∃ r : Addr, v = some (.ref r) ∧ Fr n0 L ∧ Keep h0 h []
theorem own_d_jdk_2316_method_7_0 : decode jdk_2316_method_7_code 0 = .ok (.lload_n 0, 1) := by decide +kernel
theorem own_d_jdk_2316_method_7_1 : decode jdk_2316_method_7_code 1 = .ok (.ldc2_w 16, 3) := by decide +kernel
theorem own_d_jdk_2316_method_7_4 : decode jdk_2316_method_7_code 4 = .ok (.ldiv, 1) := by decide +kernel
theorem own_d_jdk_2316_method_7_5 : decode jdk_2316_method_7_code 5 = .ok (.lstore_n 2, 1) := by decide +kernel
theorem own_d_jdk_2316_method_7_6 : decode jdk_2316_method_7_code 6 = .ok (.lload_n 0, 1) := by decide +kernel
theorem own_d_jdk_2316_method_7_7 : decode jdk_2316_method_7_code 7 = .ok (.ldc2_w 16, 3) := by decide +kernel
theorem own_d_jdk_2316_method_7_10 : decode jdk_2316_method_7_code 10 = .ok (.lrem, 1) := by decide +kernel
theorem own_d_jdk_2316_method_7_11 : decode jdk_2316_method_7_code 11 = .ok (.l2i, 1) := by decide +kernel
theorem own_d_jdk_2316_method_7_12 : decode jdk_2316_method_7_code 12 = .ok (.istore 4, 2) := by decide +kernel
theorem own_d_jdk_2316_method_7_14 : decode jdk_2316_method_7_code 14 = .ok (.iload 4, 2) := by decide +kernel
theorem own_d_jdk_2316_method_7_16 : decode jdk_2316_method_7_code 16 = .ok (.ifCond .ge 14, 3) := by decide +kernel
theorem own_d_jdk_2316_method_7_30 : decode jdk_2316_method_7_code 30 = .ok (.lload_n 2, 1) := by decide +kernel
theorem own_d_jdk_2316_method_7_31 : decode jdk_2316_method_7_code 31 = .ok (.iload 4, 2) := by decide +kernel
theorem own_pd__JI_Ljava_time_Duration_ : parseMethodDescriptor "(JI)Ljava/time/Duration;" = some ⟨[.long, .int], some (.object "java/time/Duration")⟩ := by decide +kernel
theorem own_d_jdk_2316_method_7_33 : decode jdk_2316_method_7_code 33 = .ok (.invokestatic 10, 3) := by decide +kernel
theorem own_d_jdk_2316_method_7_36 : decode jdk_2316_method_7_code 36 = .ok (.areturn, 1) := by decide +kernel
set_option maxRecDepth 65536 in
set_option maxHeartbeats 40000000 in
theorem own_nanos (l : Launch) (Z : State) (a0 : Array Value) (hw : ∀ d ∈ tables_1, d.before a0 Z = true) (ws : List Jvm.Cond) (q0 : Int64) (zr : Addr) (h0 : Heap) (n0 : Nat) (Z0 : n0 ≤ h0.size) (SZ : Sta Z h0 "java/time/Duration" "ZERO" "Ljava/time/Duration;" (.ref zr)) (hq : ¬ q0 < 0) :
    MetFree l (⟨"java/time/Duration", "ofNanos", "(J)Ljava/time/Duration;"⟩ : MethodName) (head1 (Jvm.Cond.code (⟨"java/time/Duration", "ofNanos", "(J)Ljava/time/Duration;"⟩ : MethodName) jdk_2316_method_7_code 5 (some (.object "java/time/Duration")) :: ws) ({ frames := 3, cells := 1, slots := 2, locals := 60 } : Room)) (fun a U => a = #[(.long q0)] ∧ Z.Warmed39 U.vm ∧ U.heap = h0) (fun _ _ _ _ _ => True) (fun _ U o U' => ∃ v L, o = .returned v ∧ Q_own_nanos Z q0 zr h0 n0 v U'.heap L ∧ FrameEnd U o U' L ({ frames := 3, cells := 1, slots := 2, locals := 60 } : Room).cells ({ frames := 3, cells := 1, slots := 2, locals := 60 } : Room).slots) := by
  refine MetFree.of_bodySF (plainFor_of_name own_pn_java_time_Duration) hisR ?_
  intro p e s m args below meth c s₁ Bd hml0 hP hK
  obtain ⟨rfl, hZ, hh⟩ := hP
  have hx := Bd.exec
  have hby := Bd.bytes
  have hml : c.maxLocals = 5 := hml0
  have hown : s.vm.findClass "java/time/Duration" = some m.cls := findClass_of_methodNamed Bd.named
  have hnm := (name_of_methodNamed Bd.named Bd.method).1
  have X0 : Stand p l e ({ frames := 3, cells := 1, slots := 2, locals := 60 } : Room) s m #[(.long q0)] below meth c s₁ [] 0 0 := Stand.of_body Bd
  have e0 : s₁.heap = h0 := by rw [← hh, Bd.state]; rfl
  have N0 := Fr.nil n0
  have pre0 : ∀ t, Steps p.tables e below (s₁.setTop (mkF m 0 #[.val (.long q0), .second, .unset, .unset, .unset] [])) t → Steps p.tables e below (s₁.setTop (entryFrame m #[(.long q0)] 5)) t := fun t k => castTop (own_ef_own_nanos m q0) k
  have pre1 : ∀ t, Steps p.tables e below (s₁.setTop (mkF m 33 #[.val (.long q0), .second, .val (.long (q0 / (1000000000 : Int64))), .second, .val (.int ((q0 - (q0 / (1000000000 : Int64)) * (1000000000 : Int64)).toInt32))] [(.int ((q0 - (q0 / (1000000000 : Int64)) * (1000000000 : Int64)).toInt32)), (.long (q0 / (1000000000 : Int64)))])) t → Steps p.tables e below (s₁.setTop (entryFrame m #[(.long q0)] 5)) t := fun t k => pre0 _ (by
    show Steps p.tables e below (s₁.setTop (mkF m 0 #[.val (.long q0), .second, .unset, .unset, .unset] [])) _
    refine XS.lloadN X0.here hx rfl (hb hby own_d_jdk_2316_method_7_0) rfl ?_
    show Steps p.tables e below (s₁.setTop (mkF m 1 #[.val (.long q0), .second, .unset, .unset, .unset] [(.long q0)])) _
    refine X0.ldc2J hx hown (mvT hZ (hw _ (List.mem_of_getElem? (i := 9) rfl))) rfl (hb hby own_d_jdk_2316_method_7_1) ?_
    show Steps p.tables e below (s₁.setTop (mkF m 4 #[.val (.long q0), .second, .unset, .unset, .unset] [(.long (1000000000 : Int64)), (.long q0)])) _
    refine XS.ldiv X0.here hx rfl (hb hby own_d_jdk_2316_method_7_4) rfl (by decide) ?_
    show Steps p.tables e below (s₁.setTop (mkF m 5 #[.val (.long q0), .second, .unset, .unset, .unset] [(.long (q0 / (1000000000 : Int64)))])) _
    refine XS.lstoreN X0.here hx rfl (hb hby own_d_jdk_2316_method_7_5) rfl (l' := #[.val (.long q0), .second, .val (.long (q0 / (1000000000 : Int64))), .second, .unset]) rfl ?_
    show Steps p.tables e below (s₁.setTop (mkF m 6 #[.val (.long q0), .second, .val (.long (q0 / (1000000000 : Int64))), .second, .unset] [])) _
    refine XS.lloadN X0.here hx rfl (hb hby own_d_jdk_2316_method_7_6) rfl ?_
    show Steps p.tables e below (s₁.setTop (mkF m 7 #[.val (.long q0), .second, .val (.long (q0 / (1000000000 : Int64))), .second, .unset] [(.long q0)])) _
    refine X0.ldc2J hx hown (mvT hZ (hw _ (List.mem_of_getElem? (i := 9) rfl))) rfl (hb hby own_d_jdk_2316_method_7_7) ?_
    show Steps p.tables e below (s₁.setTop (mkF m 10 #[.val (.long q0), .second, .val (.long (q0 / (1000000000 : Int64))), .second, .unset] [(.long (1000000000 : Int64)), (.long q0)])) _
    refine XS.lrem X0.here hx rfl (hb hby own_d_jdk_2316_method_7_10) rfl (by decide) ?_
    show Steps p.tables e below (s₁.setTop (mkF m 11 #[.val (.long q0), .second, .val (.long (q0 / (1000000000 : Int64))), .second, .unset] [(.long (q0 - (q0 / (1000000000 : Int64)) * (1000000000 : Int64)))])) _
    refine XS.l2i X0.here hx rfl (hb hby own_d_jdk_2316_method_7_11) rfl ?_
    show Steps p.tables e below (s₁.setTop (mkF m 12 #[.val (.long q0), .second, .val (.long (q0 / (1000000000 : Int64))), .second, .unset] [(.int ((q0 - (q0 / (1000000000 : Int64)) * (1000000000 : Int64)).toInt32))])) _
    refine XS.istore X0.here hx rfl (hb hby own_d_jdk_2316_method_7_12) rfl (l' := #[.val (.long q0), .second, .val (.long (q0 / (1000000000 : Int64))), .second, .val (.int ((q0 - (q0 / (1000000000 : Int64)) * (1000000000 : Int64)).toInt32))]) rfl ?_
    show Steps p.tables e below (s₁.setTop (mkF m 14 #[.val (.long q0), .second, .val (.long (q0 / (1000000000 : Int64))), .second, .val (.int ((q0 - (q0 / (1000000000 : Int64)) * (1000000000 : Int64)).toInt32))] [])) _
    refine XS.iload X0.here hx rfl (hb hby own_d_jdk_2316_method_7_14) rfl ?_
    show Steps p.tables e below (s₁.setTop (mkF m 16 #[.val (.long q0), .second, .val (.long (q0 / (1000000000 : Int64))), .second, .val (.int ((q0 - (q0 / (1000000000 : Int64)) * (1000000000 : Int64)).toInt32))] [(.int ((q0 - (q0 / (1000000000 : Int64)) * (1000000000 : Int64)).toInt32))])) _
    refine XS.ifYes X0.here hx rfl (pc0 := 16) (pc' := 30) rfl (hb hby own_d_jdk_2316_method_7_16) rfl (XT.i0_ge_t (own_nos hq)) (by decide) (by decide) ?_
    show Steps p.tables e below (s₁.setTop (mkF m 30 #[.val (.long q0), .second, .val (.long (q0 / (1000000000 : Int64))), .second, .val (.int ((q0 - (q0 / (1000000000 : Int64)) * (1000000000 : Int64)).toInt32))] [])) _
    refine XS.lloadN X0.here hx rfl (hb hby own_d_jdk_2316_method_7_30) rfl ?_
    show Steps p.tables e below (s₁.setTop (mkF m 31 #[.val (.long q0), .second, .val (.long (q0 / (1000000000 : Int64))), .second, .val (.int ((q0 - (q0 / (1000000000 : Int64)) * (1000000000 : Int64)).toInt32))] [(.long (q0 / (1000000000 : Int64)))])) _
    refine XS.iload X0.here hx rfl (hb hby own_d_jdk_2316_method_7_31) rfl ?_
    exact k)
  obtain ⟨_, _, ⟨T2, L2, k2, n2⟩, -, X2, ⟨Lc2, hQ2, l2, y2, z2⟩, st2⟩ := Jvm.LawKit.callS X0 hx (y := (⟨"java/time/Duration", "create", "(JI)Ljava/time/Duration;"⟩ : MethodName)) hown (mvT hZ (hw _ (List.mem_of_getElem? (i := 10) rfl))) (mvT hZ (hw _ (List.mem_of_getElem? (i := 11) rfl))) (mvT hZ (hw _ (List.mem_of_getElem? (i := 7) rfl))) (mvT hZ (hw _ (List.mem_of_getElem? (i := 12) rfl))) (by decide) (backOf (W := 0) (own_create l Z a0 hw [] (q0 / (1000000000 : Int64)) ((q0 - (q0 / (1000000000 : Int64)) * (1000000000 : Int64)).toInt32) zr h0 n0 Z0 SZ) hZ (hw _ (List.mem_of_getElem? (i := 12) rfl)) (hw _ (List.mem_of_getElem? (i := 7) rfl)) (by decide) (by decide)) (g := (mkF m 33 #[.val (.long q0), .second, .val (.long (q0 / (1000000000 : Int64))), .second, .val (.int ((q0 - (q0 / (1000000000 : Int64)) * (1000000000 : Int64)).toInt32))] [(.int ((q0 - (q0 / (1000000000 : Int64)) * (1000000000 : Int64)).toInt32)), (.long (q0 / (1000000000 : Int64)))])) rfl (by rw [hml]; rfl) (argsL := [(.long (q0 / (1000000000 : Int64))), (.int ((q0 - (q0 / (1000000000 : Int64)) * (1000000000 : Int64)).toInt32))]) (rest := []) (lenOf own_pd__JI_Ljava_time_Duration_ rfl) rfl (by show 2 * 0 + _ ≤ _; exact Nat.le_of_eq rfl) (hb hby own_d_jdk_2316_method_7_33) (fun _ _ => ⟨rfl, e0, (by decide : 0 + 1 ≤ _), (by decide : 0 + 2 ≤ _)⟩)
  dsimp only [Pt.U, Pt.locs, Pt.cells, Pt.slots] at X2 l2 y2 z2 st2 hQ2
  subst l2 y2 z2
  obtain ⟨h2, e2⟩ : ∃ z, T2.heap = z := ⟨_, rfl⟩
  rw [e2] at hQ2
  obtain ⟨r2, rfl, N2q, K2⟩ := hQ2
  have Z2 : n0 ≤ h2.size := Nat.le_trans Z0 K2.1
  have N2 := Fr.app N0 N2q
  have pre3 : ∀ t, Steps p.tables e below (T2.setTop (mkF m 36 #[.val (.long q0), .second, .val (.long (q0 / (1000000000 : Int64))), .second, .val (.int ((q0 - (q0 / (1000000000 : Int64)) * (1000000000 : Int64)).toInt32))] [(.ref r2)])) t → Steps p.tables e below (s₁.setTop (entryFrame m #[(.long q0)] 5)) t := fun t k => pre1 _ (st2 _ k)
  obtain ⟨fs, hr, hrun, hended, hW, hsame⟩ := X2.leave (v := some (.ref r2)) (fun h => by rw [Bd.returns] at h; cases h)
  refine ⟨_, _, pre3 _ ?_, hrun, hended, _, _, rfl, ?_, ⟨_, rfl⟩, hW, hsame.mono (by decide) (by decide)⟩
  · show Steps p.tables e below (T2.setTop (mkF m 36 #[.val (.long q0), .second, .val (.long (q0 / (1000000000 : Int64))), .second, .val (.int ((q0 - (q0 / (1000000000 : Int64)) * (1000000000 : Int64)).toInt32))] [(.ref r2)])) _
    exact retOut X2 hx Bd.returns rfl (Or.inr (Or.inr (Or.inr (Or.inr ⟨rfl, rfl, rfl⟩)))) (hb hby own_d_jdk_2316_method_7_36) hr
  · show Q_own_nanos Z q0 zr h0 n0 _ T2.heap _
    rw [e2]
    exact ⟨r2, rfl, N2, K2⟩
theorem own_ef_own_req1 (m : MethodId) (oa : Addr) : entryFrame m #[(.ref oa)] 1 = mkF m 0 #[.val (.ref oa)] [] := by first | (simp [entryFrame, mkF, argsToLocals, Value.category]; done) | rfl
def Q_own_req1 (Z : State) (oa : Addr)  (h0 : Heap) (n0 : Nat) (v : Option Value) (h : Heap) (L : List Loc) : Prop := v = some (.ref oa) ∧ Fr n0 L ∧ h = h0
theorem own_pn_java_util_Objects : plainName "java/util/Objects" = true := by first | (simp [plainName, overriddenIn]; done) | decide +kernel
theorem own_d_jdk_31_method_10_0 : decode jdk_31_method_10_code 0 = .ok (.aload_n 0, 1) := by decide +kernel
theorem own_d_jdk_31_method_10_1 : decode jdk_31_method_10_code 1 = .ok (.ifnonnull 11, 3) := by decide +kernel
theorem own_d_jdk_31_method_10_12 : decode jdk_31_method_10_code 12 = .ok (.aload_n 0, 1) := by decide +kernel
theorem own_d_jdk_31_method_10_13 : decode jdk_31_method_10_code 13 = .ok (.areturn, 1) := by decide +kernel
set_option maxRecDepth 65536 in
set_option maxHeartbeats 40000000 in
theorem own_req1 (l : Launch) (Z : State) (a0 : Array Value) (hw : ∀ d ∈ tables_1, d.before a0 Z = true) (ws : List Jvm.Cond) (oa : Addr)  (h0 : Heap) (n0 : Nat) (Z0 : n0 ≤ h0.size)  :
    MetFree l (⟨"java/util/Objects", "requireNonNull", "(Ljava/lang/Object;)Ljava/lang/Object;"⟩ : MethodName) (head1 (Jvm.Cond.code (⟨"java/util/Objects", "requireNonNull", "(Ljava/lang/Object;)Ljava/lang/Object;"⟩ : MethodName) jdk_31_method_10_code 1 (some (.object "java/lang/Object")) :: ws) ({ frames := 0, cells := 0, slots := 0, locals := 0 } : Room)) (fun a U => a = #[(.ref oa)] ∧ Z.Warmed39 U.vm ∧ U.heap = h0) (fun _ _ _ _ _ => True) (fun _ U o U' => ∃ v L, o = .returned v ∧ Q_own_req1 Z oa h0 n0 v U'.heap L ∧ FrameEnd U o U' L ({ frames := 0, cells := 0, slots := 0, locals := 0 } : Room).cells ({ frames := 0, cells := 0, slots := 0, locals := 0 } : Room).slots) := by
  refine MetFree.of_bodySF (plainFor_of_name own_pn_java_util_Objects) hisR ?_
  intro p e s m args below meth c s₁ Bd hml0 hP hK
  obtain ⟨rfl, hZ, hh⟩ := hP
  have hx := Bd.exec
  have hby := Bd.bytes
  have hml : c.maxLocals = 1 := hml0
  have hown : s.vm.findClass "java/util/Objects" = some m.cls := findClass_of_methodNamed Bd.named
  have hnm := (name_of_methodNamed Bd.named Bd.method).1
  have X0 : Stand p l e ({ frames := 0, cells := 0, slots := 0, locals := 0 } : Room) s m #[(.ref oa)] below meth c s₁ [] 0 0 := Stand.of_body Bd
  have e0 : s₁.heap = h0 := by rw [← hh, Bd.state]; rfl
  have N0 := Fr.nil n0
  have pre0 : ∀ t, Steps p.tables e below (s₁.setTop (mkF m 0 #[.val (.ref oa)] [])) t → Steps p.tables e below (s₁.setTop (entryFrame m #[(.ref oa)] 1)) t := fun t k => castTop (own_ef_own_req1 m oa) k
  have pre1 : ∀ t, Steps p.tables e below (s₁.setTop (mkF m 13 #[.val (.ref oa)] [(.ref oa)])) t → Steps p.tables e below (s₁.setTop (entryFrame m #[(.ref oa)] 1)) t := fun t k => pre0 _ (by
    show Steps p.tables e below (s₁.setTop (mkF m 0 #[.val (.ref oa)] [])) _
    refine XS.aloadN X0.here hx rfl (hb hby own_d_jdk_31_method_10_0) rfl rfl ?_
    show Steps p.tables e below (s₁.setTop (mkF m 1 #[.val (.ref oa)] [(.ref oa)])) _
    refine XS.ifnonnullYes X0.here hx rfl (pc0 := 1) (pc' := 12) rfl (hb hby own_d_jdk_31_method_10_1) rfl (by decide) (by decide) ?_
    show Steps p.tables e below (s₁.setTop (mkF m 12 #[.val (.ref oa)] [])) _
    refine XS.aloadN X0.here hx rfl (hb hby own_d_jdk_31_method_10_12) rfl rfl ?_
    exact k)
  obtain ⟨fs, hr, hrun, hended, hW, hsame⟩ := X0.leave (v := some (.ref oa)) (fun h => by rw [Bd.returns] at h; cases h)
  refine ⟨_, _, pre1 _ ?_, hrun, hended, _, _, rfl, ?_, ⟨_, rfl⟩, hW, hsame.mono (by decide) (by decide)⟩
  · show Steps p.tables e below (s₁.setTop (mkF m 13 #[.val (.ref oa)] [(.ref oa)])) _
    exact retOut X0 hx Bd.returns rfl (Or.inr (Or.inr (Or.inr (Or.inr ⟨rfl, rfl, rfl⟩)))) (hb hby own_d_jdk_31_method_10_13) hr
  · show Q_own_req1 Z oa h0 n0 _ s₁.heap _
    rw [e0]
    exact ⟨rfl, N0, rfl⟩
theorem own_ef_own_req2 (m : MethodId) (oa : Addr) (ob : Addr) : entryFrame m #[(.ref oa), (.ref ob)] 2 = mkF m 0 #[.val (.ref oa), .val (.ref ob)] [] := by first | (simp [entryFrame, mkF, argsToLocals, Value.category]; done) | rfl
def Q_own_req2 (Z : State) (oa : Addr) (ob : Addr)  (h0 : Heap) (n0 : Nat) (v : Option Value) (h : Heap) (L : List Loc) : Prop := v = some (.ref oa) ∧ Fr n0 L ∧ h = h0
theorem own_d_jdk_31_method_11_0 : decode jdk_31_method_11_code 0 = .ok (.aload_n 0, 1) := by decide +kernel
theorem own_d_jdk_31_method_11_1 : decode jdk_31_method_11_code 1 = .ok (.ifnonnull 12, 3) := by decide +kernel
theorem own_d_jdk_31_method_11_13 : decode jdk_31_method_11_code 13 = .ok (.aload_n 0, 1) := by decide +kernel
theorem own_d_jdk_31_method_11_14 : decode jdk_31_method_11_code 14 = .ok (.areturn, 1) := by decide +kernel
set_option maxRecDepth 65536 in
set_option maxHeartbeats 40000000 in
theorem own_req2 (l : Launch) (Z : State) (a0 : Array Value) (hw : ∀ d ∈ tables_1, d.before a0 Z = true) (ws : List Jvm.Cond) (oa : Addr) (ob : Addr)  (h0 : Heap) (n0 : Nat) (Z0 : n0 ≤ h0.size)  :
    MetFree l (⟨"java/util/Objects", "requireNonNull", "(Ljava/lang/Object;Ljava/lang/String;)Ljava/lang/Object;"⟩ : MethodName) (head1 (Jvm.Cond.code (⟨"java/util/Objects", "requireNonNull", "(Ljava/lang/Object;Ljava/lang/String;)Ljava/lang/Object;"⟩ : MethodName) jdk_31_method_11_code 2 (some (.object "java/lang/Object")) :: ws) ({ frames := 0, cells := 0, slots := 0, locals := 0 } : Room)) (fun a U => a = #[(.ref oa), (.ref ob)] ∧ Z.Warmed39 U.vm ∧ U.heap = h0) (fun _ _ _ _ _ => True) (fun _ U o U' => ∃ v L, o = .returned v ∧ Q_own_req2 Z oa ob h0 n0 v U'.heap L ∧ FrameEnd U o U' L ({ frames := 0, cells := 0, slots := 0, locals := 0 } : Room).cells ({ frames := 0, cells := 0, slots := 0, locals := 0 } : Room).slots) := by
  refine MetFree.of_bodySF (plainFor_of_name own_pn_java_util_Objects) hisR ?_
  intro p e s m args below meth c s₁ Bd hml0 hP hK
  obtain ⟨rfl, hZ, hh⟩ := hP
  have hx := Bd.exec
  have hby := Bd.bytes
  have hml : c.maxLocals = 2 := hml0
  have hown : s.vm.findClass "java/util/Objects" = some m.cls := findClass_of_methodNamed Bd.named
  have hnm := (name_of_methodNamed Bd.named Bd.method).1
  have X0 : Stand p l e ({ frames := 0, cells := 0, slots := 0, locals := 0 } : Room) s m #[(.ref oa), (.ref ob)] below meth c s₁ [] 0 0 := Stand.of_body Bd
  have e0 : s₁.heap = h0 := by rw [← hh, Bd.state]; rfl
  have N0 := Fr.nil n0
  have pre0 : ∀ t, Steps p.tables e below (s₁.setTop (mkF m 0 #[.val (.ref oa), .val (.ref ob)] [])) t → Steps p.tables e below (s₁.setTop (entryFrame m #[(.ref oa), (.ref ob)] 2)) t := fun t k => castTop (own_ef_own_req2 m oa ob) k
  have pre1 : ∀ t, Steps p.tables e below (s₁.setTop (mkF m 14 #[.val (.ref oa), .val (.ref ob)] [(.ref oa)])) t → Steps p.tables e below (s₁.setTop (entryFrame m #[(.ref oa), (.ref ob)] 2)) t := fun t k => pre0 _ (by
    show Steps p.tables e below (s₁.setTop (mkF m 0 #[.val (.ref oa), .val (.ref ob)] [])) _
    refine XS.aloadN X0.here hx rfl (hb hby own_d_jdk_31_method_11_0) rfl rfl ?_
    show Steps p.tables e below (s₁.setTop (mkF m 1 #[.val (.ref oa), .val (.ref ob)] [(.ref oa)])) _
    refine XS.ifnonnullYes X0.here hx rfl (pc0 := 1) (pc' := 13) rfl (hb hby own_d_jdk_31_method_11_1) rfl (by decide) (by decide) ?_
    show Steps p.tables e below (s₁.setTop (mkF m 13 #[.val (.ref oa), .val (.ref ob)] [])) _
    refine XS.aloadN X0.here hx rfl (hb hby own_d_jdk_31_method_11_13) rfl rfl ?_
    exact k)
  obtain ⟨fs, hr, hrun, hended, hW, hsame⟩ := X0.leave (v := some (.ref oa)) (fun h => by rw [Bd.returns] at h; cases h)
  refine ⟨_, _, pre1 _ ?_, hrun, hended, _, _, rfl, ?_, ⟨_, rfl⟩, hW, hsame.mono (by decide) (by decide)⟩
  · show Steps p.tables e below (s₁.setTop (mkF m 14 #[.val (.ref oa), .val (.ref ob)] [(.ref oa)])) _
    exact retOut X0 hx Bd.returns rfl (Or.inr (Or.inr (Or.inr (Or.inr ⟨rfl, rfl, rfl⟩)))) (hb hby own_d_jdk_31_method_11_14) hr
  · show Q_own_req2 Z oa ob h0 n0 _ s₁.heap _
    rw [e0]
    exact ⟨rfl, N0, rfl⟩
theorem own_ef_own_optI (m : MethodId) (oa : Addr) (ob : Addr) : entryFrame m #[(.ref oa), (.ref ob)] 2 = mkF m 0 #[.val (.ref oa), .val (.ref ob)] [] := by first | (simp [entryFrame, mkF, argsToLocals, Value.category]; done) | rfl
def Q_own_optI (Z : State) (oa : Addr) (ob : Addr)  (h0 : Heap) (n0 : Nat) (v : Option Value) (h : Heap) (L : List Loc) : Prop := v = none ∧ Fr n0 L ∧ Keep h0 h [oa] ∧ Fld Z h oa "java/util/Optional" "value" "Ljava/lang/Object;" (.ref ob)
theorem own_pn_java_util_Optional : plainName "java/util/Optional" = true := by first | (simp [plainName, overriddenIn]; done) | decide +kernel
theorem own_d_jdk_32_method_2_0 : decode jdk_32_method_2_code 0 = .ok (.aload_n 0, 1) := by decide +kernel
theorem own_d_jdk_32_method_2_1 : decode jdk_32_method_2_code 1 = .ok (.invokespecial 7, 3) := by decide +kernel
theorem own_d_jdk_32_method_2_4 : decode jdk_32_method_2_code 4 = .ok (.aload_n 0, 1) := by decide +kernel
theorem own_d_jdk_32_method_2_5 : decode jdk_32_method_2_code 5 = .ok (.aload_n 1, 1) := by decide +kernel
theorem own_d_jdk_32_method_2_6 : decode jdk_32_method_2_code 6 = .ok (.putfield 13, 3) := by decide +kernel
theorem own_d_jdk_32_method_2_9 : decode jdk_32_method_2_code 9 = .ok (.return_, 1) := by decide +kernel
set_option maxRecDepth 65536 in
set_option maxHeartbeats 40000000 in
theorem own_optI (l : Launch) (Z : State) (a0 : Array Value) (hw : ∀ d ∈ tables_1, d.before a0 Z = true) (ws : List Jvm.Cond) (oa : Addr) (ob : Addr)  (h0 : Heap) (n0 : Nat) (Z0 : n0 ≤ h0.size) (F : Fld Z h0 oa "java/util/Optional" "value" "Ljava/lang/Object;" .null) (E : Exa Z h0 oa "java/util/Optional") (ge_oa : n0 ≤ oa) :
    MetFree l (⟨"java/util/Optional", "<init>", "(Ljava/lang/Object;)V"⟩ : MethodName) (head1 (Jvm.Cond.code (⟨"java/util/Optional", "<init>", "(Ljava/lang/Object;)V"⟩ : MethodName) jdk_32_method_2_code 2 none :: ws) ({ frames := 1, cells := 0, slots := 0, locals := 12 } : Room)) (fun a U => a = #[(.ref oa), (.ref ob)] ∧ Z.Warmed39 U.vm ∧ U.heap = h0) (fun _ _ _ _ _ => True) (fun _ U o U' => ∃ v L, o = .returned v ∧ Q_own_optI Z oa ob h0 n0 v U'.heap L ∧ FrameEnd U o U' L ({ frames := 1, cells := 0, slots := 0, locals := 12 } : Room).cells ({ frames := 1, cells := 0, slots := 0, locals := 12 } : Room).slots) := by
  refine MetFree.of_bodySF (plainFor_of_name own_pn_java_util_Optional) hisR ?_
  intro p e s m args below meth c s₁ Bd hml0 hP hK
  obtain ⟨rfl, hZ, hh⟩ := hP
  have hx := Bd.exec
  have hby := Bd.bytes
  have hml : c.maxLocals = 2 := hml0
  have hown : s.vm.findClass "java/util/Optional" = some m.cls := findClass_of_methodNamed Bd.named
  have hnm := (name_of_methodNamed Bd.named Bd.method).1
  have X0 : Stand p l e ({ frames := 1, cells := 0, slots := 0, locals := 12 } : Room) s m #[(.ref oa), (.ref ob)] below meth c s₁ [] 0 0 := Stand.of_body Bd
  have e0 : s₁.heap = h0 := by rw [← hh, Bd.state]; rfl
  have N0 := Fr.nil n0
  have pre0 : ∀ t, Steps p.tables e below (s₁.setTop (mkF m 0 #[.val (.ref oa), .val (.ref ob)] [])) t → Steps p.tables e below (s₁.setTop (entryFrame m #[(.ref oa), (.ref ob)] 2)) t := fun t k => castTop (own_ef_own_optI m oa ob) k
  have pre1 : ∀ t, Steps p.tables e below (s₁.setTop (mkF m 1 #[.val (.ref oa), .val (.ref ob)] [(.ref oa)])) t → Steps p.tables e below (s₁.setTop (entryFrame m #[(.ref oa), (.ref ob)] 2)) t := fun t k => pre0 _ (by
    show Steps p.tables e below (s₁.setTop (mkF m 0 #[.val (.ref oa), .val (.ref ob)] [])) _
    refine XS.aloadN X0.here hx rfl (hb hby own_d_jdk_32_method_2_0) rfl rfl ?_
    exact k)
  obtain ⟨T2, X2, e2, st2⟩ := initO X0 hx hZ hown (hw _ (List.mem_of_getElem? (i := 40) rfl)) (hw _ (List.mem_of_getElem? (i := 20) rfl)) (hw _ (List.mem_of_getElem? (i := 21) rfl)) e0 (g := (mkF m 1 #[.val (.ref oa), .val (.ref ob)] [(.ref oa)])) rfl (by rw [hml]; rfl) rfl (hb hby own_d_jdk_32_method_2_1) (by decide) (W := 0) (by show 2 * 0 + _ ≤ _; exact Nat.le_of_eq rfl) (by decide)
  have pre3 : ∀ t, Steps p.tables e below (T2.setTop (mkF m 4 #[.val (.ref oa), .val (.ref ob)] [])) t → Steps p.tables e below (s₁.setTop (entryFrame m #[(.ref oa), (.ref ob)] 2)) t := fun t k => pre1 _ (st2 _ k)
  have pre4 : ∀ t, Steps p.tables e below (T2.setTop (mkF m 6 #[.val (.ref oa), .val (.ref ob)] [(.ref ob), (.ref oa)])) t → Steps p.tables e below (s₁.setTop (entryFrame m #[(.ref oa), (.ref ob)] 2)) t := fun t k => pre3 _ (by
    show Steps p.tables e below (T2.setTop (mkF m 4 #[.val (.ref oa), .val (.ref ob)] [])) _
    refine XS.aloadN X2.here hx rfl (hb hby own_d_jdk_32_method_2_4) rfl rfl ?_
    show Steps p.tables e below (T2.setTop (mkF m 5 #[.val (.ref oa), .val (.ref ob)] [(.ref oa)])) _
    refine XS.aloadN X2.here hx rfl (hb hby own_d_jdk_32_method_2_5) rfl rfl ?_
    exact k)
  obtain ⟨T5, h5, X5, e5, W5, st5⟩ := putF X2 hx hZ hown (host := "") (Or.inl (hw _ (List.mem_of_getElem? (i := 41) rfl))) Via.refl e2 F E (Or.inr ⟨(hw _ (List.mem_of_getElem? (i := 42) rfl)), rfl, hnm⟩) (hw _ (List.mem_of_getElem? (i := 31) rfl)) (ty := (.object "java/lang/Object")) (by decide) rfl rfl (g := (mkF m 6 #[.val (.ref oa), .val (.ref ob)] [(.ref ob), (.ref oa)])) rfl rfl (hb hby own_d_jdk_32_method_2_6)
  have N5 := Fr.snoc X5 N0 ge_oa
  have Z5 : n0 ≤ h5.size := Nat.le_trans Z0 (Keep.of_wr W5).1
  have F5 : Fld Z h5 oa "java/util/Optional" "value" "Ljava/lang/Object;" (.ref ob) := F.same W5
  have pre6 : ∀ t, Steps p.tables e below (T5.setTop (mkF m 9 #[.val (.ref oa), .val (.ref ob)] [])) t → Steps p.tables e below (s₁.setTop (entryFrame m #[(.ref oa), (.ref ob)] 2)) t := fun t k => pre4 _ (st5 _ k)
  obtain ⟨fs, hr, hrun, hended, hW, hsame⟩ := X5.leave (v := none) (fun _ => rfl)
  refine ⟨_, _, pre6 _ ?_, hrun, hended, _, _, rfl, ?_, ⟨_, rfl⟩, hW, hsame.mono (by decide) (by decide)⟩
  · show Steps p.tables e below (T5.setTop (mkF m 9 #[.val (.ref oa), .val (.ref ob)] [])) _
    exact X5.returnOut hx Bd.returns (hb hby own_d_jdk_32_method_2_9) hr
  · show Q_own_optI Z oa ob h0 n0 _ T5.heap _
    rw [e5]
    exact ⟨rfl, N5, (Keep.refl _ _).wr W5 (Or.inl (List.mem_of_getElem? (i := 0) rfl)), F5⟩
theorem own_ef_own_optOf (m : MethodId) (oa : Addr) : entryFrame m #[(.ref oa)] 1 = mkF m 0 #[.val (.ref oa)] [] := by first | (simp [entryFrame, mkF, argsToLocals, Value.category]; done) | rfl
def Q_own_optOf (Z : State) (oa : Addr)  (h0 : Heap) (n0 : Nat) (v : Option Value) (h : Heap) (L : List Loc) : Prop := ∃ r : Addr, v = some (.ref r) ∧ Fr n0 L ∧ Keep h0 h [] ∧ Exa Z h r "java/util/Optional" ∧ Fld Z h r "java/util/Optional" "value" "Ljava/lang/Object;" (.ref oa)
theorem own_d_jdk_32_method_3_0 : decode jdk_32_method_3_code 0 = .ok (.new 2, 3) := by decide +kernel
theorem own_d_jdk_32_method_3_3 : decode jdk_32_method_3_code 3 = .ok (.dup, 1) := by decide +kernel
theorem own_d_jdk_32_method_3_4 : decode jdk_32_method_3_code 4 = .ok (.aload_n 0, 1) := by decide +kernel
theorem own_pd__Ljava_lang_Object__Ljava_lang_Object_ : parseMethodDescriptor "(Ljava/lang/Object;)Ljava/lang/Object;" = some ⟨[(.object "java/lang/Object")], some (.object "java/lang/Object")⟩ := by decide +kernel
theorem own_d_jdk_32_method_3_5 : decode jdk_32_method_3_code 5 = .ok (.invokestatic 17, 3) := by decide +kernel
theorem own_pd__Ljava_lang_Object__V : parseMethodDescriptor "(Ljava/lang/Object;)V" = some ⟨[(.object "java/lang/Object")], none⟩ := by decide +kernel
theorem own_d_jdk_32_method_3_8 : decode jdk_32_method_3_code 8 = .ok (.invokespecial 23, 3) := by decide +kernel
theorem own_d_jdk_32_method_3_11 : decode jdk_32_method_3_code 11 = .ok (.areturn, 1) := by decide +kernel
set_option maxRecDepth 65536 in
set_option maxHeartbeats 40000000 in
theorem own_optOf (l : Launch) (Z : State) (a0 : Array Value) (hw : ∀ d ∈ tables_1, d.before a0 Z = true) (ws : List Jvm.Cond) (oa : Addr)  (h0 : Heap) (n0 : Nat) (Z0 : n0 ≤ h0.size)  :
    MetFree l (⟨"java/util/Optional", "of", "(Ljava/lang/Object;)Ljava/util/Optional;"⟩ : MethodName) (head1 (Jvm.Cond.code (⟨"java/util/Optional", "of", "(Ljava/lang/Object;)Ljava/util/Optional;"⟩ : MethodName) jdk_32_method_3_code 1 (some (.object "java/util/Optional")) :: ws) ({ frames := 2, cells := 1, slots := 1, locals := 40 } : Room)) (fun a U => a = #[(.ref oa)] ∧ Z.Warmed39 U.vm ∧ U.heap = h0) (fun _ _ _ _ _ => True) (fun _ U o U' => ∃ v L, o = .returned v ∧ Q_own_optOf Z oa h0 n0 v U'.heap L ∧ FrameEnd U o U' L ({ frames := 2, cells := 1, slots := 1, locals := 40 } : Room).cells ({ frames := 2, cells := 1, slots := 1, locals := 40 } : Room).slots) := by
  refine MetFree.of_bodySF (plainFor_of_name own_pn_java_util_Optional) hisR ?_
  intro p e s m args below meth c s₁ Bd hml0 hP hK
  obtain ⟨rfl, hZ, hh⟩ := hP
  have hx := Bd.exec
  have hby := Bd.bytes
  have hml : c.maxLocals = 1 := hml0
  have hown : s.vm.findClass "java/util/Optional" = some m.cls := findClass_of_methodNamed Bd.named
  have hnm := (name_of_methodNamed Bd.named Bd.method).1
  have X0 : Stand p l e ({ frames := 2, cells := 1, slots := 1, locals := 40 } : Room) s m #[(.ref oa)] below meth c s₁ [] 0 0 := Stand.of_body Bd
  have e0 : s₁.heap = h0 := by rw [← hh, Bd.state]; rfl
  have N0 := Fr.nil n0
  have pre0 : ∀ t, Steps p.tables e below (s₁.setTop (mkF m 0 #[.val (.ref oa)] [])) t → Steps p.tables e below (s₁.setTop (entryFrame m #[(.ref oa)] 1)) t := fun t k => castTop (own_ef_own_optOf m oa) k
  obtain ⟨T1, h1, X1, e1, E1, A1, D1, -, st1⟩ := newO X0 hx hZ hown (hw _ (List.mem_of_getElem? (i := 30) rfl)) (hw _ (List.mem_of_getElem? (i := 31) rfl)) (hw _ (List.mem_of_getElem? (i := 28) rfl)) e0 (g := (mkF m 0 #[.val (.ref oa)] [])) rfl (hb hby own_d_jdk_32_method_3_0) (by decide) (by decide)
  obtain ⟨a1, ga1⟩ : ∃ z, z = h0.size := ⟨_, rfl⟩
  rw [← ga1] at A1 D1 st1
  have ge_a1 : n0 ≤ a1 := Nat.le_trans Z0 (Nat.le_of_eq ga1.symm)
  have F1_value : Fld Z h1 a1 "java/util/Optional" "value" "Ljava/lang/Object;" .null := D1 (Or.inr (hw _ (List.mem_of_getElem? (i := 42) rfl))) (ty := (.object "java/lang/Object")) (by decide)
  have Z1 : n0 ≤ h1.size := Nat.le_trans Z0 E1.1
  have pre2 : ∀ t, Steps p.tables e below (T1.setTop (mkF m 3 #[.val (.ref oa)] [(.ref a1)])) t → Steps p.tables e below (s₁.setTop (entryFrame m #[(.ref oa)] 1)) t := fun t k => pre0 _ (st1 _ k)
  have pre3 : ∀ t, Steps p.tables e below (T1.setTop (mkF m 5 #[.val (.ref oa)] [(.ref oa), (.ref a1), (.ref a1)])) t → Steps p.tables e below (s₁.setTop (entryFrame m #[(.ref oa)] 1)) t := fun t k => pre2 _ (by
    show Steps p.tables e below (T1.setTop (mkF m 3 #[.val (.ref oa)] [(.ref a1)])) _
    refine XS.dup X1.here hx rfl (hb hby own_d_jdk_32_method_3_3) rfl rfl ?_
    show Steps p.tables e below (T1.setTop (mkF m 4 #[.val (.ref oa)] [(.ref a1), (.ref a1)])) _
    refine XS.aloadN X1.here hx rfl (hb hby own_d_jdk_32_method_3_4) rfl rfl ?_
    exact k)
  obtain ⟨_, _, ⟨T4, L4, k4, n4⟩, -, X4, ⟨Lc4, hQ4, l4, y4, z4⟩, st4⟩ := Jvm.LawKit.callS X1 hx (y := (⟨"java/util/Objects", "requireNonNull", "(Ljava/lang/Object;)Ljava/lang/Object;"⟩ : MethodName)) hown (mvT hZ (hw _ (List.mem_of_getElem? (i := 32) rfl))) (mvT hZ (hw _ (List.mem_of_getElem? (i := 33) rfl))) (mvT hZ (hw _ (List.mem_of_getElem? (i := 34) rfl))) (mvT hZ (hw _ (List.mem_of_getElem? (i := 35) rfl))) (by decide) (backOf (W := 2) (own_req1 l Z a0 hw [] oa h1 n0 Z1) hZ (hw _ (List.mem_of_getElem? (i := 35) rfl)) (hw _ (List.mem_of_getElem? (i := 34) rfl)) (by decide) (by decide)) (g := (mkF m 5 #[.val (.ref oa)] [(.ref oa), (.ref a1), (.ref a1)])) rfl (by rw [hml]; rfl) (argsL := [(.ref oa)]) (rest := [(.ref a1), (.ref a1)]) (lenOf own_pd__Ljava_lang_Object__Ljava_lang_Object_ rfl) rfl (by show 2 * 0 + _ ≤ _; exact Nat.le_of_eq rfl) (hb hby own_d_jdk_32_method_3_5) (fun _ _ => ⟨rfl, e1, (by decide : 1 + 0 ≤ _), (by decide : 1 + 0 ≤ _)⟩)
  dsimp only [Pt.U, Pt.locs, Pt.cells, Pt.slots] at X4 l4 y4 z4 st4 hQ4
  subst l4 y4 z4
  obtain ⟨rfl, N4q, e4⟩ := hQ4
  have N4 := Fr.app N0 N4q
  have pre5 : ∀ t, Steps p.tables e below (T4.setTop (mkF m 8 #[.val (.ref oa)] [(.ref oa), (.ref a1), (.ref a1)])) t → Steps p.tables e below (s₁.setTop (entryFrame m #[(.ref oa)] 1)) t := fun t k => pre3 _ (st4 _ k)
  obtain ⟨_, _, ⟨T6, L6, k6, n6⟩, -, X6, ⟨Lc6, hQ6, l6, y6, z6⟩, st6⟩ := X4.specialBack hx (y := (⟨"java/util/Optional", "<init>", "(Ljava/lang/Object;)V"⟩ : MethodName)) rfl hown (mvT hZ (hw _ (List.mem_of_getElem? (i := 36) rfl))) (mvT hZ (hw _ (List.mem_of_getElem? (i := 37) rfl))) (mvT hZ (hw _ (List.mem_of_getElem? (i := 39) rfl))) (by decide) (backOf (W := 1) (own_optI l Z a0 hw [] a1 oa h1 n0 Z1 F1_value A1 ge_a1) hZ (hw _ (List.mem_of_getElem? (i := 39) rfl)) (hw _ (List.mem_of_getElem? (i := 28) rfl)) (by decide) (by decide)) (g := (mkF m 8 #[.val (.ref oa)] [(.ref oa), (.ref a1), (.ref a1)])) rfl (by rw [hml]; rfl) (Steps.refl _) (a := a1) (argsL := [(.ref oa)]) (rest := [(.ref a1)]) (lenOf own_pd__Ljava_lang_Object__V rfl) rfl (by show 2 * 0 + _ ≤ _; exact Nat.le_of_eq rfl) (hb hby own_d_jdk_32_method_3_8) (fun _ _ => ⟨rfl, e4, (by decide : 1 + 0 ≤ _), (by decide : 1 + 0 ≤ _)⟩)
  dsimp only [Pt.U, Pt.locs, Pt.cells, Pt.slots] at X6 l6 y6 z6 st6 hQ6
  subst l6 y6 z6
  obtain ⟨h6, e6⟩ : ∃ z, T6.heap = z := ⟨_, rfl⟩
  rw [e6] at hQ6
  obtain ⟨rfl, N6q, K6, FT6⟩ := hQ6
  have Z6 : n0 ≤ h6.size := Nat.le_trans Z1 K6.1
  have N6 := Fr.app N4 N6q
  have pre7 : ∀ t, Steps p.tables e below (T6.setTop (mkF m 11 #[.val (.ref oa)] [(.ref a1)])) t → Steps p.tables e below (s₁.setTop (entryFrame m #[(.ref oa)] 1)) t := fun t k => pre5 _ (st6.trans k)
  obtain ⟨fs, hr, hrun, hended, hW, hsame⟩ := X6.leave (v := some (.ref a1)) (fun h => by rw [Bd.returns] at h; cases h)
  refine ⟨_, _, pre7 _ ?_, hrun, hended, _, _, rfl, ?_, ⟨_, rfl⟩, hW, hsame.mono (by decide) (by decide)⟩
  · show Steps p.tables e below (T6.setTop (mkF m 11 #[.val (.ref oa)] [(.ref a1)])) _
    exact retOut X6 hx Bd.returns rfl (Or.inr (Or.inr (Or.inr (Or.inr ⟨rfl, rfl, rfl⟩)))) (hb hby own_d_jdk_32_method_3_11) hr
  · show Q_own_optOf Z oa h0 n0 _ T6.heap _
    rw [e6]
    exact ⟨a1, rfl, N6, ((Keep.refl _ _).ext E1).trans K6 (allS (Or.inr (Nat.le_of_eq ga1.symm)) all0), A1.keep K6, FT6⟩
theorem own_ef_own_empty (m : MethodId)  : entryFrame m #[] 1 = mkF m 0 #[.unset] [] := by first | (simp [entryFrame, mkF, argsToLocals, Value.category]; done) | rfl
def Q_own_empty (Z : State)  (em : Addr) (h0 : Heap) (n0 : Nat) (v : Option Value) (h : Heap) (L : List Loc) : Prop := v = some (.ref em) ∧ Fr n0 L ∧ h = h0
theorem own_d_jdk_32_method_1_0 : decode jdk_32_method_1_code 0 = .ok (.getstatic 1, 3) := by decide +kernel
theorem own_d_jdk_32_method_1_3 : decode jdk_32_method_1_code 3 = .ok (.astore_n 0, 1) := by decide +kernel
theorem own_d_jdk_32_method_1_4 : decode jdk_32_method_1_code 4 = .ok (.aload_n 0, 1) := by decide +kernel
theorem own_d_jdk_32_method_1_5 : decode jdk_32_method_1_code 5 = .ok (.areturn, 1) := by decide +kernel
set_option maxRecDepth 65536 in
set_option maxHeartbeats 40000000 in
theorem own_empty (l : Launch) (Z : State) (a0 : Array Value) (hw : ∀ d ∈ tables_1, d.before a0 Z = true) (ws : List Jvm.Cond)  (em : Addr) (h0 : Heap) (n0 : Nat) (Z0 : n0 ≤ h0.size) (SE : Sta Z h0 "java/util/Optional" "EMPTY" "Ljava/util/Optional;" (.ref em)) :
    MetFree l (⟨"java/util/Optional", "empty", "()Ljava/util/Optional;"⟩ : MethodName) (head1 (Jvm.Cond.code (⟨"java/util/Optional", "empty", "()Ljava/util/Optional;"⟩ : MethodName) jdk_32_method_1_code 1 (some (.object "java/util/Optional")) :: ws) ({ frames := 0, cells := 0, slots := 0, locals := 0 } : Room)) (fun a U => a = #[] ∧ Z.Warmed39 U.vm ∧ U.heap = h0) (fun _ _ _ _ _ => True) (fun _ U o U' => ∃ v L, o = .returned v ∧ Q_own_empty Z em h0 n0 v U'.heap L ∧ FrameEnd U o U' L ({ frames := 0, cells := 0, slots := 0, locals := 0 } : Room).cells ({ frames := 0, cells := 0, slots := 0, locals := 0 } : Room).slots) := by
  refine MetFree.of_bodySF (plainFor_of_name own_pn_java_util_Optional) hisR ?_
  intro p e s m args below meth c s₁ Bd hml0 hP hK
  obtain ⟨rfl, hZ, hh⟩ := hP
  have hx := Bd.exec
  have hby := Bd.bytes
  have hml : c.maxLocals = 1 := hml0
  have hown : s.vm.findClass "java/util/Optional" = some m.cls := findClass_of_methodNamed Bd.named
  have hnm := (name_of_methodNamed Bd.named Bd.method).1
  have X0 : Stand p l e ({ frames := 0, cells := 0, slots := 0, locals := 0 } : Room) s m #[] below meth c s₁ [] 0 0 := Stand.of_body Bd
  have e0 : s₁.heap = h0 := by rw [← hh, Bd.state]; rfl
  have N0 := Fr.nil n0
  have pre0 : ∀ t, Steps p.tables e below (s₁.setTop (mkF m 0 #[.unset] [])) t → Steps p.tables e below (s₁.setTop (entryFrame m #[] 1)) t := fun t k => castTop (own_ef_own_empty m ) k
  obtain ⟨T1, X1, e1, st1⟩ := getS X0 hx hZ hown (host := "") (hw _ (List.mem_of_getElem? (i := 93) rfl)) Via.refl e0 SE (g := (mkF m 0 #[.unset] [])) rfl (hb hby own_d_jdk_32_method_1_0)
  have pre2 : ∀ t, Steps p.tables e below (T1.setTop (mkF m 3 #[.unset] [(.ref em)])) t → Steps p.tables e below (s₁.setTop (entryFrame m #[] 1)) t := fun t k => pre0 _ (st1 _ k)
  have pre3 : ∀ t, Steps p.tables e below (T1.setTop (mkF m 5 #[.val (.ref em)] [(.ref em)])) t → Steps p.tables e below (s₁.setTop (entryFrame m #[] 1)) t := fun t k => pre2 _ (by
    show Steps p.tables e below (T1.setTop (mkF m 3 #[.unset] [(.ref em)])) _
    refine XS.astoreN X1.here hx rfl (hb hby own_d_jdk_32_method_1_3) rfl rfl (l' := #[.val (.ref em)]) rfl ?_
    show Steps p.tables e below (T1.setTop (mkF m 4 #[.val (.ref em)] [])) _
    refine XS.aloadN X1.here hx rfl (hb hby own_d_jdk_32_method_1_4) rfl rfl ?_
    exact k)
  obtain ⟨fs, hr, hrun, hended, hW, hsame⟩ := X1.leave (v := some (.ref em)) (fun h => by rw [Bd.returns] at h; cases h)
  refine ⟨_, _, pre3 _ ?_, hrun, hended, _, _, rfl, ?_, ⟨_, rfl⟩, hW, hsame.mono (by decide) (by decide)⟩
  · show Steps p.tables e below (T1.setTop (mkF m 5 #[.val (.ref em)] [(.ref em)])) _
    exact retOut X1 hx Bd.returns rfl (Or.inr (Or.inr (Or.inr (Or.inr ⟨rfl, rfl, rfl⟩)))) (hb hby own_d_jdk_32_method_1_5) hr
  · show Q_own_empty Z em h0 n0 _ T1.heap _
    rw [e1]
    exact ⟨rfl, N0, rfl⟩
theorem own_ef_own_rec (m : MethodId) (oa : Addr) : entryFrame m #[(.ref oa)] 1 = mkF m 0 #[.val (.ref oa)] [] := by first | (simp [entryFrame, mkF, argsToLocals, Value.category]; done) | rfl
def Q_own_rec (Z : State) (oa : Addr)  (h0 : Heap) (n0 : Nat) (v : Option Value) (h : Heap) (L : List Loc) : Prop := v = none ∧ Fr n0 L ∧ h = h0
theorem own_pn_java_lang_Record : plainName "java/lang/Record" = true := by first | (simp [plainName, overriddenIn]; done) | decide +kernel
theorem own_d_jdk_30_method_1_0 : decode jdk_30_method_1_code 0 = .ok (.aload_n 0, 1) := by decide +kernel
theorem own_d_jdk_30_method_1_1 : decode jdk_30_method_1_code 1 = .ok (.invokespecial 1, 3) := by decide +kernel
theorem own_d_jdk_30_method_1_4 : decode jdk_30_method_1_code 4 = .ok (.return_, 1) := by decide +kernel
set_option maxRecDepth 65536 in
set_option maxHeartbeats 40000000 in
theorem own_rec (l : Launch) (Z : State) (a0 : Array Value) (hw : ∀ d ∈ tables_1, d.before a0 Z = true) (ws : List Jvm.Cond) (oa : Addr)  (h0 : Heap) (n0 : Nat) (Z0 : n0 ≤ h0.size)  :
    MetFree l (⟨"java/lang/Record", "<init>", "()V"⟩ : MethodName) (head1 (Jvm.Cond.code (⟨"java/lang/Record", "<init>", "()V"⟩ : MethodName) jdk_30_method_1_code 1 none :: ws) ({ frames := 1, cells := 0, slots := 0, locals := 12 } : Room)) (fun a U => a = #[(.ref oa)] ∧ Z.Warmed39 U.vm ∧ U.heap = h0) (fun _ _ _ _ _ => True) (fun _ U o U' => ∃ v L, o = .returned v ∧ Q_own_rec Z oa h0 n0 v U'.heap L ∧ FrameEnd U o U' L ({ frames := 1, cells := 0, slots := 0, locals := 12 } : Room).cells ({ frames := 1, cells := 0, slots := 0, locals := 12 } : Room).slots) := by
  refine MetFree.of_bodySF (plainFor_of_name own_pn_java_lang_Record) hisR ?_
  intro p e s m args below meth c s₁ Bd hml0 hP hK
  obtain ⟨rfl, hZ, hh⟩ := hP
  have hx := Bd.exec
  have hby := Bd.bytes
  have hml : c.maxLocals = 1 := hml0
  have hown : s.vm.findClass "java/lang/Record" = some m.cls := findClass_of_methodNamed Bd.named
  have hnm := (name_of_methodNamed Bd.named Bd.method).1
  have X0 : Stand p l e ({ frames := 1, cells := 0, slots := 0, locals := 12 } : Room) s m #[(.ref oa)] below meth c s₁ [] 0 0 := Stand.of_body Bd
  have e0 : s₁.heap = h0 := by rw [← hh, Bd.state]; rfl
  have N0 := Fr.nil n0
  have pre0 : ∀ t, Steps p.tables e below (s₁.setTop (mkF m 0 #[.val (.ref oa)] [])) t → Steps p.tables e below (s₁.setTop (entryFrame m #[(.ref oa)] 1)) t := fun t k => castTop (own_ef_own_rec m oa) k
  have pre1 : ∀ t, Steps p.tables e below (s₁.setTop (mkF m 1 #[.val (.ref oa)] [(.ref oa)])) t → Steps p.tables e below (s₁.setTop (entryFrame m #[(.ref oa)] 1)) t := fun t k => pre0 _ (by
    show Steps p.tables e below (s₁.setTop (mkF m 0 #[.val (.ref oa)] [])) _
    refine XS.aloadN X0.here hx rfl (hb hby own_d_jdk_30_method_1_0) rfl rfl ?_
    exact k)
  obtain ⟨T2, X2, e2, st2⟩ := initO X0 hx hZ hown (hw _ (List.mem_of_getElem? (i := 54) rfl)) (hw _ (List.mem_of_getElem? (i := 20) rfl)) (hw _ (List.mem_of_getElem? (i := 21) rfl)) e0 (g := (mkF m 1 #[.val (.ref oa)] [(.ref oa)])) rfl (by rw [hml]; rfl) rfl (hb hby own_d_jdk_30_method_1_1) (by decide) (W := 0) (by show 2 * 0 + _ ≤ _; exact Nat.le_of_eq rfl) (by decide)
  have pre3 : ∀ t, Steps p.tables e below (T2.setTop (mkF m 4 #[.val (.ref oa)] [])) t → Steps p.tables e below (s₁.setTop (entryFrame m #[(.ref oa)] 1)) t := fun t k => pre1 _ (st2 _ k)
  obtain ⟨fs, hr, hrun, hended, hW, hsame⟩ := X2.leave (v := none) (fun _ => rfl)
  refine ⟨_, _, pre3 _ ?_, hrun, hended, _, _, rfl, ?_, ⟨_, rfl⟩, hW, hsame.mono (by decide) (by decide)⟩
  · show Steps p.tables e below (T2.setTop (mkF m 4 #[.val (.ref oa)] [])) _
    exact X2.returnOut hx Bd.returns (hb hby own_d_jdk_30_method_1_4) hr
  · show Q_own_rec Z oa h0 n0 _ T2.heap _
    rw [e2]
    exact ⟨rfl, N0, rfl⟩
theorem own_ef_own_toI (m : MethodId) (oa : Addr) (ob : Addr) (od : Addr) : entryFrame m #[(.ref oa), (.ref ob), (.ref od)] 3 = mkF m 0 #[.val (.ref oa), .val (.ref ob), .val (.ref od)] [] := by first | (simp [entryFrame, mkF, argsToLocals, Value.category]; done) | rfl
def Q_own_toI (Z : State) (oa : Addr) (ob : Addr) (od : Addr)  (h0 : Heap) (n0 : Nat) (v : Option Value) (h : Heap) (L : List Loc) : Prop := v = none ∧ Fr n0 L ∧ Keep h0 h [oa] ∧ Fld Z h oa "com/example/freshline/freshline/server/TransactionOptions" "isolation" "Lcom/example/freshline/freshline/model/Isolation;" (.ref ob) ∧ Fld Z h oa "com/example/freshline/freshline/server/TransactionOptions" "drift" "Ljava/util/Optional;" (.ref od)
theorem own_pn_com_example_freshline_freshline_server_TransactionOptions : plainName "com/example/freshline/freshline/server/TransactionOptions" = true := by first | (simp [plainName, overriddenIn]; done) | decide +kernel
theorem own_d_prog_63_method_1_0 : decode prog_63_method_1_code 0 = .ok (.aload_n 0, 1) := by decide +kernel
theorem own_pd___V : parseMethodDescriptor "()V" = some ⟨[], none⟩ := by decide +kernel
theorem own_d_prog_63_method_1_1 : decode prog_63_method_1_code 1 = .ok (.invokespecial 1, 3) := by decide +kernel
theorem own_d_prog_63_method_1_4 : decode prog_63_method_1_code 4 = .ok (.aload_n 1, 1) := by decide +kernel
theorem own_d_prog_63_method_1_5 : decode prog_63_method_1_code 5 = .ok (.ldc 7, 2) := by decide +kernel
theorem own_pd__Ljava_lang_Object_Ljava_lang_String__Ljava_lang_Object_ : parseMethodDescriptor "(Ljava/lang/Object;Ljava/lang/String;)Ljava/lang/Object;" = some ⟨[(.object "java/lang/Object"), (.object "java/lang/String")], some (.object "java/lang/Object")⟩ := by decide +kernel
theorem own_d_prog_63_method_1_7 : decode prog_63_method_1_code 7 = .ok (.invokestatic 9, 3) := by decide +kernel
theorem own_d_prog_63_method_1_10 : decode prog_63_method_1_code 10 = .ok (.pop, 1) := by decide +kernel
theorem own_d_prog_63_method_1_11 : decode prog_63_method_1_code 11 = .ok (.aload_n 2, 1) := by decide +kernel
theorem own_d_prog_63_method_1_12 : decode prog_63_method_1_code 12 = .ok (.ldc 15, 2) := by decide +kernel
theorem own_d_prog_63_method_1_14 : decode prog_63_method_1_code 14 = .ok (.invokestatic 9, 3) := by decide +kernel
theorem own_d_prog_63_method_1_17 : decode prog_63_method_1_code 17 = .ok (.pop, 1) := by decide +kernel
theorem own_d_prog_63_method_1_18 : decode prog_63_method_1_code 18 = .ok (.aload_n 0, 1) := by decide +kernel
theorem own_d_prog_63_method_1_19 : decode prog_63_method_1_code 19 = .ok (.aload_n 1, 1) := by decide +kernel
theorem own_d_prog_63_method_1_20 : decode prog_63_method_1_code 20 = .ok (.putfield 17, 3) := by decide +kernel
theorem own_d_prog_63_method_1_23 : decode prog_63_method_1_code 23 = .ok (.aload_n 0, 1) := by decide +kernel
theorem own_d_prog_63_method_1_24 : decode prog_63_method_1_code 24 = .ok (.aload_n 2, 1) := by decide +kernel
theorem own_d_prog_63_method_1_25 : decode prog_63_method_1_code 25 = .ok (.putfield 22, 3) := by decide +kernel
theorem own_d_prog_63_method_1_28 : decode prog_63_method_1_code 28 = .ok (.return_, 1) := by decide +kernel
set_option maxRecDepth 65536 in
set_option maxHeartbeats 40000000 in
theorem own_toI (l : Launch) (Z : State) (a0 : Array Value) (hw : ∀ d ∈ tables_1, d.before a0 Z = true) (ws : List Jvm.Cond) (oa : Addr) (ob : Addr) (od : Addr)  (h0 : Heap) (n0 : Nat) (Z0 : n0 ≤ h0.size) (F1 : Fld Z h0 oa "com/example/freshline/freshline/server/TransactionOptions" "isolation" "Lcom/example/freshline/freshline/model/Isolation;" .null) (F2 : Fld Z h0 oa "com/example/freshline/freshline/server/TransactionOptions" "drift" "Ljava/util/Optional;" .null) (E : Exa Z h0 oa "com/example/freshline/freshline/server/TransactionOptions") (ge_oa : n0 ≤ oa) :
    MetFree l (⟨"com/example/freshline/freshline/server/TransactionOptions", "<init>", "(Lcom/example/freshline/freshline/model/Isolation;Ljava/util/Optional;)V"⟩ : MethodName) (head1 (Jvm.Cond.code (⟨"com/example/freshline/freshline/server/TransactionOptions", "<init>", "(Lcom/example/freshline/freshline/model/Isolation;Ljava/util/Optional;)V"⟩ : MethodName) prog_63_method_1_code 3 none :: ws) ({ frames := 2, cells := 4, slots := 64, locals := 60 } : Room)) (fun a U => a = #[(.ref oa), (.ref ob), (.ref od)] ∧ Z.Warmed39 U.vm ∧ U.heap = h0) (fun _ _ _ _ _ => True) (fun _ U o U' => ∃ v L, o = .returned v ∧ Q_own_toI Z oa ob od h0 n0 v U'.heap L ∧ ReturnedEndW U o U' L ({ frames := 2, cells := 4, slots := 64, locals := 60 } : Room).cells ({ frames := 2, cells := 4, slots := 64, locals := 60 } : Room).slots) := by
  refine MetFree.of_bodySF (plainFor_of_name own_pn_com_example_freshline_freshline_server_TransactionOptions) hisR ?_
  intro p e s m args below meth c s₁ Bd hml0 hP hK
  obtain ⟨rfl, hZ, hh⟩ := hP
  have hx := Bd.exec
  have hby := Bd.bytes
  have hml : c.maxLocals = 3 := hml0
  have hown : s.vm.findClass "com/example/freshline/freshline/server/TransactionOptions" = some m.cls := findClass_of_methodNamed Bd.named
  have hnm := (name_of_methodNamed Bd.named Bd.method).1
  have X0 : Stand p l e ({ frames := 2, cells := 4, slots := 64, locals := 60 } : Room) s m #[(.ref oa), (.ref ob), (.ref od)] below meth c s₁ [] 0 0 := Stand.of_body Bd
  have e0 : s₁.heap = h0 := by rw [← hh, Bd.state]; rfl
  have N0 := Fr.nil n0
  have pre0 : ∀ t, Steps p.tables e below (s₁.setTop (mkF m 0 #[.val (.ref oa), .val (.ref ob), .val (.ref od)] [])) t → Steps p.tables e below (s₁.setTop (entryFrame m #[(.ref oa), (.ref ob), (.ref od)] 3)) t := fun t k => castTop (own_ef_own_toI m oa ob od) k
  have wS : ∀ q ∈ Bundle.stringAtoms, q.before a0 Z = true := fun q hq => hw q (own_strs q hq)
  have Sn0 : s.Since s.vm h0.size := own_since s h0.size
  have pre1 : ∀ t, Steps p.tables e below (s₁.setTop (mkF m 1 #[.val (.ref oa), .val (.ref ob), .val (.ref od)] [(.ref oa)])) t → Steps p.tables e below (s₁.setTop (entryFrame m #[(.ref oa), (.ref ob), (.ref od)] 3)) t := fun t k => pre0 _ (by
    show Steps p.tables e below (s₁.setTop (mkF m 0 #[.val (.ref oa), .val (.ref ob), .val (.ref od)] [])) _
    refine XS.aloadN X0.here hx rfl (hb hby own_d_prog_63_method_1_0) rfl rfl ?_
    exact k)
  obtain ⟨_, _, ⟨T2, L2, k2, n2⟩, -, X2, ⟨Lc2, hQ2, l2, y2, z2⟩, st2⟩ := X0.specialBack hx (y := (⟨"java/lang/Record", "<init>", "()V"⟩ : MethodName)) rfl hown (mvT hZ (hw _ (List.mem_of_getElem? (i := 49) rfl))) (mvT hZ (hw _ (List.mem_of_getElem? (i := 50) rfl))) (mvT hZ (hw _ (List.mem_of_getElem? (i := 53) rfl))) (by decide) (backOf (W := 0) (own_rec l Z a0 hw [] oa h0 n0 Z0) hZ (hw _ (List.mem_of_getElem? (i := 53) rfl)) (hw _ (List.mem_of_getElem? (i := 52) rfl)) (by decide) (by decide)) (g := (mkF m 1 #[.val (.ref oa), .val (.ref ob), .val (.ref od)] [(.ref oa)])) rfl (by rw [hml]; rfl) (Steps.refl _) (a := oa) (argsL := []) (rest := []) (lenOf own_pd___V rfl) rfl (by show 2 * 0 + _ ≤ _; exact Nat.le_of_eq rfl) (hb hby own_d_prog_63_method_1_1) (fun _ _ => ⟨rfl, e0, (by decide : 0 + 0 ≤ _), (by decide : 0 + 0 ≤ _)⟩)
  dsimp only [Pt.U, Pt.locs, Pt.cells, Pt.slots] at X2 l2 y2 z2 st2 hQ2
  subst l2 y2 z2
  obtain ⟨rfl, N2q, e2⟩ := hQ2
  have N2 := Fr.app N0 N2q
  have pre3 : ∀ t, Steps p.tables e below (T2.setTop (mkF m 4 #[.val (.ref oa), .val (.ref ob), .val (.ref od)] [])) t → Steps p.tables e below (s₁.setTop (entryFrame m #[(.ref oa), (.ref ob), (.ref od)] 3)) t := fun t k => pre1 _ (st2.trans k)
  have pre4 : ∀ t, Steps p.tables e below (T2.setTop (mkF m 5 #[.val (.ref oa), .val (.ref ob), .val (.ref od)] [(.ref ob)])) t → Steps p.tables e below (s₁.setTop (entryFrame m #[(.ref oa), (.ref ob), (.ref od)] 3)) t := fun t k => pre3 _ (by
    show Steps p.tables e below (T2.setTop (mkF m 4 #[.val (.ref oa), .val (.ref ob), .val (.ref od)] [])) _
    refine XS.aloadN X2.here hx rfl (hb hby own_d_prog_63_method_1_4) rfl rfl ?_
    exact k)
  obtain ⟨as5, T5, h5, kk5, X5, e5, E5, Sn5, Sk5, hZ5, hown5, st5⟩ := ldcS (s := s) (vm0 := s.vm) X2 hx hZ hown (hw _ (List.mem_of_getElem? (i := 55) rfl)) wS e2 Sn0 (Nat.le_refl _) (g := (mkF m 5 #[.val (.ref oa), .val (.ref ob), .val (.ref od)] [(.ref ob)])) rfl (hb hby own_d_prog_63_method_1_5) (n := 36) (by decide) (by decide) (by decide) (by decide)
  have Z5 : n0 ≤ h5.size := Nat.le_trans Z0 E5.1
  have pre6 : ∀ t, Steps p.tables e below (T5.setTop (mkF m 7 #[.val (.ref oa), .val (.ref ob), .val (.ref od)] [(.ref as5), (.ref ob)])) t → Steps p.tables e below (s₁.setTop (entryFrame m #[(.ref oa), (.ref ob), (.ref od)] 3)) t := fun t k => pre4 _ (st5 _ k)
  obtain ⟨_, _, ⟨T7, L7, k7, n7⟩, -, X7, ⟨Lc7, hQ7, l7, y7, z7⟩, st7⟩ := Jvm.LawKit.callS X5 hx (y := (⟨"java/util/Objects", "requireNonNull", "(Ljava/lang/Object;Ljava/lang/String;)Ljava/lang/Object;"⟩ : MethodName)) hown5 (mvT hZ5 (hw _ (List.mem_of_getElem? (i := 63) rfl))) (mvT hZ5 (hw _ (List.mem_of_getElem? (i := 64) rfl))) (mvT hZ5 (hw _ (List.mem_of_getElem? (i := 34) rfl))) (mvT hZ5 (hw _ (List.mem_of_getElem? (i := 65) rfl))) (by decide) (backOf (W := 0) (own_req2 l Z a0 hw [] ob as5 h5 n0 Z5) hZ5 (hw _ (List.mem_of_getElem? (i := 65) rfl)) (hw _ (List.mem_of_getElem? (i := 34) rfl)) (by decide) (by decide)) (g := (mkF m 7 #[.val (.ref oa), .val (.ref ob), .val (.ref od)] [(.ref as5), (.ref ob)])) rfl (by rw [hml]; rfl) (argsL := [(.ref ob), (.ref as5)]) (rest := []) (lenOf own_pd__Ljava_lang_Object_Ljava_lang_String__Ljava_lang_Object_ rfl) rfl (by show 2 * 0 + _ ≤ _; exact Nat.le_of_eq rfl) (hb hby own_d_prog_63_method_1_7) (fun _ _ => ⟨rfl, e5, (by decide : 2 + 0 ≤ _), (by decide : 40 + 0 ≤ _)⟩)
  dsimp only [Pt.U, Pt.locs, Pt.cells, Pt.slots] at X7 l7 y7 z7 st7 hQ7
  subst l7 y7 z7
  obtain ⟨rfl, N7q, e7⟩ := hQ7
  have N7 := Fr.app N2 N7q
  have pre8 : ∀ t, Steps p.tables e below (T7.setTop (mkF m 10 #[.val (.ref oa), .val (.ref ob), .val (.ref od)] [(.ref ob)])) t → Steps p.tables e below (s₁.setTop (entryFrame m #[(.ref oa), (.ref ob), (.ref od)] 3)) t := fun t k => pre6 _ (st7 _ k)
  have pre9 : ∀ t, Steps p.tables e below (T7.setTop (mkF m 12 #[.val (.ref oa), .val (.ref ob), .val (.ref od)] [(.ref od)])) t → Steps p.tables e below (s₁.setTop (entryFrame m #[(.ref oa), (.ref ob), (.ref od)] 3)) t := fun t k => pre8 _ (by
    show Steps p.tables e below (T7.setTop (mkF m 10 #[.val (.ref oa), .val (.ref ob), .val (.ref od)] [(.ref ob)])) _
    refine XS.pop X7.here hx rfl (hb hby own_d_prog_63_method_1_10) rfl rfl ?_
    show Steps p.tables e below (T7.setTop (mkF m 11 #[.val (.ref oa), .val (.ref ob), .val (.ref od)] [])) _
    refine XS.aloadN X7.here hx rfl (hb hby own_d_prog_63_method_1_11) rfl rfl ?_
    exact k)
  obtain ⟨as10, T10, h10, kk10, X10, e10, E10, Sn10, Sk10, hZ10, hown10, st10⟩ := ldcS (s := s) (vm0 := T5.vm) X7 hx hZ5 hown5 (hw _ (List.mem_of_getElem? (i := 66) rfl)) wS e7 Sn5 Sk5 (g := (mkF m 12 #[.val (.ref oa), .val (.ref ob), .val (.ref od)] [(.ref od)])) rfl (hb hby own_d_prog_63_method_1_12) (n := 20) (by decide) (by decide) (by decide) (by decide)
  have Z10 : n0 ≤ h10.size := Nat.le_trans Z5 E10.1
  have pre11 : ∀ t, Steps p.tables e below (T10.setTop (mkF m 14 #[.val (.ref oa), .val (.ref ob), .val (.ref od)] [(.ref as10), (.ref od)])) t → Steps p.tables e below (s₁.setTop (entryFrame m #[(.ref oa), (.ref ob), (.ref od)] 3)) t := fun t k => pre9 _ (st10 _ k)
  obtain ⟨_, _, ⟨T12, L12, k12, n12⟩, -, X12, ⟨Lc12, hQ12, l12, y12, z12⟩, st12⟩ := Jvm.LawKit.callS X10 hx (y := (⟨"java/util/Objects", "requireNonNull", "(Ljava/lang/Object;Ljava/lang/String;)Ljava/lang/Object;"⟩ : MethodName)) hown10 (mvT hZ10 (hw _ (List.mem_of_getElem? (i := 63) rfl))) (mvT hZ10 (hw _ (List.mem_of_getElem? (i := 64) rfl))) (mvT hZ10 (hw _ (List.mem_of_getElem? (i := 34) rfl))) (mvT hZ10 (hw _ (List.mem_of_getElem? (i := 65) rfl))) (by decide) (backOf (W := 0) (own_req2 l Z a0 hw [] od as10 h10 n0 Z10) hZ10 (hw _ (List.mem_of_getElem? (i := 65) rfl)) (hw _ (List.mem_of_getElem? (i := 34) rfl)) (by decide) (by decide)) (g := (mkF m 14 #[.val (.ref oa), .val (.ref ob), .val (.ref od)] [(.ref as10), (.ref od)])) rfl (by rw [hml]; rfl) (argsL := [(.ref od), (.ref as10)]) (rest := []) (lenOf own_pd__Ljava_lang_Object_Ljava_lang_String__Ljava_lang_Object_ rfl) rfl (by show 2 * 0 + _ ≤ _; exact Nat.le_of_eq rfl) (hb hby own_d_prog_63_method_1_14) (fun _ _ => ⟨rfl, e10, (by decide : 4 + 0 ≤ _), (by decide : 64 + 0 ≤ _)⟩)
  dsimp only [Pt.U, Pt.locs, Pt.cells, Pt.slots] at X12 l12 y12 z12 st12 hQ12
  subst l12 y12 z12
  obtain ⟨rfl, N12q, e12⟩ := hQ12
  have N12 := Fr.app N7 N12q
  have pre13 : ∀ t, Steps p.tables e below (T12.setTop (mkF m 17 #[.val (.ref oa), .val (.ref ob), .val (.ref od)] [(.ref od)])) t → Steps p.tables e below (s₁.setTop (entryFrame m #[(.ref oa), (.ref ob), (.ref od)] 3)) t := fun t k => pre11 _ (st12 _ k)
  have pre14 : ∀ t, Steps p.tables e below (T12.setTop (mkF m 20 #[.val (.ref oa), .val (.ref ob), .val (.ref od)] [(.ref ob), (.ref oa)])) t → Steps p.tables e below (s₁.setTop (entryFrame m #[(.ref oa), (.ref ob), (.ref od)] 3)) t := fun t k => pre13 _ (by
    show Steps p.tables e below (T12.setTop (mkF m 17 #[.val (.ref oa), .val (.ref ob), .val (.ref od)] [(.ref od)])) _
    refine XS.pop X12.here hx rfl (hb hby own_d_prog_63_method_1_17) rfl rfl ?_
    show Steps p.tables e below (T12.setTop (mkF m 18 #[.val (.ref oa), .val (.ref ob), .val (.ref od)] [])) _
    refine XS.aloadN X12.here hx rfl (hb hby own_d_prog_63_method_1_18) rfl rfl ?_
    show Steps p.tables e below (T12.setTop (mkF m 19 #[.val (.ref oa), .val (.ref ob), .val (.ref od)] [(.ref oa)])) _
    refine XS.aloadN X12.here hx rfl (hb hby own_d_prog_63_method_1_19) rfl rfl ?_
    exact k)
  obtain ⟨T15, h15, X15, e15, W15, st15⟩ := putF X12 hx hZ10 hown10 (host := "") (Or.inl (hw _ (List.mem_of_getElem? (i := 67) rfl))) Via.refl e12 ((F1.ext E5).ext E10) ((E.ext E5).ext E10) (Or.inr ⟨(hw _ (List.mem_of_getElem? (i := 68) rfl)), rfl, hnm⟩) (hw _ (List.mem_of_getElem? (i := 44) rfl)) (ty := (.object "com/example/freshline/freshline/model/Isolation")) (by decide) rfl rfl (g := (mkF m 20 #[.val (.ref oa), .val (.ref ob), .val (.ref od)] [(.ref ob), (.ref oa)])) rfl rfl (hb hby own_d_prog_63_method_1_20)
  have N15 := Fr.snoc X15 N12 ge_oa
  have Z15 : n0 ≤ h15.size := Nat.le_trans Z10 (Keep.of_wr W15).1
  have F15 : Fld Z h15 oa "com/example/freshline/freshline/server/TransactionOptions" "isolation" "Lcom/example/freshline/freshline/model/Isolation;" (.ref ob) := ((F1.ext E5).ext E10).same W15
  have pre16 : ∀ t, Steps p.tables e below (T15.setTop (mkF m 23 #[.val (.ref oa), .val (.ref ob), .val (.ref od)] [])) t → Steps p.tables e below (s₁.setTop (entryFrame m #[(.ref oa), (.ref ob), (.ref od)] 3)) t := fun t k => pre14 _ (st15 _ k)
  have pre17 : ∀ t, Steps p.tables e below (T15.setTop (mkF m 25 #[.val (.ref oa), .val (.ref ob), .val (.ref od)] [(.ref od), (.ref oa)])) t → Steps p.tables e below (s₁.setTop (entryFrame m #[(.ref oa), (.ref ob), (.ref od)] 3)) t := fun t k => pre16 _ (by
    show Steps p.tables e below (T15.setTop (mkF m 23 #[.val (.ref oa), .val (.ref ob), .val (.ref od)] [])) _
    refine XS.aloadN X15.here hx rfl (hb hby own_d_prog_63_method_1_23) rfl rfl ?_
    show Steps p.tables e below (T15.setTop (mkF m 24 #[.val (.ref oa), .val (.ref ob), .val (.ref od)] [(.ref oa)])) _
    refine XS.aloadN X15.here hx rfl (hb hby own_d_prog_63_method_1_24) rfl rfl ?_
    exact k)
  obtain ⟨T18, h18, X18, e18, W18, st18⟩ := putF X15 hx hZ10 hown10 (host := "") (Or.inl (hw _ (List.mem_of_getElem? (i := 69) rfl))) Via.refl e15 (((F2.ext E5).ext E10).other W15 (Or.inr (slot_ne (C := "com/example/freshline/freshline/server/TransactionOptions") (Or.inr (hw _ (List.mem_of_getElem? (i := 70) rfl))) (Or.inr (hw _ (List.mem_of_getElem? (i := 68) rfl))) (by decide) (t := (.object "java/util/Optional")) (t' := (.object "com/example/freshline/freshline/model/Isolation")) (by decide) (by decide)))) (((E.ext E5).ext E10).wr W15) (Or.inr ⟨(hw _ (List.mem_of_getElem? (i := 70) rfl)), rfl, hnm⟩) (hw _ (List.mem_of_getElem? (i := 44) rfl)) (ty := (.object "java/util/Optional")) (by decide) rfl rfl (g := (mkF m 25 #[.val (.ref oa), .val (.ref ob), .val (.ref od)] [(.ref od), (.ref oa)])) rfl rfl (hb hby own_d_prog_63_method_1_25)
  have N18 := Fr.snoc X18 N15 ge_oa
  have Z18 : n0 ≤ h18.size := Nat.le_trans Z15 (Keep.of_wr W18).1
  have F18 : Fld Z h18 oa "com/example/freshline/freshline/server/TransactionOptions" "drift" "Ljava/util/Optional;" (.ref od) := (((F2.ext E5).ext E10).other W15 (Or.inr (slot_ne (C := "com/example/freshline/freshline/server/TransactionOptions") (Or.inr (hw _ (List.mem_of_getElem? (i := 70) rfl))) (Or.inr (hw _ (List.mem_of_getElem? (i := 68) rfl))) (by decide) (t := (.object "java/util/Optional")) (t' := (.object "com/example/freshline/freshline/model/Isolation")) (by decide) (by decide)))).same W18
  have pre19 : ∀ t, Steps p.tables e below (T18.setTop (mkF m 28 #[.val (.ref oa), .val (.ref ob), .val (.ref od)] [])) t → Steps p.tables e below (s₁.setTop (entryFrame m #[(.ref oa), (.ref ob), (.ref od)] 3)) t := fun t k => pre17 _ (st18 _ k)
  obtain ⟨fs, hr, hrun, hended, hRE⟩ := Stand.leaveW (s := s) X18 Sn10 (by rw [e18]; exact (Nat.le_trans (Nat.le_trans Sk10 (Keep.of_wr W15).1) (Keep.of_wr W18).1)) (v := none) (fun _ => rfl)
  refine ⟨_, _, pre19 _ ?_, hrun, hended, _, _, rfl, ?_, hRE.1, hRE.2.1, hRE.2.2.1, hRE.2.2.2.mono (by decide) (by decide)⟩
  · show Steps p.tables e below (T18.setTop (mkF m 28 #[.val (.ref oa), .val (.ref ob), .val (.ref od)] [])) _
    exact X18.returnOut hx Bd.returns (hb hby own_d_prog_63_method_1_28) hr
  · show Q_own_toI Z oa ob od h0 n0 _ T18.heap _
    rw [e18]
    exact ⟨rfl, N18, ((((Keep.refl _ _).ext E5).ext E10).wr W15 (Or.inl (List.mem_of_getElem? (i := 0) rfl))).wr W18 (Or.inl (List.mem_of_getElem? (i := 0) rfl)), (F15.other W18 (Or.inr (slot_ne (C := "com/example/freshline/freshline/server/TransactionOptions") (Or.inr (hw _ (List.mem_of_getElem? (i := 68) rfl))) (Or.inr (hw _ (List.mem_of_getElem? (i := 70) rfl))) (by decide) (t := (.object "com/example/freshline/freshline/model/Isolation")) (t' := (.object "java/util/Optional")) (by decide) (by decide)))), F18⟩
theorem own_ef_own_pres0 (m : MethodId) (oa : Addr) : entryFrame m #[(.ref oa)] 1 = mkF m 0 #[.val (.ref oa)] [] := by first | (simp [entryFrame, mkF, argsToLocals, Value.category]; done) | rfl
def Q_own_pres0 (Z : State) (oa : Addr)  (h0 : Heap) (n0 : Nat) (v : Option Value) (h : Heap) (L : List Loc) : Prop := v = some (.int (0 : Int32)) ∧ Fr n0 L ∧ h = h0
theorem own_d_jdk_32_method_6_0 : decode jdk_32_method_6_code 0 = .ok (.aload_n 0, 1) := by decide +kernel
theorem own_d_jdk_32_method_6_1 : decode jdk_32_method_6_code 1 = .ok (.getfield 13, 3) := by decide +kernel
theorem own_d_jdk_32_method_6_4 : decode jdk_32_method_6_code 4 = .ok (.ifnull 7, 3) := by decide +kernel
theorem own_d_jdk_32_method_6_11 : decode jdk_32_method_6_code 11 = .ok (.iconst 0, 1) := by decide +kernel
theorem own_d_jdk_32_method_6_12 : decode jdk_32_method_6_code 12 = .ok (.ireturn, 1) := by decide +kernel
set_option maxRecDepth 65536 in
set_option maxHeartbeats 40000000 in
theorem own_pres0 (l : Launch) (Z : State) (a0 : Array Value) (hw : ∀ d ∈ tables_1, d.before a0 Z = true) (ws : List Jvm.Cond) (oa : Addr)  (h0 : Heap) (n0 : Nat) (Z0 : n0 ≤ h0.size) (F : Fld Z h0 oa "java/util/Optional" "value" "Ljava/lang/Object;" .null) :
    MetFree l (⟨"java/util/Optional", "isPresent", "()Z"⟩ : MethodName) (head1 (Jvm.Cond.code (⟨"java/util/Optional", "isPresent", "()Z"⟩ : MethodName) jdk_32_method_6_code 1 (some .boolean) :: ws) ({ frames := 0, cells := 0, slots := 0, locals := 0 } : Room)) (fun a U => a = #[(.ref oa)] ∧ Z.Warmed39 U.vm ∧ U.heap = h0) (fun _ _ _ _ _ => True) (fun _ U o U' => ∃ v L, o = .returned v ∧ Q_own_pres0 Z oa h0 n0 v U'.heap L ∧ FrameEnd U o U' L ({ frames := 0, cells := 0, slots := 0, locals := 0 } : Room).cells ({ frames := 0, cells := 0, slots := 0, locals := 0 } : Room).slots) := by
  refine MetFree.of_bodySF (plainFor_of_name own_pn_java_util_Optional) hisR ?_
  intro p e s m args below meth c s₁ Bd hml0 hP hK
  obtain ⟨rfl, hZ, hh⟩ := hP
  have hx := Bd.exec
  have hby := Bd.bytes
  have hml : c.maxLocals = 1 := hml0
  have hown : s.vm.findClass "java/util/Optional" = some m.cls := findClass_of_methodNamed Bd.named
  have hnm := (name_of_methodNamed Bd.named Bd.method).1
  have X0 : Stand p l e ({ frames := 0, cells := 0, slots := 0, locals := 0 } : Room) s m #[(.ref oa)] below meth c s₁ [] 0 0 := Stand.of_body Bd
  have e0 : s₁.heap = h0 := by rw [← hh, Bd.state]; rfl
  have N0 := Fr.nil n0
  have pre0 : ∀ t, Steps p.tables e below (s₁.setTop (mkF m 0 #[.val (.ref oa)] [])) t → Steps p.tables e below (s₁.setTop (entryFrame m #[(.ref oa)] 1)) t := fun t k => castTop (own_ef_own_pres0 m oa) k
  have pre1 : ∀ t, Steps p.tables e below (s₁.setTop (mkF m 1 #[.val (.ref oa)] [(.ref oa)])) t → Steps p.tables e below (s₁.setTop (entryFrame m #[(.ref oa)] 1)) t := fun t k => pre0 _ (by
    show Steps p.tables e below (s₁.setTop (mkF m 0 #[.val (.ref oa)] [])) _
    refine XS.aloadN X0.here hx rfl (hb hby own_d_jdk_32_method_6_0) rfl rfl ?_
    exact k)
  obtain ⟨T2, X2, e2, st2⟩ := getF X0 hx hZ hown (host := "") (Or.inl (hw _ (List.mem_of_getElem? (i := 41) rfl))) Via.refl e0 F (g := (mkF m 1 #[.val (.ref oa)] [(.ref oa)])) rfl rfl (hb hby own_d_jdk_32_method_6_1)
  have pre3 : ∀ t, Steps p.tables e below (T2.setTop (mkF m 4 #[.val (.ref oa)] [.null])) t → Steps p.tables e below (s₁.setTop (entryFrame m #[(.ref oa)] 1)) t := fun t k => pre1 _ (st2 _ k)
  have pre4 : ∀ t, Steps p.tables e below (T2.setTop (mkF m 12 #[.val (.ref oa)] [(.int (0 : Int32))])) t → Steps p.tables e below (s₁.setTop (entryFrame m #[(.ref oa)] 1)) t := fun t k => pre3 _ (by
    show Steps p.tables e below (T2.setTop (mkF m 4 #[.val (.ref oa)] [.null])) _
    refine XS.ifnullYes X2.here hx rfl (pc0 := 4) (pc' := 11) rfl (hb hby own_d_jdk_32_method_6_4) rfl (by decide) (by decide) ?_
    show Steps p.tables e below (T2.setTop (mkF m 11 #[.val (.ref oa)] [])) _
    refine XT.iconstV X2.here hx rfl (0 : Int32) (hb hby own_d_jdk_32_method_6_11) rfl ?_
    exact k)
  obtain ⟨fs, hr, hrun, hended, hW, hsame⟩ := X2.leave (v := some (.int (0 : Int32))) (fun h => by rw [Bd.returns] at h; cases h)
  refine ⟨_, _, pre4 _ ?_, hrun, hended, _, _, rfl, ?_, ⟨_, rfl⟩, hW, hsame.mono (by decide) (by decide)⟩
  · show Steps p.tables e below (T2.setTop (mkF m 12 #[.val (.ref oa)] [(.int (0 : Int32))])) _
    exact retN X2 hx (t := .boolean) Bd.returns (by simp) (hb hby own_d_jdk_32_method_6_12) hr
  · show Q_own_pres0 Z oa h0 n0 _ T2.heap _
    rw [e2]
    exact ⟨rfl, N0, rfl⟩
theorem own_ef_own_pres1 (m : MethodId) (oa : Addr) : entryFrame m #[(.ref oa)] 1 = mkF m 0 #[.val (.ref oa)] [] := by first | (simp [entryFrame, mkF, argsToLocals, Value.category]; done) | rfl
def Q_own_pres1 (Z : State) (oa : Addr) (ob : Addr) (h0 : Heap) (n0 : Nat) (v : Option Value) (h : Heap) (L : List Loc) : Prop := v = some (.int (1 : Int32)) ∧ Fr n0 L ∧ h = h0
theorem own_d_jdk_32_method_6_7 : decode jdk_32_method_6_code 7 = .ok (.iconst 1, 1) := by decide +kernel
theorem own_d_jdk_32_method_6_8 : decode jdk_32_method_6_code 8 = .ok (.goto 4, 3) := by decide +kernel
set_option maxRecDepth 65536 in
set_option maxHeartbeats 40000000 in
theorem own_pres1 (l : Launch) (Z : State) (a0 : Array Value) (hw : ∀ d ∈ tables_1, d.before a0 Z = true) (ws : List Jvm.Cond) (oa : Addr) (ob : Addr) (h0 : Heap) (n0 : Nat) (Z0 : n0 ≤ h0.size) (F : Fld Z h0 oa "java/util/Optional" "value" "Ljava/lang/Object;" (.ref ob)) :
    MetFree l (⟨"java/util/Optional", "isPresent", "()Z"⟩ : MethodName) (head1 (Jvm.Cond.code (⟨"java/util/Optional", "isPresent", "()Z"⟩ : MethodName) jdk_32_method_6_code 1 (some .boolean) :: ws) ({ frames := 0, cells := 0, slots := 0, locals := 0 } : Room)) (fun a U => a = #[(.ref oa)] ∧ Z.Warmed39 U.vm ∧ U.heap = h0) (fun _ _ _ _ _ => True) (fun _ U o U' => ∃ v L, o = .returned v ∧ Q_own_pres1 Z oa ob h0 n0 v U'.heap L ∧ FrameEnd U o U' L ({ frames := 0, cells := 0, slots := 0, locals := 0 } : Room).cells ({ frames := 0, cells := 0, slots := 0, locals := 0 } : Room).slots) := by
  refine MetFree.of_bodySF (plainFor_of_name own_pn_java_util_Optional) hisR ?_
  intro p e s m args below meth c s₁ Bd hml0 hP hK
  obtain ⟨rfl, hZ, hh⟩ := hP
  have hx := Bd.exec
  have hby := Bd.bytes
  have hml : c.maxLocals = 1 := hml0
  have hown : s.vm.findClass "java/util/Optional" = some m.cls := findClass_of_methodNamed Bd.named
  have hnm := (name_of_methodNamed Bd.named Bd.method).1
  have X0 : Stand p l e ({ frames := 0, cells := 0, slots := 0, locals := 0 } : Room) s m #[(.ref oa)] below meth c s₁ [] 0 0 := Stand.of_body Bd
  have e0 : s₁.heap = h0 := by rw [← hh, Bd.state]; rfl
  have N0 := Fr.nil n0
  have pre0 : ∀ t, Steps p.tables e below (s₁.setTop (mkF m 0 #[.val (.ref oa)] [])) t → Steps p.tables e below (s₁.setTop (entryFrame m #[(.ref oa)] 1)) t := fun t k => castTop (own_ef_own_pres1 m oa) k
  have pre1 : ∀ t, Steps p.tables e below (s₁.setTop (mkF m 1 #[.val (.ref oa)] [(.ref oa)])) t → Steps p.tables e below (s₁.setTop (entryFrame m #[(.ref oa)] 1)) t := fun t k => pre0 _ (by
    show Steps p.tables e below (s₁.setTop (mkF m 0 #[.val (.ref oa)] [])) _
    refine XS.aloadN X0.here hx rfl (hb hby own_d_jdk_32_method_6_0) rfl rfl ?_
    exact k)
  obtain ⟨T2, X2, e2, st2⟩ := getF X0 hx hZ hown (host := "") (Or.inl (hw _ (List.mem_of_getElem? (i := 41) rfl))) Via.refl e0 F (g := (mkF m 1 #[.val (.ref oa)] [(.ref oa)])) rfl rfl (hb hby own_d_jdk_32_method_6_1)
  have pre3 : ∀ t, Steps p.tables e below (T2.setTop (mkF m 4 #[.val (.ref oa)] [(.ref ob)])) t → Steps p.tables e below (s₁.setTop (entryFrame m #[(.ref oa)] 1)) t := fun t k => pre1 _ (st2 _ k)
  have pre4 : ∀ t, Steps p.tables e below (T2.setTop (mkF m 12 #[.val (.ref oa)] [(.int (1 : Int32))])) t → Steps p.tables e below (s₁.setTop (entryFrame m #[(.ref oa)] 1)) t := fun t k => pre3 _ (by
    show Steps p.tables e below (T2.setTop (mkF m 4 #[.val (.ref oa)] [(.ref ob)])) _
    refine XS.ifnullNo X2.here hx rfl (hb hby own_d_jdk_32_method_6_4) rfl ?_
    show Steps p.tables e below (T2.setTop (mkF m 7 #[.val (.ref oa)] [])) _
    refine XT.iconstV X2.here hx rfl (1 : Int32) (hb hby own_d_jdk_32_method_6_7) rfl ?_
    show Steps p.tables e below (T2.setTop (mkF m 8 #[.val (.ref oa)] [(.int (1 : Int32))])) _
    refine XS.goto X2.here hx rfl (pc0 := 8) (pc' := 12) rfl (hb hby own_d_jdk_32_method_6_8) (by decide) (by decide) ?_
    exact k)
  obtain ⟨fs, hr, hrun, hended, hW, hsame⟩ := X2.leave (v := some (.int (1 : Int32))) (fun h => by rw [Bd.returns] at h; cases h)
  refine ⟨_, _, pre4 _ ?_, hrun, hended, _, _, rfl, ?_, ⟨_, rfl⟩, hW, hsame.mono (by decide) (by decide)⟩
  · show Steps p.tables e below (T2.setTop (mkF m 12 #[.val (.ref oa)] [(.int (1 : Int32))])) _
    exact retN X2 hx (t := .boolean) Bd.returns (by simp) (hb hby own_d_jdk_32_method_6_12) hr
  · show Q_own_pres1 Z oa ob h0 n0 _ T2.heap _
    rw [e2]
    exact ⟨rfl, N0, rfl⟩
theorem own_ef_own_locks0 (m : MethodId) (oa : Addr) : entryFrame m #[(.ref oa)] 1 = mkF m 0 #[.val (.ref oa)] [] := by first | (simp [entryFrame, mkF, argsToLocals, Value.category]; done) | rfl
def Q_own_locks0 (Z : State) (oa : Addr)  (h0 : Heap) (n0 : Nat) (v : Option Value) (h : Heap) (L : List Loc) : Prop := v = some (.int (0 : Int32)) ∧ Fr n0 L ∧ h = h0
theorem own_pn_com_example_freshline_freshline_model_Isolation : plainName "com/example/freshline/freshline/model/Isolation" = true := by first | (simp [plainName, overriddenIn]; done) | decide +kernel
theorem own_d_prog_27_method_8_0 : decode prog_27_method_8_code 0 = .ok (.aload_n 0, 1) := by decide +kernel
theorem own_d_prog_27_method_8_1 : decode prog_27_method_8_code 1 = .ok (.getfield 44, 3) := by decide +kernel
theorem own_d_prog_27_method_8_4 : decode prog_27_method_8_code 4 = .ok (.ireturn, 1) := by decide +kernel
set_option maxRecDepth 65536 in
set_option maxHeartbeats 40000000 in
theorem own_locks0 (l : Launch) (Z : State) (a0 : Array Value) (hw : ∀ d ∈ tables_1, d.before a0 Z = true) (ws : List Jvm.Cond) (oa : Addr)  (h0 : Heap) (n0 : Nat) (Z0 : n0 ≤ h0.size) (F : Fld Z h0 oa "com/example/freshline/freshline/model/Isolation" "locks" "Z" (.int (0 : Int32))) :
    MetFree l (⟨"com/example/freshline/freshline/model/Isolation", "locks", "()Z"⟩ : MethodName) (head1 (Jvm.Cond.code (⟨"com/example/freshline/freshline/model/Isolation", "locks", "()Z"⟩ : MethodName) prog_27_method_8_code 1 (some .boolean) :: ws) ({ frames := 0, cells := 0, slots := 0, locals := 0 } : Room)) (fun a U => a = #[(.ref oa)] ∧ Z.Warmed39 U.vm ∧ U.heap = h0) (fun _ _ _ _ _ => True) (fun _ U o U' => ∃ v L, o = .returned v ∧ Q_own_locks0 Z oa h0 n0 v U'.heap L ∧ FrameEnd U o U' L ({ frames := 0, cells := 0, slots := 0, locals := 0 } : Room).cells ({ frames := 0, cells := 0, slots := 0, locals := 0 } : Room).slots) := by
  refine MetFree.of_bodySF (plainFor_of_name own_pn_com_example_freshline_freshline_model_Isolation) hisR ?_
  intro p e s m args below meth c s₁ Bd hml0 hP hK
  obtain ⟨rfl, hZ, hh⟩ := hP
  have hx := Bd.exec
  have hby := Bd.bytes
  have hml : c.maxLocals = 1 := hml0
  have hown : s.vm.findClass "com/example/freshline/freshline/model/Isolation" = some m.cls := findClass_of_methodNamed Bd.named
  have hnm := (name_of_methodNamed Bd.named Bd.method).1
  have X0 : Stand p l e ({ frames := 0, cells := 0, slots := 0, locals := 0 } : Room) s m #[(.ref oa)] below meth c s₁ [] 0 0 := Stand.of_body Bd
  have e0 : s₁.heap = h0 := by rw [← hh, Bd.state]; rfl
  have N0 := Fr.nil n0
  have pre0 : ∀ t, Steps p.tables e below (s₁.setTop (mkF m 0 #[.val (.ref oa)] [])) t → Steps p.tables e below (s₁.setTop (entryFrame m #[(.ref oa)] 1)) t := fun t k => castTop (own_ef_own_locks0 m oa) k
  have pre1 : ∀ t, Steps p.tables e below (s₁.setTop (mkF m 1 #[.val (.ref oa)] [(.ref oa)])) t → Steps p.tables e below (s₁.setTop (entryFrame m #[(.ref oa)] 1)) t := fun t k => pre0 _ (by
    show Steps p.tables e below (s₁.setTop (mkF m 0 #[.val (.ref oa)] [])) _
    refine XS.aloadN X0.here hx rfl (hb hby own_d_prog_27_method_8_0) rfl rfl ?_
    exact k)
  obtain ⟨T2, X2, e2, st2⟩ := getF X0 hx hZ hown (host := "") (Or.inl (hw _ (List.mem_of_getElem? (i := 86) rfl))) Via.refl e0 F (g := (mkF m 1 #[.val (.ref oa)] [(.ref oa)])) rfl rfl (hb hby own_d_prog_27_method_8_1)
  have pre3 : ∀ t, Steps p.tables e below (T2.setTop (mkF m 4 #[.val (.ref oa)] [(.int (0 : Int32))])) t → Steps p.tables e below (s₁.setTop (entryFrame m #[(.ref oa)] 1)) t := fun t k => pre1 _ (st2 _ k)
  obtain ⟨fs, hr, hrun, hended, hW, hsame⟩ := X2.leave (v := some (.int (0 : Int32))) (fun h => by rw [Bd.returns] at h; cases h)
  refine ⟨_, _, pre3 _ ?_, hrun, hended, _, _, rfl, ?_, ⟨_, rfl⟩, hW, hsame.mono (by decide) (by decide)⟩
  · show Steps p.tables e below (T2.setTop (mkF m 4 #[.val (.ref oa)] [(.int (0 : Int32))])) _
    exact retN X2 hx (t := .boolean) Bd.returns (by simp) (hb hby own_d_prog_27_method_8_4) hr
  · show Q_own_locks0 Z oa h0 n0 _ T2.heap _
    rw [e2]
    exact ⟨rfl, N0, rfl⟩
theorem own_ef_own_locks1 (m : MethodId) (oa : Addr) : entryFrame m #[(.ref oa)] 1 = mkF m 0 #[.val (.ref oa)] [] := by first | (simp [entryFrame, mkF, argsToLocals, Value.category]; done) | rfl
def Q_own_locks1 (Z : State) (oa : Addr)  (h0 : Heap) (n0 : Nat) (v : Option Value) (h : Heap) (L : List Loc) : Prop := v = some (.int (1 : Int32)) ∧ Fr n0 L ∧ h = h0
set_option maxRecDepth 65536 in
set_option maxHeartbeats 40000000 in
theorem own_locks1 (l : Launch) (Z : State) (a0 : Array Value) (hw : ∀ d ∈ tables_1, d.before a0 Z = true) (ws : List Jvm.Cond) (oa : Addr)  (h0 : Heap) (n0 : Nat) (Z0 : n0 ≤ h0.size) (F : Fld Z h0 oa "com/example/freshline/freshline/model/Isolation" "locks" "Z" (.int (1 : Int32))) :
    MetFree l (⟨"com/example/freshline/freshline/model/Isolation", "locks", "()Z"⟩ : MethodName) (head1 (Jvm.Cond.code (⟨"com/example/freshline/freshline/model/Isolation", "locks", "()Z"⟩ : MethodName) prog_27_method_8_code 1 (some .boolean) :: ws) ({ frames := 0, cells := 0, slots := 0, locals := 0 } : Room)) (fun a U => a = #[(.ref oa)] ∧ Z.Warmed39 U.vm ∧ U.heap = h0) (fun _ _ _ _ _ => True) (fun _ U o U' => ∃ v L, o = .returned v ∧ Q_own_locks1 Z oa h0 n0 v U'.heap L ∧ FrameEnd U o U' L ({ frames := 0, cells := 0, slots := 0, locals := 0 } : Room).cells ({ frames := 0, cells := 0, slots := 0, locals := 0 } : Room).slots) := by
  refine MetFree.of_bodySF (plainFor_of_name own_pn_com_example_freshline_freshline_model_Isolation) hisR ?_
  intro p e s m args below meth c s₁ Bd hml0 hP hK
  obtain ⟨rfl, hZ, hh⟩ := hP
  have hx := Bd.exec
  have hby := Bd.bytes
  have hml : c.maxLocals = 1 := hml0
  have hown : s.vm.findClass "com/example/freshline/freshline/model/Isolation" = some m.cls := findClass_of_methodNamed Bd.named
  have hnm := (name_of_methodNamed Bd.named Bd.method).1
  have X0 : Stand p l e ({ frames := 0, cells := 0, slots := 0, locals := 0 } : Room) s m #[(.ref oa)] below meth c s₁ [] 0 0 := Stand.of_body Bd
  have e0 : s₁.heap = h0 := by rw [← hh, Bd.state]; rfl
  have N0 := Fr.nil n0
  have pre0 : ∀ t, Steps p.tables e below (s₁.setTop (mkF m 0 #[.val (.ref oa)] [])) t → Steps p.tables e below (s₁.setTop (entryFrame m #[(.ref oa)] 1)) t := fun t k => castTop (own_ef_own_locks1 m oa) k
  have pre1 : ∀ t, Steps p.tables e below (s₁.setTop (mkF m 1 #[.val (.ref oa)] [(.ref oa)])) t → Steps p.tables e below (s₁.setTop (entryFrame m #[(.ref oa)] 1)) t := fun t k => pre0 _ (by
    show Steps p.tables e below (s₁.setTop (mkF m 0 #[.val (.ref oa)] [])) _
    refine XS.aloadN X0.here hx rfl (hb hby own_d_prog_27_method_8_0) rfl rfl ?_
    exact k)
  obtain ⟨T2, X2, e2, st2⟩ := getF X0 hx hZ hown (host := "") (Or.inl (hw _ (List.mem_of_getElem? (i := 86) rfl))) Via.refl e0 F (g := (mkF m 1 #[.val (.ref oa)] [(.ref oa)])) rfl rfl (hb hby own_d_prog_27_method_8_1)
  have pre3 : ∀ t, Steps p.tables e below (T2.setTop (mkF m 4 #[.val (.ref oa)] [(.int (1 : Int32))])) t → Steps p.tables e below (s₁.setTop (entryFrame m #[(.ref oa)] 1)) t := fun t k => pre1 _ (st2 _ k)
  obtain ⟨fs, hr, hrun, hended, hW, hsame⟩ := X2.leave (v := some (.int (1 : Int32))) (fun h => by rw [Bd.returns] at h; cases h)
  refine ⟨_, _, pre3 _ ?_, hrun, hended, _, _, rfl, ?_, ⟨_, rfl⟩, hW, hsame.mono (by decide) (by decide)⟩
  · show Steps p.tables e below (T2.setTop (mkF m 4 #[.val (.ref oa)] [(.int (1 : Int32))])) _
    exact retN X2 hx (t := .boolean) Bd.returns (by simp) (hb hby own_d_prog_27_method_8_4) hr
  · show Q_own_locks1 Z oa h0 n0 _ T2.heap _
    rw [e2]
    exact ⟨rfl, N0, rfl⟩
theorem own_ef_own_chk00 (m : MethodId) (oa : Addr) : entryFrame m #[(.ref oa)] 1 = mkF m 0 #[.val (.ref oa)] [] := by first | (simp [entryFrame, mkF, argsToLocals, Value.category]; done) | rfl
def Q_own_chk00 (Z : State) (oa : Addr) (oi : Addr) (op : Addr) (h0 : Heap) (n0 : Nat) (v : Option Value) (h : Heap) (L : List Loc) : Prop := v = some (.int (0 : Int32)) ∧ Fr n0 L ∧ h = h0
theorem own_d_prog_63_method_3_0 : decode prog_63_method_3_code 0 = .ok (.aload_n 0, 1) := by decide +kernel
theorem own_d_prog_63_method_3_1 : decode prog_63_method_3_code 1 = .ok (.getfield 22, 3) := by decide +kernel
theorem own_pd___Z : parseMethodDescriptor "()Z" = some ⟨[], some .boolean⟩ := by decide +kernel
theorem own_d_prog_63_method_3_4 : decode prog_63_method_3_code 4 = .ok (.invokevirtual 34, 3) := by decide +kernel
theorem own_d_prog_63_method_3_7 : decode prog_63_method_3_code 7 = .ok (.ifCond .eq 17, 3) := by decide +kernel
theorem own_d_prog_63_method_3_24 : decode prog_63_method_3_code 24 = .ok (.iconst 0, 1) := by decide +kernel
theorem own_d_prog_63_method_3_25 : decode prog_63_method_3_code 25 = .ok (.ireturn, 1) := by decide +kernel
set_option maxRecDepth 65536 in
set_option maxHeartbeats 40000000 in
theorem own_chk00 (l : Launch) (Z : State) (a0 : Array Value) (hw : ∀ d ∈ tables_1, d.before a0 Z = true) (ws : List Jvm.Cond) (oa : Addr) (oi : Addr) (op : Addr) (h0 : Heap) (n0 : Nat) (Z0 : n0 ≤ h0.size) (F1 : Fld Z h0 oa "com/example/freshline/freshline/server/TransactionOptions" "isolation" "Lcom/example/freshline/freshline/model/Isolation;" (.ref oi)) (F2 : Fld Z h0 oa "com/example/freshline/freshline/server/TransactionOptions" "drift" "Ljava/util/Optional;" (.ref op)) (E2 : Exa Z h0 op "java/util/Optional") (FV : Fld Z h0 op "java/util/Optional" "value" "Ljava/lang/Object;" .null) :
    MetFree l (⟨"com/example/freshline/freshline/server/TransactionOptions", "checksDrift", "()Z"⟩ : MethodName) (head1 (Jvm.Cond.code (⟨"com/example/freshline/freshline/server/TransactionOptions", "checksDrift", "()Z"⟩ : MethodName) prog_63_method_3_code 1 (some .boolean) :: ws) ({ frames := 1, cells := 0, slots := 0, locals := 14 } : Room)) (fun a U => a = #[(.ref oa)] ∧ Z.Warmed39 U.vm ∧ U.heap = h0) (fun _ _ _ _ _ => True) (fun _ U o U' => ∃ v L, o = .returned v ∧ Q_own_chk00 Z oa oi op h0 n0 v U'.heap L ∧ FrameEnd U o U' L ({ frames := 1, cells := 0, slots := 0, locals := 14 } : Room).cells ({ frames := 1, cells := 0, slots := 0, locals := 14 } : Room).slots) := by
  refine MetFree.of_bodySF (plainFor_of_name own_pn_com_example_freshline_freshline_server_TransactionOptions) hisR ?_
  intro p e s m args below meth c s₁ Bd hml0 hP hK
  obtain ⟨rfl, hZ, hh⟩ := hP
  have hx := Bd.exec
  have hby := Bd.bytes
  have hml : c.maxLocals = 1 := hml0
  have hown : s.vm.findClass "com/example/freshline/freshline/server/TransactionOptions" = some m.cls := findClass_of_methodNamed Bd.named
  have hnm := (name_of_methodNamed Bd.named Bd.method).1
  have X0 : Stand p l e ({ frames := 1, cells := 0, slots := 0, locals := 14 } : Room) s m #[(.ref oa)] below meth c s₁ [] 0 0 := Stand.of_body Bd
  have e0 : s₁.heap = h0 := by rw [← hh, Bd.state]; rfl
  have N0 := Fr.nil n0
  have pre0 : ∀ t, Steps p.tables e below (s₁.setTop (mkF m 0 #[.val (.ref oa)] [])) t → Steps p.tables e below (s₁.setTop (entryFrame m #[(.ref oa)] 1)) t := fun t k => castTop (own_ef_own_chk00 m oa) k
  have pre1 : ∀ t, Steps p.tables e below (s₁.setTop (mkF m 1 #[.val (.ref oa)] [(.ref oa)])) t → Steps p.tables e below (s₁.setTop (entryFrame m #[(.ref oa)] 1)) t := fun t k => pre0 _ (by
    show Steps p.tables e below (s₁.setTop (mkF m 0 #[.val (.ref oa)] [])) _
    refine XS.aloadN X0.here hx rfl (hb hby own_d_prog_63_method_3_0) rfl rfl ?_
    exact k)
  obtain ⟨T2, X2, e2, st2⟩ := getF X0 hx hZ hown (host := "") (Or.inl (hw _ (List.mem_of_getElem? (i := 69) rfl))) Via.refl e0 F2 (g := (mkF m 1 #[.val (.ref oa)] [(.ref oa)])) rfl rfl (hb hby own_d_prog_63_method_3_1)
  have pre3 : ∀ t, Steps p.tables e below (T2.setTop (mkF m 4 #[.val (.ref oa)] [(.ref op)])) t → Steps p.tables e below (s₁.setTop (entryFrame m #[(.ref oa)] 1)) t := fun t k => pre1 _ (st2 _ k)
  obtain ⟨cq4, kq4, q4a, q4b, q4c⟩ := isOf hZ e2 E2
  obtain ⟨_, _, ⟨T4, L4, k4, n4⟩, -, X4, ⟨Lc4, hQ4, l4, y4, z4⟩, st4⟩ := X2.virtualBack hx (y := (⟨"java/util/Optional", "isPresent", "()Z"⟩ : MethodName)) (z := (⟨"java/util/Optional", "isPresent", "()Z"⟩ : MethodName)) hown (mvT hZ (hw _ (List.mem_of_getElem? (i := 76) rfl))) (mvT hZ (hw _ (List.mem_of_getElem? (i := 77) rfl))) (notFace_of_selects (args := #[]) (mvT hZ (hw _ (List.mem_of_getElem? (i := 79) rfl)))) (mvT hZ (hw _ (List.mem_of_getElem? (i := 79) rfl))) (mvT hZ (hw _ (List.mem_of_getElem? (i := 78) rfl))) (by decide) (backOf (W := 0) (own_pres0 l Z a0 hw [] op  h0 n0 Z0 FV) hZ (hw _ (List.mem_of_getElem? (i := 80) rfl)) (hw _ (List.mem_of_getElem? (i := 28) rfl)) (by decide) (by decide)) q4a q4c (g := (mkF m 4 #[.val (.ref oa)] [(.ref op)])) rfl (by rw [hml]; rfl) (Steps.refl _) (argsL := []) (rest := []) (lenOf own_pd___Z rfl) rfl (by show 2 * 0 + _ ≤ _; exact Nat.le_of_eq rfl) (hb hby own_d_prog_63_method_3_4) (fun _ _ => ⟨rfl, e2, (by decide : 0 + 0 ≤ _), (by decide : 0 + 0 ≤ _)⟩)
  dsimp only [Pt.U, Pt.locs, Pt.cells, Pt.slots] at X4 l4 y4 z4 st4 hQ4
  subst l4 y4 z4
  obtain ⟨rfl, N4q, e4⟩ := hQ4
  have N4 := Fr.app N0 N4q
  have pre5 : ∀ t, Steps p.tables e below (T4.setTop (mkF m 7 #[.val (.ref oa)] [(.int (0 : Int32))])) t → Steps p.tables e below (s₁.setTop (entryFrame m #[(.ref oa)] 1)) t := fun t k => pre3 _ (st4.trans k)
  have pre6 : ∀ t, Steps p.tables e below (T4.setTop (mkF m 25 #[.val (.ref oa)] [(.int (0 : Int32))])) t → Steps p.tables e below (s₁.setTop (entryFrame m #[(.ref oa)] 1)) t := fun t k => pre5 _ (by
    show Steps p.tables e below (T4.setTop (mkF m 7 #[.val (.ref oa)] [(.int (0 : Int32))])) _
    refine XS.ifYes X4.here hx rfl (pc0 := 7) (pc' := 24) rfl (hb hby own_d_prog_63_method_3_7) rfl (XT.i0_eq_t (by decide)) (by decide) (by decide) ?_
    show Steps p.tables e below (T4.setTop (mkF m 24 #[.val (.ref oa)] [])) _
    refine XT.iconstV X4.here hx rfl (0 : Int32) (hb hby own_d_prog_63_method_3_24) rfl ?_
    exact k)
  obtain ⟨fs, hr, hrun, hended, hW, hsame⟩ := X4.leave (v := some (.int (0 : Int32))) (fun h => by rw [Bd.returns] at h; cases h)
  refine ⟨_, _, pre6 _ ?_, hrun, hended, _, _, rfl, ?_, ⟨_, rfl⟩, hW, hsame.mono (by decide) (by decide)⟩
  · show Steps p.tables e below (T4.setTop (mkF m 25 #[.val (.ref oa)] [(.int (0 : Int32))])) _
    exact retN X4 hx (t := .boolean) Bd.returns (by simp) (hb hby own_d_prog_63_method_3_25) hr
  · show Q_own_chk00 Z oa oi op h0 n0 _ T4.heap _
    rw [e4]
    exact ⟨rfl, N4, rfl⟩
theorem own_ef_own_chk10 (m : MethodId) (oa : Addr) : entryFrame m #[(.ref oa)] 1 = mkF m 0 #[.val (.ref oa)] [] := by first | (simp [entryFrame, mkF, argsToLocals, Value.category]; done) | rfl
def Q_own_chk10 (Z : State) (oa : Addr) (oi : Addr) (op : Addr) (ob : Addr) (h0 : Heap) (n0 : Nat) (v : Option Value) (h : Heap) (L : List Loc) : Prop := v = some (.int (1 : Int32)) ∧ Fr n0 L ∧ h = h0
theorem own_d_prog_63_method_3_10 : decode prog_63_method_3_code 10 = .ok (.aload_n 0, 1) := by decide +kernel
theorem own_d_prog_63_method_3_11 : decode prog_63_method_3_code 11 = .ok (.getfield 17, 3) := by decide +kernel
theorem own_d_prog_63_method_3_14 : decode prog_63_method_3_code 14 = .ok (.invokevirtual 39, 3) := by decide +kernel
theorem own_d_prog_63_method_3_17 : decode prog_63_method_3_code 17 = .ok (.ifCond .ne 7, 3) := by decide +kernel
theorem own_d_prog_63_method_3_20 : decode prog_63_method_3_code 20 = .ok (.iconst 1, 1) := by decide +kernel
theorem own_d_prog_63_method_3_21 : decode prog_63_method_3_code 21 = .ok (.goto 4, 3) := by decide +kernel
set_option maxRecDepth 65536 in
set_option maxHeartbeats 40000000 in
theorem own_chk10 (l : Launch) (Z : State) (a0 : Array Value) (hw : ∀ d ∈ tables_1, d.before a0 Z = true) (ws : List Jvm.Cond) (oa : Addr) (oi : Addr) (op : Addr) (ob : Addr) (h0 : Heap) (n0 : Nat) (Z0 : n0 ≤ h0.size) (F1 : Fld Z h0 oa "com/example/freshline/freshline/server/TransactionOptions" "isolation" "Lcom/example/freshline/freshline/model/Isolation;" (.ref oi)) (F2 : Fld Z h0 oa "com/example/freshline/freshline/server/TransactionOptions" "drift" "Ljava/util/Optional;" (.ref op)) (E2 : Exa Z h0 op "java/util/Optional") (FV : Fld Z h0 op "java/util/Optional" "value" "Ljava/lang/Object;" (.ref ob)) (E1 : Exa Z h0 oi "com/example/freshline/freshline/model/Isolation") (FL : Fld Z h0 oi "com/example/freshline/freshline/model/Isolation" "locks" "Z" (.int (0 : Int32))) :
    MetFree l (⟨"com/example/freshline/freshline/server/TransactionOptions", "checksDrift", "()Z"⟩ : MethodName) (head1 (Jvm.Cond.code (⟨"com/example/freshline/freshline/server/TransactionOptions", "checksDrift", "()Z"⟩ : MethodName) prog_63_method_3_code 1 (some .boolean) :: ws) ({ frames := 1, cells := 0, slots := 0, locals := 14 } : Room)) (fun a U => a = #[(.ref oa)] ∧ Z.Warmed39 U.vm ∧ U.heap = h0) (fun _ _ _ _ _ => True) (fun _ U o U' => ∃ v L, o = .returned v ∧ Q_own_chk10 Z oa oi op ob h0 n0 v U'.heap L ∧ FrameEnd U o U' L ({ frames := 1, cells := 0, slots := 0, locals := 14 } : Room).cells ({ frames := 1, cells := 0, slots := 0, locals := 14 } : Room).slots) := by
  refine MetFree.of_bodySF (plainFor_of_name own_pn_com_example_freshline_freshline_server_TransactionOptions) hisR ?_
  intro p e s m args below meth c s₁ Bd hml0 hP hK
  obtain ⟨rfl, hZ, hh⟩ := hP
  have hx := Bd.exec
  have hby := Bd.bytes
  have hml : c.maxLocals = 1 := hml0
  have hown : s.vm.findClass "com/example/freshline/freshline/server/TransactionOptions" = some m.cls := findClass_of_methodNamed Bd.named
  have hnm := (name_of_methodNamed Bd.named Bd.method).1
  have X0 : Stand p l e ({ frames := 1, cells := 0, slots := 0, locals := 14 } : Room) s m #[(.ref oa)] below meth c s₁ [] 0 0 := Stand.of_body Bd
  have e0 : s₁.heap = h0 := by rw [← hh, Bd.state]; rfl
  have N0 := Fr.nil n0
  have pre0 : ∀ t, Steps p.tables e below (s₁.setTop (mkF m 0 #[.val (.ref oa)] [])) t → Steps p.tables e below (s₁.setTop (entryFrame m #[(.ref oa)] 1)) t := fun t k => castTop (own_ef_own_chk10 m oa) k
  have pre1 : ∀ t, Steps p.tables e below (s₁.setTop (mkF m 1 #[.val (.ref oa)] [(.ref oa)])) t → Steps p.tables e below (s₁.setTop (entryFrame m #[(.ref oa)] 1)) t := fun t k => pre0 _ (by
    show Steps p.tables e below (s₁.setTop (mkF m 0 #[.val (.ref oa)] [])) _
    refine XS.aloadN X0.here hx rfl (hb hby own_d_prog_63_method_3_0) rfl rfl ?_
    exact k)
  obtain ⟨T2, X2, e2, st2⟩ := getF X0 hx hZ hown (host := "") (Or.inl (hw _ (List.mem_of_getElem? (i := 69) rfl))) Via.refl e0 F2 (g := (mkF m 1 #[.val (.ref oa)] [(.ref oa)])) rfl rfl (hb hby own_d_prog_63_method_3_1)
  have pre3 : ∀ t, Steps p.tables e below (T2.setTop (mkF m 4 #[.val (.ref oa)] [(.ref op)])) t → Steps p.tables e below (s₁.setTop (entryFrame m #[(.ref oa)] 1)) t := fun t k => pre1 _ (st2 _ k)
  obtain ⟨cq4, kq4, q4a, q4b, q4c⟩ := isOf hZ e2 E2
  obtain ⟨_, _, ⟨T4, L4, k4, n4⟩, -, X4, ⟨Lc4, hQ4, l4, y4, z4⟩, st4⟩ := X2.virtualBack hx (y := (⟨"java/util/Optional", "isPresent", "()Z"⟩ : MethodName)) (z := (⟨"java/util/Optional", "isPresent", "()Z"⟩ : MethodName)) hown (mvT hZ (hw _ (List.mem_of_getElem? (i := 76) rfl))) (mvT hZ (hw _ (List.mem_of_getElem? (i := 77) rfl))) (notFace_of_selects (args := #[]) (mvT hZ (hw _ (List.mem_of_getElem? (i := 79) rfl)))) (mvT hZ (hw _ (List.mem_of_getElem? (i := 79) rfl))) (mvT hZ (hw _ (List.mem_of_getElem? (i := 78) rfl))) (by decide) (backOf (W := 0) (own_pres1 l Z a0 hw [] op ob h0 n0 Z0 FV) hZ (hw _ (List.mem_of_getElem? (i := 80) rfl)) (hw _ (List.mem_of_getElem? (i := 28) rfl)) (by decide) (by decide)) q4a q4c (g := (mkF m 4 #[.val (.ref oa)] [(.ref op)])) rfl (by rw [hml]; rfl) (Steps.refl _) (argsL := []) (rest := []) (lenOf own_pd___Z rfl) rfl (by show 2 * 0 + _ ≤ _; exact Nat.le_of_eq rfl) (hb hby own_d_prog_63_method_3_4) (fun _ _ => ⟨rfl, e2, (by decide : 0 + 0 ≤ _), (by decide : 0 + 0 ≤ _)⟩)
  dsimp only [Pt.U, Pt.locs, Pt.cells, Pt.slots] at X4 l4 y4 z4 st4 hQ4
  subst l4 y4 z4
  obtain ⟨rfl, N4q, e4⟩ := hQ4
  have N4 := Fr.app N0 N4q
  have pre5 : ∀ t, Steps p.tables e below (T4.setTop (mkF m 7 #[.val (.ref oa)] [(.int (1 : Int32))])) t → Steps p.tables e below (s₁.setTop (entryFrame m #[(.ref oa)] 1)) t := fun t k => pre3 _ (st4.trans k)
  have pre6 : ∀ t, Steps p.tables e below (T4.setTop (mkF m 11 #[.val (.ref oa)] [(.ref oa)])) t → Steps p.tables e below (s₁.setTop (entryFrame m #[(.ref oa)] 1)) t := fun t k => pre5 _ (by
    show Steps p.tables e below (T4.setTop (mkF m 7 #[.val (.ref oa)] [(.int (1 : Int32))])) _
    refine XS.ifNo X4.here hx rfl (hb hby own_d_prog_63_method_3_7) rfl (XT.i0_eq_f (by decide)) ?_
    show Steps p.tables e below (T4.setTop (mkF m 10 #[.val (.ref oa)] [])) _
    refine XS.aloadN X4.here hx rfl (hb hby own_d_prog_63_method_3_10) rfl rfl ?_
    exact k)
  obtain ⟨T7, X7, e7, st7⟩ := getF X4 hx hZ hown (host := "") (Or.inl (hw _ (List.mem_of_getElem? (i := 67) rfl))) Via.refl e4 F1 (g := (mkF m 11 #[.val (.ref oa)] [(.ref oa)])) rfl rfl (hb hby own_d_prog_63_method_3_11)
  have pre8 : ∀ t, Steps p.tables e below (T7.setTop (mkF m 14 #[.val (.ref oa)] [(.ref oi)])) t → Steps p.tables e below (s₁.setTop (entryFrame m #[(.ref oa)] 1)) t := fun t k => pre6 _ (st7 _ k)
  obtain ⟨cq9, kq9, q9a, q9b, q9c⟩ := isOf hZ e7 E1
  obtain ⟨_, _, ⟨T9, L9, k9, n9⟩, -, X9, ⟨Lc9, hQ9, l9, y9, z9⟩, st9⟩ := X7.virtualBack hx (y := (⟨"com/example/freshline/freshline/model/Isolation", "locks", "()Z"⟩ : MethodName)) (z := (⟨"com/example/freshline/freshline/model/Isolation", "locks", "()Z"⟩ : MethodName)) hown (mvT hZ (hw _ (List.mem_of_getElem? (i := 81) rfl))) (mvT hZ (hw _ (List.mem_of_getElem? (i := 82) rfl))) (notFace_of_selects (args := #[]) (mvT hZ (hw _ (List.mem_of_getElem? (i := 84) rfl)))) (mvT hZ (hw _ (List.mem_of_getElem? (i := 84) rfl))) (mvT hZ (hw _ (List.mem_of_getElem? (i := 83) rfl))) (by decide) (backOf (W := 0) (own_locks0 l Z a0 hw [] oi h0 n0 Z0 FL) hZ (hw _ (List.mem_of_getElem? (i := 85) rfl)) (hw _ (List.mem_of_getElem? (i := 2) rfl)) (by decide) (by decide)) q9a q9c (g := (mkF m 14 #[.val (.ref oa)] [(.ref oi)])) rfl (by rw [hml]; rfl) (Steps.refl _) (argsL := []) (rest := []) (lenOf own_pd___Z rfl) rfl (by show 2 * 0 + _ ≤ _; exact Nat.le_of_eq rfl) (hb hby own_d_prog_63_method_3_14) (fun _ _ => ⟨rfl, e7, (by decide : 0 + 0 ≤ _), (by decide : 0 + 0 ≤ _)⟩)
  dsimp only [Pt.U, Pt.locs, Pt.cells, Pt.slots] at X9 l9 y9 z9 st9 hQ9
  subst l9 y9 z9
  obtain ⟨rfl, N9q, e9⟩ := hQ9
  have N9 := Fr.app N4 N9q
  have pre10 : ∀ t, Steps p.tables e below (T9.setTop (mkF m 17 #[.val (.ref oa)] [(.int (0 : Int32))])) t → Steps p.tables e below (s₁.setTop (entryFrame m #[(.ref oa)] 1)) t := fun t k => pre8 _ (st9.trans k)
  have pre11 : ∀ t, Steps p.tables e below (T9.setTop (mkF m 25 #[.val (.ref oa)] [(.int (1 : Int32))])) t → Steps p.tables e below (s₁.setTop (entryFrame m #[(.ref oa)] 1)) t := fun t k => pre10 _ (by
    show Steps p.tables e below (T9.setTop (mkF m 17 #[.val (.ref oa)] [(.int (0 : Int32))])) _
    refine XS.ifNo X9.here hx rfl (hb hby own_d_prog_63_method_3_17) rfl (XT.i0_ne_f (by decide)) ?_
    show Steps p.tables e below (T9.setTop (mkF m 20 #[.val (.ref oa)] [])) _
    refine XT.iconstV X9.here hx rfl (1 : Int32) (hb hby own_d_prog_63_method_3_20) rfl ?_
    show Steps p.tables e below (T9.setTop (mkF m 21 #[.val (.ref oa)] [(.int (1 : Int32))])) _
    refine XS.goto X9.here hx rfl (pc0 := 21) (pc' := 25) rfl (hb hby own_d_prog_63_method_3_21) (by decide) (by decide) ?_
    exact k)
  obtain ⟨fs, hr, hrun, hended, hW, hsame⟩ := X9.leave (v := some (.int (1 : Int32))) (fun h => by rw [Bd.returns] at h; cases h)
  refine ⟨_, _, pre11 _ ?_, hrun, hended, _, _, rfl, ?_, ⟨_, rfl⟩, hW, hsame.mono (by decide) (by decide)⟩
  · show Steps p.tables e below (T9.setTop (mkF m 25 #[.val (.ref oa)] [(.int (1 : Int32))])) _
    exact retN X9 hx (t := .boolean) Bd.returns (by simp) (hb hby own_d_prog_63_method_3_25) hr
  · show Q_own_chk10 Z oa oi op ob h0 n0 _ T9.heap _
    rw [e9]
    exact ⟨rfl, N9, rfl⟩
theorem own_ef_own_chk11 (m : MethodId) (oa : Addr) : entryFrame m #[(.ref oa)] 1 = mkF m 0 #[.val (.ref oa)] [] := by first | (simp [entryFrame, mkF, argsToLocals, Value.category]; done) | rfl
def Q_own_chk11 (Z : State) (oa : Addr) (oi : Addr) (op : Addr) (ob : Addr) (h0 : Heap) (n0 : Nat) (v : Option Value) (h : Heap) (L : List Loc) : Prop := v = some (.int (0 : Int32)) ∧ Fr n0 L ∧ h = h0
set_option maxRecDepth 65536 in
set_option maxHeartbeats 40000000 in
theorem own_chk11 (l : Launch) (Z : State) (a0 : Array Value) (hw : ∀ d ∈ tables_1, d.before a0 Z = true) (ws : List Jvm.Cond) (oa : Addr) (oi : Addr) (op : Addr) (ob : Addr) (h0 : Heap) (n0 : Nat) (Z0 : n0 ≤ h0.size) (F1 : Fld Z h0 oa "com/example/freshline/freshline/server/TransactionOptions" "isolation" "Lcom/example/freshline/freshline/model/Isolation;" (.ref oi)) (F2 : Fld Z h0 oa "com/example/freshline/freshline/server/TransactionOptions" "drift" "Ljava/util/Optional;" (.ref op)) (E2 : Exa Z h0 op "java/util/Optional") (FV : Fld Z h0 op "java/util/Optional" "value" "Ljava/lang/Object;" (.ref ob)) (E1 : Exa Z h0 oi "com/example/freshline/freshline/model/Isolation") (FL : Fld Z h0 oi "com/example/freshline/freshline/model/Isolation" "locks" "Z" (.int (1 : Int32))) :
    MetFree l (⟨"com/example/freshline/freshline/server/TransactionOptions", "checksDrift", "()Z"⟩ : MethodName) (head1 (Jvm.Cond.code (⟨"com/example/freshline/freshline/server/TransactionOptions", "checksDrift", "()Z"⟩ : MethodName) prog_63_method_3_code 1 (some .boolean) :: ws) ({ frames := 1, cells := 0, slots := 0, locals := 14 } : Room)) (fun a U => a = #[(.ref oa)] ∧ Z.Warmed39 U.vm ∧ U.heap = h0) (fun _ _ _ _ _ => True) (fun _ U o U' => ∃ v L, o = .returned v ∧ Q_own_chk11 Z oa oi op ob h0 n0 v U'.heap L ∧ FrameEnd U o U' L ({ frames := 1, cells := 0, slots := 0, locals := 14 } : Room).cells ({ frames := 1, cells := 0, slots := 0, locals := 14 } : Room).slots) := by
  refine MetFree.of_bodySF (plainFor_of_name own_pn_com_example_freshline_freshline_server_TransactionOptions) hisR ?_
  intro p e s m args below meth c s₁ Bd hml0 hP hK
  obtain ⟨rfl, hZ, hh⟩ := hP
  have hx := Bd.exec
  have hby := Bd.bytes
  have hml : c.maxLocals = 1 := hml0
  have hown : s.vm.findClass "com/example/freshline/freshline/server/TransactionOptions" = some m.cls := findClass_of_methodNamed Bd.named
  have hnm := (name_of_methodNamed Bd.named Bd.method).1
  have X0 : Stand p l e ({ frames := 1, cells := 0, slots := 0, locals := 14 } : Room) s m #[(.ref oa)] below meth c s₁ [] 0 0 := Stand.of_body Bd
  have e0 : s₁.heap = h0 := by rw [← hh, Bd.state]; rfl
  have N0 := Fr.nil n0
  have pre0 : ∀ t, Steps p.tables e below (s₁.setTop (mkF m 0 #[.val (.ref oa)] [])) t → Steps p.tables e below (s₁.setTop (entryFrame m #[(.ref oa)] 1)) t := fun t k => castTop (own_ef_own_chk11 m oa) k
  have pre1 : ∀ t, Steps p.tables e below (s₁.setTop (mkF m 1 #[.val (.ref oa)] [(.ref oa)])) t → Steps p.tables e below (s₁.setTop (entryFrame m #[(.ref oa)] 1)) t := fun t k => pre0 _ (by
    show Steps p.tables e below (s₁.setTop (mkF m 0 #[.val (.ref oa)] [])) _
    refine XS.aloadN X0.here hx rfl (hb hby own_d_prog_63_method_3_0) rfl rfl ?_
    exact k)
  obtain ⟨T2, X2, e2, st2⟩ := getF X0 hx hZ hown (host := "") (Or.inl (hw _ (List.mem_of_getElem? (i := 69) rfl))) Via.refl e0 F2 (g := (mkF m 1 #[.val (.ref oa)] [(.ref oa)])) rfl rfl (hb hby own_d_prog_63_method_3_1)
  have pre3 : ∀ t, Steps p.tables e below (T2.setTop (mkF m 4 #[.val (.ref oa)] [(.ref op)])) t → Steps p.tables e below (s₁.setTop (entryFrame m #[(.ref oa)] 1)) t := fun t k => pre1 _ (st2 _ k)
  obtain ⟨cq4, kq4, q4a, q4b, q4c⟩ := isOf hZ e2 E2
  obtain ⟨_, _, ⟨T4, L4, k4, n4⟩, -, X4, ⟨Lc4, hQ4, l4, y4, z4⟩, st4⟩ := X2.virtualBack hx (y := (⟨"java/util/Optional", "isPresent", "()Z"⟩ : MethodName)) (z := (⟨"java/util/Optional", "isPresent", "()Z"⟩ : MethodName)) hown (mvT hZ (hw _ (List.mem_of_getElem? (i := 76) rfl))) (mvT hZ (hw _ (List.mem_of_getElem? (i := 77) rfl))) (notFace_of_selects (args := #[]) (mvT hZ (hw _ (List.mem_of_getElem? (i := 79) rfl)))) (mvT hZ (hw _ (List.mem_of_getElem? (i := 79) rfl))) (mvT hZ (hw _ (List.mem_of_getElem? (i := 78) rfl))) (by decide) (backOf (W := 0) (own_pres1 l Z a0 hw [] op ob h0 n0 Z0 FV) hZ (hw _ (List.mem_of_getElem? (i := 80) rfl)) (hw _ (List.mem_of_getElem? (i := 28) rfl)) (by decide) (by decide)) q4a q4c (g := (mkF m 4 #[.val (.ref oa)] [(.ref op)])) rfl (by rw [hml]; rfl) (Steps.refl _) (argsL := []) (rest := []) (lenOf own_pd___Z rfl) rfl (by show 2 * 0 + _ ≤ _; exact Nat.le_of_eq rfl) (hb hby own_d_prog_63_method_3_4) (fun _ _ => ⟨rfl, e2, (by decide : 0 + 0 ≤ _), (by decide : 0 + 0 ≤ _)⟩)
  dsimp only [Pt.U, Pt.locs, Pt.cells, Pt.slots] at X4 l4 y4 z4 st4 hQ4
  subst l4 y4 z4
  obtain ⟨rfl, N4q, e4⟩ := hQ4
  have N4 := Fr.app N0 N4q
  have pre5 : ∀ t, Steps p.tables e below (T4.setTop (mkF m 7 #[.val (.ref oa)] [(.int (1 : Int32))])) t → Steps p.tables e below (s₁.setTop (entryFrame m #[(.ref oa)] 1)) t := fun t k => pre3 _ (st4.trans k)
  have pre6 : ∀ t, Steps p.tables e below (T4.setTop (mkF m 11 #[.val (.ref oa)] [(.ref oa)])) t → Steps p.tables e below (s₁.setTop (entryFrame m #[(.ref oa)] 1)) t := fun t k => pre5 _ (by
    show Steps p.tables e below (T4.setTop (mkF m 7 #[.val (.ref oa)] [(.int (1 : Int32))])) _
    refine XS.ifNo X4.here hx rfl (hb hby own_d_prog_63_method_3_7) rfl (XT.i0_eq_f (by decide)) ?_
    show Steps p.tables e below (T4.setTop (mkF m 10 #[.val (.ref oa)] [])) _
    refine XS.aloadN X4.here hx rfl (hb hby own_d_prog_63_method_3_10) rfl rfl ?_
    exact k)
  obtain ⟨T7, X7, e7, st7⟩ := getF X4 hx hZ hown (host := "") (Or.inl (hw _ (List.mem_of_getElem? (i := 67) rfl))) Via.refl e4 F1 (g := (mkF m 11 #[.val (.ref oa)] [(.ref oa)])) rfl rfl (hb hby own_d_prog_63_method_3_11)
  have pre8 : ∀ t, Steps p.tables e below (T7.setTop (mkF m 14 #[.val (.ref oa)] [(.ref oi)])) t → Steps p.tables e below (s₁.setTop (entryFrame m #[(.ref oa)] 1)) t := fun t k => pre6 _ (st7 _ k)
  obtain ⟨cq9, kq9, q9a, q9b, q9c⟩ := isOf hZ e7 E1
  obtain ⟨_, _, ⟨T9, L9, k9, n9⟩, -, X9, ⟨Lc9, hQ9, l9, y9, z9⟩, st9⟩ := X7.virtualBack hx (y := (⟨"com/example/freshline/freshline/model/Isolation", "locks", "()Z"⟩ : MethodName)) (z := (⟨"com/example/freshline/freshline/model/Isolation", "locks", "()Z"⟩ : MethodName)) hown (mvT hZ (hw _ (List.mem_of_getElem? (i := 81) rfl))) (mvT hZ (hw _ (List.mem_of_getElem? (i := 82) rfl))) (notFace_of_selects (args := #[]) (mvT hZ (hw _ (List.mem_of_getElem? (i := 84) rfl)))) (mvT hZ (hw _ (List.mem_of_getElem? (i := 84) rfl))) (mvT hZ (hw _ (List.mem_of_getElem? (i := 83) rfl))) (by decide) (backOf (W := 0) (own_locks1 l Z a0 hw [] oi h0 n0 Z0 FL) hZ (hw _ (List.mem_of_getElem? (i := 85) rfl)) (hw _ (List.mem_of_getElem? (i := 2) rfl)) (by decide) (by decide)) q9a q9c (g := (mkF m 14 #[.val (.ref oa)] [(.ref oi)])) rfl (by rw [hml]; rfl) (Steps.refl _) (argsL := []) (rest := []) (lenOf own_pd___Z rfl) rfl (by show 2 * 0 + _ ≤ _; exact Nat.le_of_eq rfl) (hb hby own_d_prog_63_method_3_14) (fun _ _ => ⟨rfl, e7, (by decide : 0 + 0 ≤ _), (by decide : 0 + 0 ≤ _)⟩)
  dsimp only [Pt.U, Pt.locs, Pt.cells, Pt.slots] at X9 l9 y9 z9 st9 hQ9
  subst l9 y9 z9
  obtain ⟨rfl, N9q, e9⟩ := hQ9
  have N9 := Fr.app N4 N9q
  have pre10 : ∀ t, Steps p.tables e below (T9.setTop (mkF m 17 #[.val (.ref oa)] [(.int (1 : Int32))])) t → Steps p.tables e below (s₁.setTop (entryFrame m #[(.ref oa)] 1)) t := fun t k => pre8 _ (st9.trans k)
  have pre11 : ∀ t, Steps p.tables e below (T9.setTop (mkF m 25 #[.val (.ref oa)] [(.int (0 : Int32))])) t → Steps p.tables e below (s₁.setTop (entryFrame m #[(.ref oa)] 1)) t := fun t k => pre10 _ (by
    show Steps p.tables e below (T9.setTop (mkF m 17 #[.val (.ref oa)] [(.int (1 : Int32))])) _
    refine XS.ifYes X9.here hx rfl (pc0 := 17) (pc' := 24) rfl (hb hby own_d_prog_63_method_3_17) rfl (XT.i0_ne_t (by decide)) (by decide) (by decide) ?_
    show Steps p.tables e below (T9.setTop (mkF m 24 #[.val (.ref oa)] [])) _
    refine XT.iconstV X9.here hx rfl (0 : Int32) (hb hby own_d_prog_63_method_3_24) rfl ?_
    exact k)
  obtain ⟨fs, hr, hrun, hended, hW, hsame⟩ := X9.leave (v := some (.int (0 : Int32))) (fun h => by rw [Bd.returns] at h; cases h)
  refine ⟨_, _, pre11 _ ?_, hrun, hended, _, _, rfl, ?_, ⟨_, rfl⟩, hW, hsame.mono (by decide) (by decide)⟩
  · show Steps p.tables e below (T9.setTop (mkF m 25 #[.val (.ref oa)] [(.int (0 : Int32))])) _
    exact retN X9 hx (t := .boolean) Bd.returns (by simp) (hb hby own_d_prog_63_method_3_25) hr
  · show Q_own_chk11 Z oa oi op ob h0 n0 _ T9.heap _
    rw [e9]
    exact ⟨rfl, N9, rfl⟩
theorem own_ef_own_law (m : MethodId) (p0 : Int32) (p1 : Int32) (p2 : Int64) : entryFrame m #[(.int p0), (.int p1), (.long p2)] maxLocals = mkF m 0 #[.val (.int p0), .val (.int p1), .val (.long p2), .second, .unset, .unset, .unset, .unset, .unset, .unset] [] := by first | (simp [entryFrame, mkF, argsToLocals, Value.category, maxLocals]; done) | rfl
def Q_own_law (Z : State) (p0 : Int32) (p1 : Int32) (p2 : Int64) (o0 : Addr) (o1 : Addr) (o2 : Addr) (em : Addr) (zr : Addr) (h0 : Heap) (n0 : Nat) (v : Option Value) (h : Heap) (L : List Loc) : Prop := v = some (.int 1) ∧ Fr n0 L
theorem own_pn_com_example_freshline_freshline_server_TransactionOptionsChecksDriftPinLaw : plainName "com/example/freshline/freshline/server/TransactionOptionsChecksDriftPinLaw" = true := by first | (simp [plainName, overriddenIn]; done) | decide +kernel
theorem own_pd___Ljava_util_Optional_ : parseMethodDescriptor "()Ljava/util/Optional;" = some ⟨[], some (.object "java/util/Optional")⟩ := by decide +kernel
theorem own_pd__Lcom_example_freshline_freshline_model_Isolation_Ljava_util_Optional__V : parseMethodDescriptor "(Lcom/example/freshline/freshline/model/Isolation;Ljava/util/Optional;)V" = some ⟨[(.object "com/example/freshline/freshline/model/Isolation"), (.object "java/util/Optional")], none⟩ := by decide +kernel
theorem own_pd__J_Ljava_time_Duration_ : parseMethodDescriptor "(J)Ljava/time/Duration;" = some ⟨[.long], some (.object "java/time/Duration")⟩ := by decide +kernel
theorem own_pd__Ljava_lang_Object__Ljava_util_Optional_ : parseMethodDescriptor "(Ljava/lang/Object;)Ljava/util/Optional;" = some ⟨[(.object "java/lang/Object")], some (.object "java/util/Optional")⟩ := by decide +kernel
set_option maxRecDepth 65536 in
set_option maxHeartbeats 40000000 in
theorem own_law (l : Launch) (Z : State) (a0 : Array Value) (hw : ∀ d ∈ tables_1, d.before a0 Z = true) (ws : List Jvm.Cond) (p0 : Int32) (p1 : Int32) (p2 : Int64) (o0 : Addr) (o1 : Addr) (o2 : Addr) (em : Addr) (zr : Addr) (h0 : Heap) (n0 : Nat) (Z0 : n0 ≤ h0.size) (S0 : Sta Z h0 "com/example/freshline/freshline/model/Isolation" "SERIALIZABLE" "Lcom/example/freshline/freshline/model/Isolation;" (.ref o0)) (E0 : Exa Z h0 o0 "com/example/freshline/freshline/model/Isolation") (F0 : Fld Z h0 o0 "com/example/freshline/freshline/model/Isolation" "locks" "Z" (.int (0 : Int32))) (S1 : Sta Z h0 "com/example/freshline/freshline/model/Isolation" "READ_COMMITTED" "Lcom/example/freshline/freshline/model/Isolation;" (.ref o1)) (E1 : Exa Z h0 o1 "com/example/freshline/freshline/model/Isolation") (F1 : Fld Z h0 o1 "com/example/freshline/freshline/model/Isolation" "locks" "Z" (.int (0 : Int32))) (S2 : Sta Z h0 "com/example/freshline/freshline/model/Isolation" "LOCKING" "Lcom/example/freshline/freshline/model/Isolation;" (.ref o2)) (E2 : Exa Z h0 o2 "com/example/freshline/freshline/model/Isolation") (F2 : Fld Z h0 o2 "com/example/freshline/freshline/model/Isolation" "locks" "Z" (.int (1 : Int32))) (SE : Sta Z h0 "java/util/Optional" "EMPTY" "Ljava/util/Optional;" (.ref em)) (EE : Exa Z h0 em "java/util/Optional") (FE : Fld Z h0 em "java/util/Optional" "value" "Ljava/lang/Object;" .null) (SZ : Sta Z h0 "java/time/Duration" "ZERO" "Ljava/time/Duration;" (.ref zr)) :
    MetFree l x (head1 (Jvm.Cond.code x code maxLocals ret :: ws) room_1) (fun a U => a = #[(.int p0), (.int p1), (.long p2)] ∧ Z.Warmed39 U.vm ∧ U.heap = h0) (fun _ _ _ _ _ => True) (fun _ U o U' => ∃ v L, o = .returned v ∧ Q_own_law Z p0 p1 p2 o0 o1 o2 em zr h0 n0 v U'.heap L ∧ ReturnedEndW U o U' L room_1.cells room_1.slots) := by
  refine MetFree.of_bodySF (plainFor_of_name own_pn_com_example_freshline_freshline_server_TransactionOptionsChecksDriftPinLaw) hisR ?_
  intro p e s m args below meth c s₁ Bd hml0 hP hK
  obtain ⟨rfl, hZ, hh⟩ := hP
  have hx := Bd.exec
  have hby := Bd.bytes
  have hml : c.maxLocals = 10 := hml0
  have hown : s.vm.findClass "com/example/freshline/freshline/server/TransactionOptionsChecksDriftPinLaw" = some m.cls := findClass_of_methodNamed Bd.named
  have hnm := (name_of_methodNamed Bd.named Bd.method).1
  have X0 : Stand p l e room_1 s m #[(.int p0), (.int p1), (.long p2)] below meth c s₁ [] 0 0 := Stand.of_body Bd
  have e0 : s₁.heap = h0 := by rw [← hh, Bd.state]; rfl
  have N0 := Fr.nil n0
  have pre0 : ∀ t, Steps p.tables e below (s₁.setTop (mkF m 0 #[.val (.int p0), .val (.int p1), .val (.long p2), .second, .unset, .unset, .unset, .unset, .unset, .unset] [])) t → Steps p.tables e below (s₁.setTop (entryFrame m #[(.int p0), (.int p1), (.long p2)] maxLocals)) t := fun t k => castTop (own_ef_own_law m p0 p1 p2) k
  have Sn0 : s.Since s.vm h0.size := own_since s h0.size
  have pre1 : ∀ t, Steps p.tables e below (s₁.setTop (mkF m 10 #[.val (.int p0), .val (.int p1), .val (.long p2), .second, .val (.int ((p0 &&& (2147483647 : Int32)) % (3 : Int32))), .unset, .unset, .unset, .unset, .unset] [(.int ((p0 &&& (2147483647 : Int32)) % (3 : Int32)))])) t → Steps p.tables e below (s₁.setTop (entryFrame m #[(.int p0), (.int p1), (.long p2)] maxLocals)) t := fun t k => pre0 _ (by
    show Steps p.tables e below (s₁.setTop (mkF m 0 #[.val (.int p0), .val (.int p1), .val (.long p2), .second, .unset, .unset, .unset, .unset, .unset, .unset] [])) _
    refine XS.iloadN X0.here hx rfl (hb hby at_0) rfl ?_
    show Steps p.tables e below (s₁.setTop (mkF m 1 #[.val (.int p0), .val (.int p1), .val (.long p2), .second, .unset, .unset, .unset, .unset, .unset, .unset] [(.int p0)])) _
    refine X0.ldcI hx hown (mvT hZ (hw _ (List.mem_of_getElem? (i := 0) rfl))) rfl (hb hby at_1) ?_
    show Steps p.tables e below (s₁.setTop (mkF m 3 #[.val (.int p0), .val (.int p1), .val (.long p2), .second, .unset, .unset, .unset, .unset, .unset, .unset] [(.int (2147483647 : Int32)), (.int p0)])) _
    refine XS.iand X0.here hx rfl (hb hby at_3) rfl ?_
    show Steps p.tables e below (s₁.setTop (mkF m 4 #[.val (.int p0), .val (.int p1), .val (.long p2), .second, .unset, .unset, .unset, .unset, .unset, .unset] [(.int (p0 &&& (2147483647 : Int32)))])) _
    refine XT.iconstV X0.here hx rfl (3 : Int32) (hb hby at_4) rfl ?_
    show Steps p.tables e below (s₁.setTop (mkF m 5 #[.val (.int p0), .val (.int p1), .val (.long p2), .second, .unset, .unset, .unset, .unset, .unset, .unset] [(.int (3 : Int32)), (.int (p0 &&& (2147483647 : Int32)))])) _
    refine iremM X0 hx rfl (hb hby at_5) rfl (by decide) ?_
    show Steps p.tables e below (s₁.setTop (mkF m 6 #[.val (.int p0), .val (.int p1), .val (.long p2), .second, .unset, .unset, .unset, .unset, .unset, .unset] [(.int ((p0 &&& (2147483647 : Int32)) % (3 : Int32)))])) _
    refine XS.istore X0.here hx rfl (hb hby at_6) rfl (l' := #[.val (.int p0), .val (.int p1), .val (.long p2), .second, .val (.int ((p0 &&& (2147483647 : Int32)) % (3 : Int32))), .unset, .unset, .unset, .unset, .unset]) rfl ?_
    show Steps p.tables e below (s₁.setTop (mkF m 8 #[.val (.int p0), .val (.int p1), .val (.long p2), .second, .val (.int ((p0 &&& (2147483647 : Int32)) % (3 : Int32))), .unset, .unset, .unset, .unset, .unset] [])) _
    refine XS.iload X0.here hx rfl (hb hby at_8) rfl ?_
    exact k)
  obtain ⟨q4, hq4⟩ : ∃ z : Int32, z = ((p0 &&& (2147483647 : Int32)) % (3 : Int32)) := ⟨_, rfl⟩
  have pre2 : ∀ t, Steps p.tables e below (s₁.setTop (mkF m 10 #[.val (.int p0), .val (.int p1), .val (.long p2), .second, .val (.int q4), .unset, .unset, .unset, .unset, .unset] [(.int q4)])) t → Steps p.tables e below (s₁.setTop (entryFrame m #[(.int p0), (.int p1), (.long p2)] maxLocals)) t := fun t k => pre1 _ (by rw [hq4] at k; exact k)
  by_cases c10 : q4 = 0
  · have pre3 : ∀ t, Steps p.tables e below (s₁.setTop (mkF m 13 #[.val (.int p0), .val (.int p1), .val (.long p2), .second, .val (.int q4), .unset, .unset, .unset, .unset, .unset] [])) t → Steps p.tables e below (s₁.setTop (entryFrame m #[(.int p0), (.int p1), (.long p2)] maxLocals)) t := fun t k => pre2 _ (by
      show Steps p.tables e below (s₁.setTop (mkF m 10 #[.val (.int p0), .val (.int p1), .val (.long p2), .second, .val (.int q4), .unset, .unset, .unset, .unset, .unset] [(.int q4)])) _
      refine XS.ifNo X0.here hx rfl (hb hby at_10) rfl (XT.i0_ne_f c10) ?_
      exact k)
    obtain ⟨T4, X4, e4, st4⟩ := getS X0 hx hZ hown (host := "") (hw _ (List.mem_of_getElem? (i := 1) rfl)) Via.refl e0 S0 (g := (mkF m 13 #[.val (.int p0), .val (.int p1), .val (.long p2), .second, .val (.int q4), .unset, .unset, .unset, .unset, .unset] [])) rfl (hb hby at_13)
    have pre5 : ∀ t, Steps p.tables e below (T4.setTop (mkF m 16 #[.val (.int p0), .val (.int p1), .val (.long p2), .second, .val (.int q4), .unset, .unset, .unset, .unset, .unset] [(.ref o0)])) t → Steps p.tables e below (s₁.setTop (entryFrame m #[(.int p0), (.int p1), (.long p2)] maxLocals)) t := fun t k => pre3 _ (st4 _ k)
    have pre6 : ∀ t, Steps p.tables e below (T4.setTop (mkF m 43 #[.val (.int p0), .val (.int p1), .val (.long p2), .second, .val (.int q4), .val (.ref o0), .unset, .unset, .unset, .unset] [(.int (p1 &&& (1 : Int32)))])) t → Steps p.tables e below (s₁.setTop (entryFrame m #[(.int p0), (.int p1), (.long p2)] maxLocals)) t := fun t k => pre5 _ (by
      show Steps p.tables e below (T4.setTop (mkF m 16 #[.val (.int p0), .val (.int p1), .val (.long p2), .second, .val (.int q4), .unset, .unset, .unset, .unset, .unset] [(.ref o0)])) _
      refine XS.astore X4.here hx rfl (hb hby at_16) rfl rfl (l' := #[.val (.int p0), .val (.int p1), .val (.long p2), .second, .val (.int q4), .val (.ref o0), .unset, .unset, .unset, .unset]) rfl ?_
      show Steps p.tables e below (T4.setTop (mkF m 18 #[.val (.int p0), .val (.int p1), .val (.long p2), .second, .val (.int q4), .val (.ref o0), .unset, .unset, .unset, .unset] [])) _
      refine XS.goto X4.here hx rfl (pc0 := 18) (pc' := 40) rfl (hb hby at_18) (by decide) (by decide) ?_
      show Steps p.tables e below (T4.setTop (mkF m 40 #[.val (.int p0), .val (.int p1), .val (.long p2), .second, .val (.int q4), .val (.ref o0), .unset, .unset, .unset, .unset] [])) _
      refine XS.iloadN X4.here hx rfl (hb hby at_40) rfl ?_
      show Steps p.tables e below (T4.setTop (mkF m 41 #[.val (.int p0), .val (.int p1), .val (.long p2), .second, .val (.int q4), .val (.ref o0), .unset, .unset, .unset, .unset] [(.int p1)])) _
      refine XT.iconstV X4.here hx rfl (1 : Int32) (hb hby at_41) rfl ?_
      show Steps p.tables e below (T4.setTop (mkF m 42 #[.val (.int p0), .val (.int p1), .val (.long p2), .second, .val (.int q4), .val (.ref o0), .unset, .unset, .unset, .unset] [(.int (1 : Int32)), (.int p1)])) _
      refine XS.iand X4.here hx rfl (hb hby at_42) rfl ?_
      exact k)
    by_cases c43 : (p1 &&& (1 : Int32)) = 0
    · have pre7 : ∀ t, Steps p.tables e below (T4.setTop (mkF m 74 #[.val (.int p0), .val (.int p1), .val (.long p2), .second, .val (.int q4), .val (.ref o0), .val (.int (0 : Int32)), .unset, .unset, .unset] [])) t → Steps p.tables e below (s₁.setTop (entryFrame m #[(.int p0), (.int p1), (.long p2)] maxLocals)) t := fun t k => pre6 _ (by
        show Steps p.tables e below (T4.setTop (mkF m 43 #[.val (.int p0), .val (.int p1), .val (.long p2), .second, .val (.int q4), .val (.ref o0), .unset, .unset, .unset, .unset] [(.int (p1 &&& (1 : Int32)))])) _
        refine XS.ifYes X4.here hx rfl (pc0 := 43) (pc' := 50) rfl (hb hby at_43) rfl (XT.i0_eq_t c43) (by decide) (by decide) ?_
        show Steps p.tables e below (T4.setTop (mkF m 50 #[.val (.int p0), .val (.int p1), .val (.long p2), .second, .val (.int q4), .val (.ref o0), .unset, .unset, .unset, .unset] [])) _
        refine XT.iconstV X4.here hx rfl (0 : Int32) (hb hby at_50) rfl ?_
        show Steps p.tables e below (T4.setTop (mkF m 51 #[.val (.int p0), .val (.int p1), .val (.long p2), .second, .val (.int q4), .val (.ref o0), .unset, .unset, .unset, .unset] [(.int (0 : Int32))])) _
        refine XS.istore X4.here hx rfl (hb hby at_51) rfl (l' := #[.val (.int p0), .val (.int p1), .val (.long p2), .second, .val (.int q4), .val (.ref o0), .val (.int (0 : Int32)), .unset, .unset, .unset]) rfl ?_
        show Steps p.tables e below (T4.setTop (mkF m 53 #[.val (.int p0), .val (.int p1), .val (.long p2), .second, .val (.int q4), .val (.ref o0), .val (.int (0 : Int32)), .unset, .unset, .unset] [])) _
        refine XS.iload X4.here hx rfl (hb hby at_53) rfl ?_
        show Steps p.tables e below (T4.setTop (mkF m 55 #[.val (.int p0), .val (.int p1), .val (.long p2), .second, .val (.int q4), .val (.ref o0), .val (.int (0 : Int32)), .unset, .unset, .unset] [(.int (0 : Int32))])) _
        refine XS.ifYes X4.here hx rfl (pc0 := 55) (pc' := 74) rfl (hb hby at_55) rfl (XT.i0_eq_t (by decide)) (by decide) (by decide) ?_
        exact k)
      obtain ⟨_, _, ⟨T8, L8, k8, n8⟩, -, X8, ⟨Lc8, hQ8, l8, y8, z8⟩, st8⟩ := Jvm.LawKit.callS X4 hx (y := (⟨"java/util/Optional", "empty", "()Ljava/util/Optional;"⟩ : MethodName)) hown (mvT hZ (hw _ (List.mem_of_getElem? (i := 90) rfl))) (mvT hZ (hw _ (List.mem_of_getElem? (i := 91) rfl))) (mvT hZ (hw _ (List.mem_of_getElem? (i := 28) rfl))) (mvT hZ (hw _ (List.mem_of_getElem? (i := 92) rfl))) (by decide) (backOf (W := 0) (own_empty l Z a0 hw [] em h0 n0 Z0 SE) hZ (hw _ (List.mem_of_getElem? (i := 92) rfl)) (hw _ (List.mem_of_getElem? (i := 28) rfl)) (by decide) (by decide)) (g := (mkF m 74 #[.val (.int p0), .val (.int p1), .val (.long p2), .second, .val (.int q4), .val (.ref o0), .val (.int (0 : Int32)), .unset, .unset, .unset] [])) rfl (by rw [hml]; rfl) (argsL := []) (rest := []) (lenOf own_pd___Ljava_util_Optional_ rfl) rfl (by show 2 * 0 + _ ≤ _; exact Nat.le_of_eq rfl) (hb hby at_74) (fun _ _ => ⟨rfl, e4, (by decide : 0 + 0 ≤ _), (by decide : 0 + 0 ≤ _)⟩)
      dsimp only [Pt.U, Pt.locs, Pt.cells, Pt.slots] at X8 l8 y8 z8 st8 hQ8
      subst l8 y8 z8
      obtain ⟨rfl, N8q, e8⟩ := hQ8
      have N8 := Fr.app N0 N8q
      have pre9 : ∀ t, Steps p.tables e below (T8.setTop (mkF m 77 #[.val (.int p0), .val (.int p1), .val (.long p2), .second, .val (.int q4), .val (.ref o0), .val (.int (0 : Int32)), .unset, .unset, .unset] [(.ref em)])) t → Steps p.tables e below (s₁.setTop (entryFrame m #[(.int p0), (.int p1), (.long p2)] maxLocals)) t := fun t k => pre7 _ (st8 _ k)
      have pre10 : ∀ t, Steps p.tables e below (T8.setTop (mkF m 79 #[.val (.int p0), .val (.int p1), .val (.long p2), .second, .val (.int q4), .val (.ref o0), .val (.int (0 : Int32)), .val (.ref em), .unset, .unset] [])) t → Steps p.tables e below (s₁.setTop (entryFrame m #[(.int p0), (.int p1), (.long p2)] maxLocals)) t := fun t k => pre9 _ (by
        show Steps p.tables e below (T8.setTop (mkF m 77 #[.val (.int p0), .val (.int p1), .val (.long p2), .second, .val (.int q4), .val (.ref o0), .val (.int (0 : Int32)), .unset, .unset, .unset] [(.ref em)])) _
        refine XS.astore X8.here hx rfl (hb hby at_77) rfl rfl (l' := #[.val (.int p0), .val (.int p1), .val (.long p2), .second, .val (.int q4), .val (.ref o0), .val (.int (0 : Int32)), .val (.ref em), .unset, .unset]) rfl ?_
        exact k)
      obtain ⟨T11, h11, X11, e11, E11, A11, D11, -, st11⟩ := newO X8 hx hZ hown (hw _ (List.mem_of_getElem? (i := 43) rfl)) (hw _ (List.mem_of_getElem? (i := 44) rfl)) (hw _ (List.mem_of_getElem? (i := 45) rfl)) e8 (g := (mkF m 79 #[.val (.int p0), .val (.int p1), .val (.long p2), .second, .val (.int q4), .val (.ref o0), .val (.int (0 : Int32)), .val (.ref em), .unset, .unset] [])) rfl (hb hby at_79) (by decide) (by decide)
      obtain ⟨a11, ga11⟩ : ∃ z, z = h0.size := ⟨_, rfl⟩
      rw [← ga11] at A11 D11 st11
      have lt_o0_a11 : o0 < a11 := Nat.lt_of_lt_of_eq E0.lt ga11.symm
      have ne_o0_a11 : o0 ≠ a11 := Nat.ne_of_lt lt_o0_a11
      have lt_em_a11 : em < a11 := Nat.lt_of_lt_of_eq EE.lt ga11.symm
      have ne_em_a11 : em ≠ a11 := Nat.ne_of_lt lt_em_a11
      have ge_a11 : n0 ≤ a11 := Nat.le_trans Z0 (Nat.le_of_eq ga11.symm)
      have F11_isolation : Fld Z h11 a11 "com/example/freshline/freshline/server/TransactionOptions" "isolation" "Lcom/example/freshline/freshline/model/Isolation;" .null := D11 (Or.inr (hw _ (List.mem_of_getElem? (i := 68) rfl))) (ty := (.object "com/example/freshline/freshline/model/Isolation")) (by decide)
      have F11_drift : Fld Z h11 a11 "com/example/freshline/freshline/server/TransactionOptions" "drift" "Ljava/util/Optional;" .null := D11 (Or.inr (hw _ (List.mem_of_getElem? (i := 70) rfl))) (ty := (.object "java/util/Optional")) (by decide)
      have Z11 : n0 ≤ h11.size := Nat.le_trans Z0 E11.1
      have pre12 : ∀ t, Steps p.tables e below (T11.setTop (mkF m 82 #[.val (.int p0), .val (.int p1), .val (.long p2), .second, .val (.int q4), .val (.ref o0), .val (.int (0 : Int32)), .val (.ref em), .unset, .unset] [(.ref a11)])) t → Steps p.tables e below (s₁.setTop (entryFrame m #[(.int p0), (.int p1), (.long p2)] maxLocals)) t := fun t k => pre10 _ (st11 _ k)
      have pre13 : ∀ t, Steps p.tables e below (T11.setTop (mkF m 87 #[.val (.int p0), .val (.int p1), .val (.long p2), .second, .val (.int q4), .val (.ref o0), .val (.int (0 : Int32)), .val (.ref em), .unset, .unset] [(.ref em), (.ref o0), (.ref a11), (.ref a11)])) t → Steps p.tables e below (s₁.setTop (entryFrame m #[(.int p0), (.int p1), (.long p2)] maxLocals)) t := fun t k => pre12 _ (by
        show Steps p.tables e below (T11.setTop (mkF m 82 #[.val (.int p0), .val (.int p1), .val (.long p2), .second, .val (.int q4), .val (.ref o0), .val (.int (0 : Int32)), .val (.ref em), .unset, .unset] [(.ref a11)])) _
        refine XS.dup X11.here hx rfl (hb hby at_82) rfl rfl ?_
        show Steps p.tables e below (T11.setTop (mkF m 83 #[.val (.int p0), .val (.int p1), .val (.long p2), .second, .val (.int q4), .val (.ref o0), .val (.int (0 : Int32)), .val (.ref em), .unset, .unset] [(.ref a11), (.ref a11)])) _
        refine XS.aload X11.here hx rfl (hb hby at_83) rfl rfl ?_
        show Steps p.tables e below (T11.setTop (mkF m 85 #[.val (.int p0), .val (.int p1), .val (.long p2), .second, .val (.int q4), .val (.ref o0), .val (.int (0 : Int32)), .val (.ref em), .unset, .unset] [(.ref o0), (.ref a11), (.ref a11)])) _
        refine XS.aload X11.here hx rfl (hb hby at_85) rfl rfl ?_
        exact k)
      obtain ⟨_, _, ⟨T14, L14, k14, n14⟩, -, X14, Sn14, Sg14, ⟨Lc14, hQ14, l14, y14, z14⟩, st14⟩ := X11.specialBackS hx (y := (⟨"com/example/freshline/freshline/server/TransactionOptions", "<init>", "(Lcom/example/freshline/freshline/model/Isolation;Ljava/util/Optional;)V"⟩ : MethodName)) rfl hown (mvT hZ (hw _ (List.mem_of_getElem? (i := 46) rfl))) (mvT hZ (hw _ (List.mem_of_getElem? (i := 47) rfl))) (mvT hZ (hw _ (List.mem_of_getElem? (i := 48) rfl))) (by decide) (backOfS (W := 1) (own_toI l Z a0 hw [] a11 o0 em h11 n0 Z11 F11_isolation F11_drift A11 ge_a11) hZ (hw _ (List.mem_of_getElem? (i := 48) rfl)) (hw _ (List.mem_of_getElem? (i := 45) rfl)) (by decide) (by decide)) (g := (mkF m 87 #[.val (.int p0), .val (.int p1), .val (.long p2), .second, .val (.int q4), .val (.ref o0), .val (.int (0 : Int32)), .val (.ref em), .unset, .unset] [(.ref em), (.ref o0), (.ref a11), (.ref a11)])) rfl (by rw [hml]; rfl) (Steps.refl _) (a := a11) (argsL := [(.ref o0), (.ref em)]) (rest := [(.ref a11)]) (lenOf own_pd__Lcom_example_freshline_freshline_model_Isolation_Ljava_util_Optional__V rfl) rfl (by show 2 * 0 + _ ≤ _; exact Nat.le_of_eq rfl) (hb hby at_87) (fun _ _ => ⟨rfl, e11, (by decide : 1 + 4 ≤ _), (by decide : 2 + 64 ≤ _)⟩)
      dsimp only [Pt.U, Pt.locs, Pt.cells, Pt.slots] at Sn14 Sg14
      dsimp only [Pt.U, Pt.locs, Pt.cells, Pt.slots] at X14 l14 y14 z14 st14 hQ14
      subst l14 y14 z14
      obtain ⟨h14, e14⟩ : ∃ z, T14.heap = z := ⟨_, rfl⟩
      rw [e14] at hQ14
      obtain ⟨rfl, N14q, K14, FI14, FD14⟩ := hQ14
      have Z14 : n0 ≤ h14.size := Nat.le_trans Z11 K14.1
      have N14 := Fr.app N8 N14q
      have pre15 : ∀ t, Steps p.tables e below (T14.setTop (mkF m 90 #[.val (.int p0), .val (.int p1), .val (.long p2), .second, .val (.int q4), .val (.ref o0), .val (.int (0 : Int32)), .val (.ref em), .unset, .unset] [(.ref a11)])) t → Steps p.tables e below (s₁.setTop (entryFrame m #[(.int p0), (.int p1), (.long p2)] maxLocals)) t := fun t k => pre13 _ (st14.trans k)
      have hZ14 : Z.Warmed39 (s.setVm T14.vm).vm := State.Warmed39.trans hZ Sn14.1
      have hown14 : (s.setVm T14.vm).vm.findClass "com/example/freshline/freshline/server/TransactionOptionsChecksDriftPinLaw" = some m.cls := by show T14.vm.findClass _ = _; rw [Sn14.1.alike.findClass]; exact hown
      have pre16 : ∀ t, Steps p.tables e below (T14.setTop (mkF m 112 #[.val (.int p0), .val (.int p1), .val (.long p2), .second, .val (.int q4), .val (.ref o0), .val (.int (0 : Int32)), .val (.ref em), .val (.ref a11), .val (.int (0 : Int32))] [(.ref a11)])) t → Steps p.tables e below (s₁.setTop (entryFrame m #[(.int p0), (.int p1), (.long p2)] maxLocals)) t := fun t k => pre15 _ (by
        show Steps p.tables e below (T14.setTop (mkF m 90 #[.val (.int p0), .val (.int p1), .val (.long p2), .second, .val (.int q4), .val (.ref o0), .val (.int (0 : Int32)), .val (.ref em), .unset, .unset] [(.ref a11)])) _
        refine XS.astore X14.here hx rfl (hb hby at_90) rfl rfl (l' := #[.val (.int p0), .val (.int p1), .val (.long p2), .second, .val (.int q4), .val (.ref o0), .val (.int (0 : Int32)), .val (.ref em), .val (.ref a11), .unset]) rfl ?_
        show Steps p.tables e below (T14.setTop (mkF m 92 #[.val (.int p0), .val (.int p1), .val (.long p2), .second, .val (.int q4), .val (.ref o0), .val (.int (0 : Int32)), .val (.ref em), .val (.ref a11), .unset] [])) _
        refine XS.iload X14.here hx rfl (hb hby at_92) rfl ?_
        show Steps p.tables e below (T14.setTop (mkF m 94 #[.val (.int p0), .val (.int p1), .val (.long p2), .second, .val (.int q4), .val (.ref o0), .val (.int (0 : Int32)), .val (.ref em), .val (.ref a11), .unset] [(.int (0 : Int32))])) _
        refine XS.ifYes X14.here hx rfl (pc0 := 94) (pc' := 107) rfl (hb hby at_94) rfl (XT.i0_eq_t (by decide)) (by decide) (by decide) ?_
        show Steps p.tables e below (T14.setTop (mkF m 107 #[.val (.int p0), .val (.int p1), .val (.long p2), .second, .val (.int q4), .val (.ref o0), .val (.int (0 : Int32)), .val (.ref em), .val (.ref a11), .unset] [])) _
        refine XT.iconstV X14.here hx rfl (0 : Int32) (hb hby at_107) rfl ?_
        show Steps p.tables e below (T14.setTop (mkF m 108 #[.val (.int p0), .val (.int p1), .val (.long p2), .second, .val (.int q4), .val (.ref o0), .val (.int (0 : Int32)), .val (.ref em), .val (.ref a11), .unset] [(.int (0 : Int32))])) _
        refine XS.istore X14.here hx rfl (hb hby at_108) rfl (l' := #[.val (.int p0), .val (.int p1), .val (.long p2), .second, .val (.int q4), .val (.ref o0), .val (.int (0 : Int32)), .val (.ref em), .val (.ref a11), .val (.int (0 : Int32))]) rfl ?_
        show Steps p.tables e below (T14.setTop (mkF m 110 #[.val (.int p0), .val (.int p1), .val (.long p2), .second, .val (.int q4), .val (.ref o0), .val (.int (0 : Int32)), .val (.ref em), .val (.ref a11), .val (.int (0 : Int32))] [])) _
        refine XS.aload X14.here hx rfl (hb hby at_110) rfl rfl ?_
        exact k)
      obtain ⟨cq17, kq17, q17a, q17b, q17c⟩ := isOf hZ14 e14 (A11.keep K14)
      obtain ⟨_, _, ⟨T17, L17, k17, n17⟩, -, X17, ⟨Lc17, hQ17, l17, y17, z17⟩, st17⟩ := X14.virtualBack hx (y := (⟨"com/example/freshline/freshline/server/TransactionOptions", "checksDrift", "()Z"⟩ : MethodName)) (z := (⟨"com/example/freshline/freshline/server/TransactionOptions", "checksDrift", "()Z"⟩ : MethodName)) hown14 (mvT hZ14 (hw _ (List.mem_of_getElem? (i := 71) rfl))) (mvT hZ14 (hw _ (List.mem_of_getElem? (i := 72) rfl))) (notFace_of_selects (args := #[]) (mvT hZ14 (hw _ (List.mem_of_getElem? (i := 74) rfl)))) (mvT hZ14 (hw _ (List.mem_of_getElem? (i := 74) rfl))) (mvT hZ14 (hw _ (List.mem_of_getElem? (i := 73) rfl))) (by decide) (backOf (W := 0) (own_chk00 l Z a0 hw [] a11 o0 em  h14 n0 Z14 FI14 FD14 ((EE.ext E11).keep K14) ((FE.ext E11).keep K14 (ninS ne_em_a11 nin0)) ) hZ14 (hw _ (List.mem_of_getElem? (i := 75) rfl)) (hw _ (List.mem_of_getElem? (i := 45) rfl)) (by decide) (by decide)) q17a q17c (g := (mkF m 112 #[.val (.int p0), .val (.int p1), .val (.long p2), .second, .val (.int q4), .val (.ref o0), .val (.int (0 : Int32)), .val (.ref em), .val (.ref a11), .val (.int (0 : Int32))] [(.ref a11)])) rfl (by rw [hml]; rfl) (Steps.refl _) (argsL := []) (rest := []) (lenOf own_pd___Z rfl) rfl (by show 2 * 0 + _ ≤ _; exact Nat.le_of_eq rfl) (hb hby at_112) (fun _ _ => ⟨rfl, e14, (by decide : 5 + 0 ≤ _), (by decide : 66 + 0 ≤ _)⟩)
      dsimp only [Pt.U, Pt.locs, Pt.cells, Pt.slots] at X17 l17 y17 z17 st17 hQ17
      subst l17 y17 z17
      obtain ⟨rfl, N17q, e17⟩ := hQ17
      have N17 := Fr.app N14 N17q
      have pre18 : ∀ t, Steps p.tables e below (T17.setTop (mkF m 115 #[.val (.int p0), .val (.int p1), .val (.long p2), .second, .val (.int q4), .val (.ref o0), .val (.int (0 : Int32)), .val (.ref em), .val (.ref a11), .val (.int (0 : Int32))] [(.int (0 : Int32))])) t → Steps p.tables e below (s₁.setTop (entryFrame m #[(.int p0), (.int p1), (.long p2)] maxLocals)) t := fun t k => pre16 _ (st17.trans k)
      have pre19 : ∀ t, Steps p.tables e below (T17.setTop (mkF m 125 #[.val (.int p0), .val (.int p1), .val (.long p2), .second, .val (.int q4), .val (.ref o0), .val (.int (0 : Int32)), .val (.ref em), .val (.ref a11), .val (.int (0 : Int32))] [(.int (1 : Int32))])) t → Steps p.tables e below (s₁.setTop (entryFrame m #[(.int p0), (.int p1), (.long p2)] maxLocals)) t := fun t k => pre18 _ (by
        show Steps p.tables e below (T17.setTop (mkF m 115 #[.val (.int p0), .val (.int p1), .val (.long p2), .second, .val (.int q4), .val (.ref o0), .val (.int (0 : Int32)), .val (.ref em), .val (.ref a11), .val (.int (0 : Int32))] [(.int (0 : Int32))])) _
        refine XS.iload X17.here hx rfl (hb hby at_115) rfl ?_
        show Steps p.tables e below (T17.setTop (mkF m 117 #[.val (.int p0), .val (.int p1), .val (.long p2), .second, .val (.int q4), .val (.ref o0), .val (.int (0 : Int32)), .val (.ref em), .val (.ref a11), .val (.int (0 : Int32))] [(.int (0 : Int32)), (.int (0 : Int32))])) _
        refine XS.icmpNo X17.here hx rfl (hb hby at_117) rfl (XT.ii_ne_f (by decide)) ?_
        show Steps p.tables e below (T17.setTop (mkF m 120 #[.val (.int p0), .val (.int p1), .val (.long p2), .second, .val (.int q4), .val (.ref o0), .val (.int (0 : Int32)), .val (.ref em), .val (.ref a11), .val (.int (0 : Int32))] [])) _
        refine XT.iconstV X17.here hx rfl (1 : Int32) (hb hby at_120) rfl ?_
        show Steps p.tables e below (T17.setTop (mkF m 121 #[.val (.int p0), .val (.int p1), .val (.long p2), .second, .val (.int q4), .val (.ref o0), .val (.int (0 : Int32)), .val (.ref em), .val (.ref a11), .val (.int (0 : Int32))] [(.int (1 : Int32))])) _
        refine XS.goto X17.here hx rfl (pc0 := 121) (pc' := 125) rfl (hb hby at_121) (by decide) (by decide) ?_
        exact k)
      obtain ⟨fs, hr, hrun, hended, hRE⟩ := Stand.leaveW (s := s) X17 Sn14 (by rw [e17]; exact (Nat.le_of_eq (congrArg Array.size e14))) (v := some (.int (1 : Int32))) (fun h => by rw [Bd.returns] at h; cases h)
      refine ⟨_, _, pre19 _ ?_, hrun, hended, _, _, rfl, ?_, hRE.1, hRE.2.1, hRE.2.2.1, hRE.2.2.2.mono (by decide) (by decide)⟩
      · show Steps p.tables e below (T17.setTop (mkF m 125 #[.val (.int p0), .val (.int p1), .val (.long p2), .second, .val (.int q4), .val (.ref o0), .val (.int (0 : Int32)), .val (.ref em), .val (.ref a11), .val (.int (0 : Int32))] [(.int (1 : Int32))])) _
        exact retN X17 hx (t := .boolean) Bd.returns (by simp) (hb hby at_125) hr
      · show Q_own_law Z p0 p1 p2 o0 o1 o2 em zr h0 n0 _ T17.heap _
        rw [e17]
        exact ⟨rfl, N17⟩
    · have pre20 : ∀ t, Steps p.tables e below (T4.setTop (mkF m 63 #[.val (.int p0), .val (.int p1), .val (.long p2), .second, .val (.int q4), .val (.ref o0), .val (.int (1 : Int32)), .unset, .unset, .unset] [(.long (p2 &&& (9223372036854775807 : Int64)))])) t → Steps p.tables e below (s₁.setTop (entryFrame m #[(.int p0), (.int p1), (.long p2)] maxLocals)) t := fun t k => pre6 _ (by
        show Steps p.tables e below (T4.setTop (mkF m 43 #[.val (.int p0), .val (.int p1), .val (.long p2), .second, .val (.int q4), .val (.ref o0), .unset, .unset, .unset, .unset] [(.int (p1 &&& (1 : Int32)))])) _
        refine XS.ifNo X4.here hx rfl (hb hby at_43) rfl (XT.i0_eq_f c43) ?_
        show Steps p.tables e below (T4.setTop (mkF m 46 #[.val (.int p0), .val (.int p1), .val (.long p2), .second, .val (.int q4), .val (.ref o0), .unset, .unset, .unset, .unset] [])) _
        refine XT.iconstV X4.here hx rfl (1 : Int32) (hb hby at_46) rfl ?_
        show Steps p.tables e below (T4.setTop (mkF m 47 #[.val (.int p0), .val (.int p1), .val (.long p2), .second, .val (.int q4), .val (.ref o0), .unset, .unset, .unset, .unset] [(.int (1 : Int32))])) _
        refine XS.goto X4.here hx rfl (pc0 := 47) (pc' := 51) rfl (hb hby at_47) (by decide) (by decide) ?_
        show Steps p.tables e below (T4.setTop (mkF m 51 #[.val (.int p0), .val (.int p1), .val (.long p2), .second, .val (.int q4), .val (.ref o0), .unset, .unset, .unset, .unset] [(.int (1 : Int32))])) _
        refine XS.istore X4.here hx rfl (hb hby at_51) rfl (l' := #[.val (.int p0), .val (.int p1), .val (.long p2), .second, .val (.int q4), .val (.ref o0), .val (.int (1 : Int32)), .unset, .unset, .unset]) rfl ?_
        show Steps p.tables e below (T4.setTop (mkF m 53 #[.val (.int p0), .val (.int p1), .val (.long p2), .second, .val (.int q4), .val (.ref o0), .val (.int (1 : Int32)), .unset, .unset, .unset] [])) _
        refine XS.iload X4.here hx rfl (hb hby at_53) rfl ?_
        show Steps p.tables e below (T4.setTop (mkF m 55 #[.val (.int p0), .val (.int p1), .val (.long p2), .second, .val (.int q4), .val (.ref o0), .val (.int (1 : Int32)), .unset, .unset, .unset] [(.int (1 : Int32))])) _
        refine XS.ifNo X4.here hx rfl (hb hby at_55) rfl (XT.i0_eq_f (by decide)) ?_
        show Steps p.tables e below (T4.setTop (mkF m 58 #[.val (.int p0), .val (.int p1), .val (.long p2), .second, .val (.int q4), .val (.ref o0), .val (.int (1 : Int32)), .unset, .unset, .unset] [])) _
        refine XS.lloadN X4.here hx rfl (hb hby at_58) rfl ?_
        show Steps p.tables e below (T4.setTop (mkF m 59 #[.val (.int p0), .val (.int p1), .val (.long p2), .second, .val (.int q4), .val (.ref o0), .val (.int (1 : Int32)), .unset, .unset, .unset] [(.long p2)])) _
        refine X4.ldc2J hx hown (mvT hZ (hw _ (List.mem_of_getElem? (i := 4) rfl))) rfl (hb hby at_59) ?_
        show Steps p.tables e below (T4.setTop (mkF m 62 #[.val (.int p0), .val (.int p1), .val (.long p2), .second, .val (.int q4), .val (.ref o0), .val (.int (1 : Int32)), .unset, .unset, .unset] [(.long (9223372036854775807 : Int64)), (.long p2)])) _
        refine XS.land X4.here hx rfl (hb hby at_62) rfl ?_
        exact k)
      obtain ⟨_, _, ⟨T21, L21, k21, n21⟩, -, X21, ⟨Lc21, hQ21, l21, y21, z21⟩, st21⟩ := Jvm.LawKit.callS X4 hx (y := (⟨"java/time/Duration", "ofNanos", "(J)Ljava/time/Duration;"⟩ : MethodName)) hown (mvT hZ (hw _ (List.mem_of_getElem? (i := 5) rfl))) (mvT hZ (hw _ (List.mem_of_getElem? (i := 6) rfl))) (mvT hZ (hw _ (List.mem_of_getElem? (i := 7) rfl))) (mvT hZ (hw _ (List.mem_of_getElem? (i := 8) rfl))) (by decide) (backOf (W := 0) (own_nanos l Z a0 hw [] (p2 &&& (9223372036854775807 : Int64)) zr h0 n0 Z0 SZ (own_max p2)) hZ (hw _ (List.mem_of_getElem? (i := 8) rfl)) (hw _ (List.mem_of_getElem? (i := 7) rfl)) (by decide) (by decide)) (g := (mkF m 63 #[.val (.int p0), .val (.int p1), .val (.long p2), .second, .val (.int q4), .val (.ref o0), .val (.int (1 : Int32)), .unset, .unset, .unset] [(.long (p2 &&& (9223372036854775807 : Int64)))])) rfl (by rw [hml]; rfl) (argsL := [(.long (p2 &&& (9223372036854775807 : Int64)))]) (rest := []) (lenOf own_pd__J_Ljava_time_Duration_ rfl) rfl (by show 2 * 0 + _ ≤ _; exact Nat.le_of_eq rfl) (hb hby at_63) (fun _ _ => ⟨rfl, e4, (by decide : 0 + 1 ≤ _), (by decide : 0 + 2 ≤ _)⟩)
      dsimp only [Pt.U, Pt.locs, Pt.cells, Pt.slots] at X21 l21 y21 z21 st21 hQ21
      subst l21 y21 z21
      obtain ⟨h21, e21⟩ : ∃ z, T21.heap = z := ⟨_, rfl⟩
      rw [e21] at hQ21
      obtain ⟨r21, rfl, N21q, K21⟩ := hQ21
      have Z21 : n0 ≤ h21.size := Nat.le_trans Z0 K21.1
      have N21 := Fr.app N0 N21q
      have pre22 : ∀ t, Steps p.tables e below (T21.setTop (mkF m 66 #[.val (.int p0), .val (.int p1), .val (.long p2), .second, .val (.int q4), .val (.ref o0), .val (.int (1 : Int32)), .unset, .unset, .unset] [(.ref r21)])) t → Steps p.tables e below (s₁.setTop (entryFrame m #[(.int p0), (.int p1), (.long p2)] maxLocals)) t := fun t k => pre20 _ (st21 _ k)
      obtain ⟨_, _, ⟨T23, L23, k23, n23⟩, -, X23, ⟨Lc23, hQ23, l23, y23, z23⟩, st23⟩ := Jvm.LawKit.callS X21 hx (y := (⟨"java/util/Optional", "of", "(Ljava/lang/Object;)Ljava/util/Optional;"⟩ : MethodName)) hown (mvT hZ (hw _ (List.mem_of_getElem? (i := 26) rfl))) (mvT hZ (hw _ (List.mem_of_getElem? (i := 27) rfl))) (mvT hZ (hw _ (List.mem_of_getElem? (i := 28) rfl))) (mvT hZ (hw _ (List.mem_of_getElem? (i := 29) rfl))) (by decide) (backOf (W := 0) (own_optOf l Z a0 hw [] r21 h21 n0 Z21) hZ (hw _ (List.mem_of_getElem? (i := 29) rfl)) (hw _ (List.mem_of_getElem? (i := 28) rfl)) (by decide) (by decide)) (g := (mkF m 66 #[.val (.int p0), .val (.int p1), .val (.long p2), .second, .val (.int q4), .val (.ref o0), .val (.int (1 : Int32)), .unset, .unset, .unset] [(.ref r21)])) rfl (by rw [hml]; rfl) (argsL := [(.ref r21)]) (rest := []) (lenOf own_pd__Ljava_lang_Object__Ljava_util_Optional_ rfl) rfl (by show 2 * 0 + _ ≤ _; exact Nat.le_of_eq rfl) (hb hby at_66) (fun _ _ => ⟨rfl, e21, (by decide : 1 + 1 ≤ _), (by decide : 2 + 1 ≤ _)⟩)
      dsimp only [Pt.U, Pt.locs, Pt.cells, Pt.slots] at X23 l23 y23 z23 st23 hQ23
      subst l23 y23 z23
      obtain ⟨h23, e23⟩ : ∃ z, T23.heap = z := ⟨_, rfl⟩
      rw [e23] at hQ23
      obtain ⟨r23, rfl, N23q, K23, EO23, FO23⟩ := hQ23
      have Z23 : n0 ≤ h23.size := Nat.le_trans Z21 K23.1
      have N23 := Fr.app N21 N23q
      have pre24 : ∀ t, Steps p.tables e below (T23.setTop (mkF m 69 #[.val (.int p0), .val (.int p1), .val (.long p2), .second, .val (.int q4), .val (.ref o0), .val (.int (1 : Int32)), .unset, .unset, .unset] [(.ref r23)])) t → Steps p.tables e below (s₁.setTop (entryFrame m #[(.int p0), (.int p1), (.long p2)] maxLocals)) t := fun t k => pre22 _ (st23 _ k)
      have pre25 : ∀ t, Steps p.tables e below (T23.setTop (mkF m 79 #[.val (.int p0), .val (.int p1), .val (.long p2), .second, .val (.int q4), .val (.ref o0), .val (.int (1 : Int32)), .val (.ref r23), .unset, .unset] [])) t → Steps p.tables e below (s₁.setTop (entryFrame m #[(.int p0), (.int p1), (.long p2)] maxLocals)) t := fun t k => pre24 _ (by
        show Steps p.tables e below (T23.setTop (mkF m 69 #[.val (.int p0), .val (.int p1), .val (.long p2), .second, .val (.int q4), .val (.ref o0), .val (.int (1 : Int32)), .unset, .unset, .unset] [(.ref r23)])) _
        refine XS.astore X23.here hx rfl (hb hby at_69) rfl rfl (l' := #[.val (.int p0), .val (.int p1), .val (.long p2), .second, .val (.int q4), .val (.ref o0), .val (.int (1 : Int32)), .val (.ref r23), .unset, .unset]) rfl ?_
        show Steps p.tables e below (T23.setTop (mkF m 71 #[.val (.int p0), .val (.int p1), .val (.long p2), .second, .val (.int q4), .val (.ref o0), .val (.int (1 : Int32)), .val (.ref r23), .unset, .unset] [])) _
        refine XS.goto X23.here hx rfl (pc0 := 71) (pc' := 79) rfl (hb hby at_71) (by decide) (by decide) ?_
        exact k)
      obtain ⟨T26, h26, X26, e26, E26, A26, D26, -, st26⟩ := newO X23 hx hZ hown (hw _ (List.mem_of_getElem? (i := 43) rfl)) (hw _ (List.mem_of_getElem? (i := 44) rfl)) (hw _ (List.mem_of_getElem? (i := 45) rfl)) e23 (g := (mkF m 79 #[.val (.int p0), .val (.int p1), .val (.long p2), .second, .val (.int q4), .val (.ref o0), .val (.int (1 : Int32)), .val (.ref r23), .unset, .unset] [])) rfl (hb hby at_79) (by decide) (by decide)
      obtain ⟨a26, ga26⟩ : ∃ z, z = h23.size := ⟨_, rfl⟩
      rw [← ga26] at A26 D26 st26
      have lt_o0_a26 : o0 < a26 := Nat.lt_of_lt_of_eq ((E0.keep K21).keep K23).lt ga26.symm
      have ne_o0_a26 : o0 ≠ a26 := Nat.ne_of_lt lt_o0_a26
      have lt_r23_a26 : r23 < a26 := Nat.lt_of_lt_of_eq EO23.lt ga26.symm
      have ne_r23_a26 : r23 ≠ a26 := Nat.ne_of_lt lt_r23_a26
      have ge_a26 : n0 ≤ a26 := Nat.le_trans Z23 (Nat.le_of_eq ga26.symm)
      have F26_isolation : Fld Z h26 a26 "com/example/freshline/freshline/server/TransactionOptions" "isolation" "Lcom/example/freshline/freshline/model/Isolation;" .null := D26 (Or.inr (hw _ (List.mem_of_getElem? (i := 68) rfl))) (ty := (.object "com/example/freshline/freshline/model/Isolation")) (by decide)
      have F26_drift : Fld Z h26 a26 "com/example/freshline/freshline/server/TransactionOptions" "drift" "Ljava/util/Optional;" .null := D26 (Or.inr (hw _ (List.mem_of_getElem? (i := 70) rfl))) (ty := (.object "java/util/Optional")) (by decide)
      have Z26 : n0 ≤ h26.size := Nat.le_trans Z23 E26.1
      have pre27 : ∀ t, Steps p.tables e below (T26.setTop (mkF m 82 #[.val (.int p0), .val (.int p1), .val (.long p2), .second, .val (.int q4), .val (.ref o0), .val (.int (1 : Int32)), .val (.ref r23), .unset, .unset] [(.ref a26)])) t → Steps p.tables e below (s₁.setTop (entryFrame m #[(.int p0), (.int p1), (.long p2)] maxLocals)) t := fun t k => pre25 _ (st26 _ k)
      have pre28 : ∀ t, Steps p.tables e below (T26.setTop (mkF m 87 #[.val (.int p0), .val (.int p1), .val (.long p2), .second, .val (.int q4), .val (.ref o0), .val (.int (1 : Int32)), .val (.ref r23), .unset, .unset] [(.ref r23), (.ref o0), (.ref a26), (.ref a26)])) t → Steps p.tables e below (s₁.setTop (entryFrame m #[(.int p0), (.int p1), (.long p2)] maxLocals)) t := fun t k => pre27 _ (by
        show Steps p.tables e below (T26.setTop (mkF m 82 #[.val (.int p0), .val (.int p1), .val (.long p2), .second, .val (.int q4), .val (.ref o0), .val (.int (1 : Int32)), .val (.ref r23), .unset, .unset] [(.ref a26)])) _
        refine XS.dup X26.here hx rfl (hb hby at_82) rfl rfl ?_
        show Steps p.tables e below (T26.setTop (mkF m 83 #[.val (.int p0), .val (.int p1), .val (.long p2), .second, .val (.int q4), .val (.ref o0), .val (.int (1 : Int32)), .val (.ref r23), .unset, .unset] [(.ref a26), (.ref a26)])) _
        refine XS.aload X26.here hx rfl (hb hby at_83) rfl rfl ?_
        show Steps p.tables e below (T26.setTop (mkF m 85 #[.val (.int p0), .val (.int p1), .val (.long p2), .second, .val (.int q4), .val (.ref o0), .val (.int (1 : Int32)), .val (.ref r23), .unset, .unset] [(.ref o0), (.ref a26), (.ref a26)])) _
        refine XS.aload X26.here hx rfl (hb hby at_85) rfl rfl ?_
        exact k)
      obtain ⟨_, _, ⟨T29, L29, k29, n29⟩, -, X29, Sn29, Sg29, ⟨Lc29, hQ29, l29, y29, z29⟩, st29⟩ := X26.specialBackS hx (y := (⟨"com/example/freshline/freshline/server/TransactionOptions", "<init>", "(Lcom/example/freshline/freshline/model/Isolation;Ljava/util/Optional;)V"⟩ : MethodName)) rfl hown (mvT hZ (hw _ (List.mem_of_getElem? (i := 46) rfl))) (mvT hZ (hw _ (List.mem_of_getElem? (i := 47) rfl))) (mvT hZ (hw _ (List.mem_of_getElem? (i := 48) rfl))) (by decide) (backOfS (W := 1) (own_toI l Z a0 hw [] a26 o0 r23 h26 n0 Z26 F26_isolation F26_drift A26 ge_a26) hZ (hw _ (List.mem_of_getElem? (i := 48) rfl)) (hw _ (List.mem_of_getElem? (i := 45) rfl)) (by decide) (by decide)) (g := (mkF m 87 #[.val (.int p0), .val (.int p1), .val (.long p2), .second, .val (.int q4), .val (.ref o0), .val (.int (1 : Int32)), .val (.ref r23), .unset, .unset] [(.ref r23), (.ref o0), (.ref a26), (.ref a26)])) rfl (by rw [hml]; rfl) (Steps.refl _) (a := a26) (argsL := [(.ref o0), (.ref r23)]) (rest := [(.ref a26)]) (lenOf own_pd__Lcom_example_freshline_freshline_model_Isolation_Ljava_util_Optional__V rfl) rfl (by show 2 * 0 + _ ≤ _; exact Nat.le_of_eq rfl) (hb hby at_87) (fun _ _ => ⟨rfl, e26, (by decide : 3 + 4 ≤ _), (by decide : 5 + 64 ≤ _)⟩)
      dsimp only [Pt.U, Pt.locs, Pt.cells, Pt.slots] at Sn29 Sg29
      dsimp only [Pt.U, Pt.locs, Pt.cells, Pt.slots] at X29 l29 y29 z29 st29 hQ29
      subst l29 y29 z29
      obtain ⟨h29, e29⟩ : ∃ z, T29.heap = z := ⟨_, rfl⟩
      rw [e29] at hQ29
      obtain ⟨rfl, N29q, K29, FI29, FD29⟩ := hQ29
      have Z29 : n0 ≤ h29.size := Nat.le_trans Z26 K29.1
      have N29 := Fr.app N23 N29q
      have pre30 : ∀ t, Steps p.tables e below (T29.setTop (mkF m 90 #[.val (.int p0), .val (.int p1), .val (.long p2), .second, .val (.int q4), .val (.ref o0), .val (.int (1 : Int32)), .val (.ref r23), .unset, .unset] [(.ref a26)])) t → Steps p.tables e below (s₁.setTop (entryFrame m #[(.int p0), (.int p1), (.long p2)] maxLocals)) t := fun t k => pre28 _ (st29.trans k)
      have hZ29 : Z.Warmed39 (s.setVm T29.vm).vm := State.Warmed39.trans hZ Sn29.1
      have hown29 : (s.setVm T29.vm).vm.findClass "com/example/freshline/freshline/server/TransactionOptionsChecksDriftPinLaw" = some m.cls := by show T29.vm.findClass _ = _; rw [Sn29.1.alike.findClass]; exact hown
      have pre31 : ∀ t, Steps p.tables e below (T29.setTop (mkF m 112 #[.val (.int p0), .val (.int p1), .val (.long p2), .second, .val (.int q4), .val (.ref o0), .val (.int (1 : Int32)), .val (.ref r23), .val (.ref a26), .val (.int (1 : Int32))] [(.ref a26)])) t → Steps p.tables e below (s₁.setTop (entryFrame m #[(.int p0), (.int p1), (.long p2)] maxLocals)) t := fun t k => pre30 _ (by
        show Steps p.tables e below (T29.setTop (mkF m 90 #[.val (.int p0), .val (.int p1), .val (.long p2), .second, .val (.int q4), .val (.ref o0), .val (.int (1 : Int32)), .val (.ref r23), .unset, .unset] [(.ref a26)])) _
        refine XS.astore X29.here hx rfl (hb hby at_90) rfl rfl (l' := #[.val (.int p0), .val (.int p1), .val (.long p2), .second, .val (.int q4), .val (.ref o0), .val (.int (1 : Int32)), .val (.ref r23), .val (.ref a26), .unset]) rfl ?_
        show Steps p.tables e below (T29.setTop (mkF m 92 #[.val (.int p0), .val (.int p1), .val (.long p2), .second, .val (.int q4), .val (.ref o0), .val (.int (1 : Int32)), .val (.ref r23), .val (.ref a26), .unset] [])) _
        refine XS.iload X29.here hx rfl (hb hby at_92) rfl ?_
        show Steps p.tables e below (T29.setTop (mkF m 94 #[.val (.int p0), .val (.int p1), .val (.long p2), .second, .val (.int q4), .val (.ref o0), .val (.int (1 : Int32)), .val (.ref r23), .val (.ref a26), .unset] [(.int (1 : Int32))])) _
        refine XS.ifNo X29.here hx rfl (hb hby at_94) rfl (XT.i0_eq_f (by decide)) ?_
        show Steps p.tables e below (T29.setTop (mkF m 97 #[.val (.int p0), .val (.int p1), .val (.long p2), .second, .val (.int q4), .val (.ref o0), .val (.int (1 : Int32)), .val (.ref r23), .val (.ref a26), .unset] [])) _
        refine XS.iload X29.here hx rfl (hb hby at_97) rfl ?_
        show Steps p.tables e below (T29.setTop (mkF m 99 #[.val (.int p0), .val (.int p1), .val (.long p2), .second, .val (.int q4), .val (.ref o0), .val (.int (1 : Int32)), .val (.ref r23), .val (.ref a26), .unset] [(.int q4)])) _
        refine XT.iconstV X29.here hx rfl (2 : Int32) (hb hby at_99) rfl ?_
        show Steps p.tables e below (T29.setTop (mkF m 100 #[.val (.int p0), .val (.int p1), .val (.long p2), .second, .val (.int q4), .val (.ref o0), .val (.int (1 : Int32)), .val (.ref r23), .val (.ref a26), .unset] [(.int (2 : Int32)), (.int q4)])) _
        refine XS.icmpNo X29.here hx rfl (hb hby at_100) rfl (XT.ii_eq_f (by rw [c10]; decide)) ?_
        show Steps p.tables e below (T29.setTop (mkF m 103 #[.val (.int p0), .val (.int p1), .val (.long p2), .second, .val (.int q4), .val (.ref o0), .val (.int (1 : Int32)), .val (.ref r23), .val (.ref a26), .unset] [])) _
        refine XT.iconstV X29.here hx rfl (1 : Int32) (hb hby at_103) rfl ?_
        show Steps p.tables e below (T29.setTop (mkF m 104 #[.val (.int p0), .val (.int p1), .val (.long p2), .second, .val (.int q4), .val (.ref o0), .val (.int (1 : Int32)), .val (.ref r23), .val (.ref a26), .unset] [(.int (1 : Int32))])) _
        refine XS.goto X29.here hx rfl (pc0 := 104) (pc' := 108) rfl (hb hby at_104) (by decide) (by decide) ?_
        show Steps p.tables e below (T29.setTop (mkF m 108 #[.val (.int p0), .val (.int p1), .val (.long p2), .second, .val (.int q4), .val (.ref o0), .val (.int (1 : Int32)), .val (.ref r23), .val (.ref a26), .unset] [(.int (1 : Int32))])) _
        refine XS.istore X29.here hx rfl (hb hby at_108) rfl (l' := #[.val (.int p0), .val (.int p1), .val (.long p2), .second, .val (.int q4), .val (.ref o0), .val (.int (1 : Int32)), .val (.ref r23), .val (.ref a26), .val (.int (1 : Int32))]) rfl ?_
        show Steps p.tables e below (T29.setTop (mkF m 110 #[.val (.int p0), .val (.int p1), .val (.long p2), .second, .val (.int q4), .val (.ref o0), .val (.int (1 : Int32)), .val (.ref r23), .val (.ref a26), .val (.int (1 : Int32))] [])) _
        refine XS.aload X29.here hx rfl (hb hby at_110) rfl rfl ?_
        exact k)
      obtain ⟨cq32, kq32, q32a, q32b, q32c⟩ := isOf hZ29 e29 (A26.keep K29)
      obtain ⟨_, _, ⟨T32, L32, k32, n32⟩, -, X32, ⟨Lc32, hQ32, l32, y32, z32⟩, st32⟩ := X29.virtualBack hx (y := (⟨"com/example/freshline/freshline/server/TransactionOptions", "checksDrift", "()Z"⟩ : MethodName)) (z := (⟨"com/example/freshline/freshline/server/TransactionOptions", "checksDrift", "()Z"⟩ : MethodName)) hown29 (mvT hZ29 (hw _ (List.mem_of_getElem? (i := 71) rfl))) (mvT hZ29 (hw _ (List.mem_of_getElem? (i := 72) rfl))) (notFace_of_selects (args := #[]) (mvT hZ29 (hw _ (List.mem_of_getElem? (i := 74) rfl)))) (mvT hZ29 (hw _ (List.mem_of_getElem? (i := 74) rfl))) (mvT hZ29 (hw _ (List.mem_of_getElem? (i := 73) rfl))) (by decide) (backOf (W := 0) (own_chk10 l Z a0 hw [] a26 o0 r23 r21 h29 n0 Z29 FI29 FD29 ((EO23.ext E26).keep K29) ((FO23.ext E26).keep K29 (ninS ne_r23_a26 nin0)) ((((E0.keep K21).keep K23).ext E26).keep K29) ((((F0.keep K21 nin0).keep K23 nin0).ext E26).keep K29 (ninS ne_o0_a26 nin0))) hZ29 (hw _ (List.mem_of_getElem? (i := 75) rfl)) (hw _ (List.mem_of_getElem? (i := 45) rfl)) (by decide) (by decide)) q32a q32c (g := (mkF m 112 #[.val (.int p0), .val (.int p1), .val (.long p2), .second, .val (.int q4), .val (.ref o0), .val (.int (1 : Int32)), .val (.ref r23), .val (.ref a26), .val (.int (1 : Int32))] [(.ref a26)])) rfl (by rw [hml]; rfl) (Steps.refl _) (argsL := []) (rest := []) (lenOf own_pd___Z rfl) rfl (by show 2 * 0 + _ ≤ _; exact Nat.le_of_eq rfl) (hb hby at_112) (fun _ _ => ⟨rfl, e29, (by decide : 7 + 0 ≤ _), (by decide : 69 + 0 ≤ _)⟩)
      dsimp only [Pt.U, Pt.locs, Pt.cells, Pt.slots] at X32 l32 y32 z32 st32 hQ32
      subst l32 y32 z32
      obtain ⟨rfl, N32q, e32⟩ := hQ32
      have N32 := Fr.app N29 N32q
      have pre33 : ∀ t, Steps p.tables e below (T32.setTop (mkF m 115 #[.val (.int p0), .val (.int p1), .val (.long p2), .second, .val (.int q4), .val (.ref o0), .val (.int (1 : Int32)), .val (.ref r23), .val (.ref a26), .val (.int (1 : Int32))] [(.int (1 : Int32))])) t → Steps p.tables e below (s₁.setTop (entryFrame m #[(.int p0), (.int p1), (.long p2)] maxLocals)) t := fun t k => pre31 _ (st32.trans k)
      have pre34 : ∀ t, Steps p.tables e below (T32.setTop (mkF m 125 #[.val (.int p0), .val (.int p1), .val (.long p2), .second, .val (.int q4), .val (.ref o0), .val (.int (1 : Int32)), .val (.ref r23), .val (.ref a26), .val (.int (1 : Int32))] [(.int (1 : Int32))])) t → Steps p.tables e below (s₁.setTop (entryFrame m #[(.int p0), (.int p1), (.long p2)] maxLocals)) t := fun t k => pre33 _ (by
        show Steps p.tables e below (T32.setTop (mkF m 115 #[.val (.int p0), .val (.int p1), .val (.long p2), .second, .val (.int q4), .val (.ref o0), .val (.int (1 : Int32)), .val (.ref r23), .val (.ref a26), .val (.int (1 : Int32))] [(.int (1 : Int32))])) _
        refine XS.iload X32.here hx rfl (hb hby at_115) rfl ?_
        show Steps p.tables e below (T32.setTop (mkF m 117 #[.val (.int p0), .val (.int p1), .val (.long p2), .second, .val (.int q4), .val (.ref o0), .val (.int (1 : Int32)), .val (.ref r23), .val (.ref a26), .val (.int (1 : Int32))] [(.int (1 : Int32)), (.int (1 : Int32))])) _
        refine XS.icmpNo X32.here hx rfl (hb hby at_117) rfl (XT.ii_ne_f (by decide)) ?_
        show Steps p.tables e below (T32.setTop (mkF m 120 #[.val (.int p0), .val (.int p1), .val (.long p2), .second, .val (.int q4), .val (.ref o0), .val (.int (1 : Int32)), .val (.ref r23), .val (.ref a26), .val (.int (1 : Int32))] [])) _
        refine XT.iconstV X32.here hx rfl (1 : Int32) (hb hby at_120) rfl ?_
        show Steps p.tables e below (T32.setTop (mkF m 121 #[.val (.int p0), .val (.int p1), .val (.long p2), .second, .val (.int q4), .val (.ref o0), .val (.int (1 : Int32)), .val (.ref r23), .val (.ref a26), .val (.int (1 : Int32))] [(.int (1 : Int32))])) _
        refine XS.goto X32.here hx rfl (pc0 := 121) (pc' := 125) rfl (hb hby at_121) (by decide) (by decide) ?_
        exact k)
      obtain ⟨fs, hr, hrun, hended, hRE⟩ := Stand.leaveW (s := s) X32 Sn29 (by rw [e32]; exact (Nat.le_of_eq (congrArg Array.size e29))) (v := some (.int (1 : Int32))) (fun h => by rw [Bd.returns] at h; cases h)
      refine ⟨_, _, pre34 _ ?_, hrun, hended, _, _, rfl, ?_, hRE.1, hRE.2.1, hRE.2.2.1, hRE.2.2.2.mono (by decide) (by decide)⟩
      · show Steps p.tables e below (T32.setTop (mkF m 125 #[.val (.int p0), .val (.int p1), .val (.long p2), .second, .val (.int q4), .val (.ref o0), .val (.int (1 : Int32)), .val (.ref r23), .val (.ref a26), .val (.int (1 : Int32))] [(.int (1 : Int32))])) _
        exact retN X32 hx (t := .boolean) Bd.returns (by simp) (hb hby at_125) hr
      · show Q_own_law Z p0 p1 p2 o0 o1 o2 em zr h0 n0 _ T32.heap _
        rw [e32]
        exact ⟨rfl, N32⟩
  · have pre35 : ∀ t, Steps p.tables e below (s₁.setTop (mkF m 24 #[.val (.int p0), .val (.int p1), .val (.long p2), .second, .val (.int q4), .unset, .unset, .unset, .unset, .unset] [(.int (1 : Int32)), (.int q4)])) t → Steps p.tables e below (s₁.setTop (entryFrame m #[(.int p0), (.int p1), (.long p2)] maxLocals)) t := fun t k => pre2 _ (by
      show Steps p.tables e below (s₁.setTop (mkF m 10 #[.val (.int p0), .val (.int p1), .val (.long p2), .second, .val (.int q4), .unset, .unset, .unset, .unset, .unset] [(.int q4)])) _
      refine XS.ifYes X0.here hx rfl (pc0 := 10) (pc' := 21) rfl (hb hby at_10) rfl (XT.i0_ne_t c10) (by decide) (by decide) ?_
      show Steps p.tables e below (s₁.setTop (mkF m 21 #[.val (.int p0), .val (.int p1), .val (.long p2), .second, .val (.int q4), .unset, .unset, .unset, .unset, .unset] [])) _
      refine XS.iload X0.here hx rfl (hb hby at_21) rfl ?_
      show Steps p.tables e below (s₁.setTop (mkF m 23 #[.val (.int p0), .val (.int p1), .val (.long p2), .second, .val (.int q4), .unset, .unset, .unset, .unset, .unset] [(.int q4)])) _
      refine XT.iconstV X0.here hx rfl (1 : Int32) (hb hby at_23) rfl ?_
      exact k)
    by_cases c24 : q4 = (1 : Int32)
    · have pre36 : ∀ t, Steps p.tables e below (s₁.setTop (mkF m 27 #[.val (.int p0), .val (.int p1), .val (.long p2), .second, .val (.int q4), .unset, .unset, .unset, .unset, .unset] [])) t → Steps p.tables e below (s₁.setTop (entryFrame m #[(.int p0), (.int p1), (.long p2)] maxLocals)) t := fun t k => pre35 _ (by
        show Steps p.tables e below (s₁.setTop (mkF m 24 #[.val (.int p0), .val (.int p1), .val (.long p2), .second, .val (.int q4), .unset, .unset, .unset, .unset, .unset] [(.int (1 : Int32)), (.int q4)])) _
        refine XS.icmpNo X0.here hx rfl (hb hby at_24) rfl (XT.ii_ne_f c24) ?_
        exact k)
      obtain ⟨T37, X37, e37, st37⟩ := getS X0 hx hZ hown (host := "") (hw _ (List.mem_of_getElem? (i := 88) rfl)) Via.refl e0 S1 (g := (mkF m 27 #[.val (.int p0), .val (.int p1), .val (.long p2), .second, .val (.int q4), .unset, .unset, .unset, .unset, .unset] [])) rfl (hb hby at_27)
      have pre38 : ∀ t, Steps p.tables e below (T37.setTop (mkF m 30 #[.val (.int p0), .val (.int p1), .val (.long p2), .second, .val (.int q4), .unset, .unset, .unset, .unset, .unset] [(.ref o1)])) t → Steps p.tables e below (s₁.setTop (entryFrame m #[(.int p0), (.int p1), (.long p2)] maxLocals)) t := fun t k => pre36 _ (st37 _ k)
      have pre39 : ∀ t, Steps p.tables e below (T37.setTop (mkF m 43 #[.val (.int p0), .val (.int p1), .val (.long p2), .second, .val (.int q4), .val (.ref o1), .unset, .unset, .unset, .unset] [(.int (p1 &&& (1 : Int32)))])) t → Steps p.tables e below (s₁.setTop (entryFrame m #[(.int p0), (.int p1), (.long p2)] maxLocals)) t := fun t k => pre38 _ (by
        show Steps p.tables e below (T37.setTop (mkF m 30 #[.val (.int p0), .val (.int p1), .val (.long p2), .second, .val (.int q4), .unset, .unset, .unset, .unset, .unset] [(.ref o1)])) _
        refine XS.astore X37.here hx rfl (hb hby at_30) rfl rfl (l' := #[.val (.int p0), .val (.int p1), .val (.long p2), .second, .val (.int q4), .val (.ref o1), .unset, .unset, .unset, .unset]) rfl ?_
        show Steps p.tables e below (T37.setTop (mkF m 32 #[.val (.int p0), .val (.int p1), .val (.long p2), .second, .val (.int q4), .val (.ref o1), .unset, .unset, .unset, .unset] [])) _
        refine XS.goto X37.here hx rfl (pc0 := 32) (pc' := 40) rfl (hb hby at_32) (by decide) (by decide) ?_
        show Steps p.tables e below (T37.setTop (mkF m 40 #[.val (.int p0), .val (.int p1), .val (.long p2), .second, .val (.int q4), .val (.ref o1), .unset, .unset, .unset, .unset] [])) _
        refine XS.iloadN X37.here hx rfl (hb hby at_40) rfl ?_
        show Steps p.tables e below (T37.setTop (mkF m 41 #[.val (.int p0), .val (.int p1), .val (.long p2), .second, .val (.int q4), .val (.ref o1), .unset, .unset, .unset, .unset] [(.int p1)])) _
        refine XT.iconstV X37.here hx rfl (1 : Int32) (hb hby at_41) rfl ?_
        show Steps p.tables e below (T37.setTop (mkF m 42 #[.val (.int p0), .val (.int p1), .val (.long p2), .second, .val (.int q4), .val (.ref o1), .unset, .unset, .unset, .unset] [(.int (1 : Int32)), (.int p1)])) _
        refine XS.iand X37.here hx rfl (hb hby at_42) rfl ?_
        exact k)
      by_cases c43 : (p1 &&& (1 : Int32)) = 0
      · have pre40 : ∀ t, Steps p.tables e below (T37.setTop (mkF m 74 #[.val (.int p0), .val (.int p1), .val (.long p2), .second, .val (.int q4), .val (.ref o1), .val (.int (0 : Int32)), .unset, .unset, .unset] [])) t → Steps p.tables e below (s₁.setTop (entryFrame m #[(.int p0), (.int p1), (.long p2)] maxLocals)) t := fun t k => pre39 _ (by
          show Steps p.tables e below (T37.setTop (mkF m 43 #[.val (.int p0), .val (.int p1), .val (.long p2), .second, .val (.int q4), .val (.ref o1), .unset, .unset, .unset, .unset] [(.int (p1 &&& (1 : Int32)))])) _
          refine XS.ifYes X37.here hx rfl (pc0 := 43) (pc' := 50) rfl (hb hby at_43) rfl (XT.i0_eq_t c43) (by decide) (by decide) ?_
          show Steps p.tables e below (T37.setTop (mkF m 50 #[.val (.int p0), .val (.int p1), .val (.long p2), .second, .val (.int q4), .val (.ref o1), .unset, .unset, .unset, .unset] [])) _
          refine XT.iconstV X37.here hx rfl (0 : Int32) (hb hby at_50) rfl ?_
          show Steps p.tables e below (T37.setTop (mkF m 51 #[.val (.int p0), .val (.int p1), .val (.long p2), .second, .val (.int q4), .val (.ref o1), .unset, .unset, .unset, .unset] [(.int (0 : Int32))])) _
          refine XS.istore X37.here hx rfl (hb hby at_51) rfl (l' := #[.val (.int p0), .val (.int p1), .val (.long p2), .second, .val (.int q4), .val (.ref o1), .val (.int (0 : Int32)), .unset, .unset, .unset]) rfl ?_
          show Steps p.tables e below (T37.setTop (mkF m 53 #[.val (.int p0), .val (.int p1), .val (.long p2), .second, .val (.int q4), .val (.ref o1), .val (.int (0 : Int32)), .unset, .unset, .unset] [])) _
          refine XS.iload X37.here hx rfl (hb hby at_53) rfl ?_
          show Steps p.tables e below (T37.setTop (mkF m 55 #[.val (.int p0), .val (.int p1), .val (.long p2), .second, .val (.int q4), .val (.ref o1), .val (.int (0 : Int32)), .unset, .unset, .unset] [(.int (0 : Int32))])) _
          refine XS.ifYes X37.here hx rfl (pc0 := 55) (pc' := 74) rfl (hb hby at_55) rfl (XT.i0_eq_t (by decide)) (by decide) (by decide) ?_
          exact k)
        obtain ⟨_, _, ⟨T41, L41, k41, n41⟩, -, X41, ⟨Lc41, hQ41, l41, y41, z41⟩, st41⟩ := Jvm.LawKit.callS X37 hx (y := (⟨"java/util/Optional", "empty", "()Ljava/util/Optional;"⟩ : MethodName)) hown (mvT hZ (hw _ (List.mem_of_getElem? (i := 90) rfl))) (mvT hZ (hw _ (List.mem_of_getElem? (i := 91) rfl))) (mvT hZ (hw _ (List.mem_of_getElem? (i := 28) rfl))) (mvT hZ (hw _ (List.mem_of_getElem? (i := 92) rfl))) (by decide) (backOf (W := 0) (own_empty l Z a0 hw [] em h0 n0 Z0 SE) hZ (hw _ (List.mem_of_getElem? (i := 92) rfl)) (hw _ (List.mem_of_getElem? (i := 28) rfl)) (by decide) (by decide)) (g := (mkF m 74 #[.val (.int p0), .val (.int p1), .val (.long p2), .second, .val (.int q4), .val (.ref o1), .val (.int (0 : Int32)), .unset, .unset, .unset] [])) rfl (by rw [hml]; rfl) (argsL := []) (rest := []) (lenOf own_pd___Ljava_util_Optional_ rfl) rfl (by show 2 * 0 + _ ≤ _; exact Nat.le_of_eq rfl) (hb hby at_74) (fun _ _ => ⟨rfl, e37, (by decide : 0 + 0 ≤ _), (by decide : 0 + 0 ≤ _)⟩)
        dsimp only [Pt.U, Pt.locs, Pt.cells, Pt.slots] at X41 l41 y41 z41 st41 hQ41
        subst l41 y41 z41
        obtain ⟨rfl, N41q, e41⟩ := hQ41
        have N41 := Fr.app N0 N41q
        have pre42 : ∀ t, Steps p.tables e below (T41.setTop (mkF m 77 #[.val (.int p0), .val (.int p1), .val (.long p2), .second, .val (.int q4), .val (.ref o1), .val (.int (0 : Int32)), .unset, .unset, .unset] [(.ref em)])) t → Steps p.tables e below (s₁.setTop (entryFrame m #[(.int p0), (.int p1), (.long p2)] maxLocals)) t := fun t k => pre40 _ (st41 _ k)
        have pre43 : ∀ t, Steps p.tables e below (T41.setTop (mkF m 79 #[.val (.int p0), .val (.int p1), .val (.long p2), .second, .val (.int q4), .val (.ref o1), .val (.int (0 : Int32)), .val (.ref em), .unset, .unset] [])) t → Steps p.tables e below (s₁.setTop (entryFrame m #[(.int p0), (.int p1), (.long p2)] maxLocals)) t := fun t k => pre42 _ (by
          show Steps p.tables e below (T41.setTop (mkF m 77 #[.val (.int p0), .val (.int p1), .val (.long p2), .second, .val (.int q4), .val (.ref o1), .val (.int (0 : Int32)), .unset, .unset, .unset] [(.ref em)])) _
          refine XS.astore X41.here hx rfl (hb hby at_77) rfl rfl (l' := #[.val (.int p0), .val (.int p1), .val (.long p2), .second, .val (.int q4), .val (.ref o1), .val (.int (0 : Int32)), .val (.ref em), .unset, .unset]) rfl ?_
          exact k)
        obtain ⟨T44, h44, X44, e44, E44, A44, D44, -, st44⟩ := newO X41 hx hZ hown (hw _ (List.mem_of_getElem? (i := 43) rfl)) (hw _ (List.mem_of_getElem? (i := 44) rfl)) (hw _ (List.mem_of_getElem? (i := 45) rfl)) e41 (g := (mkF m 79 #[.val (.int p0), .val (.int p1), .val (.long p2), .second, .val (.int q4), .val (.ref o1), .val (.int (0 : Int32)), .val (.ref em), .unset, .unset] [])) rfl (hb hby at_79) (by decide) (by decide)
        obtain ⟨a44, ga44⟩ : ∃ z, z = h0.size := ⟨_, rfl⟩
        rw [← ga44] at A44 D44 st44
        have lt_o1_a44 : o1 < a44 := Nat.lt_of_lt_of_eq E1.lt ga44.symm
        have ne_o1_a44 : o1 ≠ a44 := Nat.ne_of_lt lt_o1_a44
        have lt_em_a44 : em < a44 := Nat.lt_of_lt_of_eq EE.lt ga44.symm
        have ne_em_a44 : em ≠ a44 := Nat.ne_of_lt lt_em_a44
        have ge_a44 : n0 ≤ a44 := Nat.le_trans Z0 (Nat.le_of_eq ga44.symm)
        have F44_isolation : Fld Z h44 a44 "com/example/freshline/freshline/server/TransactionOptions" "isolation" "Lcom/example/freshline/freshline/model/Isolation;" .null := D44 (Or.inr (hw _ (List.mem_of_getElem? (i := 68) rfl))) (ty := (.object "com/example/freshline/freshline/model/Isolation")) (by decide)
        have F44_drift : Fld Z h44 a44 "com/example/freshline/freshline/server/TransactionOptions" "drift" "Ljava/util/Optional;" .null := D44 (Or.inr (hw _ (List.mem_of_getElem? (i := 70) rfl))) (ty := (.object "java/util/Optional")) (by decide)
        have Z44 : n0 ≤ h44.size := Nat.le_trans Z0 E44.1
        have pre45 : ∀ t, Steps p.tables e below (T44.setTop (mkF m 82 #[.val (.int p0), .val (.int p1), .val (.long p2), .second, .val (.int q4), .val (.ref o1), .val (.int (0 : Int32)), .val (.ref em), .unset, .unset] [(.ref a44)])) t → Steps p.tables e below (s₁.setTop (entryFrame m #[(.int p0), (.int p1), (.long p2)] maxLocals)) t := fun t k => pre43 _ (st44 _ k)
        have pre46 : ∀ t, Steps p.tables e below (T44.setTop (mkF m 87 #[.val (.int p0), .val (.int p1), .val (.long p2), .second, .val (.int q4), .val (.ref o1), .val (.int (0 : Int32)), .val (.ref em), .unset, .unset] [(.ref em), (.ref o1), (.ref a44), (.ref a44)])) t → Steps p.tables e below (s₁.setTop (entryFrame m #[(.int p0), (.int p1), (.long p2)] maxLocals)) t := fun t k => pre45 _ (by
          show Steps p.tables e below (T44.setTop (mkF m 82 #[.val (.int p0), .val (.int p1), .val (.long p2), .second, .val (.int q4), .val (.ref o1), .val (.int (0 : Int32)), .val (.ref em), .unset, .unset] [(.ref a44)])) _
          refine XS.dup X44.here hx rfl (hb hby at_82) rfl rfl ?_
          show Steps p.tables e below (T44.setTop (mkF m 83 #[.val (.int p0), .val (.int p1), .val (.long p2), .second, .val (.int q4), .val (.ref o1), .val (.int (0 : Int32)), .val (.ref em), .unset, .unset] [(.ref a44), (.ref a44)])) _
          refine XS.aload X44.here hx rfl (hb hby at_83) rfl rfl ?_
          show Steps p.tables e below (T44.setTop (mkF m 85 #[.val (.int p0), .val (.int p1), .val (.long p2), .second, .val (.int q4), .val (.ref o1), .val (.int (0 : Int32)), .val (.ref em), .unset, .unset] [(.ref o1), (.ref a44), (.ref a44)])) _
          refine XS.aload X44.here hx rfl (hb hby at_85) rfl rfl ?_
          exact k)
        obtain ⟨_, _, ⟨T47, L47, k47, n47⟩, -, X47, Sn47, Sg47, ⟨Lc47, hQ47, l47, y47, z47⟩, st47⟩ := X44.specialBackS hx (y := (⟨"com/example/freshline/freshline/server/TransactionOptions", "<init>", "(Lcom/example/freshline/freshline/model/Isolation;Ljava/util/Optional;)V"⟩ : MethodName)) rfl hown (mvT hZ (hw _ (List.mem_of_getElem? (i := 46) rfl))) (mvT hZ (hw _ (List.mem_of_getElem? (i := 47) rfl))) (mvT hZ (hw _ (List.mem_of_getElem? (i := 48) rfl))) (by decide) (backOfS (W := 1) (own_toI l Z a0 hw [] a44 o1 em h44 n0 Z44 F44_isolation F44_drift A44 ge_a44) hZ (hw _ (List.mem_of_getElem? (i := 48) rfl)) (hw _ (List.mem_of_getElem? (i := 45) rfl)) (by decide) (by decide)) (g := (mkF m 87 #[.val (.int p0), .val (.int p1), .val (.long p2), .second, .val (.int q4), .val (.ref o1), .val (.int (0 : Int32)), .val (.ref em), .unset, .unset] [(.ref em), (.ref o1), (.ref a44), (.ref a44)])) rfl (by rw [hml]; rfl) (Steps.refl _) (a := a44) (argsL := [(.ref o1), (.ref em)]) (rest := [(.ref a44)]) (lenOf own_pd__Lcom_example_freshline_freshline_model_Isolation_Ljava_util_Optional__V rfl) rfl (by show 2 * 0 + _ ≤ _; exact Nat.le_of_eq rfl) (hb hby at_87) (fun _ _ => ⟨rfl, e44, (by decide : 1 + 4 ≤ _), (by decide : 2 + 64 ≤ _)⟩)
        dsimp only [Pt.U, Pt.locs, Pt.cells, Pt.slots] at Sn47 Sg47
        dsimp only [Pt.U, Pt.locs, Pt.cells, Pt.slots] at X47 l47 y47 z47 st47 hQ47
        subst l47 y47 z47
        obtain ⟨h47, e47⟩ : ∃ z, T47.heap = z := ⟨_, rfl⟩
        rw [e47] at hQ47
        obtain ⟨rfl, N47q, K47, FI47, FD47⟩ := hQ47
        have Z47 : n0 ≤ h47.size := Nat.le_trans Z44 K47.1
        have N47 := Fr.app N41 N47q
        have pre48 : ∀ t, Steps p.tables e below (T47.setTop (mkF m 90 #[.val (.int p0), .val (.int p1), .val (.long p2), .second, .val (.int q4), .val (.ref o1), .val (.int (0 : Int32)), .val (.ref em), .unset, .unset] [(.ref a44)])) t → Steps p.tables e below (s₁.setTop (entryFrame m #[(.int p0), (.int p1), (.long p2)] maxLocals)) t := fun t k => pre46 _ (st47.trans k)
        have hZ47 : Z.Warmed39 (s.setVm T47.vm).vm := State.Warmed39.trans hZ Sn47.1
        have hown47 : (s.setVm T47.vm).vm.findClass "com/example/freshline/freshline/server/TransactionOptionsChecksDriftPinLaw" = some m.cls := by show T47.vm.findClass _ = _; rw [Sn47.1.alike.findClass]; exact hown
        have pre49 : ∀ t, Steps p.tables e below (T47.setTop (mkF m 112 #[.val (.int p0), .val (.int p1), .val (.long p2), .second, .val (.int q4), .val (.ref o1), .val (.int (0 : Int32)), .val (.ref em), .val (.ref a44), .val (.int (0 : Int32))] [(.ref a44)])) t → Steps p.tables e below (s₁.setTop (entryFrame m #[(.int p0), (.int p1), (.long p2)] maxLocals)) t := fun t k => pre48 _ (by
          show Steps p.tables e below (T47.setTop (mkF m 90 #[.val (.int p0), .val (.int p1), .val (.long p2), .second, .val (.int q4), .val (.ref o1), .val (.int (0 : Int32)), .val (.ref em), .unset, .unset] [(.ref a44)])) _
          refine XS.astore X47.here hx rfl (hb hby at_90) rfl rfl (l' := #[.val (.int p0), .val (.int p1), .val (.long p2), .second, .val (.int q4), .val (.ref o1), .val (.int (0 : Int32)), .val (.ref em), .val (.ref a44), .unset]) rfl ?_
          show Steps p.tables e below (T47.setTop (mkF m 92 #[.val (.int p0), .val (.int p1), .val (.long p2), .second, .val (.int q4), .val (.ref o1), .val (.int (0 : Int32)), .val (.ref em), .val (.ref a44), .unset] [])) _
          refine XS.iload X47.here hx rfl (hb hby at_92) rfl ?_
          show Steps p.tables e below (T47.setTop (mkF m 94 #[.val (.int p0), .val (.int p1), .val (.long p2), .second, .val (.int q4), .val (.ref o1), .val (.int (0 : Int32)), .val (.ref em), .val (.ref a44), .unset] [(.int (0 : Int32))])) _
          refine XS.ifYes X47.here hx rfl (pc0 := 94) (pc' := 107) rfl (hb hby at_94) rfl (XT.i0_eq_t (by decide)) (by decide) (by decide) ?_
          show Steps p.tables e below (T47.setTop (mkF m 107 #[.val (.int p0), .val (.int p1), .val (.long p2), .second, .val (.int q4), .val (.ref o1), .val (.int (0 : Int32)), .val (.ref em), .val (.ref a44), .unset] [])) _
          refine XT.iconstV X47.here hx rfl (0 : Int32) (hb hby at_107) rfl ?_
          show Steps p.tables e below (T47.setTop (mkF m 108 #[.val (.int p0), .val (.int p1), .val (.long p2), .second, .val (.int q4), .val (.ref o1), .val (.int (0 : Int32)), .val (.ref em), .val (.ref a44), .unset] [(.int (0 : Int32))])) _
          refine XS.istore X47.here hx rfl (hb hby at_108) rfl (l' := #[.val (.int p0), .val (.int p1), .val (.long p2), .second, .val (.int q4), .val (.ref o1), .val (.int (0 : Int32)), .val (.ref em), .val (.ref a44), .val (.int (0 : Int32))]) rfl ?_
          show Steps p.tables e below (T47.setTop (mkF m 110 #[.val (.int p0), .val (.int p1), .val (.long p2), .second, .val (.int q4), .val (.ref o1), .val (.int (0 : Int32)), .val (.ref em), .val (.ref a44), .val (.int (0 : Int32))] [])) _
          refine XS.aload X47.here hx rfl (hb hby at_110) rfl rfl ?_
          exact k)
        obtain ⟨cq50, kq50, q50a, q50b, q50c⟩ := isOf hZ47 e47 (A44.keep K47)
        obtain ⟨_, _, ⟨T50, L50, k50, n50⟩, -, X50, ⟨Lc50, hQ50, l50, y50, z50⟩, st50⟩ := X47.virtualBack hx (y := (⟨"com/example/freshline/freshline/server/TransactionOptions", "checksDrift", "()Z"⟩ : MethodName)) (z := (⟨"com/example/freshline/freshline/server/TransactionOptions", "checksDrift", "()Z"⟩ : MethodName)) hown47 (mvT hZ47 (hw _ (List.mem_of_getElem? (i := 71) rfl))) (mvT hZ47 (hw _ (List.mem_of_getElem? (i := 72) rfl))) (notFace_of_selects (args := #[]) (mvT hZ47 (hw _ (List.mem_of_getElem? (i := 74) rfl)))) (mvT hZ47 (hw _ (List.mem_of_getElem? (i := 74) rfl))) (mvT hZ47 (hw _ (List.mem_of_getElem? (i := 73) rfl))) (by decide) (backOf (W := 0) (own_chk00 l Z a0 hw [] a44 o1 em  h47 n0 Z47 FI47 FD47 ((EE.ext E44).keep K47) ((FE.ext E44).keep K47 (ninS ne_em_a44 nin0)) ) hZ47 (hw _ (List.mem_of_getElem? (i := 75) rfl)) (hw _ (List.mem_of_getElem? (i := 45) rfl)) (by decide) (by decide)) q50a q50c (g := (mkF m 112 #[.val (.int p0), .val (.int p1), .val (.long p2), .second, .val (.int q4), .val (.ref o1), .val (.int (0 : Int32)), .val (.ref em), .val (.ref a44), .val (.int (0 : Int32))] [(.ref a44)])) rfl (by rw [hml]; rfl) (Steps.refl _) (argsL := []) (rest := []) (lenOf own_pd___Z rfl) rfl (by show 2 * 0 + _ ≤ _; exact Nat.le_of_eq rfl) (hb hby at_112) (fun _ _ => ⟨rfl, e47, (by decide : 5 + 0 ≤ _), (by decide : 66 + 0 ≤ _)⟩)
        dsimp only [Pt.U, Pt.locs, Pt.cells, Pt.slots] at X50 l50 y50 z50 st50 hQ50
        subst l50 y50 z50
        obtain ⟨rfl, N50q, e50⟩ := hQ50
        have N50 := Fr.app N47 N50q
        have pre51 : ∀ t, Steps p.tables e below (T50.setTop (mkF m 115 #[.val (.int p0), .val (.int p1), .val (.long p2), .second, .val (.int q4), .val (.ref o1), .val (.int (0 : Int32)), .val (.ref em), .val (.ref a44), .val (.int (0 : Int32))] [(.int (0 : Int32))])) t → Steps p.tables e below (s₁.setTop (entryFrame m #[(.int p0), (.int p1), (.long p2)] maxLocals)) t := fun t k => pre49 _ (st50.trans k)
        have pre52 : ∀ t, Steps p.tables e below (T50.setTop (mkF m 125 #[.val (.int p0), .val (.int p1), .val (.long p2), .second, .val (.int q4), .val (.ref o1), .val (.int (0 : Int32)), .val (.ref em), .val (.ref a44), .val (.int (0 : Int32))] [(.int (1 : Int32))])) t → Steps p.tables e below (s₁.setTop (entryFrame m #[(.int p0), (.int p1), (.long p2)] maxLocals)) t := fun t k => pre51 _ (by
          show Steps p.tables e below (T50.setTop (mkF m 115 #[.val (.int p0), .val (.int p1), .val (.long p2), .second, .val (.int q4), .val (.ref o1), .val (.int (0 : Int32)), .val (.ref em), .val (.ref a44), .val (.int (0 : Int32))] [(.int (0 : Int32))])) _
          refine XS.iload X50.here hx rfl (hb hby at_115) rfl ?_
          show Steps p.tables e below (T50.setTop (mkF m 117 #[.val (.int p0), .val (.int p1), .val (.long p2), .second, .val (.int q4), .val (.ref o1), .val (.int (0 : Int32)), .val (.ref em), .val (.ref a44), .val (.int (0 : Int32))] [(.int (0 : Int32)), (.int (0 : Int32))])) _
          refine XS.icmpNo X50.here hx rfl (hb hby at_117) rfl (XT.ii_ne_f (by decide)) ?_
          show Steps p.tables e below (T50.setTop (mkF m 120 #[.val (.int p0), .val (.int p1), .val (.long p2), .second, .val (.int q4), .val (.ref o1), .val (.int (0 : Int32)), .val (.ref em), .val (.ref a44), .val (.int (0 : Int32))] [])) _
          refine XT.iconstV X50.here hx rfl (1 : Int32) (hb hby at_120) rfl ?_
          show Steps p.tables e below (T50.setTop (mkF m 121 #[.val (.int p0), .val (.int p1), .val (.long p2), .second, .val (.int q4), .val (.ref o1), .val (.int (0 : Int32)), .val (.ref em), .val (.ref a44), .val (.int (0 : Int32))] [(.int (1 : Int32))])) _
          refine XS.goto X50.here hx rfl (pc0 := 121) (pc' := 125) rfl (hb hby at_121) (by decide) (by decide) ?_
          exact k)
        obtain ⟨fs, hr, hrun, hended, hRE⟩ := Stand.leaveW (s := s) X50 Sn47 (by rw [e50]; exact (Nat.le_of_eq (congrArg Array.size e47))) (v := some (.int (1 : Int32))) (fun h => by rw [Bd.returns] at h; cases h)
        refine ⟨_, _, pre52 _ ?_, hrun, hended, _, _, rfl, ?_, hRE.1, hRE.2.1, hRE.2.2.1, hRE.2.2.2.mono (by decide) (by decide)⟩
        · show Steps p.tables e below (T50.setTop (mkF m 125 #[.val (.int p0), .val (.int p1), .val (.long p2), .second, .val (.int q4), .val (.ref o1), .val (.int (0 : Int32)), .val (.ref em), .val (.ref a44), .val (.int (0 : Int32))] [(.int (1 : Int32))])) _
          exact retN X50 hx (t := .boolean) Bd.returns (by simp) (hb hby at_125) hr
        · show Q_own_law Z p0 p1 p2 o0 o1 o2 em zr h0 n0 _ T50.heap _
          rw [e50]
          exact ⟨rfl, N50⟩
      · have pre53 : ∀ t, Steps p.tables e below (T37.setTop (mkF m 63 #[.val (.int p0), .val (.int p1), .val (.long p2), .second, .val (.int q4), .val (.ref o1), .val (.int (1 : Int32)), .unset, .unset, .unset] [(.long (p2 &&& (9223372036854775807 : Int64)))])) t → Steps p.tables e below (s₁.setTop (entryFrame m #[(.int p0), (.int p1), (.long p2)] maxLocals)) t := fun t k => pre39 _ (by
          show Steps p.tables e below (T37.setTop (mkF m 43 #[.val (.int p0), .val (.int p1), .val (.long p2), .second, .val (.int q4), .val (.ref o1), .unset, .unset, .unset, .unset] [(.int (p1 &&& (1 : Int32)))])) _
          refine XS.ifNo X37.here hx rfl (hb hby at_43) rfl (XT.i0_eq_f c43) ?_
          show Steps p.tables e below (T37.setTop (mkF m 46 #[.val (.int p0), .val (.int p1), .val (.long p2), .second, .val (.int q4), .val (.ref o1), .unset, .unset, .unset, .unset] [])) _
          refine XT.iconstV X37.here hx rfl (1 : Int32) (hb hby at_46) rfl ?_
          show Steps p.tables e below (T37.setTop (mkF m 47 #[.val (.int p0), .val (.int p1), .val (.long p2), .second, .val (.int q4), .val (.ref o1), .unset, .unset, .unset, .unset] [(.int (1 : Int32))])) _
          refine XS.goto X37.here hx rfl (pc0 := 47) (pc' := 51) rfl (hb hby at_47) (by decide) (by decide) ?_
          show Steps p.tables e below (T37.setTop (mkF m 51 #[.val (.int p0), .val (.int p1), .val (.long p2), .second, .val (.int q4), .val (.ref o1), .unset, .unset, .unset, .unset] [(.int (1 : Int32))])) _
          refine XS.istore X37.here hx rfl (hb hby at_51) rfl (l' := #[.val (.int p0), .val (.int p1), .val (.long p2), .second, .val (.int q4), .val (.ref o1), .val (.int (1 : Int32)), .unset, .unset, .unset]) rfl ?_
          show Steps p.tables e below (T37.setTop (mkF m 53 #[.val (.int p0), .val (.int p1), .val (.long p2), .second, .val (.int q4), .val (.ref o1), .val (.int (1 : Int32)), .unset, .unset, .unset] [])) _
          refine XS.iload X37.here hx rfl (hb hby at_53) rfl ?_
          show Steps p.tables e below (T37.setTop (mkF m 55 #[.val (.int p0), .val (.int p1), .val (.long p2), .second, .val (.int q4), .val (.ref o1), .val (.int (1 : Int32)), .unset, .unset, .unset] [(.int (1 : Int32))])) _
          refine XS.ifNo X37.here hx rfl (hb hby at_55) rfl (XT.i0_eq_f (by decide)) ?_
          show Steps p.tables e below (T37.setTop (mkF m 58 #[.val (.int p0), .val (.int p1), .val (.long p2), .second, .val (.int q4), .val (.ref o1), .val (.int (1 : Int32)), .unset, .unset, .unset] [])) _
          refine XS.lloadN X37.here hx rfl (hb hby at_58) rfl ?_
          show Steps p.tables e below (T37.setTop (mkF m 59 #[.val (.int p0), .val (.int p1), .val (.long p2), .second, .val (.int q4), .val (.ref o1), .val (.int (1 : Int32)), .unset, .unset, .unset] [(.long p2)])) _
          refine X37.ldc2J hx hown (mvT hZ (hw _ (List.mem_of_getElem? (i := 4) rfl))) rfl (hb hby at_59) ?_
          show Steps p.tables e below (T37.setTop (mkF m 62 #[.val (.int p0), .val (.int p1), .val (.long p2), .second, .val (.int q4), .val (.ref o1), .val (.int (1 : Int32)), .unset, .unset, .unset] [(.long (9223372036854775807 : Int64)), (.long p2)])) _
          refine XS.land X37.here hx rfl (hb hby at_62) rfl ?_
          exact k)
        obtain ⟨_, _, ⟨T54, L54, k54, n54⟩, -, X54, ⟨Lc54, hQ54, l54, y54, z54⟩, st54⟩ := Jvm.LawKit.callS X37 hx (y := (⟨"java/time/Duration", "ofNanos", "(J)Ljava/time/Duration;"⟩ : MethodName)) hown (mvT hZ (hw _ (List.mem_of_getElem? (i := 5) rfl))) (mvT hZ (hw _ (List.mem_of_getElem? (i := 6) rfl))) (mvT hZ (hw _ (List.mem_of_getElem? (i := 7) rfl))) (mvT hZ (hw _ (List.mem_of_getElem? (i := 8) rfl))) (by decide) (backOf (W := 0) (own_nanos l Z a0 hw [] (p2 &&& (9223372036854775807 : Int64)) zr h0 n0 Z0 SZ (own_max p2)) hZ (hw _ (List.mem_of_getElem? (i := 8) rfl)) (hw _ (List.mem_of_getElem? (i := 7) rfl)) (by decide) (by decide)) (g := (mkF m 63 #[.val (.int p0), .val (.int p1), .val (.long p2), .second, .val (.int q4), .val (.ref o1), .val (.int (1 : Int32)), .unset, .unset, .unset] [(.long (p2 &&& (9223372036854775807 : Int64)))])) rfl (by rw [hml]; rfl) (argsL := [(.long (p2 &&& (9223372036854775807 : Int64)))]) (rest := []) (lenOf own_pd__J_Ljava_time_Duration_ rfl) rfl (by show 2 * 0 + _ ≤ _; exact Nat.le_of_eq rfl) (hb hby at_63) (fun _ _ => ⟨rfl, e37, (by decide : 0 + 1 ≤ _), (by decide : 0 + 2 ≤ _)⟩)
        dsimp only [Pt.U, Pt.locs, Pt.cells, Pt.slots] at X54 l54 y54 z54 st54 hQ54
        subst l54 y54 z54
        obtain ⟨h54, e54⟩ : ∃ z, T54.heap = z := ⟨_, rfl⟩
        rw [e54] at hQ54
        obtain ⟨r54, rfl, N54q, K54⟩ := hQ54
        have Z54 : n0 ≤ h54.size := Nat.le_trans Z0 K54.1
        have N54 := Fr.app N0 N54q
        have pre55 : ∀ t, Steps p.tables e below (T54.setTop (mkF m 66 #[.val (.int p0), .val (.int p1), .val (.long p2), .second, .val (.int q4), .val (.ref o1), .val (.int (1 : Int32)), .unset, .unset, .unset] [(.ref r54)])) t → Steps p.tables e below (s₁.setTop (entryFrame m #[(.int p0), (.int p1), (.long p2)] maxLocals)) t := fun t k => pre53 _ (st54 _ k)
        obtain ⟨_, _, ⟨T56, L56, k56, n56⟩, -, X56, ⟨Lc56, hQ56, l56, y56, z56⟩, st56⟩ := Jvm.LawKit.callS X54 hx (y := (⟨"java/util/Optional", "of", "(Ljava/lang/Object;)Ljava/util/Optional;"⟩ : MethodName)) hown (mvT hZ (hw _ (List.mem_of_getElem? (i := 26) rfl))) (mvT hZ (hw _ (List.mem_of_getElem? (i := 27) rfl))) (mvT hZ (hw _ (List.mem_of_getElem? (i := 28) rfl))) (mvT hZ (hw _ (List.mem_of_getElem? (i := 29) rfl))) (by decide) (backOf (W := 0) (own_optOf l Z a0 hw [] r54 h54 n0 Z54) hZ (hw _ (List.mem_of_getElem? (i := 29) rfl)) (hw _ (List.mem_of_getElem? (i := 28) rfl)) (by decide) (by decide)) (g := (mkF m 66 #[.val (.int p0), .val (.int p1), .val (.long p2), .second, .val (.int q4), .val (.ref o1), .val (.int (1 : Int32)), .unset, .unset, .unset] [(.ref r54)])) rfl (by rw [hml]; rfl) (argsL := [(.ref r54)]) (rest := []) (lenOf own_pd__Ljava_lang_Object__Ljava_util_Optional_ rfl) rfl (by show 2 * 0 + _ ≤ _; exact Nat.le_of_eq rfl) (hb hby at_66) (fun _ _ => ⟨rfl, e54, (by decide : 1 + 1 ≤ _), (by decide : 2 + 1 ≤ _)⟩)
        dsimp only [Pt.U, Pt.locs, Pt.cells, Pt.slots] at X56 l56 y56 z56 st56 hQ56
        subst l56 y56 z56
        obtain ⟨h56, e56⟩ : ∃ z, T56.heap = z := ⟨_, rfl⟩
        rw [e56] at hQ56
        obtain ⟨r56, rfl, N56q, K56, EO56, FO56⟩ := hQ56
        have Z56 : n0 ≤ h56.size := Nat.le_trans Z54 K56.1
        have N56 := Fr.app N54 N56q
        have pre57 : ∀ t, Steps p.tables e below (T56.setTop (mkF m 69 #[.val (.int p0), .val (.int p1), .val (.long p2), .second, .val (.int q4), .val (.ref o1), .val (.int (1 : Int32)), .unset, .unset, .unset] [(.ref r56)])) t → Steps p.tables e below (s₁.setTop (entryFrame m #[(.int p0), (.int p1), (.long p2)] maxLocals)) t := fun t k => pre55 _ (st56 _ k)
        have pre58 : ∀ t, Steps p.tables e below (T56.setTop (mkF m 79 #[.val (.int p0), .val (.int p1), .val (.long p2), .second, .val (.int q4), .val (.ref o1), .val (.int (1 : Int32)), .val (.ref r56), .unset, .unset] [])) t → Steps p.tables e below (s₁.setTop (entryFrame m #[(.int p0), (.int p1), (.long p2)] maxLocals)) t := fun t k => pre57 _ (by
          show Steps p.tables e below (T56.setTop (mkF m 69 #[.val (.int p0), .val (.int p1), .val (.long p2), .second, .val (.int q4), .val (.ref o1), .val (.int (1 : Int32)), .unset, .unset, .unset] [(.ref r56)])) _
          refine XS.astore X56.here hx rfl (hb hby at_69) rfl rfl (l' := #[.val (.int p0), .val (.int p1), .val (.long p2), .second, .val (.int q4), .val (.ref o1), .val (.int (1 : Int32)), .val (.ref r56), .unset, .unset]) rfl ?_
          show Steps p.tables e below (T56.setTop (mkF m 71 #[.val (.int p0), .val (.int p1), .val (.long p2), .second, .val (.int q4), .val (.ref o1), .val (.int (1 : Int32)), .val (.ref r56), .unset, .unset] [])) _
          refine XS.goto X56.here hx rfl (pc0 := 71) (pc' := 79) rfl (hb hby at_71) (by decide) (by decide) ?_
          exact k)
        obtain ⟨T59, h59, X59, e59, E59, A59, D59, -, st59⟩ := newO X56 hx hZ hown (hw _ (List.mem_of_getElem? (i := 43) rfl)) (hw _ (List.mem_of_getElem? (i := 44) rfl)) (hw _ (List.mem_of_getElem? (i := 45) rfl)) e56 (g := (mkF m 79 #[.val (.int p0), .val (.int p1), .val (.long p2), .second, .val (.int q4), .val (.ref o1), .val (.int (1 : Int32)), .val (.ref r56), .unset, .unset] [])) rfl (hb hby at_79) (by decide) (by decide)
        obtain ⟨a59, ga59⟩ : ∃ z, z = h56.size := ⟨_, rfl⟩
        rw [← ga59] at A59 D59 st59
        have lt_o1_a59 : o1 < a59 := Nat.lt_of_lt_of_eq ((E1.keep K54).keep K56).lt ga59.symm
        have ne_o1_a59 : o1 ≠ a59 := Nat.ne_of_lt lt_o1_a59
        have lt_r56_a59 : r56 < a59 := Nat.lt_of_lt_of_eq EO56.lt ga59.symm
        have ne_r56_a59 : r56 ≠ a59 := Nat.ne_of_lt lt_r56_a59
        have ge_a59 : n0 ≤ a59 := Nat.le_trans Z56 (Nat.le_of_eq ga59.symm)
        have F59_isolation : Fld Z h59 a59 "com/example/freshline/freshline/server/TransactionOptions" "isolation" "Lcom/example/freshline/freshline/model/Isolation;" .null := D59 (Or.inr (hw _ (List.mem_of_getElem? (i := 68) rfl))) (ty := (.object "com/example/freshline/freshline/model/Isolation")) (by decide)
        have F59_drift : Fld Z h59 a59 "com/example/freshline/freshline/server/TransactionOptions" "drift" "Ljava/util/Optional;" .null := D59 (Or.inr (hw _ (List.mem_of_getElem? (i := 70) rfl))) (ty := (.object "java/util/Optional")) (by decide)
        have Z59 : n0 ≤ h59.size := Nat.le_trans Z56 E59.1
        have pre60 : ∀ t, Steps p.tables e below (T59.setTop (mkF m 82 #[.val (.int p0), .val (.int p1), .val (.long p2), .second, .val (.int q4), .val (.ref o1), .val (.int (1 : Int32)), .val (.ref r56), .unset, .unset] [(.ref a59)])) t → Steps p.tables e below (s₁.setTop (entryFrame m #[(.int p0), (.int p1), (.long p2)] maxLocals)) t := fun t k => pre58 _ (st59 _ k)
        have pre61 : ∀ t, Steps p.tables e below (T59.setTop (mkF m 87 #[.val (.int p0), .val (.int p1), .val (.long p2), .second, .val (.int q4), .val (.ref o1), .val (.int (1 : Int32)), .val (.ref r56), .unset, .unset] [(.ref r56), (.ref o1), (.ref a59), (.ref a59)])) t → Steps p.tables e below (s₁.setTop (entryFrame m #[(.int p0), (.int p1), (.long p2)] maxLocals)) t := fun t k => pre60 _ (by
          show Steps p.tables e below (T59.setTop (mkF m 82 #[.val (.int p0), .val (.int p1), .val (.long p2), .second, .val (.int q4), .val (.ref o1), .val (.int (1 : Int32)), .val (.ref r56), .unset, .unset] [(.ref a59)])) _
          refine XS.dup X59.here hx rfl (hb hby at_82) rfl rfl ?_
          show Steps p.tables e below (T59.setTop (mkF m 83 #[.val (.int p0), .val (.int p1), .val (.long p2), .second, .val (.int q4), .val (.ref o1), .val (.int (1 : Int32)), .val (.ref r56), .unset, .unset] [(.ref a59), (.ref a59)])) _
          refine XS.aload X59.here hx rfl (hb hby at_83) rfl rfl ?_
          show Steps p.tables e below (T59.setTop (mkF m 85 #[.val (.int p0), .val (.int p1), .val (.long p2), .second, .val (.int q4), .val (.ref o1), .val (.int (1 : Int32)), .val (.ref r56), .unset, .unset] [(.ref o1), (.ref a59), (.ref a59)])) _
          refine XS.aload X59.here hx rfl (hb hby at_85) rfl rfl ?_
          exact k)
        obtain ⟨_, _, ⟨T62, L62, k62, n62⟩, -, X62, Sn62, Sg62, ⟨Lc62, hQ62, l62, y62, z62⟩, st62⟩ := X59.specialBackS hx (y := (⟨"com/example/freshline/freshline/server/TransactionOptions", "<init>", "(Lcom/example/freshline/freshline/model/Isolation;Ljava/util/Optional;)V"⟩ : MethodName)) rfl hown (mvT hZ (hw _ (List.mem_of_getElem? (i := 46) rfl))) (mvT hZ (hw _ (List.mem_of_getElem? (i := 47) rfl))) (mvT hZ (hw _ (List.mem_of_getElem? (i := 48) rfl))) (by decide) (backOfS (W := 1) (own_toI l Z a0 hw [] a59 o1 r56 h59 n0 Z59 F59_isolation F59_drift A59 ge_a59) hZ (hw _ (List.mem_of_getElem? (i := 48) rfl)) (hw _ (List.mem_of_getElem? (i := 45) rfl)) (by decide) (by decide)) (g := (mkF m 87 #[.val (.int p0), .val (.int p1), .val (.long p2), .second, .val (.int q4), .val (.ref o1), .val (.int (1 : Int32)), .val (.ref r56), .unset, .unset] [(.ref r56), (.ref o1), (.ref a59), (.ref a59)])) rfl (by rw [hml]; rfl) (Steps.refl _) (a := a59) (argsL := [(.ref o1), (.ref r56)]) (rest := [(.ref a59)]) (lenOf own_pd__Lcom_example_freshline_freshline_model_Isolation_Ljava_util_Optional__V rfl) rfl (by show 2 * 0 + _ ≤ _; exact Nat.le_of_eq rfl) (hb hby at_87) (fun _ _ => ⟨rfl, e59, (by decide : 3 + 4 ≤ _), (by decide : 5 + 64 ≤ _)⟩)
        dsimp only [Pt.U, Pt.locs, Pt.cells, Pt.slots] at Sn62 Sg62
        dsimp only [Pt.U, Pt.locs, Pt.cells, Pt.slots] at X62 l62 y62 z62 st62 hQ62
        subst l62 y62 z62
        obtain ⟨h62, e62⟩ : ∃ z, T62.heap = z := ⟨_, rfl⟩
        rw [e62] at hQ62
        obtain ⟨rfl, N62q, K62, FI62, FD62⟩ := hQ62
        have Z62 : n0 ≤ h62.size := Nat.le_trans Z59 K62.1
        have N62 := Fr.app N56 N62q
        have pre63 : ∀ t, Steps p.tables e below (T62.setTop (mkF m 90 #[.val (.int p0), .val (.int p1), .val (.long p2), .second, .val (.int q4), .val (.ref o1), .val (.int (1 : Int32)), .val (.ref r56), .unset, .unset] [(.ref a59)])) t → Steps p.tables e below (s₁.setTop (entryFrame m #[(.int p0), (.int p1), (.long p2)] maxLocals)) t := fun t k => pre61 _ (st62.trans k)
        have hZ62 : Z.Warmed39 (s.setVm T62.vm).vm := State.Warmed39.trans hZ Sn62.1
        have hown62 : (s.setVm T62.vm).vm.findClass "com/example/freshline/freshline/server/TransactionOptionsChecksDriftPinLaw" = some m.cls := by show T62.vm.findClass _ = _; rw [Sn62.1.alike.findClass]; exact hown
        have pre64 : ∀ t, Steps p.tables e below (T62.setTop (mkF m 112 #[.val (.int p0), .val (.int p1), .val (.long p2), .second, .val (.int q4), .val (.ref o1), .val (.int (1 : Int32)), .val (.ref r56), .val (.ref a59), .val (.int (1 : Int32))] [(.ref a59)])) t → Steps p.tables e below (s₁.setTop (entryFrame m #[(.int p0), (.int p1), (.long p2)] maxLocals)) t := fun t k => pre63 _ (by
          show Steps p.tables e below (T62.setTop (mkF m 90 #[.val (.int p0), .val (.int p1), .val (.long p2), .second, .val (.int q4), .val (.ref o1), .val (.int (1 : Int32)), .val (.ref r56), .unset, .unset] [(.ref a59)])) _
          refine XS.astore X62.here hx rfl (hb hby at_90) rfl rfl (l' := #[.val (.int p0), .val (.int p1), .val (.long p2), .second, .val (.int q4), .val (.ref o1), .val (.int (1 : Int32)), .val (.ref r56), .val (.ref a59), .unset]) rfl ?_
          show Steps p.tables e below (T62.setTop (mkF m 92 #[.val (.int p0), .val (.int p1), .val (.long p2), .second, .val (.int q4), .val (.ref o1), .val (.int (1 : Int32)), .val (.ref r56), .val (.ref a59), .unset] [])) _
          refine XS.iload X62.here hx rfl (hb hby at_92) rfl ?_
          show Steps p.tables e below (T62.setTop (mkF m 94 #[.val (.int p0), .val (.int p1), .val (.long p2), .second, .val (.int q4), .val (.ref o1), .val (.int (1 : Int32)), .val (.ref r56), .val (.ref a59), .unset] [(.int (1 : Int32))])) _
          refine XS.ifNo X62.here hx rfl (hb hby at_94) rfl (XT.i0_eq_f (by decide)) ?_
          show Steps p.tables e below (T62.setTop (mkF m 97 #[.val (.int p0), .val (.int p1), .val (.long p2), .second, .val (.int q4), .val (.ref o1), .val (.int (1 : Int32)), .val (.ref r56), .val (.ref a59), .unset] [])) _
          refine XS.iload X62.here hx rfl (hb hby at_97) rfl ?_
          show Steps p.tables e below (T62.setTop (mkF m 99 #[.val (.int p0), .val (.int p1), .val (.long p2), .second, .val (.int q4), .val (.ref o1), .val (.int (1 : Int32)), .val (.ref r56), .val (.ref a59), .unset] [(.int q4)])) _
          refine XT.iconstV X62.here hx rfl (2 : Int32) (hb hby at_99) rfl ?_
          show Steps p.tables e below (T62.setTop (mkF m 100 #[.val (.int p0), .val (.int p1), .val (.long p2), .second, .val (.int q4), .val (.ref o1), .val (.int (1 : Int32)), .val (.ref r56), .val (.ref a59), .unset] [(.int (2 : Int32)), (.int q4)])) _
          refine XS.icmpNo X62.here hx rfl (hb hby at_100) rfl (XT.ii_eq_f (by rw [c24]; decide)) ?_
          show Steps p.tables e below (T62.setTop (mkF m 103 #[.val (.int p0), .val (.int p1), .val (.long p2), .second, .val (.int q4), .val (.ref o1), .val (.int (1 : Int32)), .val (.ref r56), .val (.ref a59), .unset] [])) _
          refine XT.iconstV X62.here hx rfl (1 : Int32) (hb hby at_103) rfl ?_
          show Steps p.tables e below (T62.setTop (mkF m 104 #[.val (.int p0), .val (.int p1), .val (.long p2), .second, .val (.int q4), .val (.ref o1), .val (.int (1 : Int32)), .val (.ref r56), .val (.ref a59), .unset] [(.int (1 : Int32))])) _
          refine XS.goto X62.here hx rfl (pc0 := 104) (pc' := 108) rfl (hb hby at_104) (by decide) (by decide) ?_
          show Steps p.tables e below (T62.setTop (mkF m 108 #[.val (.int p0), .val (.int p1), .val (.long p2), .second, .val (.int q4), .val (.ref o1), .val (.int (1 : Int32)), .val (.ref r56), .val (.ref a59), .unset] [(.int (1 : Int32))])) _
          refine XS.istore X62.here hx rfl (hb hby at_108) rfl (l' := #[.val (.int p0), .val (.int p1), .val (.long p2), .second, .val (.int q4), .val (.ref o1), .val (.int (1 : Int32)), .val (.ref r56), .val (.ref a59), .val (.int (1 : Int32))]) rfl ?_
          show Steps p.tables e below (T62.setTop (mkF m 110 #[.val (.int p0), .val (.int p1), .val (.long p2), .second, .val (.int q4), .val (.ref o1), .val (.int (1 : Int32)), .val (.ref r56), .val (.ref a59), .val (.int (1 : Int32))] [])) _
          refine XS.aload X62.here hx rfl (hb hby at_110) rfl rfl ?_
          exact k)
        obtain ⟨cq65, kq65, q65a, q65b, q65c⟩ := isOf hZ62 e62 (A59.keep K62)
        obtain ⟨_, _, ⟨T65, L65, k65, n65⟩, -, X65, ⟨Lc65, hQ65, l65, y65, z65⟩, st65⟩ := X62.virtualBack hx (y := (⟨"com/example/freshline/freshline/server/TransactionOptions", "checksDrift", "()Z"⟩ : MethodName)) (z := (⟨"com/example/freshline/freshline/server/TransactionOptions", "checksDrift", "()Z"⟩ : MethodName)) hown62 (mvT hZ62 (hw _ (List.mem_of_getElem? (i := 71) rfl))) (mvT hZ62 (hw _ (List.mem_of_getElem? (i := 72) rfl))) (notFace_of_selects (args := #[]) (mvT hZ62 (hw _ (List.mem_of_getElem? (i := 74) rfl)))) (mvT hZ62 (hw _ (List.mem_of_getElem? (i := 74) rfl))) (mvT hZ62 (hw _ (List.mem_of_getElem? (i := 73) rfl))) (by decide) (backOf (W := 0) (own_chk10 l Z a0 hw [] a59 o1 r56 r54 h62 n0 Z62 FI62 FD62 ((EO56.ext E59).keep K62) ((FO56.ext E59).keep K62 (ninS ne_r56_a59 nin0)) ((((E1.keep K54).keep K56).ext E59).keep K62) ((((F1.keep K54 nin0).keep K56 nin0).ext E59).keep K62 (ninS ne_o1_a59 nin0))) hZ62 (hw _ (List.mem_of_getElem? (i := 75) rfl)) (hw _ (List.mem_of_getElem? (i := 45) rfl)) (by decide) (by decide)) q65a q65c (g := (mkF m 112 #[.val (.int p0), .val (.int p1), .val (.long p2), .second, .val (.int q4), .val (.ref o1), .val (.int (1 : Int32)), .val (.ref r56), .val (.ref a59), .val (.int (1 : Int32))] [(.ref a59)])) rfl (by rw [hml]; rfl) (Steps.refl _) (argsL := []) (rest := []) (lenOf own_pd___Z rfl) rfl (by show 2 * 0 + _ ≤ _; exact Nat.le_of_eq rfl) (hb hby at_112) (fun _ _ => ⟨rfl, e62, (by decide : 7 + 0 ≤ _), (by decide : 69 + 0 ≤ _)⟩)
        dsimp only [Pt.U, Pt.locs, Pt.cells, Pt.slots] at X65 l65 y65 z65 st65 hQ65
        subst l65 y65 z65
        obtain ⟨rfl, N65q, e65⟩ := hQ65
        have N65 := Fr.app N62 N65q
        have pre66 : ∀ t, Steps p.tables e below (T65.setTop (mkF m 115 #[.val (.int p0), .val (.int p1), .val (.long p2), .second, .val (.int q4), .val (.ref o1), .val (.int (1 : Int32)), .val (.ref r56), .val (.ref a59), .val (.int (1 : Int32))] [(.int (1 : Int32))])) t → Steps p.tables e below (s₁.setTop (entryFrame m #[(.int p0), (.int p1), (.long p2)] maxLocals)) t := fun t k => pre64 _ (st65.trans k)
        have pre67 : ∀ t, Steps p.tables e below (T65.setTop (mkF m 125 #[.val (.int p0), .val (.int p1), .val (.long p2), .second, .val (.int q4), .val (.ref o1), .val (.int (1 : Int32)), .val (.ref r56), .val (.ref a59), .val (.int (1 : Int32))] [(.int (1 : Int32))])) t → Steps p.tables e below (s₁.setTop (entryFrame m #[(.int p0), (.int p1), (.long p2)] maxLocals)) t := fun t k => pre66 _ (by
          show Steps p.tables e below (T65.setTop (mkF m 115 #[.val (.int p0), .val (.int p1), .val (.long p2), .second, .val (.int q4), .val (.ref o1), .val (.int (1 : Int32)), .val (.ref r56), .val (.ref a59), .val (.int (1 : Int32))] [(.int (1 : Int32))])) _
          refine XS.iload X65.here hx rfl (hb hby at_115) rfl ?_
          show Steps p.tables e below (T65.setTop (mkF m 117 #[.val (.int p0), .val (.int p1), .val (.long p2), .second, .val (.int q4), .val (.ref o1), .val (.int (1 : Int32)), .val (.ref r56), .val (.ref a59), .val (.int (1 : Int32))] [(.int (1 : Int32)), (.int (1 : Int32))])) _
          refine XS.icmpNo X65.here hx rfl (hb hby at_117) rfl (XT.ii_ne_f (by decide)) ?_
          show Steps p.tables e below (T65.setTop (mkF m 120 #[.val (.int p0), .val (.int p1), .val (.long p2), .second, .val (.int q4), .val (.ref o1), .val (.int (1 : Int32)), .val (.ref r56), .val (.ref a59), .val (.int (1 : Int32))] [])) _
          refine XT.iconstV X65.here hx rfl (1 : Int32) (hb hby at_120) rfl ?_
          show Steps p.tables e below (T65.setTop (mkF m 121 #[.val (.int p0), .val (.int p1), .val (.long p2), .second, .val (.int q4), .val (.ref o1), .val (.int (1 : Int32)), .val (.ref r56), .val (.ref a59), .val (.int (1 : Int32))] [(.int (1 : Int32))])) _
          refine XS.goto X65.here hx rfl (pc0 := 121) (pc' := 125) rfl (hb hby at_121) (by decide) (by decide) ?_
          exact k)
        obtain ⟨fs, hr, hrun, hended, hRE⟩ := Stand.leaveW (s := s) X65 Sn62 (by rw [e65]; exact (Nat.le_of_eq (congrArg Array.size e62))) (v := some (.int (1 : Int32))) (fun h => by rw [Bd.returns] at h; cases h)
        refine ⟨_, _, pre67 _ ?_, hrun, hended, _, _, rfl, ?_, hRE.1, hRE.2.1, hRE.2.2.1, hRE.2.2.2.mono (by decide) (by decide)⟩
        · show Steps p.tables e below (T65.setTop (mkF m 125 #[.val (.int p0), .val (.int p1), .val (.long p2), .second, .val (.int q4), .val (.ref o1), .val (.int (1 : Int32)), .val (.ref r56), .val (.ref a59), .val (.int (1 : Int32))] [(.int (1 : Int32))])) _
          exact retN X65 hx (t := .boolean) Bd.returns (by simp) (hb hby at_125) hr
        · show Q_own_law Z p0 p1 p2 o0 o1 o2 em zr h0 n0 _ T65.heap _
          rw [e65]
          exact ⟨rfl, N65⟩
    · have pre68 : ∀ t, Steps p.tables e below (s₁.setTop (mkF m 35 #[.val (.int p0), .val (.int p1), .val (.long p2), .second, .val (.int q4), .unset, .unset, .unset, .unset, .unset] [])) t → Steps p.tables e below (s₁.setTop (entryFrame m #[(.int p0), (.int p1), (.long p2)] maxLocals)) t := fun t k => pre35 _ (by
        show Steps p.tables e below (s₁.setTop (mkF m 24 #[.val (.int p0), .val (.int p1), .val (.long p2), .second, .val (.int q4), .unset, .unset, .unset, .unset, .unset] [(.int (1 : Int32)), (.int q4)])) _
        refine XS.icmpYes X0.here hx rfl (pc0 := 24) (pc' := 35) rfl (hb hby at_24) rfl (XT.ii_ne_t c24) (by decide) (by decide) ?_
        exact k)
      obtain ⟨T69, X69, e69, st69⟩ := getS X0 hx hZ hown (host := "") (hw _ (List.mem_of_getElem? (i := 94) rfl)) Via.refl e0 S2 (g := (mkF m 35 #[.val (.int p0), .val (.int p1), .val (.long p2), .second, .val (.int q4), .unset, .unset, .unset, .unset, .unset] [])) rfl (hb hby at_35)
      have pre70 : ∀ t, Steps p.tables e below (T69.setTop (mkF m 38 #[.val (.int p0), .val (.int p1), .val (.long p2), .second, .val (.int q4), .unset, .unset, .unset, .unset, .unset] [(.ref o2)])) t → Steps p.tables e below (s₁.setTop (entryFrame m #[(.int p0), (.int p1), (.long p2)] maxLocals)) t := fun t k => pre68 _ (st69 _ k)
      have pre71 : ∀ t, Steps p.tables e below (T69.setTop (mkF m 43 #[.val (.int p0), .val (.int p1), .val (.long p2), .second, .val (.int q4), .val (.ref o2), .unset, .unset, .unset, .unset] [(.int (p1 &&& (1 : Int32)))])) t → Steps p.tables e below (s₁.setTop (entryFrame m #[(.int p0), (.int p1), (.long p2)] maxLocals)) t := fun t k => pre70 _ (by
        show Steps p.tables e below (T69.setTop (mkF m 38 #[.val (.int p0), .val (.int p1), .val (.long p2), .second, .val (.int q4), .unset, .unset, .unset, .unset, .unset] [(.ref o2)])) _
        refine XS.astore X69.here hx rfl (hb hby at_38) rfl rfl (l' := #[.val (.int p0), .val (.int p1), .val (.long p2), .second, .val (.int q4), .val (.ref o2), .unset, .unset, .unset, .unset]) rfl ?_
        show Steps p.tables e below (T69.setTop (mkF m 40 #[.val (.int p0), .val (.int p1), .val (.long p2), .second, .val (.int q4), .val (.ref o2), .unset, .unset, .unset, .unset] [])) _
        refine XS.iloadN X69.here hx rfl (hb hby at_40) rfl ?_
        show Steps p.tables e below (T69.setTop (mkF m 41 #[.val (.int p0), .val (.int p1), .val (.long p2), .second, .val (.int q4), .val (.ref o2), .unset, .unset, .unset, .unset] [(.int p1)])) _
        refine XT.iconstV X69.here hx rfl (1 : Int32) (hb hby at_41) rfl ?_
        show Steps p.tables e below (T69.setTop (mkF m 42 #[.val (.int p0), .val (.int p1), .val (.long p2), .second, .val (.int q4), .val (.ref o2), .unset, .unset, .unset, .unset] [(.int (1 : Int32)), (.int p1)])) _
        refine XS.iand X69.here hx rfl (hb hby at_42) rfl ?_
        exact k)
      by_cases c43 : (p1 &&& (1 : Int32)) = 0
      · have pre72 : ∀ t, Steps p.tables e below (T69.setTop (mkF m 74 #[.val (.int p0), .val (.int p1), .val (.long p2), .second, .val (.int q4), .val (.ref o2), .val (.int (0 : Int32)), .unset, .unset, .unset] [])) t → Steps p.tables e below (s₁.setTop (entryFrame m #[(.int p0), (.int p1), (.long p2)] maxLocals)) t := fun t k => pre71 _ (by
          show Steps p.tables e below (T69.setTop (mkF m 43 #[.val (.int p0), .val (.int p1), .val (.long p2), .second, .val (.int q4), .val (.ref o2), .unset, .unset, .unset, .unset] [(.int (p1 &&& (1 : Int32)))])) _
          refine XS.ifYes X69.here hx rfl (pc0 := 43) (pc' := 50) rfl (hb hby at_43) rfl (XT.i0_eq_t c43) (by decide) (by decide) ?_
          show Steps p.tables e below (T69.setTop (mkF m 50 #[.val (.int p0), .val (.int p1), .val (.long p2), .second, .val (.int q4), .val (.ref o2), .unset, .unset, .unset, .unset] [])) _
          refine XT.iconstV X69.here hx rfl (0 : Int32) (hb hby at_50) rfl ?_
          show Steps p.tables e below (T69.setTop (mkF m 51 #[.val (.int p0), .val (.int p1), .val (.long p2), .second, .val (.int q4), .val (.ref o2), .unset, .unset, .unset, .unset] [(.int (0 : Int32))])) _
          refine XS.istore X69.here hx rfl (hb hby at_51) rfl (l' := #[.val (.int p0), .val (.int p1), .val (.long p2), .second, .val (.int q4), .val (.ref o2), .val (.int (0 : Int32)), .unset, .unset, .unset]) rfl ?_
          show Steps p.tables e below (T69.setTop (mkF m 53 #[.val (.int p0), .val (.int p1), .val (.long p2), .second, .val (.int q4), .val (.ref o2), .val (.int (0 : Int32)), .unset, .unset, .unset] [])) _
          refine XS.iload X69.here hx rfl (hb hby at_53) rfl ?_
          show Steps p.tables e below (T69.setTop (mkF m 55 #[.val (.int p0), .val (.int p1), .val (.long p2), .second, .val (.int q4), .val (.ref o2), .val (.int (0 : Int32)), .unset, .unset, .unset] [(.int (0 : Int32))])) _
          refine XS.ifYes X69.here hx rfl (pc0 := 55) (pc' := 74) rfl (hb hby at_55) rfl (XT.i0_eq_t (by decide)) (by decide) (by decide) ?_
          exact k)
        obtain ⟨_, _, ⟨T73, L73, k73, n73⟩, -, X73, ⟨Lc73, hQ73, l73, y73, z73⟩, st73⟩ := Jvm.LawKit.callS X69 hx (y := (⟨"java/util/Optional", "empty", "()Ljava/util/Optional;"⟩ : MethodName)) hown (mvT hZ (hw _ (List.mem_of_getElem? (i := 90) rfl))) (mvT hZ (hw _ (List.mem_of_getElem? (i := 91) rfl))) (mvT hZ (hw _ (List.mem_of_getElem? (i := 28) rfl))) (mvT hZ (hw _ (List.mem_of_getElem? (i := 92) rfl))) (by decide) (backOf (W := 0) (own_empty l Z a0 hw [] em h0 n0 Z0 SE) hZ (hw _ (List.mem_of_getElem? (i := 92) rfl)) (hw _ (List.mem_of_getElem? (i := 28) rfl)) (by decide) (by decide)) (g := (mkF m 74 #[.val (.int p0), .val (.int p1), .val (.long p2), .second, .val (.int q4), .val (.ref o2), .val (.int (0 : Int32)), .unset, .unset, .unset] [])) rfl (by rw [hml]; rfl) (argsL := []) (rest := []) (lenOf own_pd___Ljava_util_Optional_ rfl) rfl (by show 2 * 0 + _ ≤ _; exact Nat.le_of_eq rfl) (hb hby at_74) (fun _ _ => ⟨rfl, e69, (by decide : 0 + 0 ≤ _), (by decide : 0 + 0 ≤ _)⟩)
        dsimp only [Pt.U, Pt.locs, Pt.cells, Pt.slots] at X73 l73 y73 z73 st73 hQ73
        subst l73 y73 z73
        obtain ⟨rfl, N73q, e73⟩ := hQ73
        have N73 := Fr.app N0 N73q
        have pre74 : ∀ t, Steps p.tables e below (T73.setTop (mkF m 77 #[.val (.int p0), .val (.int p1), .val (.long p2), .second, .val (.int q4), .val (.ref o2), .val (.int (0 : Int32)), .unset, .unset, .unset] [(.ref em)])) t → Steps p.tables e below (s₁.setTop (entryFrame m #[(.int p0), (.int p1), (.long p2)] maxLocals)) t := fun t k => pre72 _ (st73 _ k)
        have pre75 : ∀ t, Steps p.tables e below (T73.setTop (mkF m 79 #[.val (.int p0), .val (.int p1), .val (.long p2), .second, .val (.int q4), .val (.ref o2), .val (.int (0 : Int32)), .val (.ref em), .unset, .unset] [])) t → Steps p.tables e below (s₁.setTop (entryFrame m #[(.int p0), (.int p1), (.long p2)] maxLocals)) t := fun t k => pre74 _ (by
          show Steps p.tables e below (T73.setTop (mkF m 77 #[.val (.int p0), .val (.int p1), .val (.long p2), .second, .val (.int q4), .val (.ref o2), .val (.int (0 : Int32)), .unset, .unset, .unset] [(.ref em)])) _
          refine XS.astore X73.here hx rfl (hb hby at_77) rfl rfl (l' := #[.val (.int p0), .val (.int p1), .val (.long p2), .second, .val (.int q4), .val (.ref o2), .val (.int (0 : Int32)), .val (.ref em), .unset, .unset]) rfl ?_
          exact k)
        obtain ⟨T76, h76, X76, e76, E76, A76, D76, -, st76⟩ := newO X73 hx hZ hown (hw _ (List.mem_of_getElem? (i := 43) rfl)) (hw _ (List.mem_of_getElem? (i := 44) rfl)) (hw _ (List.mem_of_getElem? (i := 45) rfl)) e73 (g := (mkF m 79 #[.val (.int p0), .val (.int p1), .val (.long p2), .second, .val (.int q4), .val (.ref o2), .val (.int (0 : Int32)), .val (.ref em), .unset, .unset] [])) rfl (hb hby at_79) (by decide) (by decide)
        obtain ⟨a76, ga76⟩ : ∃ z, z = h0.size := ⟨_, rfl⟩
        rw [← ga76] at A76 D76 st76
        have lt_o2_a76 : o2 < a76 := Nat.lt_of_lt_of_eq E2.lt ga76.symm
        have ne_o2_a76 : o2 ≠ a76 := Nat.ne_of_lt lt_o2_a76
        have lt_em_a76 : em < a76 := Nat.lt_of_lt_of_eq EE.lt ga76.symm
        have ne_em_a76 : em ≠ a76 := Nat.ne_of_lt lt_em_a76
        have ge_a76 : n0 ≤ a76 := Nat.le_trans Z0 (Nat.le_of_eq ga76.symm)
        have F76_isolation : Fld Z h76 a76 "com/example/freshline/freshline/server/TransactionOptions" "isolation" "Lcom/example/freshline/freshline/model/Isolation;" .null := D76 (Or.inr (hw _ (List.mem_of_getElem? (i := 68) rfl))) (ty := (.object "com/example/freshline/freshline/model/Isolation")) (by decide)
        have F76_drift : Fld Z h76 a76 "com/example/freshline/freshline/server/TransactionOptions" "drift" "Ljava/util/Optional;" .null := D76 (Or.inr (hw _ (List.mem_of_getElem? (i := 70) rfl))) (ty := (.object "java/util/Optional")) (by decide)
        have Z76 : n0 ≤ h76.size := Nat.le_trans Z0 E76.1
        have pre77 : ∀ t, Steps p.tables e below (T76.setTop (mkF m 82 #[.val (.int p0), .val (.int p1), .val (.long p2), .second, .val (.int q4), .val (.ref o2), .val (.int (0 : Int32)), .val (.ref em), .unset, .unset] [(.ref a76)])) t → Steps p.tables e below (s₁.setTop (entryFrame m #[(.int p0), (.int p1), (.long p2)] maxLocals)) t := fun t k => pre75 _ (st76 _ k)
        have pre78 : ∀ t, Steps p.tables e below (T76.setTop (mkF m 87 #[.val (.int p0), .val (.int p1), .val (.long p2), .second, .val (.int q4), .val (.ref o2), .val (.int (0 : Int32)), .val (.ref em), .unset, .unset] [(.ref em), (.ref o2), (.ref a76), (.ref a76)])) t → Steps p.tables e below (s₁.setTop (entryFrame m #[(.int p0), (.int p1), (.long p2)] maxLocals)) t := fun t k => pre77 _ (by
          show Steps p.tables e below (T76.setTop (mkF m 82 #[.val (.int p0), .val (.int p1), .val (.long p2), .second, .val (.int q4), .val (.ref o2), .val (.int (0 : Int32)), .val (.ref em), .unset, .unset] [(.ref a76)])) _
          refine XS.dup X76.here hx rfl (hb hby at_82) rfl rfl ?_
          show Steps p.tables e below (T76.setTop (mkF m 83 #[.val (.int p0), .val (.int p1), .val (.long p2), .second, .val (.int q4), .val (.ref o2), .val (.int (0 : Int32)), .val (.ref em), .unset, .unset] [(.ref a76), (.ref a76)])) _
          refine XS.aload X76.here hx rfl (hb hby at_83) rfl rfl ?_
          show Steps p.tables e below (T76.setTop (mkF m 85 #[.val (.int p0), .val (.int p1), .val (.long p2), .second, .val (.int q4), .val (.ref o2), .val (.int (0 : Int32)), .val (.ref em), .unset, .unset] [(.ref o2), (.ref a76), (.ref a76)])) _
          refine XS.aload X76.here hx rfl (hb hby at_85) rfl rfl ?_
          exact k)
        obtain ⟨_, _, ⟨T79, L79, k79, n79⟩, -, X79, Sn79, Sg79, ⟨Lc79, hQ79, l79, y79, z79⟩, st79⟩ := X76.specialBackS hx (y := (⟨"com/example/freshline/freshline/server/TransactionOptions", "<init>", "(Lcom/example/freshline/freshline/model/Isolation;Ljava/util/Optional;)V"⟩ : MethodName)) rfl hown (mvT hZ (hw _ (List.mem_of_getElem? (i := 46) rfl))) (mvT hZ (hw _ (List.mem_of_getElem? (i := 47) rfl))) (mvT hZ (hw _ (List.mem_of_getElem? (i := 48) rfl))) (by decide) (backOfS (W := 1) (own_toI l Z a0 hw [] a76 o2 em h76 n0 Z76 F76_isolation F76_drift A76 ge_a76) hZ (hw _ (List.mem_of_getElem? (i := 48) rfl)) (hw _ (List.mem_of_getElem? (i := 45) rfl)) (by decide) (by decide)) (g := (mkF m 87 #[.val (.int p0), .val (.int p1), .val (.long p2), .second, .val (.int q4), .val (.ref o2), .val (.int (0 : Int32)), .val (.ref em), .unset, .unset] [(.ref em), (.ref o2), (.ref a76), (.ref a76)])) rfl (by rw [hml]; rfl) (Steps.refl _) (a := a76) (argsL := [(.ref o2), (.ref em)]) (rest := [(.ref a76)]) (lenOf own_pd__Lcom_example_freshline_freshline_model_Isolation_Ljava_util_Optional__V rfl) rfl (by show 2 * 0 + _ ≤ _; exact Nat.le_of_eq rfl) (hb hby at_87) (fun _ _ => ⟨rfl, e76, (by decide : 1 + 4 ≤ _), (by decide : 2 + 64 ≤ _)⟩)
        dsimp only [Pt.U, Pt.locs, Pt.cells, Pt.slots] at Sn79 Sg79
        dsimp only [Pt.U, Pt.locs, Pt.cells, Pt.slots] at X79 l79 y79 z79 st79 hQ79
        subst l79 y79 z79
        obtain ⟨h79, e79⟩ : ∃ z, T79.heap = z := ⟨_, rfl⟩
        rw [e79] at hQ79
        obtain ⟨rfl, N79q, K79, FI79, FD79⟩ := hQ79
        have Z79 : n0 ≤ h79.size := Nat.le_trans Z76 K79.1
        have N79 := Fr.app N73 N79q
        have pre80 : ∀ t, Steps p.tables e below (T79.setTop (mkF m 90 #[.val (.int p0), .val (.int p1), .val (.long p2), .second, .val (.int q4), .val (.ref o2), .val (.int (0 : Int32)), .val (.ref em), .unset, .unset] [(.ref a76)])) t → Steps p.tables e below (s₁.setTop (entryFrame m #[(.int p0), (.int p1), (.long p2)] maxLocals)) t := fun t k => pre78 _ (st79.trans k)
        have hZ79 : Z.Warmed39 (s.setVm T79.vm).vm := State.Warmed39.trans hZ Sn79.1
        have hown79 : (s.setVm T79.vm).vm.findClass "com/example/freshline/freshline/server/TransactionOptionsChecksDriftPinLaw" = some m.cls := by show T79.vm.findClass _ = _; rw [Sn79.1.alike.findClass]; exact hown
        have pre81 : ∀ t, Steps p.tables e below (T79.setTop (mkF m 112 #[.val (.int p0), .val (.int p1), .val (.long p2), .second, .val (.int q4), .val (.ref o2), .val (.int (0 : Int32)), .val (.ref em), .val (.ref a76), .val (.int (0 : Int32))] [(.ref a76)])) t → Steps p.tables e below (s₁.setTop (entryFrame m #[(.int p0), (.int p1), (.long p2)] maxLocals)) t := fun t k => pre80 _ (by
          show Steps p.tables e below (T79.setTop (mkF m 90 #[.val (.int p0), .val (.int p1), .val (.long p2), .second, .val (.int q4), .val (.ref o2), .val (.int (0 : Int32)), .val (.ref em), .unset, .unset] [(.ref a76)])) _
          refine XS.astore X79.here hx rfl (hb hby at_90) rfl rfl (l' := #[.val (.int p0), .val (.int p1), .val (.long p2), .second, .val (.int q4), .val (.ref o2), .val (.int (0 : Int32)), .val (.ref em), .val (.ref a76), .unset]) rfl ?_
          show Steps p.tables e below (T79.setTop (mkF m 92 #[.val (.int p0), .val (.int p1), .val (.long p2), .second, .val (.int q4), .val (.ref o2), .val (.int (0 : Int32)), .val (.ref em), .val (.ref a76), .unset] [])) _
          refine XS.iload X79.here hx rfl (hb hby at_92) rfl ?_
          show Steps p.tables e below (T79.setTop (mkF m 94 #[.val (.int p0), .val (.int p1), .val (.long p2), .second, .val (.int q4), .val (.ref o2), .val (.int (0 : Int32)), .val (.ref em), .val (.ref a76), .unset] [(.int (0 : Int32))])) _
          refine XS.ifYes X79.here hx rfl (pc0 := 94) (pc' := 107) rfl (hb hby at_94) rfl (XT.i0_eq_t (by decide)) (by decide) (by decide) ?_
          show Steps p.tables e below (T79.setTop (mkF m 107 #[.val (.int p0), .val (.int p1), .val (.long p2), .second, .val (.int q4), .val (.ref o2), .val (.int (0 : Int32)), .val (.ref em), .val (.ref a76), .unset] [])) _
          refine XT.iconstV X79.here hx rfl (0 : Int32) (hb hby at_107) rfl ?_
          show Steps p.tables e below (T79.setTop (mkF m 108 #[.val (.int p0), .val (.int p1), .val (.long p2), .second, .val (.int q4), .val (.ref o2), .val (.int (0 : Int32)), .val (.ref em), .val (.ref a76), .unset] [(.int (0 : Int32))])) _
          refine XS.istore X79.here hx rfl (hb hby at_108) rfl (l' := #[.val (.int p0), .val (.int p1), .val (.long p2), .second, .val (.int q4), .val (.ref o2), .val (.int (0 : Int32)), .val (.ref em), .val (.ref a76), .val (.int (0 : Int32))]) rfl ?_
          show Steps p.tables e below (T79.setTop (mkF m 110 #[.val (.int p0), .val (.int p1), .val (.long p2), .second, .val (.int q4), .val (.ref o2), .val (.int (0 : Int32)), .val (.ref em), .val (.ref a76), .val (.int (0 : Int32))] [])) _
          refine XS.aload X79.here hx rfl (hb hby at_110) rfl rfl ?_
          exact k)
        obtain ⟨cq82, kq82, q82a, q82b, q82c⟩ := isOf hZ79 e79 (A76.keep K79)
        obtain ⟨_, _, ⟨T82, L82, k82, n82⟩, -, X82, ⟨Lc82, hQ82, l82, y82, z82⟩, st82⟩ := X79.virtualBack hx (y := (⟨"com/example/freshline/freshline/server/TransactionOptions", "checksDrift", "()Z"⟩ : MethodName)) (z := (⟨"com/example/freshline/freshline/server/TransactionOptions", "checksDrift", "()Z"⟩ : MethodName)) hown79 (mvT hZ79 (hw _ (List.mem_of_getElem? (i := 71) rfl))) (mvT hZ79 (hw _ (List.mem_of_getElem? (i := 72) rfl))) (notFace_of_selects (args := #[]) (mvT hZ79 (hw _ (List.mem_of_getElem? (i := 74) rfl)))) (mvT hZ79 (hw _ (List.mem_of_getElem? (i := 74) rfl))) (mvT hZ79 (hw _ (List.mem_of_getElem? (i := 73) rfl))) (by decide) (backOf (W := 0) (own_chk00 l Z a0 hw [] a76 o2 em  h79 n0 Z79 FI79 FD79 ((EE.ext E76).keep K79) ((FE.ext E76).keep K79 (ninS ne_em_a76 nin0)) ) hZ79 (hw _ (List.mem_of_getElem? (i := 75) rfl)) (hw _ (List.mem_of_getElem? (i := 45) rfl)) (by decide) (by decide)) q82a q82c (g := (mkF m 112 #[.val (.int p0), .val (.int p1), .val (.long p2), .second, .val (.int q4), .val (.ref o2), .val (.int (0 : Int32)), .val (.ref em), .val (.ref a76), .val (.int (0 : Int32))] [(.ref a76)])) rfl (by rw [hml]; rfl) (Steps.refl _) (argsL := []) (rest := []) (lenOf own_pd___Z rfl) rfl (by show 2 * 0 + _ ≤ _; exact Nat.le_of_eq rfl) (hb hby at_112) (fun _ _ => ⟨rfl, e79, (by decide : 5 + 0 ≤ _), (by decide : 66 + 0 ≤ _)⟩)
        dsimp only [Pt.U, Pt.locs, Pt.cells, Pt.slots] at X82 l82 y82 z82 st82 hQ82
        subst l82 y82 z82
        obtain ⟨rfl, N82q, e82⟩ := hQ82
        have N82 := Fr.app N79 N82q
        have pre83 : ∀ t, Steps p.tables e below (T82.setTop (mkF m 115 #[.val (.int p0), .val (.int p1), .val (.long p2), .second, .val (.int q4), .val (.ref o2), .val (.int (0 : Int32)), .val (.ref em), .val (.ref a76), .val (.int (0 : Int32))] [(.int (0 : Int32))])) t → Steps p.tables e below (s₁.setTop (entryFrame m #[(.int p0), (.int p1), (.long p2)] maxLocals)) t := fun t k => pre81 _ (st82.trans k)
        have pre84 : ∀ t, Steps p.tables e below (T82.setTop (mkF m 125 #[.val (.int p0), .val (.int p1), .val (.long p2), .second, .val (.int q4), .val (.ref o2), .val (.int (0 : Int32)), .val (.ref em), .val (.ref a76), .val (.int (0 : Int32))] [(.int (1 : Int32))])) t → Steps p.tables e below (s₁.setTop (entryFrame m #[(.int p0), (.int p1), (.long p2)] maxLocals)) t := fun t k => pre83 _ (by
          show Steps p.tables e below (T82.setTop (mkF m 115 #[.val (.int p0), .val (.int p1), .val (.long p2), .second, .val (.int q4), .val (.ref o2), .val (.int (0 : Int32)), .val (.ref em), .val (.ref a76), .val (.int (0 : Int32))] [(.int (0 : Int32))])) _
          refine XS.iload X82.here hx rfl (hb hby at_115) rfl ?_
          show Steps p.tables e below (T82.setTop (mkF m 117 #[.val (.int p0), .val (.int p1), .val (.long p2), .second, .val (.int q4), .val (.ref o2), .val (.int (0 : Int32)), .val (.ref em), .val (.ref a76), .val (.int (0 : Int32))] [(.int (0 : Int32)), (.int (0 : Int32))])) _
          refine XS.icmpNo X82.here hx rfl (hb hby at_117) rfl (XT.ii_ne_f (by decide)) ?_
          show Steps p.tables e below (T82.setTop (mkF m 120 #[.val (.int p0), .val (.int p1), .val (.long p2), .second, .val (.int q4), .val (.ref o2), .val (.int (0 : Int32)), .val (.ref em), .val (.ref a76), .val (.int (0 : Int32))] [])) _
          refine XT.iconstV X82.here hx rfl (1 : Int32) (hb hby at_120) rfl ?_
          show Steps p.tables e below (T82.setTop (mkF m 121 #[.val (.int p0), .val (.int p1), .val (.long p2), .second, .val (.int q4), .val (.ref o2), .val (.int (0 : Int32)), .val (.ref em), .val (.ref a76), .val (.int (0 : Int32))] [(.int (1 : Int32))])) _
          refine XS.goto X82.here hx rfl (pc0 := 121) (pc' := 125) rfl (hb hby at_121) (by decide) (by decide) ?_
          exact k)
        obtain ⟨fs, hr, hrun, hended, hRE⟩ := Stand.leaveW (s := s) X82 Sn79 (by rw [e82]; exact (Nat.le_of_eq (congrArg Array.size e79))) (v := some (.int (1 : Int32))) (fun h => by rw [Bd.returns] at h; cases h)
        refine ⟨_, _, pre84 _ ?_, hrun, hended, _, _, rfl, ?_, hRE.1, hRE.2.1, hRE.2.2.1, hRE.2.2.2.mono (by decide) (by decide)⟩
        · show Steps p.tables e below (T82.setTop (mkF m 125 #[.val (.int p0), .val (.int p1), .val (.long p2), .second, .val (.int q4), .val (.ref o2), .val (.int (0 : Int32)), .val (.ref em), .val (.ref a76), .val (.int (0 : Int32))] [(.int (1 : Int32))])) _
          exact retN X82 hx (t := .boolean) Bd.returns (by simp) (hb hby at_125) hr
        · show Q_own_law Z p0 p1 p2 o0 o1 o2 em zr h0 n0 _ T82.heap _
          rw [e82]
          exact ⟨rfl, N82⟩
      · have pre85 : ∀ t, Steps p.tables e below (T69.setTop (mkF m 63 #[.val (.int p0), .val (.int p1), .val (.long p2), .second, .val (.int q4), .val (.ref o2), .val (.int (1 : Int32)), .unset, .unset, .unset] [(.long (p2 &&& (9223372036854775807 : Int64)))])) t → Steps p.tables e below (s₁.setTop (entryFrame m #[(.int p0), (.int p1), (.long p2)] maxLocals)) t := fun t k => pre71 _ (by
          show Steps p.tables e below (T69.setTop (mkF m 43 #[.val (.int p0), .val (.int p1), .val (.long p2), .second, .val (.int q4), .val (.ref o2), .unset, .unset, .unset, .unset] [(.int (p1 &&& (1 : Int32)))])) _
          refine XS.ifNo X69.here hx rfl (hb hby at_43) rfl (XT.i0_eq_f c43) ?_
          show Steps p.tables e below (T69.setTop (mkF m 46 #[.val (.int p0), .val (.int p1), .val (.long p2), .second, .val (.int q4), .val (.ref o2), .unset, .unset, .unset, .unset] [])) _
          refine XT.iconstV X69.here hx rfl (1 : Int32) (hb hby at_46) rfl ?_
          show Steps p.tables e below (T69.setTop (mkF m 47 #[.val (.int p0), .val (.int p1), .val (.long p2), .second, .val (.int q4), .val (.ref o2), .unset, .unset, .unset, .unset] [(.int (1 : Int32))])) _
          refine XS.goto X69.here hx rfl (pc0 := 47) (pc' := 51) rfl (hb hby at_47) (by decide) (by decide) ?_
          show Steps p.tables e below (T69.setTop (mkF m 51 #[.val (.int p0), .val (.int p1), .val (.long p2), .second, .val (.int q4), .val (.ref o2), .unset, .unset, .unset, .unset] [(.int (1 : Int32))])) _
          refine XS.istore X69.here hx rfl (hb hby at_51) rfl (l' := #[.val (.int p0), .val (.int p1), .val (.long p2), .second, .val (.int q4), .val (.ref o2), .val (.int (1 : Int32)), .unset, .unset, .unset]) rfl ?_
          show Steps p.tables e below (T69.setTop (mkF m 53 #[.val (.int p0), .val (.int p1), .val (.long p2), .second, .val (.int q4), .val (.ref o2), .val (.int (1 : Int32)), .unset, .unset, .unset] [])) _
          refine XS.iload X69.here hx rfl (hb hby at_53) rfl ?_
          show Steps p.tables e below (T69.setTop (mkF m 55 #[.val (.int p0), .val (.int p1), .val (.long p2), .second, .val (.int q4), .val (.ref o2), .val (.int (1 : Int32)), .unset, .unset, .unset] [(.int (1 : Int32))])) _
          refine XS.ifNo X69.here hx rfl (hb hby at_55) rfl (XT.i0_eq_f (by decide)) ?_
          show Steps p.tables e below (T69.setTop (mkF m 58 #[.val (.int p0), .val (.int p1), .val (.long p2), .second, .val (.int q4), .val (.ref o2), .val (.int (1 : Int32)), .unset, .unset, .unset] [])) _
          refine XS.lloadN X69.here hx rfl (hb hby at_58) rfl ?_
          show Steps p.tables e below (T69.setTop (mkF m 59 #[.val (.int p0), .val (.int p1), .val (.long p2), .second, .val (.int q4), .val (.ref o2), .val (.int (1 : Int32)), .unset, .unset, .unset] [(.long p2)])) _
          refine X69.ldc2J hx hown (mvT hZ (hw _ (List.mem_of_getElem? (i := 4) rfl))) rfl (hb hby at_59) ?_
          show Steps p.tables e below (T69.setTop (mkF m 62 #[.val (.int p0), .val (.int p1), .val (.long p2), .second, .val (.int q4), .val (.ref o2), .val (.int (1 : Int32)), .unset, .unset, .unset] [(.long (9223372036854775807 : Int64)), (.long p2)])) _
          refine XS.land X69.here hx rfl (hb hby at_62) rfl ?_
          exact k)
        obtain ⟨_, _, ⟨T86, L86, k86, n86⟩, -, X86, ⟨Lc86, hQ86, l86, y86, z86⟩, st86⟩ := Jvm.LawKit.callS X69 hx (y := (⟨"java/time/Duration", "ofNanos", "(J)Ljava/time/Duration;"⟩ : MethodName)) hown (mvT hZ (hw _ (List.mem_of_getElem? (i := 5) rfl))) (mvT hZ (hw _ (List.mem_of_getElem? (i := 6) rfl))) (mvT hZ (hw _ (List.mem_of_getElem? (i := 7) rfl))) (mvT hZ (hw _ (List.mem_of_getElem? (i := 8) rfl))) (by decide) (backOf (W := 0) (own_nanos l Z a0 hw [] (p2 &&& (9223372036854775807 : Int64)) zr h0 n0 Z0 SZ (own_max p2)) hZ (hw _ (List.mem_of_getElem? (i := 8) rfl)) (hw _ (List.mem_of_getElem? (i := 7) rfl)) (by decide) (by decide)) (g := (mkF m 63 #[.val (.int p0), .val (.int p1), .val (.long p2), .second, .val (.int q4), .val (.ref o2), .val (.int (1 : Int32)), .unset, .unset, .unset] [(.long (p2 &&& (9223372036854775807 : Int64)))])) rfl (by rw [hml]; rfl) (argsL := [(.long (p2 &&& (9223372036854775807 : Int64)))]) (rest := []) (lenOf own_pd__J_Ljava_time_Duration_ rfl) rfl (by show 2 * 0 + _ ≤ _; exact Nat.le_of_eq rfl) (hb hby at_63) (fun _ _ => ⟨rfl, e69, (by decide : 0 + 1 ≤ _), (by decide : 0 + 2 ≤ _)⟩)
        dsimp only [Pt.U, Pt.locs, Pt.cells, Pt.slots] at X86 l86 y86 z86 st86 hQ86
        subst l86 y86 z86
        obtain ⟨h86, e86⟩ : ∃ z, T86.heap = z := ⟨_, rfl⟩
        rw [e86] at hQ86
        obtain ⟨r86, rfl, N86q, K86⟩ := hQ86
        have Z86 : n0 ≤ h86.size := Nat.le_trans Z0 K86.1
        have N86 := Fr.app N0 N86q
        have pre87 : ∀ t, Steps p.tables e below (T86.setTop (mkF m 66 #[.val (.int p0), .val (.int p1), .val (.long p2), .second, .val (.int q4), .val (.ref o2), .val (.int (1 : Int32)), .unset, .unset, .unset] [(.ref r86)])) t → Steps p.tables e below (s₁.setTop (entryFrame m #[(.int p0), (.int p1), (.long p2)] maxLocals)) t := fun t k => pre85 _ (st86 _ k)
        obtain ⟨_, _, ⟨T88, L88, k88, n88⟩, -, X88, ⟨Lc88, hQ88, l88, y88, z88⟩, st88⟩ := Jvm.LawKit.callS X86 hx (y := (⟨"java/util/Optional", "of", "(Ljava/lang/Object;)Ljava/util/Optional;"⟩ : MethodName)) hown (mvT hZ (hw _ (List.mem_of_getElem? (i := 26) rfl))) (mvT hZ (hw _ (List.mem_of_getElem? (i := 27) rfl))) (mvT hZ (hw _ (List.mem_of_getElem? (i := 28) rfl))) (mvT hZ (hw _ (List.mem_of_getElem? (i := 29) rfl))) (by decide) (backOf (W := 0) (own_optOf l Z a0 hw [] r86 h86 n0 Z86) hZ (hw _ (List.mem_of_getElem? (i := 29) rfl)) (hw _ (List.mem_of_getElem? (i := 28) rfl)) (by decide) (by decide)) (g := (mkF m 66 #[.val (.int p0), .val (.int p1), .val (.long p2), .second, .val (.int q4), .val (.ref o2), .val (.int (1 : Int32)), .unset, .unset, .unset] [(.ref r86)])) rfl (by rw [hml]; rfl) (argsL := [(.ref r86)]) (rest := []) (lenOf own_pd__Ljava_lang_Object__Ljava_util_Optional_ rfl) rfl (by show 2 * 0 + _ ≤ _; exact Nat.le_of_eq rfl) (hb hby at_66) (fun _ _ => ⟨rfl, e86, (by decide : 1 + 1 ≤ _), (by decide : 2 + 1 ≤ _)⟩)
        dsimp only [Pt.U, Pt.locs, Pt.cells, Pt.slots] at X88 l88 y88 z88 st88 hQ88
        subst l88 y88 z88
        obtain ⟨h88, e88⟩ : ∃ z, T88.heap = z := ⟨_, rfl⟩
        rw [e88] at hQ88
        obtain ⟨r88, rfl, N88q, K88, EO88, FO88⟩ := hQ88
        have Z88 : n0 ≤ h88.size := Nat.le_trans Z86 K88.1
        have N88 := Fr.app N86 N88q
        have pre89 : ∀ t, Steps p.tables e below (T88.setTop (mkF m 69 #[.val (.int p0), .val (.int p1), .val (.long p2), .second, .val (.int q4), .val (.ref o2), .val (.int (1 : Int32)), .unset, .unset, .unset] [(.ref r88)])) t → Steps p.tables e below (s₁.setTop (entryFrame m #[(.int p0), (.int p1), (.long p2)] maxLocals)) t := fun t k => pre87 _ (st88 _ k)
        have pre90 : ∀ t, Steps p.tables e below (T88.setTop (mkF m 79 #[.val (.int p0), .val (.int p1), .val (.long p2), .second, .val (.int q4), .val (.ref o2), .val (.int (1 : Int32)), .val (.ref r88), .unset, .unset] [])) t → Steps p.tables e below (s₁.setTop (entryFrame m #[(.int p0), (.int p1), (.long p2)] maxLocals)) t := fun t k => pre89 _ (by
          show Steps p.tables e below (T88.setTop (mkF m 69 #[.val (.int p0), .val (.int p1), .val (.long p2), .second, .val (.int q4), .val (.ref o2), .val (.int (1 : Int32)), .unset, .unset, .unset] [(.ref r88)])) _
          refine XS.astore X88.here hx rfl (hb hby at_69) rfl rfl (l' := #[.val (.int p0), .val (.int p1), .val (.long p2), .second, .val (.int q4), .val (.ref o2), .val (.int (1 : Int32)), .val (.ref r88), .unset, .unset]) rfl ?_
          show Steps p.tables e below (T88.setTop (mkF m 71 #[.val (.int p0), .val (.int p1), .val (.long p2), .second, .val (.int q4), .val (.ref o2), .val (.int (1 : Int32)), .val (.ref r88), .unset, .unset] [])) _
          refine XS.goto X88.here hx rfl (pc0 := 71) (pc' := 79) rfl (hb hby at_71) (by decide) (by decide) ?_
          exact k)
        obtain ⟨T91, h91, X91, e91, E91, A91, D91, -, st91⟩ := newO X88 hx hZ hown (hw _ (List.mem_of_getElem? (i := 43) rfl)) (hw _ (List.mem_of_getElem? (i := 44) rfl)) (hw _ (List.mem_of_getElem? (i := 45) rfl)) e88 (g := (mkF m 79 #[.val (.int p0), .val (.int p1), .val (.long p2), .second, .val (.int q4), .val (.ref o2), .val (.int (1 : Int32)), .val (.ref r88), .unset, .unset] [])) rfl (hb hby at_79) (by decide) (by decide)
        obtain ⟨a91, ga91⟩ : ∃ z, z = h88.size := ⟨_, rfl⟩
        rw [← ga91] at A91 D91 st91
        have lt_o2_a91 : o2 < a91 := Nat.lt_of_lt_of_eq ((E2.keep K86).keep K88).lt ga91.symm
        have ne_o2_a91 : o2 ≠ a91 := Nat.ne_of_lt lt_o2_a91
        have lt_r88_a91 : r88 < a91 := Nat.lt_of_lt_of_eq EO88.lt ga91.symm
        have ne_r88_a91 : r88 ≠ a91 := Nat.ne_of_lt lt_r88_a91
        have ge_a91 : n0 ≤ a91 := Nat.le_trans Z88 (Nat.le_of_eq ga91.symm)
        have F91_isolation : Fld Z h91 a91 "com/example/freshline/freshline/server/TransactionOptions" "isolation" "Lcom/example/freshline/freshline/model/Isolation;" .null := D91 (Or.inr (hw _ (List.mem_of_getElem? (i := 68) rfl))) (ty := (.object "com/example/freshline/freshline/model/Isolation")) (by decide)
        have F91_drift : Fld Z h91 a91 "com/example/freshline/freshline/server/TransactionOptions" "drift" "Ljava/util/Optional;" .null := D91 (Or.inr (hw _ (List.mem_of_getElem? (i := 70) rfl))) (ty := (.object "java/util/Optional")) (by decide)
        have Z91 : n0 ≤ h91.size := Nat.le_trans Z88 E91.1
        have pre92 : ∀ t, Steps p.tables e below (T91.setTop (mkF m 82 #[.val (.int p0), .val (.int p1), .val (.long p2), .second, .val (.int q4), .val (.ref o2), .val (.int (1 : Int32)), .val (.ref r88), .unset, .unset] [(.ref a91)])) t → Steps p.tables e below (s₁.setTop (entryFrame m #[(.int p0), (.int p1), (.long p2)] maxLocals)) t := fun t k => pre90 _ (st91 _ k)
        have pre93 : ∀ t, Steps p.tables e below (T91.setTop (mkF m 87 #[.val (.int p0), .val (.int p1), .val (.long p2), .second, .val (.int q4), .val (.ref o2), .val (.int (1 : Int32)), .val (.ref r88), .unset, .unset] [(.ref r88), (.ref o2), (.ref a91), (.ref a91)])) t → Steps p.tables e below (s₁.setTop (entryFrame m #[(.int p0), (.int p1), (.long p2)] maxLocals)) t := fun t k => pre92 _ (by
          show Steps p.tables e below (T91.setTop (mkF m 82 #[.val (.int p0), .val (.int p1), .val (.long p2), .second, .val (.int q4), .val (.ref o2), .val (.int (1 : Int32)), .val (.ref r88), .unset, .unset] [(.ref a91)])) _
          refine XS.dup X91.here hx rfl (hb hby at_82) rfl rfl ?_
          show Steps p.tables e below (T91.setTop (mkF m 83 #[.val (.int p0), .val (.int p1), .val (.long p2), .second, .val (.int q4), .val (.ref o2), .val (.int (1 : Int32)), .val (.ref r88), .unset, .unset] [(.ref a91), (.ref a91)])) _
          refine XS.aload X91.here hx rfl (hb hby at_83) rfl rfl ?_
          show Steps p.tables e below (T91.setTop (mkF m 85 #[.val (.int p0), .val (.int p1), .val (.long p2), .second, .val (.int q4), .val (.ref o2), .val (.int (1 : Int32)), .val (.ref r88), .unset, .unset] [(.ref o2), (.ref a91), (.ref a91)])) _
          refine XS.aload X91.here hx rfl (hb hby at_85) rfl rfl ?_
          exact k)
        obtain ⟨_, _, ⟨T94, L94, k94, n94⟩, -, X94, Sn94, Sg94, ⟨Lc94, hQ94, l94, y94, z94⟩, st94⟩ := X91.specialBackS hx (y := (⟨"com/example/freshline/freshline/server/TransactionOptions", "<init>", "(Lcom/example/freshline/freshline/model/Isolation;Ljava/util/Optional;)V"⟩ : MethodName)) rfl hown (mvT hZ (hw _ (List.mem_of_getElem? (i := 46) rfl))) (mvT hZ (hw _ (List.mem_of_getElem? (i := 47) rfl))) (mvT hZ (hw _ (List.mem_of_getElem? (i := 48) rfl))) (by decide) (backOfS (W := 1) (own_toI l Z a0 hw [] a91 o2 r88 h91 n0 Z91 F91_isolation F91_drift A91 ge_a91) hZ (hw _ (List.mem_of_getElem? (i := 48) rfl)) (hw _ (List.mem_of_getElem? (i := 45) rfl)) (by decide) (by decide)) (g := (mkF m 87 #[.val (.int p0), .val (.int p1), .val (.long p2), .second, .val (.int q4), .val (.ref o2), .val (.int (1 : Int32)), .val (.ref r88), .unset, .unset] [(.ref r88), (.ref o2), (.ref a91), (.ref a91)])) rfl (by rw [hml]; rfl) (Steps.refl _) (a := a91) (argsL := [(.ref o2), (.ref r88)]) (rest := [(.ref a91)]) (lenOf own_pd__Lcom_example_freshline_freshline_model_Isolation_Ljava_util_Optional__V rfl) rfl (by show 2 * 0 + _ ≤ _; exact Nat.le_of_eq rfl) (hb hby at_87) (fun _ _ => ⟨rfl, e91, (by decide : 3 + 4 ≤ _), (by decide : 5 + 64 ≤ _)⟩)
        dsimp only [Pt.U, Pt.locs, Pt.cells, Pt.slots] at Sn94 Sg94
        dsimp only [Pt.U, Pt.locs, Pt.cells, Pt.slots] at X94 l94 y94 z94 st94 hQ94
        subst l94 y94 z94
        obtain ⟨h94, e94⟩ : ∃ z, T94.heap = z := ⟨_, rfl⟩
        rw [e94] at hQ94
        obtain ⟨rfl, N94q, K94, FI94, FD94⟩ := hQ94
        have Z94 : n0 ≤ h94.size := Nat.le_trans Z91 K94.1
        have N94 := Fr.app N88 N94q
        have pre95 : ∀ t, Steps p.tables e below (T94.setTop (mkF m 90 #[.val (.int p0), .val (.int p1), .val (.long p2), .second, .val (.int q4), .val (.ref o2), .val (.int (1 : Int32)), .val (.ref r88), .unset, .unset] [(.ref a91)])) t → Steps p.tables e below (s₁.setTop (entryFrame m #[(.int p0), (.int p1), (.long p2)] maxLocals)) t := fun t k => pre93 _ (st94.trans k)
        have hZ94 : Z.Warmed39 (s.setVm T94.vm).vm := State.Warmed39.trans hZ Sn94.1
        have hown94 : (s.setVm T94.vm).vm.findClass "com/example/freshline/freshline/server/TransactionOptionsChecksDriftPinLaw" = some m.cls := by show T94.vm.findClass _ = _; rw [Sn94.1.alike.findClass]; exact hown
        have pre96 : ∀ t, Steps p.tables e below (T94.setTop (mkF m 112 #[.val (.int p0), .val (.int p1), .val (.long p2), .second, .val (.int q4), .val (.ref o2), .val (.int (1 : Int32)), .val (.ref r88), .val (.ref a91), .val (.int (0 : Int32))] [(.ref a91)])) t → Steps p.tables e below (s₁.setTop (entryFrame m #[(.int p0), (.int p1), (.long p2)] maxLocals)) t := fun t k => pre95 _ (by
          show Steps p.tables e below (T94.setTop (mkF m 90 #[.val (.int p0), .val (.int p1), .val (.long p2), .second, .val (.int q4), .val (.ref o2), .val (.int (1 : Int32)), .val (.ref r88), .unset, .unset] [(.ref a91)])) _
          refine XS.astore X94.here hx rfl (hb hby at_90) rfl rfl (l' := #[.val (.int p0), .val (.int p1), .val (.long p2), .second, .val (.int q4), .val (.ref o2), .val (.int (1 : Int32)), .val (.ref r88), .val (.ref a91), .unset]) rfl ?_
          show Steps p.tables e below (T94.setTop (mkF m 92 #[.val (.int p0), .val (.int p1), .val (.long p2), .second, .val (.int q4), .val (.ref o2), .val (.int (1 : Int32)), .val (.ref r88), .val (.ref a91), .unset] [])) _
          refine XS.iload X94.here hx rfl (hb hby at_92) rfl ?_
          show Steps p.tables e below (T94.setTop (mkF m 94 #[.val (.int p0), .val (.int p1), .val (.long p2), .second, .val (.int q4), .val (.ref o2), .val (.int (1 : Int32)), .val (.ref r88), .val (.ref a91), .unset] [(.int (1 : Int32))])) _
          refine XS.ifNo X94.here hx rfl (hb hby at_94) rfl (XT.i0_eq_f (by decide)) ?_
          show Steps p.tables e below (T94.setTop (mkF m 97 #[.val (.int p0), .val (.int p1), .val (.long p2), .second, .val (.int q4), .val (.ref o2), .val (.int (1 : Int32)), .val (.ref r88), .val (.ref a91), .unset] [])) _
          refine XS.iload X94.here hx rfl (hb hby at_97) rfl ?_
          show Steps p.tables e below (T94.setTop (mkF m 99 #[.val (.int p0), .val (.int p1), .val (.long p2), .second, .val (.int q4), .val (.ref o2), .val (.int (1 : Int32)), .val (.ref r88), .val (.ref a91), .unset] [(.int q4)])) _
          refine XT.iconstV X94.here hx rfl (2 : Int32) (hb hby at_99) rfl ?_
          show Steps p.tables e below (T94.setTop (mkF m 100 #[.val (.int p0), .val (.int p1), .val (.long p2), .second, .val (.int q4), .val (.ref o2), .val (.int (1 : Int32)), .val (.ref r88), .val (.ref a91), .unset] [(.int (2 : Int32)), (.int q4)])) _
          refine XS.icmpYes X94.here hx rfl (pc0 := 100) (pc' := 107) rfl (hb hby at_100) rfl (XT.ii_eq_t (own_k3 hq4 c10 c24)) (by decide) (by decide) ?_
          show Steps p.tables e below (T94.setTop (mkF m 107 #[.val (.int p0), .val (.int p1), .val (.long p2), .second, .val (.int q4), .val (.ref o2), .val (.int (1 : Int32)), .val (.ref r88), .val (.ref a91), .unset] [])) _
          refine XT.iconstV X94.here hx rfl (0 : Int32) (hb hby at_107) rfl ?_
          show Steps p.tables e below (T94.setTop (mkF m 108 #[.val (.int p0), .val (.int p1), .val (.long p2), .second, .val (.int q4), .val (.ref o2), .val (.int (1 : Int32)), .val (.ref r88), .val (.ref a91), .unset] [(.int (0 : Int32))])) _
          refine XS.istore X94.here hx rfl (hb hby at_108) rfl (l' := #[.val (.int p0), .val (.int p1), .val (.long p2), .second, .val (.int q4), .val (.ref o2), .val (.int (1 : Int32)), .val (.ref r88), .val (.ref a91), .val (.int (0 : Int32))]) rfl ?_
          show Steps p.tables e below (T94.setTop (mkF m 110 #[.val (.int p0), .val (.int p1), .val (.long p2), .second, .val (.int q4), .val (.ref o2), .val (.int (1 : Int32)), .val (.ref r88), .val (.ref a91), .val (.int (0 : Int32))] [])) _
          refine XS.aload X94.here hx rfl (hb hby at_110) rfl rfl ?_
          exact k)
        obtain ⟨cq97, kq97, q97a, q97b, q97c⟩ := isOf hZ94 e94 (A91.keep K94)
        obtain ⟨_, _, ⟨T97, L97, k97, n97⟩, -, X97, ⟨Lc97, hQ97, l97, y97, z97⟩, st97⟩ := X94.virtualBack hx (y := (⟨"com/example/freshline/freshline/server/TransactionOptions", "checksDrift", "()Z"⟩ : MethodName)) (z := (⟨"com/example/freshline/freshline/server/TransactionOptions", "checksDrift", "()Z"⟩ : MethodName)) hown94 (mvT hZ94 (hw _ (List.mem_of_getElem? (i := 71) rfl))) (mvT hZ94 (hw _ (List.mem_of_getElem? (i := 72) rfl))) (notFace_of_selects (args := #[]) (mvT hZ94 (hw _ (List.mem_of_getElem? (i := 74) rfl)))) (mvT hZ94 (hw _ (List.mem_of_getElem? (i := 74) rfl))) (mvT hZ94 (hw _ (List.mem_of_getElem? (i := 73) rfl))) (by decide) (backOf (W := 0) (own_chk11 l Z a0 hw [] a91 o2 r88 r86 h94 n0 Z94 FI94 FD94 ((EO88.ext E91).keep K94) ((FO88.ext E91).keep K94 (ninS ne_r88_a91 nin0)) ((((E2.keep K86).keep K88).ext E91).keep K94) ((((F2.keep K86 nin0).keep K88 nin0).ext E91).keep K94 (ninS ne_o2_a91 nin0))) hZ94 (hw _ (List.mem_of_getElem? (i := 75) rfl)) (hw _ (List.mem_of_getElem? (i := 45) rfl)) (by decide) (by decide)) q97a q97c (g := (mkF m 112 #[.val (.int p0), .val (.int p1), .val (.long p2), .second, .val (.int q4), .val (.ref o2), .val (.int (1 : Int32)), .val (.ref r88), .val (.ref a91), .val (.int (0 : Int32))] [(.ref a91)])) rfl (by rw [hml]; rfl) (Steps.refl _) (argsL := []) (rest := []) (lenOf own_pd___Z rfl) rfl (by show 2 * 0 + _ ≤ _; exact Nat.le_of_eq rfl) (hb hby at_112) (fun _ _ => ⟨rfl, e94, (by decide : 7 + 0 ≤ _), (by decide : 69 + 0 ≤ _)⟩)
        dsimp only [Pt.U, Pt.locs, Pt.cells, Pt.slots] at X97 l97 y97 z97 st97 hQ97
        subst l97 y97 z97
        obtain ⟨rfl, N97q, e97⟩ := hQ97
        have N97 := Fr.app N94 N97q
        have pre98 : ∀ t, Steps p.tables e below (T97.setTop (mkF m 115 #[.val (.int p0), .val (.int p1), .val (.long p2), .second, .val (.int q4), .val (.ref o2), .val (.int (1 : Int32)), .val (.ref r88), .val (.ref a91), .val (.int (0 : Int32))] [(.int (0 : Int32))])) t → Steps p.tables e below (s₁.setTop (entryFrame m #[(.int p0), (.int p1), (.long p2)] maxLocals)) t := fun t k => pre96 _ (st97.trans k)
        have pre99 : ∀ t, Steps p.tables e below (T97.setTop (mkF m 125 #[.val (.int p0), .val (.int p1), .val (.long p2), .second, .val (.int q4), .val (.ref o2), .val (.int (1 : Int32)), .val (.ref r88), .val (.ref a91), .val (.int (0 : Int32))] [(.int (1 : Int32))])) t → Steps p.tables e below (s₁.setTop (entryFrame m #[(.int p0), (.int p1), (.long p2)] maxLocals)) t := fun t k => pre98 _ (by
          show Steps p.tables e below (T97.setTop (mkF m 115 #[.val (.int p0), .val (.int p1), .val (.long p2), .second, .val (.int q4), .val (.ref o2), .val (.int (1 : Int32)), .val (.ref r88), .val (.ref a91), .val (.int (0 : Int32))] [(.int (0 : Int32))])) _
          refine XS.iload X97.here hx rfl (hb hby at_115) rfl ?_
          show Steps p.tables e below (T97.setTop (mkF m 117 #[.val (.int p0), .val (.int p1), .val (.long p2), .second, .val (.int q4), .val (.ref o2), .val (.int (1 : Int32)), .val (.ref r88), .val (.ref a91), .val (.int (0 : Int32))] [(.int (0 : Int32)), (.int (0 : Int32))])) _
          refine XS.icmpNo X97.here hx rfl (hb hby at_117) rfl (XT.ii_ne_f (by decide)) ?_
          show Steps p.tables e below (T97.setTop (mkF m 120 #[.val (.int p0), .val (.int p1), .val (.long p2), .second, .val (.int q4), .val (.ref o2), .val (.int (1 : Int32)), .val (.ref r88), .val (.ref a91), .val (.int (0 : Int32))] [])) _
          refine XT.iconstV X97.here hx rfl (1 : Int32) (hb hby at_120) rfl ?_
          show Steps p.tables e below (T97.setTop (mkF m 121 #[.val (.int p0), .val (.int p1), .val (.long p2), .second, .val (.int q4), .val (.ref o2), .val (.int (1 : Int32)), .val (.ref r88), .val (.ref a91), .val (.int (0 : Int32))] [(.int (1 : Int32))])) _
          refine XS.goto X97.here hx rfl (pc0 := 121) (pc' := 125) rfl (hb hby at_121) (by decide) (by decide) ?_
          exact k)
        obtain ⟨fs, hr, hrun, hended, hRE⟩ := Stand.leaveW (s := s) X97 Sn94 (by rw [e97]; exact (Nat.le_of_eq (congrArg Array.size e94))) (v := some (.int (1 : Int32))) (fun h => by rw [Bd.returns] at h; cases h)
        refine ⟨_, _, pre99 _ ?_, hrun, hended, _, _, rfl, ?_, hRE.1, hRE.2.1, hRE.2.2.1, hRE.2.2.2.mono (by decide) (by decide)⟩
        · show Steps p.tables e below (T97.setTop (mkF m 125 #[.val (.int p0), .val (.int p1), .val (.long p2), .second, .val (.int q4), .val (.ref o2), .val (.int (1 : Int32)), .val (.ref r88), .val (.ref a91), .val (.int (0 : Int32))] [(.int (1 : Int32))])) _
          exact retN X97 hx (t := .boolean) Bd.returns (by simp) (hb hby at_125) hr
        · show Q_own_law Z p0 p1 p2 o0 o1 o2 em zr h0 n0 _ T97.heap _
          rw [e97]
          exact ⟨rfl, N97⟩
set_option maxRecDepth 65536 in
set_option maxHeartbeats 40000000 in
theorem comes_1 {Post : Tables → Env → Array Value → State → Outcome → State → Prop} (hpost : ∀ tb e args s v u, (limb_1_1.after args s (.returned v) u = true ∧ limb_1_2.after args s (.returned v) u = true ∧ True) → ReturnedEndW s (.returned v) u (Jvm.fieldLocs frame_1_writes args s ++ Jvm.arrayLocs frame_1_arrays args s ++ Jvm.staticLocs frame_1_statics s) 24 2176 → Post tb e args s (.returned v) u) :
    ArmFor flags0 classFile x code maxLocals ret World_1 tables_1 room_1 Calls_1 rest_1 Pre_1 Post := by
  intro l hfl _ _ p e ha hc hk s m args below hf hA hF happ hP
  obtain ⟨hcalls, hrest, hpre⟩ := hP
  obtain ⟨-, -, -, hnamed, -, -, -, hat⟩ := (Spec.applies_iff hf).mp happ
  obtain ⟨hg, hn⟩ := and_e (Cond.before_iff.mp (show (Jvm.Cond.and given_1 narrow_1).before args s = true from hpre))
  obtain ⟨h1, g0⟩ := and_e hg
  obtain ⟨w0, w1, w2, rfl⟩ : ∃ w0 w1 w2 : Value, args = #[w0, w1, w2] := by
    have hs : args.size = 3 := by simpa [Cond.value, given_1] using h1
    obtain ⟨L⟩ := args
    match L, hs with
    | [w0, w1, w2], _ => exact ⟨w0, w1, w2, rfl⟩
  have hw := fun d (hd : d ∈ tables_1) => atoms_spec (ws := Jvm.Cond.code x code maxLocals ret :: tables_1) hat d (List.mem_cons_of_mem _ hd)
  have hfit : Fit s := fun {y c} hc i hi => by
    obtain ⟨ha, rfl⟩ := Array.getElem?_eq_some_iff.mp hc
    have q := List.all_eq_true.mp ((Array.all_eq_true_iff_forall_mem.mp hF) _ (Array.getElem_mem ha)) i (List.mem_range.mpr hi)
    simpa [Array.getElem?_eq_getElem hi] using q
  obtain ⟨t0, g1⟩ := and_e g0
  obtain ⟨i0, q0⟩ := is_v t0
  obtain rfl : w0 = (.int i0) := Option.some.inj q0
  obtain ⟨t1, g2⟩ := and_e g1
  obtain ⟨i1, q1⟩ := is_v t1
  obtain rfl : w1 = (.int i1) := Option.some.inj q1
  have t2 := g2
  obtain ⟨i2, q2⟩ := isL_v t2
  obtain rfl : w2 = (.long i2) := Option.some.inj q2
  obtain ⟨x0, y0⟩ := and_e hn
  obtain ⟨y0, r0⟩ := and_e y0
  obtain ⟨o0, ev0⟩ := exa_v x0
  have E0 := Exa.start ev0 x0
  have S0 := Sta.start ev0 (Or.inr ⟨(hw _ (List.mem_of_getElem? (i := 2) rfl)), (hw _ (List.mem_of_getElem? (i := 3) rfl))⟩)
  have F0 : Fld s s.heap o0 "com/example/freshline/freshline/model/Isolation" "locks" "Z" (.int (0 : Int32)) := Fld.start (own_fvi ev0 y0)
  obtain ⟨x1, y1⟩ := and_e r0
  obtain ⟨y1, r1⟩ := and_e y1
  obtain ⟨o1, ev1⟩ := exa_v x1
  have E1 := Exa.start ev1 x1
  have S1 := Sta.start ev1 (Or.inr ⟨(hw _ (List.mem_of_getElem? (i := 2) rfl)), (hw _ (List.mem_of_getElem? (i := 89) rfl))⟩)
  have F1 : Fld s s.heap o1 "com/example/freshline/freshline/model/Isolation" "locks" "Z" (.int (0 : Int32)) := Fld.start (own_fvi ev1 y1)
  obtain ⟨x2, y2⟩ := and_e r1
  obtain ⟨o2, ev2⟩ := exa_v x2
  have E2 := Exa.start ev2 x2
  have S2 := Sta.start ev2 (Or.inr ⟨(hw _ (List.mem_of_getElem? (i := 2) rfl)), (hw _ (List.mem_of_getElem? (i := 95) rfl))⟩)
  have F2 : Fld s s.heap o2 "com/example/freshline/freshline/model/Isolation" "locks" "Z" (.int (1 : Int32)) := Fld.start (own_fvi ev2 y2)
  have hset : ∀ d ∈ jdkStatics_1, d.before _ s = true := (atoms_of jdkStatics_1 (own := restOwn_1) (by first | exact hrest | (rw [← rest_1_c_eq]; exact hrest))).1
  obtain ⟨em, evE⟩ := exa_v (Cond.before_iff.mp (hset _ (List.mem_of_getElem? (i := 2) rfl)))
  have EE := Exa.start evE (Cond.before_iff.mp (hset _ (List.mem_of_getElem? (i := 2) rfl)))
  have SE := Sta.start evE (Or.inl (hset _ (List.mem_of_getElem? (i := 1) rfl)))
  have FE : Fld s s.heap em "java/util/Optional" "value" "Ljava/lang/Object;" .null := Fld.start (own_fvn evE (Cond.before_iff.mp (hset _ (List.mem_of_getElem? (i := 3) rfl))))
  obtain ⟨zr, evZ⟩ := exa_v (Cond.before_iff.mp (hset _ (List.mem_of_getElem? (i := 6) rfl)))
  have SZ := Sta.start evZ (Or.inl (hset _ (List.mem_of_getElem? (i := 5) rfl)))
  obtain ⟨n, o, h1, h2, h3, _, L, rfl, ⟨rfl, N⟩, hq⟩ := own_law l s _ hw tables_1 i0 i1 i2 o0 o1 o2 em zr s.heap s.heap.size (Nat.le_refl _) S0 E0 F0 S1 E1 F1 S2 E2 F2 SE EE FE SZ p e ha hc hk s m _ below hf ((Spec.applies_iff_loose hf).mp happ).1 ⟨rfl, State.Warmed39.refl s, rfl⟩ trivial
  refine ⟨n, _, h1, h2, h3, hpost _ _ _ _ _ _ ⟨Cond.after_iff.mpr rfl, Cond.after_iff.mpr (eq_i res_at (Term.int_eval (1)) rfl), trivial⟩ ⟨hq.1, hq.2.1, hq.2.2.1, (hq.2.2.2.sift fun y hy => Or.inr (N y hy)).mono (by decide) (by decide)⟩⟩
theorem main_1_1 : Claimed_1_1 := comes_1 fun _ _ _ _ _ _ h hF => ⟨h.1, hF⟩
theorem main_1_2 : Claimed_1_2 := comes_1 fun _ _ _ _ _ _ h hF => ⟨h.2.1, hF⟩
end Jvm.Pilot.@@N@@
namespace Jvm.Pilot.@@N@@
open Jvm Jvm.ClassFile Sem Op Lib Jvm.Free Jvm.Stand Jvm.Pilot.@@N@@.Jvm.D
/-! MADE BY PROGRAM (witnessworld.py) out of the Statement's table words and the real class files: 21 classes; the members and pool entries that the words name. The judged class is class 1, her method 1. -/
namespace start1
open Jvm.ClassFile
def u (s : String) : CpInfo := .utf8 (stringToUtf16 s)
/-- a pool by its gaps: so many unusable entries, then the entry; so many at the end -/
def gap : Nat → List CpInfo → List CpInfo
  | 0, r => r
  | n + 1, r => .unusable :: gap n r
def poolList (es : List (Nat × CpInfo)) (last : Nat) : List CpInfo := es.foldr (fun e r => gap e.1 (e.2 :: r)) (gap last [])
def pool (es : List (Nat × CpInfo)) (last : Nat) : Array CpInfo := ⟨poolList es last⟩
def fileOf (pool : Array CpInfo) (this : Nat) (attrs : Array Attribute := #[]) (ms : Array MethodInfo := #[]) (fl : Nat := 33) (sup : Nat := 0) (ifs : Array Nat := #[]) (fds : Array FieldInfo := #[]) : ClassFile where
  minorVersion := 0
  majorVersion := 65
  constantPool := pool
  accessFlags := fl
  thisClass := this
  superClass := sup
  interfaces := ifs
  fields := fds
  methods := ms
  attributes := attrs
def plain (name : String) (sup : Option ClassId) : Class where
  name := name
  kind := .ordinary
  loader := none
  accessFlags := 33
  super := sup
  interfaces := #[]
  cf := none
  fields := #[]
  methods := #[]
  instanceTypes := #[]
  staticTypes := #[]
  resolved := #[]
  callSites := []
  init := .initialized
  statics := none
  mirror := none

def pool0 : Array CpInfo := pool [(5, u "<init>"), (0, u "()V"), (1, .class_ 10), (1, u "java/lang/Object")] 113

def k0c0 : Code := { maxStack := 0, maxLocals := 1, code := object_method_1_code, exceptionTable := #[], attributes := #[] }
def k0m0 : Method := { name := "<init>", desc := "()V", sig := { parameters := [], returnType := none }, accessFlags := 1, code := some k0c0 }
/-- java/lang/Object -/
def k0 : Class := { plain "java/lang/Object" none with
  accessFlags := 33
  interfaces := #[]
  cf := some (fileOf pool0 8 #[] #[{ accessFlags := 1, nameIndex := 5, descriptorIndex := 6, attributes := #[] }] 33 0 #[] #[])
  fields := #[]
  methods := #[k0m0]
  instanceTypes := #[]
  staticTypes := #[]
  resolved := Array.replicate 124 none
  statics := none }

def pool1 : Array CpInfo := pool [(2, .class_ 4), (1, u "java/lang/Object"), (0, u "<init>"), (0, u "()V"), (0, .integer 2147483647), (0, .fieldref 9 10), (0, .class_ 11), (0, .nameAndType 12 13), (0, u "com/example/freshline/freshline/model/Isolation"), (0, u "SERIALIZABLE"), (0, u "Lcom/example/freshline/freshline/model/Isolation;"), (0, .fieldref 9 15), (0, .nameAndType 16 13), (0, u "READ_COMMITTED"), (0, .fieldref 9 18), (0, .nameAndType 19 13), (0, u "LOCKING"), (2, .long 9223372036854775807), (1, .methodref 25 26), (0, .class_ 27), (0, .nameAndType 28 29), (0, u "java/time/Duration"), (0, u "ofNanos"), (0, u "(J)Ljava/time/Duration;"), (0, .methodref 31 32), (0, .class_ 33), (0, .nameAndType 34 35), (0, u "java/util/Optional"), (0, u "of"), (0, u "(Ljava/lang/Object;)Ljava/util/Optional;"), (0, .methodref 31 37), (0, .nameAndType 38 39), (0, u "empty"), (0, u "()Ljava/util/Optional;"), (0, .class_ 41), (0, u "com/example/freshline/freshline/server/TransactionOptions"), (0, .methodref 40 43), (0, .nameAndType 5 44), (0, u "(Lcom/example/freshline/freshline/model/Isolation;Ljava/util/Optional;)V"), (0, .methodref 40 46), (0, .nameAndType 47 48), (0, u "checksDrift"), (0, u "()Z"), (0, .class_ 50), (0, u "com/example/freshline/freshline/server/TransactionOptionsChecksDriftPinLaw"), (2, u "law"), (0, u "(IIJ)Z")] 3

def k1m0 : Method := { name := "<init>", desc := "()V", sig := { parameters := [], returnType := none }, accessFlags := 1, code := none }
def k1c1 : Code := { maxStack := 4, maxLocals := 10, code := code, exceptionTable := #[], attributes := #[] }
def k1m1 : Method := { name := "law", desc := "(IIJ)Z", sig := { parameters := [.int, .int, .long], returnType := some .boolean }, accessFlags := 9, code := some k1c1 }
/-- com/example/freshline/freshline/server/TransactionOptionsChecksDriftPinLaw -/
def k1 : Class := { plain "com/example/freshline/freshline/server/TransactionOptionsChecksDriftPinLaw" (some 0) with
  accessFlags := 49
  interfaces := #[]
  cf := some (fileOf pool1 49 #[] #[{ accessFlags := 1, nameIndex := 5, descriptorIndex := 6, attributes := #[] }, { accessFlags := 9, nameIndex := 53, descriptorIndex := 54, attributes := #[] }] 49 2 #[] #[])
  fields := #[]
  methods := #[k1m0, k1m1]
  instanceTypes := #[]
  staticTypes := #[]
  resolved := Array.replicate 58 none
  statics := none }

def pool2 : Array CpInfo := pool [(1, .class_ 2), (0, u "java/lang/constant/Constable"), (0, .class_ 4), (0, u "java/lang/Object")] 6

/-- java/lang/constant/Constable -/
def k2 : Class := { plain "java/lang/constant/Constable" (some 0) with
  accessFlags := 1537
  interfaces := #[]
  cf := some (fileOf pool2 1 #[] #[] 1537 3 #[] #[])
  fields := #[]
  methods := #[]
  instanceTypes := #[]
  staticTypes := #[]
  resolved := Array.replicate 11 none
  statics := none }

def pool3 : Array CpInfo := pool [(1, .class_ 2), (0, u "java/lang/Comparable"), (0, .class_ 4), (0, u "java/lang/Object")] 7

/-- java/lang/Comparable -/
def k3 : Class := { plain "java/lang/Comparable" (some 0) with
  accessFlags := 1537
  interfaces := #[]
  cf := some (fileOf pool3 1 #[] #[] 1537 3 #[] #[])
  fields := #[]
  methods := #[]
  instanceTypes := #[]
  staticTypes := #[]
  resolved := Array.replicate 12 none
  statics := none }

def pool4 : Array CpInfo := pool [(1, .class_ 2), (0, u "java/io/Serializable"), (0, .class_ 4), (0, u "java/lang/Object")] 2

/-- java/io/Serializable -/
def k4 : Class := { plain "java/io/Serializable" (some 0) with
  accessFlags := 1537
  interfaces := #[]
  cf := some (fileOf pool4 1 #[] #[] 1537 3 #[] #[])
  fields := #[]
  methods := #[]
  instanceTypes := #[]
  staticTypes := #[]
  resolved := Array.replicate 7 none
  statics := none }

def pool5 : Array CpInfo := pool [(2, .class_ 4), (1, u "java/lang/Enum"), (0, u "name"), (0, u "Ljava/lang/String;"), (2, u "ordinal"), (0, u "I"), (1, .class_ 14), (1, u "java/lang/Object"), (4, u "hash"), (86, .class_ 108), (1, u "java/lang/Enum$EnumDesc"), (2, .class_ 112), (0, u "java/lang/constant/Constable"), (0, .class_ 114), (0, u "java/lang/Comparable"), (0, .class_ 116), (0, u "java/io/Serializable")] 87

/-- java/lang/Enum -/
def k5 : Class := { plain "java/lang/Enum" (some 0) with
  accessFlags := 1057
  interfaces := #[2, 3, 4]
  cf := some (fileOf pool5 2 #[.nestMembers #[106]] #[] 1057 12 #[111, 113, 115] #[{ accessFlags := 18, nameIndex := 5, descriptorIndex := 6, attributes := #[] }, { accessFlags := 18, nameIndex := 9, descriptorIndex := 10, attributes := #[] }, { accessFlags := 2, nameIndex := 19, descriptorIndex := 10, attributes := #[] }])
  fields := #[{ name := "name", type := (.object "java/lang/String"), accessFlags := 18, slot := 0, constantValue := 0 }, { name := "ordinal", type := .int, accessFlags := 18, slot := 1, constantValue := 0 }, { name := "hash", type := .int, accessFlags := 2, slot := 2, constantValue := 0 }]
  methods := #[]
  instanceTypes := #[(.object "java/lang/String"), .int, .int]
  staticTypes := #[]
  resolved := Array.replicate 204 none
  statics := none }

def pool6 : Array CpInfo := pool [(1, .class_ 2), (0, u "com/example/freshline/freshline/model/Isolation"), (2, u "SERIALIZABLE"), (0, u "Lcom/example/freshline/freshline/model/Isolation;"), (2, u "READ_COMMITTED"), (2, u "LOCKING"), (2, u "$VALUES"), (0, u "[Lcom/example/freshline/freshline/model/Isolation;"), (6, .class_ 25), (1, u "java/lang/Enum"), (8, u "word"), (0, u "Ljava/lang/String;"), (2, u "unstatedBound"), (0, u "Ljava/time/Duration;"), (2, u "checksReads"), (0, u "Z"), (0, .fieldref 1 45), (0, .nameAndType 46 43), (0, u "locks"), (73, u "DEFAULT"), (11, u "()Z")] 20

def k6c0 : Code := { maxStack := 1, maxLocals := 1, code := prog_27_method_8_code, exceptionTable := #[], attributes := #[] }
def k6m0 : Method := { name := "locks", desc := "()Z", sig := { parameters := [], returnType := some .boolean }, accessFlags := 1, code := some k6c0 }
/-- com/example/freshline/freshline/model/Isolation -/
def k6 : Class := { plain "com/example/freshline/freshline/model/Isolation" (some 5) with
  accessFlags := 16433
  interfaces := #[]
  cf := some (fileOf pool6 1 #[] #[{ accessFlags := 1, nameIndex := 46, descriptorIndex := 132, attributes := #[] }] 16433 23 #[] #[{ accessFlags := 16409, nameIndex := 5, descriptorIndex := 6, attributes := #[] }, { accessFlags := 16409, nameIndex := 9, descriptorIndex := 6, attributes := #[] }, { accessFlags := 16409, nameIndex := 12, descriptorIndex := 6, attributes := #[] }, { accessFlags := 25, nameIndex := 120, descriptorIndex := 6, attributes := #[] }, { accessFlags := 18, nameIndex := 34, descriptorIndex := 35, attributes := #[] }, { accessFlags := 18, nameIndex := 38, descriptorIndex := 39, attributes := #[] }, { accessFlags := 18, nameIndex := 42, descriptorIndex := 43, attributes := #[] }, { accessFlags := 18, nameIndex := 46, descriptorIndex := 43, attributes := #[] }, { accessFlags := 4122, nameIndex := 15, descriptorIndex := 16, attributes := #[] }])
  fields := #[{ name := "SERIALIZABLE", type := (.object "com/example/freshline/freshline/model/Isolation"), accessFlags := 16409, slot := 0, constantValue := 0 }, { name := "READ_COMMITTED", type := (.object "com/example/freshline/freshline/model/Isolation"), accessFlags := 16409, slot := 1, constantValue := 0 }, { name := "LOCKING", type := (.object "com/example/freshline/freshline/model/Isolation"), accessFlags := 16409, slot := 2, constantValue := 0 }, { name := "DEFAULT", type := (.object "com/example/freshline/freshline/model/Isolation"), accessFlags := 25, slot := 3, constantValue := 0 }, { name := "word", type := (.object "java/lang/String"), accessFlags := 18, slot := 3, constantValue := 0 }, { name := "unstatedBound", type := (.object "java/time/Duration"), accessFlags := 18, slot := 4, constantValue := 0 }, { name := "checksReads", type := .boolean, accessFlags := 18, slot := 5, constantValue := 0 }, { name := "locks", type := .boolean, accessFlags := 18, slot := 6, constantValue := 0 }, { name := "$VALUES", type := (.array (.object "com/example/freshline/freshline/model/Isolation")), accessFlags := 4122, slot := 4, constantValue := 0 }]
  methods := #[k6m0]
  instanceTypes := #[(.object "java/lang/String"), .int, .int, (.object "java/lang/String"), (.object "java/time/Duration"), .boolean, .boolean]
  staticTypes := #[(.object "com/example/freshline/freshline/model/Isolation"), (.object "com/example/freshline/freshline/model/Isolation"), (.object "com/example/freshline/freshline/model/Isolation"), (.object "com/example/freshline/freshline/model/Isolation"), (.array (.object "com/example/freshline/freshline/model/Isolation"))]
  resolved := Array.replicate 153 none
  statics := some 0 }

def pool7 : Array CpInfo := pool [(1, .class_ 2), (0, u "java/time/temporal/TemporalAmount"), (0, .class_ 4), (0, u "java/lang/Object")] 11

/-- java/time/temporal/TemporalAmount -/
def k7 : Class := { plain "java/time/temporal/TemporalAmount" (some 0) with
  accessFlags := 1537
  interfaces := #[]
  cf := some (fileOf pool7 1 #[] #[] 1537 3 #[] #[])
  fields := #[]
  methods := #[]
  instanceTypes := #[]
  staticTypes := #[]
  resolved := Array.replicate 16 none
  statics := none }

def pool8 : Array CpInfo := pool [(10, .methodref 11 12), (0, .class_ 13), (0, .nameAndType 14 15), (0, u "java/time/Duration"), (0, u "create"), (0, u "(JI)Ljava/time/Duration;"), (0, .long 1000000000), (15, .fieldref 11 33), (0, .nameAndType 34 35), (0, u "ZERO"), (0, u "Ljava/time/Duration;"), (13, .class_ 51), (1, u "java/time/temporal/TemporalAmount"), (27, .class_ 81), (1, u "java/time/Duration$Lazy"), (35, u "seconds"), (21, u "<init>"), (17, .nameAndType 139 158), (0, u "()V"), (39, u "ofNanos"), (0, u "(J)Ljava/time/Duration;"), (15, .methodref 11 216), (0, .nameAndType 139 217), (0, u "(JI)V"), (0, .methodref 219 157), (0, .class_ 220), (0, u "java/lang/Object"), (0, .fieldref 11 222), (0, .nameAndType 117 223), (0, u "J"), (0, .fieldref 11 225), (0, .nameAndType 226 227), (0, u "nanos"), (0, u "I"), (11, .class_ 241), (1, u "java/time/Duration$DurationUnits"), (27, .class_ 271), (1, u "java/time/Duration$1"), (91, u "BI_NANOS_PER_SECOND"), (0, u "Ljava/math/BigInteger;"), (120, .class_ 486), (0, u "java/lang/Comparable"), (0, .class_ 488), (0, u "java/io/Serializable"), (0, u "serialVersionUID")] 166

def k8c0 : Code := { maxStack := 4, maxLocals := 5, code := jdk_2316_method_7_code, exceptionTable := #[], attributes := #[] }
def k8m0 : Method := { name := "ofNanos", desc := "(J)Ljava/time/Duration;", sig := { parameters := [.long], returnType := some (.object "java/time/Duration") }, accessFlags := 9, code := some k8c0 }
def k8c1 : Code := { maxStack := 5, maxLocals := 3, code := jdk_2316_method_16_code, exceptionTable := #[], attributes := #[] }
def k8m1 : Method := { name := "create", desc := "(JI)Ljava/time/Duration;", sig := { parameters := [.long, .int], returnType := some (.object "java/time/Duration") }, accessFlags := 10, code := some k8c1 }
def k8c2 : Code := { maxStack := 3, maxLocals := 4, code := jdk_2316_method_17_code, exceptionTable := #[], attributes := #[] }
def k8m2 : Method := { name := "<init>", desc := "(JI)V", sig := { parameters := [.long, .int], returnType := none }, accessFlags := 2, code := some k8c2 }
/-- java/time/Duration -/
def k8 : Class := { plain "java/time/Duration" (some 0) with
  accessFlags := 49
  interfaces := #[7, 3, 4]
  cf := some (fileOf pool8 11 #[.nestMembers #[269, 239, 79]] #[{ accessFlags := 9, nameIndex := 198, descriptorIndex := 199, attributes := #[] }, { accessFlags := 10, nameIndex := 14, descriptorIndex := 15, attributes := #[] }, { accessFlags := 2, nameIndex := 139, descriptorIndex := 217, attributes := #[] }] 49 219 #[49, 485, 487] #[{ accessFlags := 25, nameIndex := 34, descriptorIndex := 35, attributes := #[] }, { accessFlags := 26, nameIndex := 489, descriptorIndex := 223, attributes := #[] }, { accessFlags := 26, nameIndex := 363, descriptorIndex := 364, attributes := #[] }, { accessFlags := 18, nameIndex := 117, descriptorIndex := 223, attributes := #[] }, { accessFlags := 18, nameIndex := 226, descriptorIndex := 227, attributes := #[] }])
  fields := #[{ name := "ZERO", type := (.object "java/time/Duration"), accessFlags := 25, slot := 0, constantValue := 0 }, { name := "serialVersionUID", type := .long, accessFlags := 26, slot := 1, constantValue := 0 }, { name := "BI_NANOS_PER_SECOND", type := (.object "java/math/BigInteger"), accessFlags := 26, slot := 2, constantValue := 0 }, { name := "seconds", type := .long, accessFlags := 18, slot := 0, constantValue := 0 }, { name := "nanos", type := .int, accessFlags := 18, slot := 1, constantValue := 0 }]
  methods := #[k8m0, k8m1, k8m2]
  instanceTypes := #[.long, .int]
  staticTypes := #[(.object "java/time/Duration"), .long, (.object "java/math/BigInteger")]
  resolved := Array.replicate 656 none
  statics := some 1 }

def pool9 : Array CpInfo := pool [(1, .fieldref 2 3), (0, .class_ 4), (0, .nameAndType 5 6), (0, u "java/util/Optional"), (0, u "EMPTY"), (0, u "Ljava/util/Optional;"), (0, .methodref 8 9), (0, .class_ 10), (0, .nameAndType 11 12), (0, u "java/lang/Object"), (0, u "<init>"), (0, u "()V"), (0, .fieldref 2 14), (0, .nameAndType 15 16), (0, u "value"), (0, u "Ljava/lang/Object;"), (0, .methodref 18 19), (0, .class_ 20), (0, .nameAndType 21 22), (0, u "java/util/Objects"), (0, u "requireNonNull"), (0, u "(Ljava/lang/Object;)Ljava/lang/Object;"), (0, .methodref 2 24), (0, .nameAndType 11 25), (0, u "(Ljava/lang/Object;)V"), (20, u "()Z"), (8, u "empty"), (0, u "()Ljava/util/Optional;"), (8, u "(Ljava/lang/Object;)Ljava/util/Optional;"), (2, u "isPresent"), (13, u "of")] 104

def k9c0 : Code := { maxStack := 1, maxLocals := 1, code := jdk_32_method_1_code, exceptionTable := #[], attributes := #[] }
def k9m0 : Method := { name := "empty", desc := "()Ljava/util/Optional;", sig := { parameters := [], returnType := some (.object "java/util/Optional") }, accessFlags := 9, code := some k9c0 }
def k9c1 : Code := { maxStack := 2, maxLocals := 2, code := jdk_32_method_2_code, exceptionTable := #[], attributes := #[] }
def k9m1 : Method := { name := "<init>", desc := "(Ljava/lang/Object;)V", sig := { parameters := [(.object "java/lang/Object")], returnType := none }, accessFlags := 2, code := some k9c1 }
def k9c2 : Code := { maxStack := 3, maxLocals := 1, code := jdk_32_method_3_code, exceptionTable := #[], attributes := #[] }
def k9m2 : Method := { name := "of", desc := "(Ljava/lang/Object;)Ljava/util/Optional;", sig := { parameters := [(.object "java/lang/Object")], returnType := some (.object "java/util/Optional") }, accessFlags := 9, code := some k9c2 }
def k9c3 : Code := { maxStack := 1, maxLocals := 1, code := jdk_32_method_6_code, exceptionTable := #[], attributes := #[] }
def k9m3 : Method := { name := "isPresent", desc := "()Z", sig := { parameters := [], returnType := some .boolean }, accessFlags := 1, code := some k9c3 }
/-- java/util/Optional -/
def k9 : Class := { plain "java/util/Optional" (some 0) with
  accessFlags := 49
  interfaces := #[]
  cf := some (fileOf pool9 2 #[] #[{ accessFlags := 9, nameIndex := 55, descriptorIndex := 56, attributes := #[] }, { accessFlags := 2, nameIndex := 11, descriptorIndex := 25, attributes := #[] }, { accessFlags := 9, nameIndex := 82, descriptorIndex := 65, attributes := #[] }, { accessFlags := 1, nameIndex := 68, descriptorIndex := 46, attributes := #[] }] 49 8 #[] #[{ accessFlags := 26, nameIndex := 5, descriptorIndex := 6, attributes := #[] }, { accessFlags := 18, nameIndex := 15, descriptorIndex := 16, attributes := #[] }])
  fields := #[{ name := "EMPTY", type := (.object "java/util/Optional"), accessFlags := 26, slot := 0, constantValue := 0 }, { name := "value", type := (.object "java/lang/Object"), accessFlags := 18, slot := 0, constantValue := 0 }]
  methods := #[k9m0, k9m1, k9m2, k9m3]
  instanceTypes := #[(.object "java/lang/Object")]
  staticTypes := #[(.object "java/util/Optional")]
  resolved := Array.replicate 187 none
  statics := some 2 }

def pool10 : Array CpInfo := pool [(2, .class_ 4), (1, u "java/lang/Object"), (0, u "<init>"), (0, u "()V"), (35, .class_ 44), (1, u "java/util/Objects"), (0, u "requireNonNull"), (0, u "(Ljava/lang/Object;)Ljava/lang/Object;"), (47, u "(Ljava/lang/Object;Ljava/lang/String;)Ljava/lang/Object;")] 89

def k10m0 : Method := { name := "<init>", desc := "()V", sig := { parameters := [], returnType := none }, accessFlags := 2, code := none }
def k10c1 : Code := { maxStack := 2, maxLocals := 1, code := jdk_31_method_10_code, exceptionTable := #[], attributes := #[] }
def k10m1 : Method := { name := "requireNonNull", desc := "(Ljava/lang/Object;)Ljava/lang/Object;", sig := { parameters := [(.object "java/lang/Object")], returnType := some (.object "java/lang/Object") }, accessFlags := 9, code := some k10c1 }
def k10c2 : Code := { maxStack := 3, maxLocals := 2, code := jdk_31_method_11_code, exceptionTable := #[], attributes := #[] }
def k10m2 : Method := { name := "requireNonNull", desc := "(Ljava/lang/Object;Ljava/lang/String;)Ljava/lang/Object;", sig := { parameters := [(.object "java/lang/Object"), (.object "java/lang/String")], returnType := some (.object "java/lang/Object") }, accessFlags := 9, code := some k10c2 }
/-- java/util/Objects -/
def k10 : Class := { plain "java/util/Objects" (some 0) with
  accessFlags := 49
  interfaces := #[]
  cf := some (fileOf pool10 42 #[] #[{ accessFlags := 2, nameIndex := 5, descriptorIndex := 6, attributes := #[] }, { accessFlags := 9, nameIndex := 45, descriptorIndex := 46, attributes := #[] }, { accessFlags := 9, nameIndex := 45, descriptorIndex := 94, attributes := #[] }] 49 2 #[] #[])
  fields := #[]
  methods := #[k10m0, k10m1, k10m2]
  instanceTypes := #[]
  staticTypes := #[]
  resolved := Array.replicate 184 none
  statics := none }

def pool11 : Array CpInfo := pool [(1, .methodref 2 3), (0, .class_ 4), (0, .nameAndType 5 6), (0, u "java/lang/Object"), (0, u "<init>"), (0, u "()V"), (0, .class_ 8), (0, u "java/lang/Record")] 13

def k11c0 : Code := { maxStack := 1, maxLocals := 1, code := jdk_30_method_1_code, exceptionTable := #[], attributes := #[] }
def k11m0 : Method := { name := "<init>", desc := "()V", sig := { parameters := [], returnType := none }, accessFlags := 4, code := some k11c0 }
/-- java/lang/Record -/
def k11 : Class := { plain "java/lang/Record" (some 0) with
  accessFlags := 1057
  interfaces := #[]
  cf := some (fileOf pool11 7 #[] #[{ accessFlags := 4, nameIndex := 5, descriptorIndex := 6, attributes := #[] }] 1057 2 #[] #[])
  fields := #[]
  methods := #[k11m0]
  instanceTypes := #[]
  staticTypes := #[]
  resolved := Array.replicate 22 none
  statics := none }

def pool12 : Array CpInfo := pool [(1, .methodref 2 3), (0, .class_ 4), (0, .nameAndType 5 6), (0, u "java/lang/Record"), (0, u "<init>"), (0, u "()V"), (0, .string 8), (0, u "isolation"), (0, .methodref 10 11), (0, .class_ 12), (0, .nameAndType 13 14), (0, u "java/util/Objects"), (0, u "requireNonNull"), (0, u "(Ljava/lang/Object;Ljava/lang/String;)Ljava/lang/Object;"), (0, .string 16), (0, u "drift"), (0, .fieldref 18 19), (0, .class_ 20), (0, .nameAndType 8 21), (0, u "com/example/freshline/freshline/server/TransactionOptions"), (0, u "Lcom/example/freshline/freshline/model/Isolation;"), (0, .fieldref 18 23), (0, .nameAndType 16 24), (0, u "Ljava/util/Optional;"), (1, .class_ 28), (1, u "com/example/freshline/freshline/model/Isolation"), (1, u "()Z"), (2, u "checksDrift"), (0, .methodref 35 36), (0, .class_ 37), (0, .nameAndType 38 30), (0, u "java/util/Optional"), (0, u "isPresent"), (0, .methodref 26 40), (0, .nameAndType 41 30), (0, u "locks"), (14, u "(Lcom/example/freshline/freshline/model/Isolation;Ljava/util/Optional;)V")] 33

def k12c0 : Code := { maxStack := 2, maxLocals := 3, code := prog_63_method_1_code, exceptionTable := #[], attributes := #[] }
def k12m0 : Method := { name := "<init>", desc := "(Lcom/example/freshline/freshline/model/Isolation;Ljava/util/Optional;)V", sig := { parameters := [(.object "com/example/freshline/freshline/model/Isolation"), (.object "java/util/Optional")], returnType := none }, accessFlags := 0, code := some k12c0 }
def k12c1 : Code := { maxStack := 1, maxLocals := 1, code := prog_63_method_3_code, exceptionTable := #[], attributes := #[] }
def k12m1 : Method := { name := "checksDrift", desc := "()Z", sig := { parameters := [], returnType := some .boolean }, accessFlags := 0, code := some k12c1 }
/-- com/example/freshline/freshline/server/TransactionOptions -/
def k12 : Class := { plain "com/example/freshline/freshline/server/TransactionOptions" (some 11) with
  accessFlags := 48
  interfaces := #[]
  cf := some (fileOf pool12 18 #[] #[{ accessFlags := 0, nameIndex := 5, descriptorIndex := 56, attributes := #[] }, { accessFlags := 0, nameIndex := 33, descriptorIndex := 30, attributes := #[] }] 48 2 #[] #[{ accessFlags := 18, nameIndex := 8, descriptorIndex := 21, attributes := #[] }, { accessFlags := 18, nameIndex := 16, descriptorIndex := 24, attributes := #[] }])
  fields := #[{ name := "isolation", type := (.object "com/example/freshline/freshline/model/Isolation"), accessFlags := 18, slot := 0, constantValue := 0 }, { name := "drift", type := (.object "java/util/Optional"), accessFlags := 18, slot := 1, constantValue := 0 }]
  methods := #[k12m0, k12m1]
  instanceTypes := #[(.object "com/example/freshline/freshline/model/Isolation"), (.object "java/util/Optional")]
  staticTypes := #[]
  resolved := Array.replicate 90 none
  statics := none }

def pool13 : Array CpInfo := pool [(2, .class_ 4), (1, u "java/lang/CharSequence"), (42, .class_ 48), (0, u "java/lang/CharSequence$1CodePointIterator"), (10, .class_ 60), (0, u "java/lang/CharSequence$1CharIterator"), (5, .class_ 67), (0, u "java/lang/Object")] 63

/-- java/lang/CharSequence -/
def k13 : Class := { plain "java/lang/CharSequence" (some 0) with
  accessFlags := 1537
  interfaces := #[]
  cf := some (fileOf pool13 2 #[.nestMembers #[47, 59]] #[] 1537 66 #[] #[])
  fields := #[]
  methods := #[]
  instanceTypes := #[]
  staticTypes := #[]
  resolved := Array.replicate 131 none
  statics := none }

def pool14 : Array CpInfo := pool [(1, .class_ 2), (0, u "java/lang/constant/ConstantDesc"), (0, .class_ 4), (0, u "java/lang/Object")] 32

/-- java/lang/constant/ConstantDesc -/
def k14 : Class := { plain "java/lang/constant/ConstantDesc" (some 0) with
  accessFlags := 1537
  interfaces := #[]
  cf := some (fileOf pool14 1 #[] #[] 1537 3 #[] #[])
  fields := #[]
  methods := #[]
  instanceTypes := #[]
  staticTypes := #[]
  resolved := Array.replicate 37 none
  statics := none }

def pool15 : Array CpInfo := pool [(2, .class_ 4), (1, u "java/lang/Object"), (0, u "<init>"), (0, u "()V"), (3, .class_ 12), (1, u "java/lang/String"), (0, u "value"), (0, u "[B"), (2, u "coder"), (0, u "B"), (2, u "hash"), (0, u "I"), (2, u "hashIsZero"), (0, u "Z"), (13, u "COMPACT_STRINGS"), (534, .class_ 576), (0, u "java/lang/CharSequence"), (22, u "CASE_INSENSITIVE_ORDER"), (0, u "Ljava/util/Comparator;"), (500, u "serialPersistentFields"), (0, u "[Ljava/io/ObjectStreamField;"), (0, .class_ 1104), (0, u "java/lang/String$CaseInsensitiveComparator"), (1, .class_ 1107), (0, u "java/io/Serializable"), (0, .class_ 1109), (0, u "java/lang/Comparable"), (0, .class_ 1111), (0, u "java/lang/constant/Constable"), (0, .class_ 1113), (0, u "java/lang/constant/ConstantDesc"), (2, u "serialVersionUID"), (0, u "J"), (3, u "REPL"), (0, u "C"), (2, u "LATIN1"), (1, u "UTF16")] 323

def k15m0 : Method := { name := "<init>", desc := "()V", sig := { parameters := [], returnType := none }, accessFlags := 1, code := none }
/-- java/lang/String -/
def k15 : Class := { plain "java/lang/String" (some 0) with
  accessFlags := 49
  interfaces := #[4, 3, 13, 2, 14]
  cf := some (fileOf pool15 10 #[.nestMembers #[1103]] #[{ accessFlags := 1, nameIndex := 5, descriptorIndex := 6, attributes := #[] }] 49 2 #[1106, 1108, 575, 1110, 1112] #[{ accessFlags := 18, nameIndex := 13, descriptorIndex := 14, attributes := #[] }, { accessFlags := 18, nameIndex := 17, descriptorIndex := 18, attributes := #[] }, { accessFlags := 2, nameIndex := 21, descriptorIndex := 22, attributes := #[] }, { accessFlags := 2, nameIndex := 25, descriptorIndex := 26, attributes := #[] }, { accessFlags := 26, nameIndex := 1116, descriptorIndex := 1117, attributes := #[] }, { accessFlags := 24, nameIndex := 40, descriptorIndex := 26, attributes := #[] }, { accessFlags := 26, nameIndex := 1101, descriptorIndex := 1102, attributes := #[] }, { accessFlags := 26, nameIndex := 1121, descriptorIndex := 1122, attributes := #[] }, { accessFlags := 25, nameIndex := 599, descriptorIndex := 600, attributes := #[] }, { accessFlags := 24, nameIndex := 1125, descriptorIndex := 18, attributes := #[] }, { accessFlags := 24, nameIndex := 1127, descriptorIndex := 18, attributes := #[] }])
  fields := #[{ name := "value", type := (.array .byte), accessFlags := 18, slot := 0, constantValue := 0 }, { name := "coder", type := .byte, accessFlags := 18, slot := 1, constantValue := 0 }, { name := "hash", type := .int, accessFlags := 2, slot := 2, constantValue := 0 }, { name := "hashIsZero", type := .boolean, accessFlags := 2, slot := 3, constantValue := 0 }, { name := "serialVersionUID", type := .long, accessFlags := 26, slot := 0, constantValue := 0 }, { name := "COMPACT_STRINGS", type := .boolean, accessFlags := 24, slot := 1, constantValue := 0 }, { name := "serialPersistentFields", type := (.array (.object "java/io/ObjectStreamField")), accessFlags := 26, slot := 2, constantValue := 0 }, { name := "REPL", type := .char, accessFlags := 26, slot := 3, constantValue := 0 }, { name := "CASE_INSENSITIVE_ORDER", type := (.object "java/util/Comparator"), accessFlags := 25, slot := 4, constantValue := 0 }, { name := "LATIN1", type := .byte, accessFlags := 24, slot := 5, constantValue := 0 }, { name := "UTF16", type := .byte, accessFlags := 24, slot := 6, constantValue := 0 }]
  methods := #[k15m0]
  instanceTypes := #[(.array .byte), .byte, .int, .boolean]
  staticTypes := #[.long, .boolean, (.array (.object "java/io/ObjectStreamField")), .char, (.object "java/util/Comparator"), .byte, .byte]
  resolved := Array.replicate 1451 none
  statics := none }

def pool16 : Array CpInfo := pool [(1, u "java/lang/Cloneable"), (0, .class_ 1), (0, u "java/lang/Object"), (0, .class_ 3)] 3

/-- java/lang/Cloneable -/
def k16 : Class := { plain "java/lang/Cloneable" (some 0) with
  accessFlags := 1537
  interfaces := #[]
  cf := some (fileOf pool16 2 #[] #[] 1537 4 #[] #[])
  fields := #[]
  methods := #[]
  instanceTypes := #[]
  staticTypes := #[]
  resolved := Array.replicate 8 none
  statics := none }

/-- the primitive byte -/
def k17 : Class := { plain "byte" none with kind := .primitive 'B', accessFlags := 0x411 }
/-- [B -/
def k18 : Class := { plain "[B" (some 0) with kind := .array 17 .byte, interfaces := #[16, 4], accessFlags := 1041 }

/-- the primitive int -/
def k19 : Class := { plain "int" none with kind := .primitive 'I', accessFlags := 0x411 }
/-- [I -/
def k20 : Class := { plain "[I" (some 0) with kind := .array 19 .int, interfaces := #[16, 4], accessFlags := 1041 }

def heap : Heap := #[{ cls := 6, slots := #[.ref 3, .ref 4, .ref 5, .null, .null], vm := .statics 6 },
  { cls := 8, slots := #[.ref 7, .long 0, .null], vm := .statics 8 },
  { cls := 9, slots := #[.ref 6], vm := .statics 9 },
  { cls := 6, slots := #[.null, .int 0, .int 0, .null, .null, .int 0, .int 0], vm := .none },
  { cls := 6, slots := #[.null, .int 0, .int 0, .null, .null, .int 0, .int 0], vm := .none },
  { cls := 6, slots := #[.null, .int 0, .int 0, .null, .null, .int 0, .int 1], vm := .none },
  { cls := 9, slots := #[.null], vm := .none },
  { cls := 8, slots := #[.long 0, .int 0], vm := .none }]
def classes : Array Class := #[k0, k1, k2, k3, k4, k5, k6, k7, k8, k9, k10, k11, k12, k13, k14, k15, k16, k17, k18, k19, k20]
def interned : List (Array UInt16 × Addr) := []
def slotsUsed : Nat := 33
def theMethod : MethodId := ⟨1, 1⟩
def args0 : Array Value := #[.int 3, .int 1, .long 120]
def aboutOver (below : List Frame) : State where
  vm := { classes := classes, interned := interned.toArray }
  heap := heap
  slotsUsed := slotsUsed
  threads := #[{ frames := .invoking theMethod args0 :: below }]
def below0 : List Frame := [.native { method := ⟨0, 0⟩, args := #[] }]
def about1 : State := aboutOver below0
def p0 : Program := .bare "" "" ""
def e0 : Env := launch0.env 0 0 0
theorem w_frames : about1.frames = Frame.invoking theMethod args0 :: below0 := rfl
set_option maxRecDepth 65536 in
theorem w_args : argsFit about1.vm theMethod args0 = true := by decide +kernel
set_option maxRecDepth 65536 in
theorem w_heap : heapFits about1 = true := by decide +kernel
set_option maxRecDepth 65536 in
theorem w_runnable : about1.curStatus? = some .runnable := by decide +kernel
set_option maxRecDepth 65536 in
theorem w_alone : about1.alone = true := by decide +kernel
set_option maxRecDepth 65536 in
theorem w_named : about1.methodNamed? x = some theMethod := by decide +kernel
set_option maxRecDepth 65536 in
theorem w_hears : about1.hears theMethod below0 = true := by decide +kernel
set_option maxRecDepth 65536 in
theorem w_ripe : about1.ripe theMethod args0 below0 = true := by decide +kernel
theorem w_running : about1.status = .running := rfl
set_option maxRecDepth 65536 in
theorem w_room : about1.hasRoom e0.platform room_1 = true :=
  launch0.hasRoom_least _ room_1 (by decide +kernel) (by decide +kernel) (by decide +kernel) (by decide +kernel) (by decide +kernel) (by decide +kernel)
theorem allAtoms_all (ts : List Jvm.Cond) (a : Array Jvm.Value) (st : Jvm.State) : (allAtoms ts).before a st = ts.all (fun c => c.before a st) := by
  induction ts with
  | nil => rfl
  | cons c t ih =>
    show (Jvm.Cond.and c (allAtoms t)).before a st = _
    rw [Jvm.Cond.before_and, ih, List.all_cons]
def words1 : List Jvm.Cond := Jvm.Cond.code x code maxLocals ret :: tables_1
/-- a 'code' word, met by the world's own term for the bytes: nothing is compared byte by byte -/
theorem code_word {y : MethodName} {bytes : ByteArray} {mx : Nat} {rt : Option FieldType} {a : Array Value} {s : State} {m : MethodId} {meth : Method} {c : Code} (h1 : s.methodNamed? y = some m) (h2 : s.vm.method? m = some meth) (h3 : meth.code = some c) (h4 : c.code = bytes)
    (h5 : (c.maxLocals == mx && c.exceptionTable.isEmpty && decide (c.maxStack ≤ mostOperands) && decide (meth.sig.returnType = rt) && !meth.locks && decide (parseMethodDescriptor y.desc = some meth.sig)) = true) : (Jvm.Cond.code y bytes mx rt).before a s = true := by
  simp only [Bool.and_eq_true, beq_iff_eq, Bool.not_eq_true', decide_eq_true_eq] at h5
  obtain ⟨⟨⟨⟨⟨g1, g2⟩, g3⟩, g4⟩, g5⟩, g6⟩ := h5
  simp [Cond.before, Cond.holds, Cond.value, h1, h2, h3, h4, g1, g2, g3, g4, g5, g6]
def isCode : Jvm.Cond → Bool
  | .code _ _ _ _ => true
  | _ => false
theorem all_split {L : List Jvm.Cond} {P : Jvm.Cond → Bool} (h1 : L.all (fun c => isCode c || P c) = true) (h2 : ∀ c ∈ L.filter isCode, P c = true) : L.all P = true := by
  refine List.all_eq_true.mpr fun c hc => ?_
  have h := List.all_eq_true.mp h1 c hc
  rcases Bool.eq_false_or_eq_true (isCode c) with hi | hi
  · exact h2 c (List.mem_filter.mpr ⟨hc, hi⟩)
  · simpa [hi] using h
set_option maxRecDepth 65536 in
theorem w_c0 : (Jvm.Cond.code x code maxLocals ret).before args0 about1 = true := code_word (m := ⟨1, 1⟩) (meth := k1m1) (c := k1c1) (by decide +kernel) rfl rfl rfl (by decide +kernel)
set_option maxRecDepth 65536 in
theorem w_c1 : (Jvm.Cond.code ({ cls := "java/time/Duration", name := "ofNanos", desc := "(J)Ljava/time/Duration;" } : Jvm.MethodName) jdk_2316_method_7_code (5 : Nat) (Option.some (Jvm.ClassFile.FieldType.object "java/time/Duration"))).before args0 about1 = true := code_word (m := ⟨8, 0⟩) (meth := k8m0) (c := k8c0) (by decide +kernel) rfl rfl rfl (by decide +kernel)
set_option maxRecDepth 65536 in
theorem w_c2 : (Jvm.Cond.code ({ cls := "java/time/Duration", name := "create", desc := "(JI)Ljava/time/Duration;" } : Jvm.MethodName) jdk_2316_method_16_code (3 : Nat) (Option.some (Jvm.ClassFile.FieldType.object "java/time/Duration"))).before args0 about1 = true := code_word (m := ⟨8, 1⟩) (meth := k8m1) (c := k8c1) (by decide +kernel) rfl rfl rfl (by decide +kernel)
set_option maxRecDepth 65536 in
theorem w_c3 : (Jvm.Cond.code ({ cls := "java/time/Duration", name := "<init>", desc := "(JI)V" } : Jvm.MethodName) jdk_2316_method_17_code (4 : Nat) (Option.none : Option Jvm.ClassFile.FieldType)).before args0 about1 = true := code_word (m := ⟨8, 2⟩) (meth := k8m2) (c := k8c2) (by decide +kernel) rfl rfl rfl (by decide +kernel)
set_option maxRecDepth 65536 in
theorem w_c4 : (Jvm.Cond.code ({ cls := "java/lang/Object", name := "<init>", desc := "()V" } : Jvm.MethodName) object_method_1_code (1 : Nat) (Option.none : Option Jvm.ClassFile.FieldType)).before args0 about1 = true := code_word (m := ⟨0, 0⟩) (meth := k0m0) (c := k0c0) (by decide +kernel) rfl rfl rfl (by decide +kernel)
set_option maxRecDepth 65536 in
theorem w_c5 : (Jvm.Cond.code ({ cls := "java/util/Optional", name := "of", desc := "(Ljava/lang/Object;)Ljava/util/Optional;" } : Jvm.MethodName) jdk_32_method_3_code (1 : Nat) (Option.some (Jvm.ClassFile.FieldType.object "java/util/Optional"))).before args0 about1 = true := code_word (m := ⟨9, 2⟩) (meth := k9m2) (c := k9c2) (by decide +kernel) rfl rfl rfl (by decide +kernel)
set_option maxRecDepth 65536 in
theorem w_c6 : (Jvm.Cond.code ({ cls := "java/util/Objects", name := "requireNonNull", desc := "(Ljava/lang/Object;)Ljava/lang/Object;" } : Jvm.MethodName) jdk_31_method_10_code (1 : Nat) (Option.some (Jvm.ClassFile.FieldType.object "java/lang/Object"))).before args0 about1 = true := code_word (m := ⟨10, 1⟩) (meth := k10m1) (c := k10c1) (by decide +kernel) rfl rfl rfl (by decide +kernel)
set_option maxRecDepth 65536 in
theorem w_c7 : (Jvm.Cond.code ({ cls := "java/util/Optional", name := "<init>", desc := "(Ljava/lang/Object;)V" } : Jvm.MethodName) jdk_32_method_2_code (2 : Nat) (Option.none : Option Jvm.ClassFile.FieldType)).before args0 about1 = true := code_word (m := ⟨9, 1⟩) (meth := k9m1) (c := k9c1) (by decide +kernel) rfl rfl rfl (by decide +kernel)
set_option maxRecDepth 65536 in
theorem w_c8 : (Jvm.Cond.code ({ cls := "com/example/freshline/freshline/server/TransactionOptions", name := "<init>", desc := "(Lcom/example/freshline/freshline/model/Isolation;Ljava/util/Optional;)V" } : Jvm.MethodName) prog_63_method_1_code (3 : Nat) (Option.none : Option Jvm.ClassFile.FieldType)).before args0 about1 = true := code_word (m := ⟨12, 0⟩) (meth := k12m0) (c := k12c0) (by decide +kernel) rfl rfl rfl (by decide +kernel)
set_option maxRecDepth 65536 in
theorem w_c9 : (Jvm.Cond.code ({ cls := "java/lang/Record", name := "<init>", desc := "()V" } : Jvm.MethodName) jdk_30_method_1_code (1 : Nat) (Option.none : Option Jvm.ClassFile.FieldType)).before args0 about1 = true := code_word (m := ⟨11, 0⟩) (meth := k11m0) (c := k11c0) (by decide +kernel) rfl rfl rfl (by decide +kernel)
set_option maxRecDepth 65536 in
theorem w_c10 : (Jvm.Cond.code ({ cls := "java/util/Objects", name := "requireNonNull", desc := "(Ljava/lang/Object;Ljava/lang/String;)Ljava/lang/Object;" } : Jvm.MethodName) jdk_31_method_11_code (2 : Nat) (Option.some (Jvm.ClassFile.FieldType.object "java/lang/Object"))).before args0 about1 = true := code_word (m := ⟨10, 2⟩) (meth := k10m2) (c := k10c2) (by decide +kernel) rfl rfl rfl (by decide +kernel)
set_option maxRecDepth 65536 in
theorem w_c11 : (Jvm.Cond.code ({ cls := "com/example/freshline/freshline/server/TransactionOptions", name := "checksDrift", desc := "()Z" } : Jvm.MethodName) prog_63_method_3_code (1 : Nat) (Option.some Jvm.ClassFile.FieldType.boolean)).before args0 about1 = true := code_word (m := ⟨12, 1⟩) (meth := k12m1) (c := k12c1) (by decide +kernel) rfl rfl rfl (by decide +kernel)
set_option maxRecDepth 65536 in
theorem w_c12 : (Jvm.Cond.code ({ cls := "java/util/Optional", name := "isPresent", desc := "()Z" } : Jvm.MethodName) jdk_32_method_6_code (1 : Nat) (Option.some Jvm.ClassFile.FieldType.boolean)).before args0 about1 = true := code_word (m := ⟨9, 3⟩) (meth := k9m3) (c := k9c3) (by decide +kernel) rfl rfl rfl (by decide +kernel)
set_option maxRecDepth 65536 in
theorem w_c13 : (Jvm.Cond.code ({ cls := "com/example/freshline/freshline/model/Isolation", name := "locks", desc := "()Z" } : Jvm.MethodName) prog_27_method_8_code (1 : Nat) (Option.some Jvm.ClassFile.FieldType.boolean)).before args0 about1 = true := code_word (m := ⟨6, 0⟩) (meth := k6m0) (c := k6c0) (by decide +kernel) rfl rfl rfl (by decide +kernel)
set_option maxRecDepth 65536 in
theorem w_c14 : (Jvm.Cond.code ({ cls := "java/util/Optional", name := "empty", desc := "()Ljava/util/Optional;" } : Jvm.MethodName) jdk_32_method_1_code (1 : Nat) (Option.some (Jvm.ClassFile.FieldType.object "java/util/Optional"))).before args0 about1 = true := code_word (m := ⟨9, 0⟩) (meth := k9m0) (c := k9c0) (by decide +kernel) rfl rfl rfl (by decide +kernel)
def codes1 : List Jvm.Cond := [Jvm.Cond.code x code maxLocals ret, Jvm.Cond.code ({ cls := "java/time/Duration", name := "ofNanos", desc := "(J)Ljava/time/Duration;" } : Jvm.MethodName) jdk_2316_method_7_code (5 : Nat) (Option.some (Jvm.ClassFile.FieldType.object "java/time/Duration")), Jvm.Cond.code ({ cls := "java/time/Duration", name := "create", desc := "(JI)Ljava/time/Duration;" } : Jvm.MethodName) jdk_2316_method_16_code (3 : Nat) (Option.some (Jvm.ClassFile.FieldType.object "java/time/Duration")), Jvm.Cond.code ({ cls := "java/time/Duration", name := "<init>", desc := "(JI)V" } : Jvm.MethodName) jdk_2316_method_17_code (4 : Nat) (Option.none : Option Jvm.ClassFile.FieldType), Jvm.Cond.code ({ cls := "java/lang/Object", name := "<init>", desc := "()V" } : Jvm.MethodName) object_method_1_code (1 : Nat) (Option.none : Option Jvm.ClassFile.FieldType), Jvm.Cond.code ({ cls := "java/util/Optional", name := "of", desc := "(Ljava/lang/Object;)Ljava/util/Optional;" } : Jvm.MethodName) jdk_32_method_3_code (1 : Nat) (Option.some (Jvm.ClassFile.FieldType.object "java/util/Optional")), Jvm.Cond.code ({ cls := "java/util/Objects", name := "requireNonNull", desc := "(Ljava/lang/Object;)Ljava/lang/Object;" } : Jvm.MethodName) jdk_31_method_10_code (1 : Nat) (Option.some (Jvm.ClassFile.FieldType.object "java/lang/Object")), Jvm.Cond.code ({ cls := "java/util/Optional", name := "<init>", desc := "(Ljava/lang/Object;)V" } : Jvm.MethodName) jdk_32_method_2_code (2 : Nat) (Option.none : Option Jvm.ClassFile.FieldType), Jvm.Cond.code ({ cls := "com/example/freshline/freshline/server/TransactionOptions", name := "<init>", desc := "(Lcom/example/freshline/freshline/model/Isolation;Ljava/util/Optional;)V" } : Jvm.MethodName) prog_63_method_1_code (3 : Nat) (Option.none : Option Jvm.ClassFile.FieldType), Jvm.Cond.code ({ cls := "java/lang/Record", name := "<init>", desc := "()V" } : Jvm.MethodName) jdk_30_method_1_code (1 : Nat) (Option.none : Option Jvm.ClassFile.FieldType), Jvm.Cond.code ({ cls := "java/util/Objects", name := "requireNonNull", desc := "(Ljava/lang/Object;Ljava/lang/String;)Ljava/lang/Object;" } : Jvm.MethodName) jdk_31_method_11_code (2 : Nat) (Option.some (Jvm.ClassFile.FieldType.object "java/lang/Object")), Jvm.Cond.code ({ cls := "com/example/freshline/freshline/server/TransactionOptions", name := "checksDrift", desc := "()Z" } : Jvm.MethodName) prog_63_method_3_code (1 : Nat) (Option.some Jvm.ClassFile.FieldType.boolean), Jvm.Cond.code ({ cls := "java/util/Optional", name := "isPresent", desc := "()Z" } : Jvm.MethodName) jdk_32_method_6_code (1 : Nat) (Option.some Jvm.ClassFile.FieldType.boolean), Jvm.Cond.code ({ cls := "com/example/freshline/freshline/model/Isolation", name := "locks", desc := "()Z" } : Jvm.MethodName) prog_27_method_8_code (1 : Nat) (Option.some Jvm.ClassFile.FieldType.boolean), Jvm.Cond.code ({ cls := "java/util/Optional", name := "empty", desc := "()Ljava/util/Optional;" } : Jvm.MethodName) jdk_32_method_1_code (1 : Nat) (Option.some (Jvm.ClassFile.FieldType.object "java/util/Optional"))]
set_option maxRecDepth 65536 in
theorem codes_eq : words1.filter isCode = codes1 := rfl
theorem w_codes : ∀ c ∈ words1.filter isCode, c.before args0 about1 = true := by
  rw [codes_eq]
  intro c hc
  simp only [codes1, List.mem_cons, List.not_mem_nil, or_false] at hc
  rcases hc with rfl | rfl | rfl | rfl | rfl | rfl | rfl | rfl | rfl | rfl | rfl | rfl | rfl | rfl | rfl
  · exact w_c0
  · exact w_c1
  · exact w_c2
  · exact w_c3
  · exact w_c4
  · exact w_c5
  · exact w_c6
  · exact w_c7
  · exact w_c8
  · exact w_c9
  · exact w_c10
  · exact w_c11
  · exact w_c12
  · exact w_c13
  · exact w_c14
set_option maxRecDepth 65536 in
theorem w_t1 : (words1.take 24).all (fun c => isCode c || c.before args0 about1) = true := by decide +kernel
set_option maxRecDepth 65536 in
theorem w_t2 : ((words1.drop 24).take 24).all (fun c => isCode c || c.before args0 about1) = true := by decide +kernel
set_option maxRecDepth 65536 in
theorem w_t3 : (((words1.drop 24).drop 24).take 24).all (fun c => isCode c || c.before args0 about1) = true := by decide +kernel
set_option maxRecDepth 65536 in
theorem w_t4 : ((((words1.drop 24).drop 24).drop 24).take 24).all (fun c => isCode c || c.before args0 about1) = true := by decide +kernel
set_option maxRecDepth 65536 in
theorem w_t5 : ((((words1.drop 24).drop 24).drop 24).drop 24).all (fun c => isCode c || c.before args0 about1) = true := by decide +kernel
theorem w_tables : (allAtoms (Jvm.Cond.code x code maxLocals ret :: tables_1)).before args0 about1 = true := by
  rw [allAtoms_all]
  show words1.all (fun c => c.before args0 about1) = true
  refine all_split ?_ w_codes
  rw [← List.take_append_drop 24 words1, List.all_append, w_t1, ← List.take_append_drop 24 (words1.drop 24), List.all_append, w_t2, ← List.take_append_drop 24 ((words1.drop 24).drop 24), List.all_append, w_t3, ← List.take_append_drop 24 (((words1.drop 24).drop 24).drop 24), List.all_append, w_t4, w_t5]
  rfl
set_option maxRecDepth 65536 in
theorem w_rest : rest_1_c.before args0 about1 = true := by decide +kernel
set_option maxRecDepth 65536 in
theorem w_case : (Jvm.Cond.and given_1 narrow_1).before args0 about1 = true := by decide +kernel
theorem w_applies : (headSpec (Jvm.Cond.code x code maxLocals ret :: tables_1) room_1).applies x e0.platform about1 = true :=
  (Spec.applies_iff w_frames).mpr ⟨w_running, w_runnable, w_alone, w_named, w_hears, w_ripe, w_room, w_tables⟩
theorem atStart : AtStart classFile x code maxLocals ret World_1 tables_1 room_1 Calls_1 rest_1 Pre_1 launch0 p0 e0 about1 theMethod args0 below0 :=
  ⟨lists_1, trivial, launch0.admits_env _ _ _, launch0.least_env, fairChoices_fair.cas, fairChoices_fair.clock, w_frames, w_args, w_heap, w_applies, trivial, w_rest, w_case⟩
end start1
theorem witness_1 : WitnessClaimed_1 := ⟨start1.p0, start1.e0, start1.about1, start1.theMethod, start1.args0, start1.below0, start1.atStart⟩
end Jvm.Pilot.@@N@@
