import JvmDerived
import JvmDerived.Pilot.@@N@@Statement
import JvmDerived.Pilot.@@N@@Code
set_option linter.unusedVariables false
set_option linter.unusedSimpArgs false
namespace Jvm.RoadKit
open Sem ClassFile Op Lib Jvm.Stand Jvm.Free Jvm.LawKit
section New
variable {p : Program} {l : Launch} {e : Env} {R : Room} {s : State} {m : MethodId} {args : Array Value} {below : List Frame} {meth : Method} {c : Code} {T : State} {locs : List Loc} {cells slots : Nat}
theorem retI (X : Stand p l e R s m args below meth c T locs cells slots) (hx : p.tables.exec = Jvm.exec) {pc : Nat} {Ls : Array Slot} {z : Int32} {rest : List Value} (hret : meth.sig.returnType = some .int) (hd : decode c.code pc = .ok (.ireturn, 1)) {fs : List Frame}
    (hl : ∀ (f : JFrame) (acts : List Action), f.method = m → f.locked = none → f.entered = [] → (doReturn e (T.setTop f) acts (some (.int z))).1 = T.setFrames fs) : Steps p.tables e below (T.setTop (mkF m pc Ls (.int z :: rest))) (T.setFrames fs) := by
  have hm' : T.vm.method? m = some meth := X.method'
  have hn : narrow .int (.int z) = .int z := rfl
  show Steps p.tables e below (T.setTop { method := m, pc := pc, locals := Ls, stack := _ :: rest, locked := none }) _
  jvm_step X.here [X.here.top, hx, hd, hm', hret, hn]
  first | (intro acts; rw [hl _ acts rfl rfl rfl]) | rw [hl _ _ rfl rfl rfl]
  exact Steps.refl _
end New
end Jvm.RoadKit
namespace Jvm.Pilot.@@N@@
open Jvm Jvm.ClassFile Sem Op Lib Jvm.Free Jvm.Stand Jvm.LawKit Jvm.RoadKit Bundle Jvm.Pilot.@@N@@.Jvm.D
theorem own_b53 (x : Int32) : B53 x.toInt64 := by
  have r := rng32 x
  unfold B53
  rw [c_i2l]
  omega
theorem own_lt64 (x y : Int32) : x.toInt64 < y.toInt64 ↔ x < y := by
  rw [Int64.lt_iff_toInt_lt, Int32.lt_iff_toInt_lt, c_i2l, c_i2l]
def own_nw : List (Int32 × Int32) → Int32
  | [] => 1
  | q :: r => if (q.2.toInt64) < (q.1.toInt64) then 0 else own_nw r
def own_dom (l l' : List (Int32 × Int32)) : Int32 := if own_nw l = 0 then 0 else if own_nw l' = 0 then 1 else 0
theorem own_n4 (k : Int32) {n : Int32} (hn : n = (k &&& (3 : Int32))) : n = 0 ∨ n = 1 ∨ n = 2 ∨ n = 3 := by
  have q := c_mask k 3 2 (by decide) (by decide)
  rw [← hn] at q
  have h : n.toInt = 0 ∨ n.toInt = 1 ∨ n.toInt = 2 ∨ n.toInt = 3 := by omega
  rcases h with h | h | h | h
  · exact Or.inl (Int32.toInt_inj.mp (h.trans (by decide)))
  · exact Or.inr (Or.inl (Int32.toInt_inj.mp (h.trans (by decide))))
  · exact Or.inr (Or.inr (Or.inl (Int32.toInt_inj.mp (h.trans (by decide)))))
  · exact Or.inr (Or.inr (Or.inr (Int32.toInt_inj.mp (h.trans (by decide)))))
theorem own_tri (a b : Int32) : (a < b ∧ ¬ b < a) ∨ (¬ a < b ∧ ¬ b < a) ∨ (¬ a < b ∧ b < a) := by
  rw [Int32.lt_iff_toInt_lt, Int32.lt_iff_toInt_lt]
  omega
theorem own_fin1 (ra0 rb0 : Int32) (v51 v55 v60 v62 : Int32) (hv51 : v51 = (if rb0 < ra0 then (0 : Int32) else (1 : Int32))) (hv55 : v55 = (if ra0 < rb0 then (1 : Int32) else (0 : Int32))) (hv60 : v60 = (if v55 = 0 then (0 : Int32) else (1 : Int32))) (hv62 : v62 = (if v51 = 0 then (0 : Int32) else v60)) : (own_dom [(ra0, rb0)] [(rb0, ra0)]) = v62 := by
  subst hv51 hv55 hv60 hv62
  simp only [own_dom, own_nw, own_lt64]
  rcases own_tri ra0 rb0 with ⟨a1, a2⟩ | ⟨a1, a2⟩ | ⟨a1, a2⟩ <;> simp [*]
theorem own_fin2 (ra0 ra1 rb0 rb1 : Int32) (v91 v95 v99 v103 v110 v112 v114 v116 : Int32) (hv91 : v91 = (if rb0 < ra0 then (0 : Int32) else (1 : Int32))) (hv95 : v95 = (if rb1 < ra1 then (0 : Int32) else (1 : Int32))) (hv99 : v99 = (if ra0 < rb0 then (1 : Int32) else (0 : Int32))) (hv103 : v103 = (if ra1 < rb1 then (1 : Int32) else (0 : Int32))) (hv110 : v110 = (if v103 = 0 then (0 : Int32) else (1 : Int32))) (hv112 : v112 = (if v99 = 0 then v110 else (1 : Int32))) (hv114 : v114 = (if v95 = 0 then (0 : Int32) else v112)) (hv116 : v116 = (if v91 = 0 then (0 : Int32) else v114)) : (own_dom [(ra0, rb0), (ra1, rb1)] [(rb0, ra0), (rb1, ra1)]) = v116 := by
  subst hv91 hv95 hv99 hv103 hv110 hv112 hv114 hv116
  simp only [own_dom, own_nw, own_lt64]
  rcases own_tri ra0 rb0 with ⟨a1, a2⟩ | ⟨a1, a2⟩ | ⟨a1, a2⟩ <;> rcases own_tri ra1 rb1 with ⟨b1, d1⟩ | ⟨b1, d1⟩ | ⟨b1, d1⟩ <;> simp [*]
theorem own_fin3 (ra0 ra1 ra2 rb0 rb1 rb2 : Int32) (v153 v157 v161 v165 v169 v173 v182 v184 v186 v188 v190 v192 : Int32) (hv153 : v153 = (if rb0 < ra0 then (0 : Int32) else (1 : Int32))) (hv157 : v157 = (if rb1 < ra1 then (0 : Int32) else (1 : Int32))) (hv161 : v161 = (if rb2 < ra2 then (0 : Int32) else (1 : Int32))) (hv165 : v165 = (if ra0 < rb0 then (1 : Int32) else (0 : Int32))) (hv169 : v169 = (if ra1 < rb1 then (1 : Int32) else (0 : Int32))) (hv173 : v173 = (if ra2 < rb2 then (1 : Int32) else (0 : Int32))) (hv182 : v182 = (if v173 = 0 then (0 : Int32) else (1 : Int32))) (hv184 : v184 = (if v169 = 0 then v182 else (1 : Int32))) (hv186 : v186 = (if v165 = 0 then v184 else (1 : Int32))) (hv188 : v188 = (if v161 = 0 then (0 : Int32) else v186)) (hv190 : v190 = (if v157 = 0 then (0 : Int32) else v188)) (hv192 : v192 = (if v153 = 0 then (0 : Int32) else v190)) : (own_dom [(ra0, rb0), (ra1, rb1), (ra2, rb2)] [(rb0, ra0), (rb1, ra1), (rb2, ra2)]) = v192 := by
  subst hv153 hv157 hv161 hv165 hv169 hv173 hv182 hv184 hv186 hv188 hv190 hv192
  simp only [own_dom, own_nw, own_lt64]
  rcases own_tri ra0 rb0 with ⟨a1, a2⟩ | ⟨a1, a2⟩ | ⟨a1, a2⟩ <;> rcases own_tri ra1 rb1 with ⟨b1, d1⟩ | ⟨b1, d1⟩ | ⟨b1, d1⟩ <;> rcases own_tri ra2 rb2 with ⟨b2, d2⟩ | ⟨b2, d2⟩ | ⟨b2, d2⟩ <;> simp [*]
theorem own_ef_own_lo (m : MethodId) (q0 : Int32) : entryFrame m #[(.int q0)] 1 = mkF m 0 #[.val (.int q0)] [] := by first | (simp [entryFrame, mkF, argsToLocals, Value.category]; done) | rfl
def Q_own_lo (Z : State) (q0 : Int32)  (h0 : Heap) (n0 : Nat) (v : Option Value) (h : Heap) (L : List Loc) : Prop := v = some (.int (q0.toInt16.toInt32)) ∧ Fr n0 L ∧ h = h0
theorem own_pn_com_example_cultivar_cultivar_ParetoDominatesPinLaw : plainName "com/example/cultivar/cultivar/ParetoDominatesPinLaw" = true := by first | (simp [plainName, overriddenIn]; done) | decide +kernel
theorem own_d_method_2_0 : decode method_2_code 0 = .ok (.iload_n 0, 1) := by decide +kernel
theorem own_d_method_2_1 : decode method_2_code 1 = .ok (.i2s, 1) := by decide +kernel
theorem own_d_method_2_2 : decode method_2_code 2 = .ok (.ireturn, 1) := by decide +kernel
set_option maxRecDepth 65536 in
set_option maxHeartbeats 40000000 in
theorem own_lo (l : Launch) (Z : State) (a0 : Array Value) (hw : ∀ d ∈ tables_1, d.before a0 Z = true) (ws : List Jvm.Cond) (q0 : Int32)  (h0 : Heap) (n0 : Nat) (Z0 : n0 ≤ h0.size)  :
    MetFree l (⟨"com/example/cultivar/cultivar/ParetoDominatesPinLaw", "lo", "(I)I"⟩ : MethodName) (head1 (Jvm.Cond.code (⟨"com/example/cultivar/cultivar/ParetoDominatesPinLaw", "lo", "(I)I"⟩ : MethodName) method_2_code 1 (some .int) :: ws) ({ frames := 0, cells := 0, slots := 0, locals := 0 } : Room)) (fun a U => a = #[(.int q0)] ∧ Z.Warmed39 U.vm ∧ U.heap = h0) (fun _ _ _ _ _ => True) (fun _ U o U' => ∃ v L, o = .returned v ∧ Q_own_lo Z q0 h0 n0 v U'.heap L ∧ FrameEnd U o U' L ({ frames := 0, cells := 0, slots := 0, locals := 0 } : Room).cells ({ frames := 0, cells := 0, slots := 0, locals := 0 } : Room).slots) := by
  refine MetFree.of_bodySF (plainFor_of_name own_pn_com_example_cultivar_cultivar_ParetoDominatesPinLaw) hisR ?_
  intro p e s m args below meth c s₁ Bd hml0 hP hK
  obtain ⟨rfl, hZ, hh⟩ := hP
  have hx := Bd.exec
  have hby := Bd.bytes
  have hml : c.maxLocals = 1 := hml0
  have hown : s.vm.findClass "com/example/cultivar/cultivar/ParetoDominatesPinLaw" = some m.cls := findClass_of_methodNamed Bd.named
  have hnm := (name_of_methodNamed Bd.named Bd.method).1
  have X0 : Stand p l e ({ frames := 0, cells := 0, slots := 0, locals := 0 } : Room) s m #[(.int q0)] below meth c s₁ [] 0 0 := Stand.of_body Bd
  have e0 : s₁.heap = h0 := by rw [← hh, Bd.state]; rfl
  have N0 := Fr.nil n0
  have pre0 : ∀ t, Steps p.tables e below (s₁.setTop (mkF m 0 #[.val (.int q0)] [])) t → Steps p.tables e below (s₁.setTop (entryFrame m #[(.int q0)] 1)) t := fun t k => castTop (own_ef_own_lo m q0) k
  have pre1 : ∀ t, Steps p.tables e below (s₁.setTop (mkF m 2 #[.val (.int q0)] [(.int (q0.toInt16.toInt32))])) t → Steps p.tables e below (s₁.setTop (entryFrame m #[(.int q0)] 1)) t := fun t k => pre0 _ (by
    show Steps p.tables e below (s₁.setTop (mkF m 0 #[.val (.int q0)] [])) _
    refine XS.iloadN X0.here hx rfl (hb hby own_d_method_2_0) rfl ?_
    show Steps p.tables e below (s₁.setTop (mkF m 1 #[.val (.int q0)] [(.int q0)])) _
    refine XS.i2s X0.here hx rfl (hb hby own_d_method_2_1) rfl ?_
    exact k)
  obtain ⟨fs, hr, hrun, hended, hW, hsame⟩ := X0.leave (v := some (.int (q0.toInt16.toInt32))) (fun h => by rw [Bd.returns] at h; cases h)
  refine ⟨_, _, pre1 _ ?_, hrun, hended, _, _, rfl, ?_, ⟨_, rfl⟩, hW, hsame.mono (by decide) (by decide)⟩
  · show Steps p.tables e below (s₁.setTop (mkF m 2 #[.val (.int q0)] [(.int (q0.toInt16.toInt32))])) _
    exact retI X0 hx Bd.returns (hb hby own_d_method_2_2) hr
  · show Q_own_lo Z q0 h0 n0 _ s₁.heap _
    rw [e0]
    exact ⟨rfl, N0, rfl⟩
theorem own_ef_own_hi (m : MethodId) (q0 : Int32) : entryFrame m #[(.int q0)] 1 = mkF m 0 #[.val (.int q0)] [] := by first | (simp [entryFrame, mkF, argsToLocals, Value.category]; done) | rfl
def Q_own_hi (Z : State) (q0 : Int32)  (h0 : Heap) (n0 : Nat) (v : Option Value) (h : Heap) (L : List Loc) : Prop := v = some (.int (((q0.toUInt32 >>> ((16 : Int32) &&& 31).toUInt32).toInt32).toInt16.toInt32)) ∧ Fr n0 L ∧ h = h0
theorem own_d_method_3_0 : decode method_3_code 0 = .ok (.iload_n 0, 1) := by decide +kernel
theorem own_d_method_3_1 : decode method_3_code 1 = .ok (.bipush 16, 2) := by decide +kernel
theorem own_d_method_3_3 : decode method_3_code 3 = .ok (.iushr, 1) := by decide +kernel
theorem own_d_method_3_4 : decode method_3_code 4 = .ok (.i2s, 1) := by decide +kernel
theorem own_d_method_3_5 : decode method_3_code 5 = .ok (.ireturn, 1) := by decide +kernel
set_option maxRecDepth 65536 in
set_option maxHeartbeats 40000000 in
theorem own_hi (l : Launch) (Z : State) (a0 : Array Value) (hw : ∀ d ∈ tables_1, d.before a0 Z = true) (ws : List Jvm.Cond) (q0 : Int32)  (h0 : Heap) (n0 : Nat) (Z0 : n0 ≤ h0.size)  :
    MetFree l (⟨"com/example/cultivar/cultivar/ParetoDominatesPinLaw", "hi", "(I)I"⟩ : MethodName) (head1 (Jvm.Cond.code (⟨"com/example/cultivar/cultivar/ParetoDominatesPinLaw", "hi", "(I)I"⟩ : MethodName) method_3_code 1 (some .int) :: ws) ({ frames := 0, cells := 0, slots := 0, locals := 0 } : Room)) (fun a U => a = #[(.int q0)] ∧ Z.Warmed39 U.vm ∧ U.heap = h0) (fun _ _ _ _ _ => True) (fun _ U o U' => ∃ v L, o = .returned v ∧ Q_own_hi Z q0 h0 n0 v U'.heap L ∧ FrameEnd U o U' L ({ frames := 0, cells := 0, slots := 0, locals := 0 } : Room).cells ({ frames := 0, cells := 0, slots := 0, locals := 0 } : Room).slots) := by
  refine MetFree.of_bodySF (plainFor_of_name own_pn_com_example_cultivar_cultivar_ParetoDominatesPinLaw) hisR ?_
  intro p e s m args below meth c s₁ Bd hml0 hP hK
  obtain ⟨rfl, hZ, hh⟩ := hP
  have hx := Bd.exec
  have hby := Bd.bytes
  have hml : c.maxLocals = 1 := hml0
  have hown : s.vm.findClass "com/example/cultivar/cultivar/ParetoDominatesPinLaw" = some m.cls := findClass_of_methodNamed Bd.named
  have hnm := (name_of_methodNamed Bd.named Bd.method).1
  have X0 : Stand p l e ({ frames := 0, cells := 0, slots := 0, locals := 0 } : Room) s m #[(.int q0)] below meth c s₁ [] 0 0 := Stand.of_body Bd
  have e0 : s₁.heap = h0 := by rw [← hh, Bd.state]; rfl
  have N0 := Fr.nil n0
  have pre0 : ∀ t, Steps p.tables e below (s₁.setTop (mkF m 0 #[.val (.int q0)] [])) t → Steps p.tables e below (s₁.setTop (entryFrame m #[(.int q0)] 1)) t := fun t k => castTop (own_ef_own_hi m q0) k
  have pre1 : ∀ t, Steps p.tables e below (s₁.setTop (mkF m 5 #[.val (.int q0)] [(.int (((q0.toUInt32 >>> ((16 : Int32) &&& 31).toUInt32).toInt32).toInt16.toInt32))])) t → Steps p.tables e below (s₁.setTop (entryFrame m #[(.int q0)] 1)) t := fun t k => pre0 _ (by
    show Steps p.tables e below (s₁.setTop (mkF m 0 #[.val (.int q0)] [])) _
    refine XS.iloadN X0.here hx rfl (hb hby own_d_method_3_0) rfl ?_
    show Steps p.tables e below (s₁.setTop (mkF m 1 #[.val (.int q0)] [(.int q0)])) _
    refine XT.bipushV X0.here hx rfl (16 : Int32) (hb hby own_d_method_3_1) rfl ?_
    show Steps p.tables e below (s₁.setTop (mkF m 3 #[.val (.int q0)] [(.int (16 : Int32)), (.int q0)])) _
    refine XS.iushr X0.here hx rfl (hb hby own_d_method_3_3) rfl ?_
    show Steps p.tables e below (s₁.setTop (mkF m 4 #[.val (.int q0)] [(.int ((q0.toUInt32 >>> ((16 : Int32) &&& 31).toUInt32).toInt32))])) _
    refine XS.i2s X0.here hx rfl (hb hby own_d_method_3_4) rfl ?_
    exact k)
  obtain ⟨fs, hr, hrun, hended, hW, hsame⟩ := X0.leave (v := some (.int (((q0.toUInt32 >>> ((16 : Int32) &&& 31).toUInt32).toInt32).toInt16.toInt32))) (fun h => by rw [Bd.returns] at h; cases h)
  refine ⟨_, _, pre1 _ ?_, hrun, hended, _, _, rfl, ?_, ⟨_, rfl⟩, hW, hsame.mono (by decide) (by decide)⟩
  · show Steps p.tables e below (s₁.setTop (mkF m 5 #[.val (.int q0)] [(.int (((q0.toUInt32 >>> ((16 : Int32) &&& 31).toUInt32).toInt32).toInt16.toInt32))])) _
    exact retI X0 hx Bd.returns (hb hby own_d_method_3_5) hr
  · show Q_own_hi Z q0 h0 n0 _ s₁.heap _
    rw [e0]
    exact ⟨rfl, N0, rfl⟩
theorem own_ef_own_nw0 (m : MethodId) (ta : Addr) (tb : Addr) : entryFrame m #[(.ref ta), (.ref tb)] 3 = mkF m 0 #[.val (.ref ta), .val (.ref tb), .unset] [] := by first | (simp [entryFrame, mkF, argsToLocals, Value.category]; done) | rfl
def Q_own_nw0 (Z : State) (ta : Addr) (tb : Addr) (ka : ClassId) (kb : ClassId) (h0 : Heap) (n0 : Nat) (v : Option Value) (h : Heap) (L : List Loc) : Prop := v = some (.int (own_nw [])) ∧ Fr n0 L ∧ h = h0
theorem own_pn_com_example_cultivar_cultivar_Pareto : plainName "com/example/cultivar/cultivar/Pareto" = true := by first | (simp [plainName, overriddenIn]; done) | decide +kernel
theorem own_d_prog_18_method_5_0 : decode prog_18_method_5_code 0 = .ok (.iconst 0, 1) := by decide +kernel
theorem own_d_prog_18_method_5_1 : decode prog_18_method_5_code 1 = .ok (.istore_n 2, 1) := by decide +kernel
theorem own_d_prog_18_method_5_2 : decode prog_18_method_5_code 2 = .ok (.iload_n 2, 1) := by decide +kernel
theorem own_d_prog_18_method_5_3 : decode prog_18_method_5_code 3 = .ok (.aload_n 0, 1) := by decide +kernel
theorem own_d_prog_18_method_5_4 : decode prog_18_method_5_code 4 = .ok (.arraylength, 1) := by decide +kernel
theorem own_d_prog_18_method_5_5 : decode prog_18_method_5_code 5 = .ok (.if_icmp .ge 21, 3) := by decide +kernel
theorem own_d_prog_18_method_5_26 : decode prog_18_method_5_code 26 = .ok (.iconst 1, 1) := by decide +kernel
theorem own_d_prog_18_method_5_27 : decode prog_18_method_5_code 27 = .ok (.ireturn, 1) := by decide +kernel
set_option maxRecDepth 65536 in
set_option maxHeartbeats 40000000 in
theorem own_nw0 (l : Launch) (Z : State) (a0 : Array Value) (hw : ∀ d ∈ tables_1, d.before a0 Z = true) (ws : List Jvm.Cond) (ta : Addr) (tb : Addr) (ka : ClassId) (kb : ClassId) (h0 : Heap) (n0 : Nat) (Z0 : n0 ≤ h0.size) (VA : Arv Z h0 ta ka .double (0 : Int32) [] (.double (FP.l2d 0))) (VB : Arv Z h0 tb kb .double (0 : Int32) [] (.double (FP.l2d 0))) :
    MetFree l (⟨"com/example/cultivar/cultivar/Pareto", "noWorse", "([D[D)Z"⟩ : MethodName) (head1 (Jvm.Cond.code (⟨"com/example/cultivar/cultivar/Pareto", "noWorse", "([D[D)Z"⟩ : MethodName) prog_18_method_5_code 3 (some .boolean) :: ws) ({ frames := 0, cells := 0, slots := 0, locals := 0 } : Room)) (fun a U => a = #[(.ref ta), (.ref tb)] ∧ Z.Warmed39 U.vm ∧ U.heap = h0) (fun _ _ _ _ _ => True) (fun _ U o U' => ∃ v L, o = .returned v ∧ Q_own_nw0 Z ta tb ka kb h0 n0 v U'.heap L ∧ FrameEnd U o U' L ({ frames := 0, cells := 0, slots := 0, locals := 0 } : Room).cells ({ frames := 0, cells := 0, slots := 0, locals := 0 } : Room).slots) := by
  refine MetFree.of_bodySF (plainFor_of_name own_pn_com_example_cultivar_cultivar_Pareto) hisR ?_
  intro p e s m args below meth c s₁ Bd hml0 hP hK
  obtain ⟨rfl, hZ, hh⟩ := hP
  have hx := Bd.exec
  have hby := Bd.bytes
  have hml : c.maxLocals = 3 := hml0
  have hown : s.vm.findClass "com/example/cultivar/cultivar/Pareto" = some m.cls := findClass_of_methodNamed Bd.named
  have hnm := (name_of_methodNamed Bd.named Bd.method).1
  have X0 : Stand p l e ({ frames := 0, cells := 0, slots := 0, locals := 0 } : Room) s m #[(.ref ta), (.ref tb)] below meth c s₁ [] 0 0 := Stand.of_body Bd
  have e0 : s₁.heap = h0 := by rw [← hh, Bd.state]; rfl
  have N0 := Fr.nil n0
  have pre0 : ∀ t, Steps p.tables e below (s₁.setTop (mkF m 0 #[.val (.ref ta), .val (.ref tb), .unset] [])) t → Steps p.tables e below (s₁.setTop (entryFrame m #[(.ref ta), (.ref tb)] 3)) t := fun t k => castTop (own_ef_own_nw0 m ta tb) k
  have pre2 : ∀ t, Steps p.tables e below (s₁.setTop (mkF m 4 #[.val (.ref ta), .val (.ref tb), .val (.int (0 : Int32))] [(.ref ta), (.int (0 : Int32))])) t → Steps p.tables e below (s₁.setTop (entryFrame m #[(.ref ta), (.ref tb)] 3)) t := fun t k => pre0 _ (by
    show Steps p.tables e below (s₁.setTop (mkF m 0 #[.val (.ref ta), .val (.ref tb), .unset] [])) _
    refine XT.iconstV X0.here hx rfl (0 : Int32) (hb hby own_d_prog_18_method_5_0) rfl ?_
    show Steps p.tables e below (s₁.setTop (mkF m 1 #[.val (.ref ta), .val (.ref tb), .unset] [(.int (0 : Int32))])) _
    refine XS.istoreN X0.here hx rfl (hb hby own_d_prog_18_method_5_1) rfl (l' := #[.val (.ref ta), .val (.ref tb), .val (.int (0 : Int32))]) rfl ?_
    show Steps p.tables e below (s₁.setTop (mkF m 2 #[.val (.ref ta), .val (.ref tb), .val (.int (0 : Int32))] [])) _
    refine XS.iloadN X0.here hx rfl (hb hby own_d_prog_18_method_5_2) rfl ?_
    show Steps p.tables e below (s₁.setTop (mkF m 3 #[.val (.ref ta), .val (.ref tb), .val (.int (0 : Int32))] [(.int (0 : Int32))])) _
    refine XS.aloadN X0.here hx rfl (hb hby own_d_prog_18_method_5_3) rfl rfl ?_
    exact k)
  obtain ⟨cl1, Ar1, qc1, Sz1, Mz1, Hs1, Uf1⟩ := (show Arv Z h0 ta ka .double (0 : Int32) [] (.double (FP.l2d 0)) from VA)
  have pre3 : ∀ t, Steps p.tables e below (s₁.setTop (mkF m 27 #[.val (.ref ta), .val (.ref tb), .val (.int (0 : Int32))] [(.int (1 : Int32))])) t → Steps p.tables e below (s₁.setTop (entryFrame m #[(.ref ta), (.ref tb)] 3)) t := fun t k => pre2 _ (by
    show Steps p.tables e below (s₁.setTop (mkF m 4 #[.val (.ref ta), .val (.ref tb), .val (.int (0 : Int32))] [(.ref ta), (.int (0 : Int32))])) _
    refine X0.arraylength hx (by rw [e0]; exact Ar1.1) (State.isArrayOf_alike hZ.alike Ar1.2.1) (g := (mkF m 4 #[.val (.ref ta), .val (.ref tb), .val (.int (0 : Int32))] [(.ref ta), (.int (0 : Int32))])) rfl rfl (hb hby own_d_prog_18_method_5_4) _ ?_
    rw [len_of Sz1 Mz1]
    show Steps p.tables e below (s₁.setTop (mkF m 5 #[.val (.ref ta), .val (.ref tb), .val (.int (0 : Int32))] [(.int (0 : Int32)), (.int (0 : Int32))])) _
    refine XS.icmpYes X0.here hx rfl (pc0 := 5) (pc' := 26) rfl (hb hby own_d_prog_18_method_5_5) rfl (XT.ii_ge_t (by decide)) (by decide) (by decide) ?_
    show Steps p.tables e below (s₁.setTop (mkF m 26 #[.val (.ref ta), .val (.ref tb), .val (.int (0 : Int32))] [])) _
    refine XT.iconstV X0.here hx rfl (1 : Int32) (hb hby own_d_prog_18_method_5_26) rfl ?_
    exact k)
  obtain ⟨fs, hr, hrun, hended, hW, hsame⟩ := X0.leave (v := some (.int (1 : Int32))) (fun h => by rw [Bd.returns] at h; cases h)
  refine ⟨_, _, pre3 _ ?_, hrun, hended, _, _, rfl, ?_, ⟨_, rfl⟩, hW, hsame.mono (by decide) (by decide)⟩
  · show Steps p.tables e below (s₁.setTop (mkF m 27 #[.val (.ref ta), .val (.ref tb), .val (.int (0 : Int32))] [(.int (1 : Int32))])) _
    exact retN X0 hx (t := .boolean) Bd.returns (by simp) (hb hby own_d_prog_18_method_5_27) hr
  · show Q_own_nw0 Z ta tb ka kb h0 n0 _ s₁.heap _
    rw [e0]
    exact ⟨by simp [own_nw], N0, rfl⟩
theorem own_ef_own_dom0 (m : MethodId) (ta : Addr) (tb : Addr) : entryFrame m #[(.ref ta), (.ref tb)] 2 = mkF m 0 #[.val (.ref ta), .val (.ref tb)] [] := by first | (simp [entryFrame, mkF, argsToLocals, Value.category]; done) | rfl
def Q_own_dom0 (Z : State) (ta : Addr) (tb : Addr) (ka : ClassId) (kb : ClassId) (h0 : Heap) (n0 : Nat) (v : Option Value) (h : Heap) (L : List Loc) : Prop := v = some (.int (own_dom [] [])) ∧ Fr n0 L ∧ h = h0
theorem own_d_prog_18_method_3_0 : decode prog_18_method_3_code 0 = .ok (.aload_n 0, 1) := by decide +kernel
theorem own_d_prog_18_method_3_1 : decode prog_18_method_3_code 1 = .ok (.aload_n 1, 1) := by decide +kernel
theorem own_pd___D_D_Z : parseMethodDescriptor "([D[D)Z" = some ⟨[(.array .double), (.array .double)], some .boolean⟩ := by decide +kernel
theorem own_d_prog_18_method_3_2 : decode prog_18_method_3_code 2 = .ok (.invokestatic 49, 3) := by decide +kernel
theorem own_d_prog_18_method_3_5 : decode prog_18_method_3_code 5 = .ok (.ifCond .eq 15, 3) := by decide +kernel
theorem own_d_prog_18_method_3_20 : decode prog_18_method_3_code 20 = .ok (.iconst 0, 1) := by decide +kernel
theorem own_d_prog_18_method_3_21 : decode prog_18_method_3_code 21 = .ok (.ireturn, 1) := by decide +kernel
theorem own_d_prog_18_method_3_8 : decode prog_18_method_3_code 8 = .ok (.aload_n 1, 1) := by decide +kernel
theorem own_d_prog_18_method_3_9 : decode prog_18_method_3_code 9 = .ok (.aload_n 0, 1) := by decide +kernel
theorem own_d_prog_18_method_3_10 : decode prog_18_method_3_code 10 = .ok (.invokestatic 49, 3) := by decide +kernel
theorem own_d_prog_18_method_3_13 : decode prog_18_method_3_code 13 = .ok (.ifCond .ne 7, 3) := by decide +kernel
theorem own_d_prog_18_method_3_16 : decode prog_18_method_3_code 16 = .ok (.iconst 1, 1) := by decide +kernel
theorem own_d_prog_18_method_3_17 : decode prog_18_method_3_code 17 = .ok (.goto 4, 3) := by decide +kernel
set_option maxRecDepth 65536 in
set_option maxHeartbeats 40000000 in
theorem own_dom0 (l : Launch) (Z : State) (a0 : Array Value) (hw : ∀ d ∈ tables_1, d.before a0 Z = true) (ws : List Jvm.Cond) (ta : Addr) (tb : Addr) (ka : ClassId) (kb : ClassId) (h0 : Heap) (n0 : Nat) (Z0 : n0 ≤ h0.size) (VA : Arv Z h0 ta ka .double (0 : Int32) [] (.double (FP.l2d 0))) (VB : Arv Z h0 tb kb .double (0 : Int32) [] (.double (FP.l2d 0))) :
    MetFree l (⟨"com/example/cultivar/cultivar/Pareto", "dominates", "([D[D)Z"⟩ : MethodName) (head1 (Jvm.Cond.code (⟨"com/example/cultivar/cultivar/Pareto", "dominates", "([D[D)Z"⟩ : MethodName) prog_18_method_3_code 2 (some .boolean) :: ws) ({ frames := 1, cells := 0, slots := 0, locals := 14 } : Room)) (fun a U => a = #[(.ref ta), (.ref tb)] ∧ Z.Warmed39 U.vm ∧ U.heap = h0) (fun _ _ _ _ _ => True) (fun _ U o U' => ∃ v L, o = .returned v ∧ Q_own_dom0 Z ta tb ka kb h0 n0 v U'.heap L ∧ FrameEnd U o U' L ({ frames := 1, cells := 0, slots := 0, locals := 14 } : Room).cells ({ frames := 1, cells := 0, slots := 0, locals := 14 } : Room).slots) := by
  refine MetFree.of_bodySF (plainFor_of_name own_pn_com_example_cultivar_cultivar_Pareto) hisR ?_
  intro p e s m args below meth c s₁ Bd hml0 hP hK
  obtain ⟨rfl, hZ, hh⟩ := hP
  have hx := Bd.exec
  have hby := Bd.bytes
  have hml : c.maxLocals = 2 := hml0
  have hown : s.vm.findClass "com/example/cultivar/cultivar/Pareto" = some m.cls := findClass_of_methodNamed Bd.named
  have hnm := (name_of_methodNamed Bd.named Bd.method).1
  have X0 : Stand p l e ({ frames := 1, cells := 0, slots := 0, locals := 14 } : Room) s m #[(.ref ta), (.ref tb)] below meth c s₁ [] 0 0 := Stand.of_body Bd
  have e0 : s₁.heap = h0 := by rw [← hh, Bd.state]; rfl
  have N0 := Fr.nil n0
  have pre0 : ∀ t, Steps p.tables e below (s₁.setTop (mkF m 0 #[.val (.ref ta), .val (.ref tb)] [])) t → Steps p.tables e below (s₁.setTop (entryFrame m #[(.ref ta), (.ref tb)] 2)) t := fun t k => castTop (own_ef_own_dom0 m ta tb) k
  have pre1 : ∀ t, Steps p.tables e below (s₁.setTop (mkF m 2 #[.val (.ref ta), .val (.ref tb)] [(.ref tb), (.ref ta)])) t → Steps p.tables e below (s₁.setTop (entryFrame m #[(.ref ta), (.ref tb)] 2)) t := fun t k => pre0 _ (by
    show Steps p.tables e below (s₁.setTop (mkF m 0 #[.val (.ref ta), .val (.ref tb)] [])) _
    refine XS.aloadN X0.here hx rfl (hb hby own_d_prog_18_method_3_0) rfl rfl ?_
    show Steps p.tables e below (s₁.setTop (mkF m 1 #[.val (.ref ta), .val (.ref tb)] [(.ref ta)])) _
    refine XS.aloadN X0.here hx rfl (hb hby own_d_prog_18_method_3_1) rfl rfl ?_
    exact k)
  obtain ⟨_, _, ⟨T2, L2, k2, n2⟩, -, X2, ⟨Lc2, hQ2, l2, y2, z2⟩, st2⟩ := Jvm.LawKit.callS X0 hx (y := (⟨"com/example/cultivar/cultivar/Pareto", "noWorse", "([D[D)Z"⟩ : MethodName)) hown (mvT hZ (hw _ (List.mem_of_getElem? (i := 12) rfl))) (mvT hZ (hw _ (List.mem_of_getElem? (i := 13) rfl))) (mvT hZ (hw _ (List.mem_of_getElem? (i := 10) rfl))) (mvT hZ (hw _ (List.mem_of_getElem? (i := 14) rfl))) (by decide) (backOf (W := 0) (own_nw0 l Z a0 hw [] ta tb ka kb   h0 n0 Z0 VA VB) hZ (hw _ (List.mem_of_getElem? (i := 14) rfl)) (hw _ (List.mem_of_getElem? (i := 10) rfl)) (by decide) (by decide)) (g := (mkF m 2 #[.val (.ref ta), .val (.ref tb)] [(.ref tb), (.ref ta)])) rfl (by rw [hml]; rfl) (argsL := [(.ref ta), (.ref tb)]) (rest := []) (lenOf own_pd___D_D_Z rfl) rfl (by show 2 * 0 + _ ≤ _; exact Nat.le_of_eq rfl) (hb hby own_d_prog_18_method_3_2) (fun _ _ => ⟨rfl, e0, (by decide : 0 + 0 ≤ _), (by decide : 0 + 0 ≤ _)⟩)
  dsimp only [Pt.U, Pt.locs, Pt.cells, Pt.slots] at X2 l2 y2 z2 st2 hQ2
  subst l2 y2 z2
  obtain ⟨rfl, N2q, e2⟩ := hQ2
  have N2 := Fr.app N0 N2q
  have pre3 : ∀ t, Steps p.tables e below (T2.setTop (mkF m 5 #[.val (.ref ta), .val (.ref tb)] [(.int (own_nw []))])) t → Steps p.tables e below (s₁.setTop (entryFrame m #[(.ref ta), (.ref tb)] 2)) t := fun t k => pre1 _ (st2 _ k)
  by_cases c5 : (own_nw []) = 0
  · have pre4 : ∀ t, Steps p.tables e below (T2.setTop (mkF m 21 #[.val (.ref ta), .val (.ref tb)] [(.int (0 : Int32))])) t → Steps p.tables e below (s₁.setTop (entryFrame m #[(.ref ta), (.ref tb)] 2)) t := fun t k => pre3 _ (by
      show Steps p.tables e below (T2.setTop (mkF m 5 #[.val (.ref ta), .val (.ref tb)] [(.int (own_nw []))])) _
      refine XS.ifYes X2.here hx rfl (pc0 := 5) (pc' := 20) rfl (hb hby own_d_prog_18_method_3_5) rfl (XT.i0_eq_t c5) (by decide) (by decide) ?_
      show Steps p.tables e below (T2.setTop (mkF m 20 #[.val (.ref ta), .val (.ref tb)] [])) _
      refine XT.iconstV X2.here hx rfl (0 : Int32) (hb hby own_d_prog_18_method_3_20) rfl ?_
      exact k)
    obtain ⟨fs, hr, hrun, hended, hW, hsame⟩ := X2.leave (v := some (.int (0 : Int32))) (fun h => by rw [Bd.returns] at h; cases h)
    refine ⟨_, _, pre4 _ ?_, hrun, hended, _, _, rfl, ?_, ⟨_, rfl⟩, hW, hsame.mono (by decide) (by decide)⟩
    · show Steps p.tables e below (T2.setTop (mkF m 21 #[.val (.ref ta), .val (.ref tb)] [(.int (0 : Int32))])) _
      exact retN X2 hx (t := .boolean) Bd.returns (by simp) (hb hby own_d_prog_18_method_3_21) hr
    · show Q_own_dom0 Z ta tb ka kb h0 n0 _ T2.heap _
      rw [e2]
      exact ⟨by unfold own_dom; rw [if_pos c5], N2, rfl⟩
  · have pre5 : ∀ t, Steps p.tables e below (T2.setTop (mkF m 10 #[.val (.ref ta), .val (.ref tb)] [(.ref ta), (.ref tb)])) t → Steps p.tables e below (s₁.setTop (entryFrame m #[(.ref ta), (.ref tb)] 2)) t := fun t k => pre3 _ (by
      show Steps p.tables e below (T2.setTop (mkF m 5 #[.val (.ref ta), .val (.ref tb)] [(.int (own_nw []))])) _
      refine XS.ifNo X2.here hx rfl (hb hby own_d_prog_18_method_3_5) rfl (XT.i0_eq_f c5) ?_
      show Steps p.tables e below (T2.setTop (mkF m 8 #[.val (.ref ta), .val (.ref tb)] [])) _
      refine XS.aloadN X2.here hx rfl (hb hby own_d_prog_18_method_3_8) rfl rfl ?_
      show Steps p.tables e below (T2.setTop (mkF m 9 #[.val (.ref ta), .val (.ref tb)] [(.ref tb)])) _
      refine XS.aloadN X2.here hx rfl (hb hby own_d_prog_18_method_3_9) rfl rfl ?_
      exact k)
    obtain ⟨_, _, ⟨T6, L6, k6, n6⟩, -, X6, ⟨Lc6, hQ6, l6, y6, z6⟩, st6⟩ := Jvm.LawKit.callS X2 hx (y := (⟨"com/example/cultivar/cultivar/Pareto", "noWorse", "([D[D)Z"⟩ : MethodName)) hown (mvT hZ (hw _ (List.mem_of_getElem? (i := 12) rfl))) (mvT hZ (hw _ (List.mem_of_getElem? (i := 13) rfl))) (mvT hZ (hw _ (List.mem_of_getElem? (i := 10) rfl))) (mvT hZ (hw _ (List.mem_of_getElem? (i := 14) rfl))) (by decide) (backOf (W := 0) (own_nw0 l Z a0 hw [] tb ta kb ka   h0 n0 Z0 VB VA) hZ (hw _ (List.mem_of_getElem? (i := 14) rfl)) (hw _ (List.mem_of_getElem? (i := 10) rfl)) (by decide) (by decide)) (g := (mkF m 10 #[.val (.ref ta), .val (.ref tb)] [(.ref ta), (.ref tb)])) rfl (by rw [hml]; rfl) (argsL := [(.ref tb), (.ref ta)]) (rest := []) (lenOf own_pd___D_D_Z rfl) rfl (by show 2 * 0 + _ ≤ _; exact Nat.le_of_eq rfl) (hb hby own_d_prog_18_method_3_10) (fun _ _ => ⟨rfl, e2, (by decide : 0 + 0 ≤ _), (by decide : 0 + 0 ≤ _)⟩)
    dsimp only [Pt.U, Pt.locs, Pt.cells, Pt.slots] at X6 l6 y6 z6 st6 hQ6
    subst l6 y6 z6
    obtain ⟨rfl, N6q, e6⟩ := hQ6
    have N6 := Fr.app N2 N6q
    have pre7 : ∀ t, Steps p.tables e below (T6.setTop (mkF m 13 #[.val (.ref ta), .val (.ref tb)] [(.int (own_nw []))])) t → Steps p.tables e below (s₁.setTop (entryFrame m #[(.ref ta), (.ref tb)] 2)) t := fun t k => pre5 _ (st6 _ k)
    by_cases c13 : (own_nw []) = 0
    · have pre8 : ∀ t, Steps p.tables e below (T6.setTop (mkF m 21 #[.val (.ref ta), .val (.ref tb)] [(.int (1 : Int32))])) t → Steps p.tables e below (s₁.setTop (entryFrame m #[(.ref ta), (.ref tb)] 2)) t := fun t k => pre7 _ (by
        show Steps p.tables e below (T6.setTop (mkF m 13 #[.val (.ref ta), .val (.ref tb)] [(.int (own_nw []))])) _
        refine XS.ifNo X6.here hx rfl (hb hby own_d_prog_18_method_3_13) rfl (XT.i0_ne_f c13) ?_
        show Steps p.tables e below (T6.setTop (mkF m 16 #[.val (.ref ta), .val (.ref tb)] [])) _
        refine XT.iconstV X6.here hx rfl (1 : Int32) (hb hby own_d_prog_18_method_3_16) rfl ?_
        show Steps p.tables e below (T6.setTop (mkF m 17 #[.val (.ref ta), .val (.ref tb)] [(.int (1 : Int32))])) _
        refine XS.goto X6.here hx rfl (pc0 := 17) (pc' := 21) rfl (hb hby own_d_prog_18_method_3_17) (by decide) (by decide) ?_
        exact k)
      obtain ⟨fs, hr, hrun, hended, hW, hsame⟩ := X6.leave (v := some (.int (1 : Int32))) (fun h => by rw [Bd.returns] at h; cases h)
      refine ⟨_, _, pre8 _ ?_, hrun, hended, _, _, rfl, ?_, ⟨_, rfl⟩, hW, hsame.mono (by decide) (by decide)⟩
      · show Steps p.tables e below (T6.setTop (mkF m 21 #[.val (.ref ta), .val (.ref tb)] [(.int (1 : Int32))])) _
        exact retN X6 hx (t := .boolean) Bd.returns (by simp) (hb hby own_d_prog_18_method_3_21) hr
      · show Q_own_dom0 Z ta tb ka kb h0 n0 _ T6.heap _
        rw [e6]
        exact ⟨by unfold own_dom; rw [if_neg c5, if_pos c13], N6, rfl⟩
    · have pre9 : ∀ t, Steps p.tables e below (T6.setTop (mkF m 21 #[.val (.ref ta), .val (.ref tb)] [(.int (0 : Int32))])) t → Steps p.tables e below (s₁.setTop (entryFrame m #[(.ref ta), (.ref tb)] 2)) t := fun t k => pre7 _ (by
        show Steps p.tables e below (T6.setTop (mkF m 13 #[.val (.ref ta), .val (.ref tb)] [(.int (own_nw []))])) _
        refine XS.ifYes X6.here hx rfl (pc0 := 13) (pc' := 20) rfl (hb hby own_d_prog_18_method_3_13) rfl (XT.i0_ne_t c13) (by decide) (by decide) ?_
        show Steps p.tables e below (T6.setTop (mkF m 20 #[.val (.ref ta), .val (.ref tb)] [])) _
        refine XT.iconstV X6.here hx rfl (0 : Int32) (hb hby own_d_prog_18_method_3_20) rfl ?_
        exact k)
      obtain ⟨fs, hr, hrun, hended, hW, hsame⟩ := X6.leave (v := some (.int (0 : Int32))) (fun h => by rw [Bd.returns] at h; cases h)
      refine ⟨_, _, pre9 _ ?_, hrun, hended, _, _, rfl, ?_, ⟨_, rfl⟩, hW, hsame.mono (by decide) (by decide)⟩
      · show Steps p.tables e below (T6.setTop (mkF m 21 #[.val (.ref ta), .val (.ref tb)] [(.int (0 : Int32))])) _
        exact retN X6 hx (t := .boolean) Bd.returns (by simp) (hb hby own_d_prog_18_method_3_21) hr
      · show Q_own_dom0 Z ta tb ka kb h0 n0 _ T6.heap _
        rw [e6]
        exact ⟨by unfold own_dom; rw [if_neg c5, if_neg c13], N6, rfl⟩
theorem own_ef_own_nw1 (m : MethodId) (ta : Addr) (tb : Addr) : entryFrame m #[(.ref ta), (.ref tb)] 3 = mkF m 0 #[.val (.ref ta), .val (.ref tb), .unset] [] := by first | (simp [entryFrame, mkF, argsToLocals, Value.category]; done) | rfl
def Q_own_nw1 (Z : State) (ta : Addr) (tb : Addr) (ka : ClassId) (kb : ClassId) (x0 : Int32) (y0 : Int32) (h0 : Heap) (n0 : Nat) (v : Option Value) (h : Heap) (L : List Loc) : Prop := v = some (.int (own_nw [(x0, y0)])) ∧ Fr n0 L ∧ h = h0
theorem own_d_prog_18_method_5_8 : decode prog_18_method_5_code 8 = .ok (.aload_n 0, 1) := by decide +kernel
theorem own_d_prog_18_method_5_9 : decode prog_18_method_5_code 9 = .ok (.iload_n 2, 1) := by decide +kernel
theorem own_d_prog_18_method_5_10 : decode prog_18_method_5_code 10 = .ok (.daload, 1) := by decide +kernel
theorem own_d_prog_18_method_5_11 : decode prog_18_method_5_code 11 = .ok (.aload_n 1, 1) := by decide +kernel
theorem own_d_prog_18_method_5_12 : decode prog_18_method_5_code 12 = .ok (.iload_n 2, 1) := by decide +kernel
theorem own_d_prog_18_method_5_13 : decode prog_18_method_5_code 13 = .ok (.daload, 1) := by decide +kernel
theorem own_d_prog_18_method_5_14 : decode prog_18_method_5_code 14 = .ok (.dcmp .l, 1) := by decide +kernel
theorem own_d_prog_18_method_5_15 : decode prog_18_method_5_code 15 = .ok (.ifCond .le 5, 3) := by decide +kernel
theorem own_d_prog_18_method_5_18 : decode prog_18_method_5_code 18 = .ok (.iconst 0, 1) := by decide +kernel
theorem own_d_prog_18_method_5_19 : decode prog_18_method_5_code 19 = .ok (.ireturn, 1) := by decide +kernel
theorem own_d_prog_18_method_5_20 : decode prog_18_method_5_code 20 = .ok (.iinc 2 1, 3) := by decide +kernel
theorem own_d_prog_18_method_5_23 : decode prog_18_method_5_code 23 = .ok (.goto (-21), 3) := by decide +kernel
set_option maxRecDepth 65536 in
set_option maxHeartbeats 40000000 in
theorem own_nw1 (l : Launch) (Z : State) (a0 : Array Value) (hw : ∀ d ∈ tables_1, d.before a0 Z = true) (ws : List Jvm.Cond) (ta : Addr) (tb : Addr) (ka : ClassId) (kb : ClassId) (x0 : Int32) (y0 : Int32) (h0 : Heap) (n0 : Nat) (Z0 : n0 ≤ h0.size) (VA : Arv Z h0 ta ka .double (1 : Int32) [(.double (FP.l2d (x0.toInt64)))] (.double (FP.l2d 0))) (VB : Arv Z h0 tb kb .double (1 : Int32) [(.double (FP.l2d (y0.toInt64)))] (.double (FP.l2d 0))) :
    MetFree l (⟨"com/example/cultivar/cultivar/Pareto", "noWorse", "([D[D)Z"⟩ : MethodName) (head1 (Jvm.Cond.code (⟨"com/example/cultivar/cultivar/Pareto", "noWorse", "([D[D)Z"⟩ : MethodName) prog_18_method_5_code 3 (some .boolean) :: ws) ({ frames := 0, cells := 0, slots := 0, locals := 0 } : Room)) (fun a U => a = #[(.ref ta), (.ref tb)] ∧ Z.Warmed39 U.vm ∧ U.heap = h0) (fun _ _ _ _ _ => True) (fun _ U o U' => ∃ v L, o = .returned v ∧ Q_own_nw1 Z ta tb ka kb x0 y0 h0 n0 v U'.heap L ∧ FrameEnd U o U' L ({ frames := 0, cells := 0, slots := 0, locals := 0 } : Room).cells ({ frames := 0, cells := 0, slots := 0, locals := 0 } : Room).slots) := by
  refine MetFree.of_bodySF (plainFor_of_name own_pn_com_example_cultivar_cultivar_Pareto) hisR ?_
  intro p e s m args below meth c s₁ Bd hml0 hP hK
  obtain ⟨rfl, hZ, hh⟩ := hP
  have hx := Bd.exec
  have hby := Bd.bytes
  have hml : c.maxLocals = 3 := hml0
  have hown : s.vm.findClass "com/example/cultivar/cultivar/Pareto" = some m.cls := findClass_of_methodNamed Bd.named
  have hnm := (name_of_methodNamed Bd.named Bd.method).1
  have X0 : Stand p l e ({ frames := 0, cells := 0, slots := 0, locals := 0 } : Room) s m #[(.ref ta), (.ref tb)] below meth c s₁ [] 0 0 := Stand.of_body Bd
  have e0 : s₁.heap = h0 := by rw [← hh, Bd.state]; rfl
  have N0 := Fr.nil n0
  have pre0 : ∀ t, Steps p.tables e below (s₁.setTop (mkF m 0 #[.val (.ref ta), .val (.ref tb), .unset] [])) t → Steps p.tables e below (s₁.setTop (entryFrame m #[(.ref ta), (.ref tb)] 3)) t := fun t k => castTop (own_ef_own_nw1 m ta tb) k
  have pre2 : ∀ t, Steps p.tables e below (s₁.setTop (mkF m 4 #[.val (.ref ta), .val (.ref tb), .val (.int (0 : Int32))] [(.ref ta), (.int (0 : Int32))])) t → Steps p.tables e below (s₁.setTop (entryFrame m #[(.ref ta), (.ref tb)] 3)) t := fun t k => pre0 _ (by
    show Steps p.tables e below (s₁.setTop (mkF m 0 #[.val (.ref ta), .val (.ref tb), .unset] [])) _
    refine XT.iconstV X0.here hx rfl (0 : Int32) (hb hby own_d_prog_18_method_5_0) rfl ?_
    show Steps p.tables e below (s₁.setTop (mkF m 1 #[.val (.ref ta), .val (.ref tb), .unset] [(.int (0 : Int32))])) _
    refine XS.istoreN X0.here hx rfl (hb hby own_d_prog_18_method_5_1) rfl (l' := #[.val (.ref ta), .val (.ref tb), .val (.int (0 : Int32))]) rfl ?_
    show Steps p.tables e below (s₁.setTop (mkF m 2 #[.val (.ref ta), .val (.ref tb), .val (.int (0 : Int32))] [])) _
    refine XS.iloadN X0.here hx rfl (hb hby own_d_prog_18_method_5_2) rfl ?_
    show Steps p.tables e below (s₁.setTop (mkF m 3 #[.val (.ref ta), .val (.ref tb), .val (.int (0 : Int32))] [(.int (0 : Int32))])) _
    refine XS.aloadN X0.here hx rfl (hb hby own_d_prog_18_method_5_3) rfl rfl ?_
    exact k)
  obtain ⟨cl1, Ar1, qc1, Sz1, Mz1, Hs1, Uf1⟩ := (show Arv Z h0 ta ka .double (1 : Int32) [(.double (FP.l2d (x0.toInt64)))] (.double (FP.l2d 0)) from VA)
  have pre4 : ∀ t, Steps p.tables e below (s₁.setTop (mkF m 10 #[.val (.ref ta), .val (.ref tb), .val (.int (0 : Int32))] [(.int (0 : Int32)), (.ref ta)])) t → Steps p.tables e below (s₁.setTop (entryFrame m #[(.ref ta), (.ref tb)] 3)) t := fun t k => pre2 _ (by
    show Steps p.tables e below (s₁.setTop (mkF m 4 #[.val (.ref ta), .val (.ref tb), .val (.int (0 : Int32))] [(.ref ta), (.int (0 : Int32))])) _
    refine X0.arraylength hx (by rw [e0]; exact Ar1.1) (State.isArrayOf_alike hZ.alike Ar1.2.1) (g := (mkF m 4 #[.val (.ref ta), .val (.ref tb), .val (.int (0 : Int32))] [(.ref ta), (.int (0 : Int32))])) rfl rfl (hb hby own_d_prog_18_method_5_4) _ ?_
    rw [len_of Sz1 Mz1]
    show Steps p.tables e below (s₁.setTop (mkF m 5 #[.val (.ref ta), .val (.ref tb), .val (.int (0 : Int32))] [(.int (1 : Int32)), (.int (0 : Int32))])) _
    refine XS.icmpNo X0.here hx rfl (hb hby own_d_prog_18_method_5_5) rfl (XT.ii_ge_f (by decide)) ?_
    show Steps p.tables e below (s₁.setTop (mkF m 8 #[.val (.ref ta), .val (.ref tb), .val (.int (0 : Int32))] [])) _
    refine XS.aloadN X0.here hx rfl (hb hby own_d_prog_18_method_5_8) rfl rfl ?_
    show Steps p.tables e below (s₁.setTop (mkF m 9 #[.val (.ref ta), .val (.ref tb), .val (.int (0 : Int32))] [(.ref ta)])) _
    refine XS.iloadN X0.here hx rfl (hb hby own_d_prog_18_method_5_9) rfl ?_
    exact k)
  obtain ⟨cl3, Ar3, qc3, Sz3, Mz3, Hs3, Uf3⟩ := (show Arv Z h0 ta ka .double (1 : Int32) [(.double (FP.l2d (x0.toInt64)))] (.double (FP.l2d 0)) from VA)
  have in5 : ¬ ((0 : Int32) < 0 ∨ cl3.slots.size ≤ ((0 : Int32)).toNatClampNeg) := inb_of Sz3 (by decide)
  have at5 : cl3.slots[((0 : Int32)).toNatClampNeg]? = some (.double (FP.l2d (x0.toInt64))) := Hs3.at in5 rfl
  have pre7 : ∀ t, Steps p.tables e below (s₁.setTop (mkF m 13 #[.val (.ref ta), .val (.ref tb), .val (.int (0 : Int32))] [(.int (0 : Int32)), (.ref tb), (.double (FP.l2d (x0.toInt64)))])) t → Steps p.tables e below (s₁.setTop (entryFrame m #[(.ref ta), (.ref tb)] 3)) t := fun t k => pre4 _ (by
    show Steps p.tables e below (s₁.setTop (mkF m 10 #[.val (.ref ta), .val (.ref tb), .val (.int (0 : Int32))] [(.int (0 : Int32)), (.ref ta)])) _
    refine X0.daload hx (j := (0 : Int32)) (v := (.double (FP.l2d (x0.toInt64)))) (by rw [e0]; exact Ar3.1) (State.isArrayOf_alike hZ.alike Ar3.2.1) Ar3.2.2 in5 at5 (g := (mkF m 10 #[.val (.ref ta), .val (.ref tb), .val (.int (0 : Int32))] [(.int (0 : Int32)), (.ref ta)])) rfl rfl (hb hby own_d_prog_18_method_5_10) _ ?_
    show Steps p.tables e below (s₁.setTop (mkF m 11 #[.val (.ref ta), .val (.ref tb), .val (.int (0 : Int32))] [(.double (FP.l2d (x0.toInt64)))])) _
    refine XS.aloadN X0.here hx rfl (hb hby own_d_prog_18_method_5_11) rfl rfl ?_
    show Steps p.tables e below (s₁.setTop (mkF m 12 #[.val (.ref ta), .val (.ref tb), .val (.int (0 : Int32))] [(.ref tb), (.double (FP.l2d (x0.toInt64)))])) _
    refine XS.iloadN X0.here hx rfl (hb hby own_d_prog_18_method_5_12) rfl ?_
    exact k)
  obtain ⟨cl6, Ar6, qc6, Sz6, Mz6, Hs6, Uf6⟩ := (show Arv Z h0 tb kb .double (1 : Int32) [(.double (FP.l2d (y0.toInt64)))] (.double (FP.l2d 0)) from VB)
  have in8 : ¬ ((0 : Int32) < 0 ∨ cl6.slots.size ≤ ((0 : Int32)).toNatClampNeg) := inb_of Sz6 (by decide)
  have at8 : cl6.slots[((0 : Int32)).toNatClampNeg]? = some (.double (FP.l2d (y0.toInt64))) := Hs6.at in8 rfl
  have pre9 : ∀ t, Steps p.tables e below (s₁.setTop (mkF m 15 #[.val (.ref ta), .val (.ref tb), .val (.int (0 : Int32))] [(.int (XT.cmpL (x0.toInt64) (y0.toInt64)))])) t → Steps p.tables e below (s₁.setTop (entryFrame m #[(.ref ta), (.ref tb)] 3)) t := fun t k => pre7 _ (by
    show Steps p.tables e below (s₁.setTop (mkF m 13 #[.val (.ref ta), .val (.ref tb), .val (.int (0 : Int32))] [(.int (0 : Int32)), (.ref tb), (.double (FP.l2d (x0.toInt64)))])) _
    refine X0.daload hx (j := (0 : Int32)) (v := (.double (FP.l2d (y0.toInt64)))) (by rw [e0]; exact Ar6.1) (State.isArrayOf_alike hZ.alike Ar6.2.1) Ar6.2.2 in8 at8 (g := (mkF m 13 #[.val (.ref ta), .val (.ref tb), .val (.int (0 : Int32))] [(.int (0 : Int32)), (.ref tb), (.double (FP.l2d (x0.toInt64)))])) rfl rfl (hb hby own_d_prog_18_method_5_13) _ ?_
    show Steps p.tables e below (s₁.setTop (mkF m 14 #[.val (.ref ta), .val (.ref tb), .val (.int (0 : Int32))] [(.double (FP.l2d (y0.toInt64))), (.double (FP.l2d (x0.toInt64)))])) _
    refine XS.dcmpS X0.here hx rfl (hb hby own_d_prog_18_method_5_14) rfl (v := XT.cmpL (x0.toInt64) (y0.toInt64)) (dcmpV_w (own_b53 x0) (own_b53 y0) .l) ?_
    exact k)
  by_cases d0 : (y0.toInt64) < (x0.toInt64)
  · have pre10 : ∀ t, Steps p.tables e below (s₁.setTop (mkF m 19 #[.val (.ref ta), .val (.ref tb), .val (.int (0 : Int32))] [(.int (0 : Int32))])) t → Steps p.tables e below (s₁.setTop (entryFrame m #[(.ref ta), (.ref tb)] 3)) t := fun t k => pre9 _ (by
      show Steps p.tables e below (s₁.setTop (mkF m 15 #[.val (.ref ta), .val (.ref tb), .val (.int (0 : Int32))] [(.int (XT.cmpL (x0.toInt64) (y0.toInt64)))])) _
      refine XS.ifNo X0.here hx rfl (hb hby own_d_prog_18_method_5_15) rfl (XT.ll_le_f d0) ?_
      show Steps p.tables e below (s₁.setTop (mkF m 18 #[.val (.ref ta), .val (.ref tb), .val (.int (0 : Int32))] [])) _
      refine XT.iconstV X0.here hx rfl (0 : Int32) (hb hby own_d_prog_18_method_5_18) rfl ?_
      exact k)
    obtain ⟨fs, hr, hrun, hended, hW, hsame⟩ := X0.leave (v := some (.int (0 : Int32))) (fun h => by rw [Bd.returns] at h; cases h)
    refine ⟨_, _, pre10 _ ?_, hrun, hended, _, _, rfl, ?_, ⟨_, rfl⟩, hW, hsame.mono (by decide) (by decide)⟩
    · show Steps p.tables e below (s₁.setTop (mkF m 19 #[.val (.ref ta), .val (.ref tb), .val (.int (0 : Int32))] [(.int (0 : Int32))])) _
      exact retN X0 hx (t := .boolean) Bd.returns (by simp) (hb hby own_d_prog_18_method_5_19) hr
    · show Q_own_nw1 Z ta tb ka kb x0 y0 h0 n0 _ s₁.heap _
      rw [e0]
      exact ⟨by simp [own_nw, d0], N0, rfl⟩
  · have pre12 : ∀ t, Steps p.tables e below (s₁.setTop (mkF m 4 #[.val (.ref ta), .val (.ref tb), .val (.int (1 : Int32))] [(.ref ta), (.int (1 : Int32))])) t → Steps p.tables e below (s₁.setTop (entryFrame m #[(.ref ta), (.ref tb)] 3)) t := fun t k => pre9 _ (by
      show Steps p.tables e below (s₁.setTop (mkF m 15 #[.val (.ref ta), .val (.ref tb), .val (.int (0 : Int32))] [(.int (XT.cmpL (x0.toInt64) (y0.toInt64)))])) _
      refine XS.ifYes X0.here hx rfl (pc0 := 15) (pc' := 20) rfl (hb hby own_d_prog_18_method_5_15) rfl (XT.ll_le_t d0) (by decide) (by decide) ?_
      show Steps p.tables e below (s₁.setTop (mkF m 20 #[.val (.ref ta), .val (.ref tb), .val (.int (0 : Int32))] [])) _
      refine XT.iincV X0.here hx rfl (1 : Int32) (hb hby own_d_prog_18_method_5_20) rfl rfl (l' := #[.val (.ref ta), .val (.ref tb), .val (.int (1 : Int32))]) rfl ?_
      show Steps p.tables e below (s₁.setTop (mkF m 23 #[.val (.ref ta), .val (.ref tb), .val (.int (1 : Int32))] [])) _
      refine XS.goto X0.here hx rfl (pc0 := 23) (pc' := 2) rfl (hb hby own_d_prog_18_method_5_23) (by decide) (by decide) ?_
      show Steps p.tables e below (s₁.setTop (mkF m 2 #[.val (.ref ta), .val (.ref tb), .val (.int (1 : Int32))] [])) _
      refine XS.iloadN X0.here hx rfl (hb hby own_d_prog_18_method_5_2) rfl ?_
      show Steps p.tables e below (s₁.setTop (mkF m 3 #[.val (.ref ta), .val (.ref tb), .val (.int (1 : Int32))] [(.int (1 : Int32))])) _
      refine XS.aloadN X0.here hx rfl (hb hby own_d_prog_18_method_5_3) rfl rfl ?_
      exact k)
    obtain ⟨cl11, Ar11, qc11, Sz11, Mz11, Hs11, Uf11⟩ := (show Arv Z h0 ta ka .double (1 : Int32) [(.double (FP.l2d (x0.toInt64)))] (.double (FP.l2d 0)) from VA)
    have pre13 : ∀ t, Steps p.tables e below (s₁.setTop (mkF m 27 #[.val (.ref ta), .val (.ref tb), .val (.int (1 : Int32))] [(.int (1 : Int32))])) t → Steps p.tables e below (s₁.setTop (entryFrame m #[(.ref ta), (.ref tb)] 3)) t := fun t k => pre12 _ (by
      show Steps p.tables e below (s₁.setTop (mkF m 4 #[.val (.ref ta), .val (.ref tb), .val (.int (1 : Int32))] [(.ref ta), (.int (1 : Int32))])) _
      refine X0.arraylength hx (by rw [e0]; exact Ar11.1) (State.isArrayOf_alike hZ.alike Ar11.2.1) (g := (mkF m 4 #[.val (.ref ta), .val (.ref tb), .val (.int (1 : Int32))] [(.ref ta), (.int (1 : Int32))])) rfl rfl (hb hby own_d_prog_18_method_5_4) _ ?_
      rw [len_of Sz11 Mz11]
      show Steps p.tables e below (s₁.setTop (mkF m 5 #[.val (.ref ta), .val (.ref tb), .val (.int (1 : Int32))] [(.int (1 : Int32)), (.int (1 : Int32))])) _
      refine XS.icmpYes X0.here hx rfl (pc0 := 5) (pc' := 26) rfl (hb hby own_d_prog_18_method_5_5) rfl (XT.ii_ge_t (by decide)) (by decide) (by decide) ?_
      show Steps p.tables e below (s₁.setTop (mkF m 26 #[.val (.ref ta), .val (.ref tb), .val (.int (1 : Int32))] [])) _
      refine XT.iconstV X0.here hx rfl (1 : Int32) (hb hby own_d_prog_18_method_5_26) rfl ?_
      exact k)
    obtain ⟨fs, hr, hrun, hended, hW, hsame⟩ := X0.leave (v := some (.int (1 : Int32))) (fun h => by rw [Bd.returns] at h; cases h)
    refine ⟨_, _, pre13 _ ?_, hrun, hended, _, _, rfl, ?_, ⟨_, rfl⟩, hW, hsame.mono (by decide) (by decide)⟩
    · show Steps p.tables e below (s₁.setTop (mkF m 27 #[.val (.ref ta), .val (.ref tb), .val (.int (1 : Int32))] [(.int (1 : Int32))])) _
      exact retN X0 hx (t := .boolean) Bd.returns (by simp) (hb hby own_d_prog_18_method_5_27) hr
    · show Q_own_nw1 Z ta tb ka kb x0 y0 h0 n0 _ s₁.heap _
      rw [e0]
      exact ⟨by simp [own_nw, d0], N0, rfl⟩
theorem own_ef_own_dom1 (m : MethodId) (ta : Addr) (tb : Addr) : entryFrame m #[(.ref ta), (.ref tb)] 2 = mkF m 0 #[.val (.ref ta), .val (.ref tb)] [] := by first | (simp [entryFrame, mkF, argsToLocals, Value.category]; done) | rfl
def Q_own_dom1 (Z : State) (ta : Addr) (tb : Addr) (ka : ClassId) (kb : ClassId) (x0 : Int32) (y0 : Int32) (h0 : Heap) (n0 : Nat) (v : Option Value) (h : Heap) (L : List Loc) : Prop := v = some (.int (own_dom [(x0, y0)] [(y0, x0)])) ∧ Fr n0 L ∧ h = h0
set_option maxRecDepth 65536 in
set_option maxHeartbeats 40000000 in
theorem own_dom1 (l : Launch) (Z : State) (a0 : Array Value) (hw : ∀ d ∈ tables_1, d.before a0 Z = true) (ws : List Jvm.Cond) (ta : Addr) (tb : Addr) (ka : ClassId) (kb : ClassId) (x0 : Int32) (y0 : Int32) (h0 : Heap) (n0 : Nat) (Z0 : n0 ≤ h0.size) (VA : Arv Z h0 ta ka .double (1 : Int32) [(.double (FP.l2d (x0.toInt64)))] (.double (FP.l2d 0))) (VB : Arv Z h0 tb kb .double (1 : Int32) [(.double (FP.l2d (y0.toInt64)))] (.double (FP.l2d 0))) :
    MetFree l (⟨"com/example/cultivar/cultivar/Pareto", "dominates", "([D[D)Z"⟩ : MethodName) (head1 (Jvm.Cond.code (⟨"com/example/cultivar/cultivar/Pareto", "dominates", "([D[D)Z"⟩ : MethodName) prog_18_method_3_code 2 (some .boolean) :: ws) ({ frames := 1, cells := 0, slots := 0, locals := 14 } : Room)) (fun a U => a = #[(.ref ta), (.ref tb)] ∧ Z.Warmed39 U.vm ∧ U.heap = h0) (fun _ _ _ _ _ => True) (fun _ U o U' => ∃ v L, o = .returned v ∧ Q_own_dom1 Z ta tb ka kb x0 y0 h0 n0 v U'.heap L ∧ FrameEnd U o U' L ({ frames := 1, cells := 0, slots := 0, locals := 14 } : Room).cells ({ frames := 1, cells := 0, slots := 0, locals := 14 } : Room).slots) := by
  refine MetFree.of_bodySF (plainFor_of_name own_pn_com_example_cultivar_cultivar_Pareto) hisR ?_
  intro p e s m args below meth c s₁ Bd hml0 hP hK
  obtain ⟨rfl, hZ, hh⟩ := hP
  have hx := Bd.exec
  have hby := Bd.bytes
  have hml : c.maxLocals = 2 := hml0
  have hown : s.vm.findClass "com/example/cultivar/cultivar/Pareto" = some m.cls := findClass_of_methodNamed Bd.named
  have hnm := (name_of_methodNamed Bd.named Bd.method).1
  have X0 : Stand p l e ({ frames := 1, cells := 0, slots := 0, locals := 14 } : Room) s m #[(.ref ta), (.ref tb)] below meth c s₁ [] 0 0 := Stand.of_body Bd
  have e0 : s₁.heap = h0 := by rw [← hh, Bd.state]; rfl
  have N0 := Fr.nil n0
  have pre0 : ∀ t, Steps p.tables e below (s₁.setTop (mkF m 0 #[.val (.ref ta), .val (.ref tb)] [])) t → Steps p.tables e below (s₁.setTop (entryFrame m #[(.ref ta), (.ref tb)] 2)) t := fun t k => castTop (own_ef_own_dom1 m ta tb) k
  have pre1 : ∀ t, Steps p.tables e below (s₁.setTop (mkF m 2 #[.val (.ref ta), .val (.ref tb)] [(.ref tb), (.ref ta)])) t → Steps p.tables e below (s₁.setTop (entryFrame m #[(.ref ta), (.ref tb)] 2)) t := fun t k => pre0 _ (by
    show Steps p.tables e below (s₁.setTop (mkF m 0 #[.val (.ref ta), .val (.ref tb)] [])) _
    refine XS.aloadN X0.here hx rfl (hb hby own_d_prog_18_method_3_0) rfl rfl ?_
    show Steps p.tables e below (s₁.setTop (mkF m 1 #[.val (.ref ta), .val (.ref tb)] [(.ref ta)])) _
    refine XS.aloadN X0.here hx rfl (hb hby own_d_prog_18_method_3_1) rfl rfl ?_
    exact k)
  obtain ⟨_, _, ⟨T2, L2, k2, n2⟩, -, X2, ⟨Lc2, hQ2, l2, y2, z2⟩, st2⟩ := Jvm.LawKit.callS X0 hx (y := (⟨"com/example/cultivar/cultivar/Pareto", "noWorse", "([D[D)Z"⟩ : MethodName)) hown (mvT hZ (hw _ (List.mem_of_getElem? (i := 12) rfl))) (mvT hZ (hw _ (List.mem_of_getElem? (i := 13) rfl))) (mvT hZ (hw _ (List.mem_of_getElem? (i := 10) rfl))) (mvT hZ (hw _ (List.mem_of_getElem? (i := 14) rfl))) (by decide) (backOf (W := 0) (own_nw1 l Z a0 hw [] ta tb ka kb x0 y0 h0 n0 Z0 VA VB) hZ (hw _ (List.mem_of_getElem? (i := 14) rfl)) (hw _ (List.mem_of_getElem? (i := 10) rfl)) (by decide) (by decide)) (g := (mkF m 2 #[.val (.ref ta), .val (.ref tb)] [(.ref tb), (.ref ta)])) rfl (by rw [hml]; rfl) (argsL := [(.ref ta), (.ref tb)]) (rest := []) (lenOf own_pd___D_D_Z rfl) rfl (by show 2 * 0 + _ ≤ _; exact Nat.le_of_eq rfl) (hb hby own_d_prog_18_method_3_2) (fun _ _ => ⟨rfl, e0, (by decide : 0 + 0 ≤ _), (by decide : 0 + 0 ≤ _)⟩)
  dsimp only [Pt.U, Pt.locs, Pt.cells, Pt.slots] at X2 l2 y2 z2 st2 hQ2
  subst l2 y2 z2
  obtain ⟨rfl, N2q, e2⟩ := hQ2
  have N2 := Fr.app N0 N2q
  have pre3 : ∀ t, Steps p.tables e below (T2.setTop (mkF m 5 #[.val (.ref ta), .val (.ref tb)] [(.int (own_nw [(x0, y0)]))])) t → Steps p.tables e below (s₁.setTop (entryFrame m #[(.ref ta), (.ref tb)] 2)) t := fun t k => pre1 _ (st2 _ k)
  by_cases c5 : (own_nw [(x0, y0)]) = 0
  · have pre4 : ∀ t, Steps p.tables e below (T2.setTop (mkF m 21 #[.val (.ref ta), .val (.ref tb)] [(.int (0 : Int32))])) t → Steps p.tables e below (s₁.setTop (entryFrame m #[(.ref ta), (.ref tb)] 2)) t := fun t k => pre3 _ (by
      show Steps p.tables e below (T2.setTop (mkF m 5 #[.val (.ref ta), .val (.ref tb)] [(.int (own_nw [(x0, y0)]))])) _
      refine XS.ifYes X2.here hx rfl (pc0 := 5) (pc' := 20) rfl (hb hby own_d_prog_18_method_3_5) rfl (XT.i0_eq_t c5) (by decide) (by decide) ?_
      show Steps p.tables e below (T2.setTop (mkF m 20 #[.val (.ref ta), .val (.ref tb)] [])) _
      refine XT.iconstV X2.here hx rfl (0 : Int32) (hb hby own_d_prog_18_method_3_20) rfl ?_
      exact k)
    obtain ⟨fs, hr, hrun, hended, hW, hsame⟩ := X2.leave (v := some (.int (0 : Int32))) (fun h => by rw [Bd.returns] at h; cases h)
    refine ⟨_, _, pre4 _ ?_, hrun, hended, _, _, rfl, ?_, ⟨_, rfl⟩, hW, hsame.mono (by decide) (by decide)⟩
    · show Steps p.tables e below (T2.setTop (mkF m 21 #[.val (.ref ta), .val (.ref tb)] [(.int (0 : Int32))])) _
      exact retN X2 hx (t := .boolean) Bd.returns (by simp) (hb hby own_d_prog_18_method_3_21) hr
    · show Q_own_dom1 Z ta tb ka kb x0 y0 h0 n0 _ T2.heap _
      rw [e2]
      exact ⟨by unfold own_dom; rw [if_pos c5], N2, rfl⟩
  · have pre5 : ∀ t, Steps p.tables e below (T2.setTop (mkF m 10 #[.val (.ref ta), .val (.ref tb)] [(.ref ta), (.ref tb)])) t → Steps p.tables e below (s₁.setTop (entryFrame m #[(.ref ta), (.ref tb)] 2)) t := fun t k => pre3 _ (by
      show Steps p.tables e below (T2.setTop (mkF m 5 #[.val (.ref ta), .val (.ref tb)] [(.int (own_nw [(x0, y0)]))])) _
      refine XS.ifNo X2.here hx rfl (hb hby own_d_prog_18_method_3_5) rfl (XT.i0_eq_f c5) ?_
      show Steps p.tables e below (T2.setTop (mkF m 8 #[.val (.ref ta), .val (.ref tb)] [])) _
      refine XS.aloadN X2.here hx rfl (hb hby own_d_prog_18_method_3_8) rfl rfl ?_
      show Steps p.tables e below (T2.setTop (mkF m 9 #[.val (.ref ta), .val (.ref tb)] [(.ref tb)])) _
      refine XS.aloadN X2.here hx rfl (hb hby own_d_prog_18_method_3_9) rfl rfl ?_
      exact k)
    obtain ⟨_, _, ⟨T6, L6, k6, n6⟩, -, X6, ⟨Lc6, hQ6, l6, y6, z6⟩, st6⟩ := Jvm.LawKit.callS X2 hx (y := (⟨"com/example/cultivar/cultivar/Pareto", "noWorse", "([D[D)Z"⟩ : MethodName)) hown (mvT hZ (hw _ (List.mem_of_getElem? (i := 12) rfl))) (mvT hZ (hw _ (List.mem_of_getElem? (i := 13) rfl))) (mvT hZ (hw _ (List.mem_of_getElem? (i := 10) rfl))) (mvT hZ (hw _ (List.mem_of_getElem? (i := 14) rfl))) (by decide) (backOf (W := 0) (own_nw1 l Z a0 hw [] tb ta kb ka y0 x0 h0 n0 Z0 VB VA) hZ (hw _ (List.mem_of_getElem? (i := 14) rfl)) (hw _ (List.mem_of_getElem? (i := 10) rfl)) (by decide) (by decide)) (g := (mkF m 10 #[.val (.ref ta), .val (.ref tb)] [(.ref ta), (.ref tb)])) rfl (by rw [hml]; rfl) (argsL := [(.ref tb), (.ref ta)]) (rest := []) (lenOf own_pd___D_D_Z rfl) rfl (by show 2 * 0 + _ ≤ _; exact Nat.le_of_eq rfl) (hb hby own_d_prog_18_method_3_10) (fun _ _ => ⟨rfl, e2, (by decide : 0 + 0 ≤ _), (by decide : 0 + 0 ≤ _)⟩)
    dsimp only [Pt.U, Pt.locs, Pt.cells, Pt.slots] at X6 l6 y6 z6 st6 hQ6
    subst l6 y6 z6
    obtain ⟨rfl, N6q, e6⟩ := hQ6
    have N6 := Fr.app N2 N6q
    have pre7 : ∀ t, Steps p.tables e below (T6.setTop (mkF m 13 #[.val (.ref ta), .val (.ref tb)] [(.int (own_nw [(y0, x0)]))])) t → Steps p.tables e below (s₁.setTop (entryFrame m #[(.ref ta), (.ref tb)] 2)) t := fun t k => pre5 _ (st6 _ k)
    by_cases c13 : (own_nw [(y0, x0)]) = 0
    · have pre8 : ∀ t, Steps p.tables e below (T6.setTop (mkF m 21 #[.val (.ref ta), .val (.ref tb)] [(.int (1 : Int32))])) t → Steps p.tables e below (s₁.setTop (entryFrame m #[(.ref ta), (.ref tb)] 2)) t := fun t k => pre7 _ (by
        show Steps p.tables e below (T6.setTop (mkF m 13 #[.val (.ref ta), .val (.ref tb)] [(.int (own_nw [(y0, x0)]))])) _
        refine XS.ifNo X6.here hx rfl (hb hby own_d_prog_18_method_3_13) rfl (XT.i0_ne_f c13) ?_
        show Steps p.tables e below (T6.setTop (mkF m 16 #[.val (.ref ta), .val (.ref tb)] [])) _
        refine XT.iconstV X6.here hx rfl (1 : Int32) (hb hby own_d_prog_18_method_3_16) rfl ?_
        show Steps p.tables e below (T6.setTop (mkF m 17 #[.val (.ref ta), .val (.ref tb)] [(.int (1 : Int32))])) _
        refine XS.goto X6.here hx rfl (pc0 := 17) (pc' := 21) rfl (hb hby own_d_prog_18_method_3_17) (by decide) (by decide) ?_
        exact k)
      obtain ⟨fs, hr, hrun, hended, hW, hsame⟩ := X6.leave (v := some (.int (1 : Int32))) (fun h => by rw [Bd.returns] at h; cases h)
      refine ⟨_, _, pre8 _ ?_, hrun, hended, _, _, rfl, ?_, ⟨_, rfl⟩, hW, hsame.mono (by decide) (by decide)⟩
      · show Steps p.tables e below (T6.setTop (mkF m 21 #[.val (.ref ta), .val (.ref tb)] [(.int (1 : Int32))])) _
        exact retN X6 hx (t := .boolean) Bd.returns (by simp) (hb hby own_d_prog_18_method_3_21) hr
      · show Q_own_dom1 Z ta tb ka kb x0 y0 h0 n0 _ T6.heap _
        rw [e6]
        exact ⟨by unfold own_dom; rw [if_neg c5, if_pos c13], N6, rfl⟩
    · have pre9 : ∀ t, Steps p.tables e below (T6.setTop (mkF m 21 #[.val (.ref ta), .val (.ref tb)] [(.int (0 : Int32))])) t → Steps p.tables e below (s₁.setTop (entryFrame m #[(.ref ta), (.ref tb)] 2)) t := fun t k => pre7 _ (by
        show Steps p.tables e below (T6.setTop (mkF m 13 #[.val (.ref ta), .val (.ref tb)] [(.int (own_nw [(y0, x0)]))])) _
        refine XS.ifYes X6.here hx rfl (pc0 := 13) (pc' := 20) rfl (hb hby own_d_prog_18_method_3_13) rfl (XT.i0_ne_t c13) (by decide) (by decide) ?_
        show Steps p.tables e below (T6.setTop (mkF m 20 #[.val (.ref ta), .val (.ref tb)] [])) _
        refine XT.iconstV X6.here hx rfl (0 : Int32) (hb hby own_d_prog_18_method_3_20) rfl ?_
        exact k)
      obtain ⟨fs, hr, hrun, hended, hW, hsame⟩ := X6.leave (v := some (.int (0 : Int32))) (fun h => by rw [Bd.returns] at h; cases h)
      refine ⟨_, _, pre9 _ ?_, hrun, hended, _, _, rfl, ?_, ⟨_, rfl⟩, hW, hsame.mono (by decide) (by decide)⟩
      · show Steps p.tables e below (T6.setTop (mkF m 21 #[.val (.ref ta), .val (.ref tb)] [(.int (0 : Int32))])) _
        exact retN X6 hx (t := .boolean) Bd.returns (by simp) (hb hby own_d_prog_18_method_3_21) hr
      · show Q_own_dom1 Z ta tb ka kb x0 y0 h0 n0 _ T6.heap _
        rw [e6]
        exact ⟨by unfold own_dom; rw [if_neg c5, if_neg c13], N6, rfl⟩
theorem own_ef_own_nw2 (m : MethodId) (ta : Addr) (tb : Addr) : entryFrame m #[(.ref ta), (.ref tb)] 3 = mkF m 0 #[.val (.ref ta), .val (.ref tb), .unset] [] := by first | (simp [entryFrame, mkF, argsToLocals, Value.category]; done) | rfl
def Q_own_nw2 (Z : State) (ta : Addr) (tb : Addr) (ka : ClassId) (kb : ClassId) (x0 : Int32) (x1 : Int32) (y0 : Int32) (y1 : Int32) (h0 : Heap) (n0 : Nat) (v : Option Value) (h : Heap) (L : List Loc) : Prop := v = some (.int (own_nw [(x0, y0), (x1, y1)])) ∧ Fr n0 L ∧ h = h0
set_option maxRecDepth 65536 in
set_option maxHeartbeats 40000000 in
theorem own_nw2 (l : Launch) (Z : State) (a0 : Array Value) (hw : ∀ d ∈ tables_1, d.before a0 Z = true) (ws : List Jvm.Cond) (ta : Addr) (tb : Addr) (ka : ClassId) (kb : ClassId) (x0 : Int32) (x1 : Int32) (y0 : Int32) (y1 : Int32) (h0 : Heap) (n0 : Nat) (Z0 : n0 ≤ h0.size) (VA : Arv Z h0 ta ka .double (2 : Int32) [(.double (FP.l2d (x0.toInt64))), (.double (FP.l2d (x1.toInt64)))] (.double (FP.l2d 0))) (VB : Arv Z h0 tb kb .double (2 : Int32) [(.double (FP.l2d (y0.toInt64))), (.double (FP.l2d (y1.toInt64)))] (.double (FP.l2d 0))) :
    MetFree l (⟨"com/example/cultivar/cultivar/Pareto", "noWorse", "([D[D)Z"⟩ : MethodName) (head1 (Jvm.Cond.code (⟨"com/example/cultivar/cultivar/Pareto", "noWorse", "([D[D)Z"⟩ : MethodName) prog_18_method_5_code 3 (some .boolean) :: ws) ({ frames := 0, cells := 0, slots := 0, locals := 0 } : Room)) (fun a U => a = #[(.ref ta), (.ref tb)] ∧ Z.Warmed39 U.vm ∧ U.heap = h0) (fun _ _ _ _ _ => True) (fun _ U o U' => ∃ v L, o = .returned v ∧ Q_own_nw2 Z ta tb ka kb x0 x1 y0 y1 h0 n0 v U'.heap L ∧ FrameEnd U o U' L ({ frames := 0, cells := 0, slots := 0, locals := 0 } : Room).cells ({ frames := 0, cells := 0, slots := 0, locals := 0 } : Room).slots) := by
  refine MetFree.of_bodySF (plainFor_of_name own_pn_com_example_cultivar_cultivar_Pareto) hisR ?_
  intro p e s m args below meth c s₁ Bd hml0 hP hK
  obtain ⟨rfl, hZ, hh⟩ := hP
  have hx := Bd.exec
  have hby := Bd.bytes
  have hml : c.maxLocals = 3 := hml0
  have hown : s.vm.findClass "com/example/cultivar/cultivar/Pareto" = some m.cls := findClass_of_methodNamed Bd.named
  have hnm := (name_of_methodNamed Bd.named Bd.method).1
  have X0 : Stand p l e ({ frames := 0, cells := 0, slots := 0, locals := 0 } : Room) s m #[(.ref ta), (.ref tb)] below meth c s₁ [] 0 0 := Stand.of_body Bd
  have e0 : s₁.heap = h0 := by rw [← hh, Bd.state]; rfl
  have N0 := Fr.nil n0
  have pre0 : ∀ t, Steps p.tables e below (s₁.setTop (mkF m 0 #[.val (.ref ta), .val (.ref tb), .unset] [])) t → Steps p.tables e below (s₁.setTop (entryFrame m #[(.ref ta), (.ref tb)] 3)) t := fun t k => castTop (own_ef_own_nw2 m ta tb) k
  have pre2 : ∀ t, Steps p.tables e below (s₁.setTop (mkF m 4 #[.val (.ref ta), .val (.ref tb), .val (.int (0 : Int32))] [(.ref ta), (.int (0 : Int32))])) t → Steps p.tables e below (s₁.setTop (entryFrame m #[(.ref ta), (.ref tb)] 3)) t := fun t k => pre0 _ (by
    show Steps p.tables e below (s₁.setTop (mkF m 0 #[.val (.ref ta), .val (.ref tb), .unset] [])) _
    refine XT.iconstV X0.here hx rfl (0 : Int32) (hb hby own_d_prog_18_method_5_0) rfl ?_
    show Steps p.tables e below (s₁.setTop (mkF m 1 #[.val (.ref ta), .val (.ref tb), .unset] [(.int (0 : Int32))])) _
    refine XS.istoreN X0.here hx rfl (hb hby own_d_prog_18_method_5_1) rfl (l' := #[.val (.ref ta), .val (.ref tb), .val (.int (0 : Int32))]) rfl ?_
    show Steps p.tables e below (s₁.setTop (mkF m 2 #[.val (.ref ta), .val (.ref tb), .val (.int (0 : Int32))] [])) _
    refine XS.iloadN X0.here hx rfl (hb hby own_d_prog_18_method_5_2) rfl ?_
    show Steps p.tables e below (s₁.setTop (mkF m 3 #[.val (.ref ta), .val (.ref tb), .val (.int (0 : Int32))] [(.int (0 : Int32))])) _
    refine XS.aloadN X0.here hx rfl (hb hby own_d_prog_18_method_5_3) rfl rfl ?_
    exact k)
  obtain ⟨cl1, Ar1, qc1, Sz1, Mz1, Hs1, Uf1⟩ := (show Arv Z h0 ta ka .double (2 : Int32) [(.double (FP.l2d (x0.toInt64))), (.double (FP.l2d (x1.toInt64)))] (.double (FP.l2d 0)) from VA)
  have pre4 : ∀ t, Steps p.tables e below (s₁.setTop (mkF m 10 #[.val (.ref ta), .val (.ref tb), .val (.int (0 : Int32))] [(.int (0 : Int32)), (.ref ta)])) t → Steps p.tables e below (s₁.setTop (entryFrame m #[(.ref ta), (.ref tb)] 3)) t := fun t k => pre2 _ (by
    show Steps p.tables e below (s₁.setTop (mkF m 4 #[.val (.ref ta), .val (.ref tb), .val (.int (0 : Int32))] [(.ref ta), (.int (0 : Int32))])) _
    refine X0.arraylength hx (by rw [e0]; exact Ar1.1) (State.isArrayOf_alike hZ.alike Ar1.2.1) (g := (mkF m 4 #[.val (.ref ta), .val (.ref tb), .val (.int (0 : Int32))] [(.ref ta), (.int (0 : Int32))])) rfl rfl (hb hby own_d_prog_18_method_5_4) _ ?_
    rw [len_of Sz1 Mz1]
    show Steps p.tables e below (s₁.setTop (mkF m 5 #[.val (.ref ta), .val (.ref tb), .val (.int (0 : Int32))] [(.int (2 : Int32)), (.int (0 : Int32))])) _
    refine XS.icmpNo X0.here hx rfl (hb hby own_d_prog_18_method_5_5) rfl (XT.ii_ge_f (by decide)) ?_
    show Steps p.tables e below (s₁.setTop (mkF m 8 #[.val (.ref ta), .val (.ref tb), .val (.int (0 : Int32))] [])) _
    refine XS.aloadN X0.here hx rfl (hb hby own_d_prog_18_method_5_8) rfl rfl ?_
    show Steps p.tables e below (s₁.setTop (mkF m 9 #[.val (.ref ta), .val (.ref tb), .val (.int (0 : Int32))] [(.ref ta)])) _
    refine XS.iloadN X0.here hx rfl (hb hby own_d_prog_18_method_5_9) rfl ?_
    exact k)
  obtain ⟨cl3, Ar3, qc3, Sz3, Mz3, Hs3, Uf3⟩ := (show Arv Z h0 ta ka .double (2 : Int32) [(.double (FP.l2d (x0.toInt64))), (.double (FP.l2d (x1.toInt64)))] (.double (FP.l2d 0)) from VA)
  have in5 : ¬ ((0 : Int32) < 0 ∨ cl3.slots.size ≤ ((0 : Int32)).toNatClampNeg) := inb_of Sz3 (by decide)
  have at5 : cl3.slots[((0 : Int32)).toNatClampNeg]? = some (.double (FP.l2d (x0.toInt64))) := Hs3.at in5 rfl
  have pre7 : ∀ t, Steps p.tables e below (s₁.setTop (mkF m 13 #[.val (.ref ta), .val (.ref tb), .val (.int (0 : Int32))] [(.int (0 : Int32)), (.ref tb), (.double (FP.l2d (x0.toInt64)))])) t → Steps p.tables e below (s₁.setTop (entryFrame m #[(.ref ta), (.ref tb)] 3)) t := fun t k => pre4 _ (by
    show Steps p.tables e below (s₁.setTop (mkF m 10 #[.val (.ref ta), .val (.ref tb), .val (.int (0 : Int32))] [(.int (0 : Int32)), (.ref ta)])) _
    refine X0.daload hx (j := (0 : Int32)) (v := (.double (FP.l2d (x0.toInt64)))) (by rw [e0]; exact Ar3.1) (State.isArrayOf_alike hZ.alike Ar3.2.1) Ar3.2.2 in5 at5 (g := (mkF m 10 #[.val (.ref ta), .val (.ref tb), .val (.int (0 : Int32))] [(.int (0 : Int32)), (.ref ta)])) rfl rfl (hb hby own_d_prog_18_method_5_10) _ ?_
    show Steps p.tables e below (s₁.setTop (mkF m 11 #[.val (.ref ta), .val (.ref tb), .val (.int (0 : Int32))] [(.double (FP.l2d (x0.toInt64)))])) _
    refine XS.aloadN X0.here hx rfl (hb hby own_d_prog_18_method_5_11) rfl rfl ?_
    show Steps p.tables e below (s₁.setTop (mkF m 12 #[.val (.ref ta), .val (.ref tb), .val (.int (0 : Int32))] [(.ref tb), (.double (FP.l2d (x0.toInt64)))])) _
    refine XS.iloadN X0.here hx rfl (hb hby own_d_prog_18_method_5_12) rfl ?_
    exact k)
  obtain ⟨cl6, Ar6, qc6, Sz6, Mz6, Hs6, Uf6⟩ := (show Arv Z h0 tb kb .double (2 : Int32) [(.double (FP.l2d (y0.toInt64))), (.double (FP.l2d (y1.toInt64)))] (.double (FP.l2d 0)) from VB)
  have in8 : ¬ ((0 : Int32) < 0 ∨ cl6.slots.size ≤ ((0 : Int32)).toNatClampNeg) := inb_of Sz6 (by decide)
  have at8 : cl6.slots[((0 : Int32)).toNatClampNeg]? = some (.double (FP.l2d (y0.toInt64))) := Hs6.at in8 rfl
  have pre9 : ∀ t, Steps p.tables e below (s₁.setTop (mkF m 15 #[.val (.ref ta), .val (.ref tb), .val (.int (0 : Int32))] [(.int (XT.cmpL (x0.toInt64) (y0.toInt64)))])) t → Steps p.tables e below (s₁.setTop (entryFrame m #[(.ref ta), (.ref tb)] 3)) t := fun t k => pre7 _ (by
    show Steps p.tables e below (s₁.setTop (mkF m 13 #[.val (.ref ta), .val (.ref tb), .val (.int (0 : Int32))] [(.int (0 : Int32)), (.ref tb), (.double (FP.l2d (x0.toInt64)))])) _
    refine X0.daload hx (j := (0 : Int32)) (v := (.double (FP.l2d (y0.toInt64)))) (by rw [e0]; exact Ar6.1) (State.isArrayOf_alike hZ.alike Ar6.2.1) Ar6.2.2 in8 at8 (g := (mkF m 13 #[.val (.ref ta), .val (.ref tb), .val (.int (0 : Int32))] [(.int (0 : Int32)), (.ref tb), (.double (FP.l2d (x0.toInt64)))])) rfl rfl (hb hby own_d_prog_18_method_5_13) _ ?_
    show Steps p.tables e below (s₁.setTop (mkF m 14 #[.val (.ref ta), .val (.ref tb), .val (.int (0 : Int32))] [(.double (FP.l2d (y0.toInt64))), (.double (FP.l2d (x0.toInt64)))])) _
    refine XS.dcmpS X0.here hx rfl (hb hby own_d_prog_18_method_5_14) rfl (v := XT.cmpL (x0.toInt64) (y0.toInt64)) (dcmpV_w (own_b53 x0) (own_b53 y0) .l) ?_
    exact k)
  by_cases d0 : (y0.toInt64) < (x0.toInt64)
  · have pre10 : ∀ t, Steps p.tables e below (s₁.setTop (mkF m 19 #[.val (.ref ta), .val (.ref tb), .val (.int (0 : Int32))] [(.int (0 : Int32))])) t → Steps p.tables e below (s₁.setTop (entryFrame m #[(.ref ta), (.ref tb)] 3)) t := fun t k => pre9 _ (by
      show Steps p.tables e below (s₁.setTop (mkF m 15 #[.val (.ref ta), .val (.ref tb), .val (.int (0 : Int32))] [(.int (XT.cmpL (x0.toInt64) (y0.toInt64)))])) _
      refine XS.ifNo X0.here hx rfl (hb hby own_d_prog_18_method_5_15) rfl (XT.ll_le_f d0) ?_
      show Steps p.tables e below (s₁.setTop (mkF m 18 #[.val (.ref ta), .val (.ref tb), .val (.int (0 : Int32))] [])) _
      refine XT.iconstV X0.here hx rfl (0 : Int32) (hb hby own_d_prog_18_method_5_18) rfl ?_
      exact k)
    obtain ⟨fs, hr, hrun, hended, hW, hsame⟩ := X0.leave (v := some (.int (0 : Int32))) (fun h => by rw [Bd.returns] at h; cases h)
    refine ⟨_, _, pre10 _ ?_, hrun, hended, _, _, rfl, ?_, ⟨_, rfl⟩, hW, hsame.mono (by decide) (by decide)⟩
    · show Steps p.tables e below (s₁.setTop (mkF m 19 #[.val (.ref ta), .val (.ref tb), .val (.int (0 : Int32))] [(.int (0 : Int32))])) _
      exact retN X0 hx (t := .boolean) Bd.returns (by simp) (hb hby own_d_prog_18_method_5_19) hr
    · show Q_own_nw2 Z ta tb ka kb x0 x1 y0 y1 h0 n0 _ s₁.heap _
      rw [e0]
      exact ⟨by simp [own_nw, d0], N0, rfl⟩
  · have pre12 : ∀ t, Steps p.tables e below (s₁.setTop (mkF m 4 #[.val (.ref ta), .val (.ref tb), .val (.int (1 : Int32))] [(.ref ta), (.int (1 : Int32))])) t → Steps p.tables e below (s₁.setTop (entryFrame m #[(.ref ta), (.ref tb)] 3)) t := fun t k => pre9 _ (by
      show Steps p.tables e below (s₁.setTop (mkF m 15 #[.val (.ref ta), .val (.ref tb), .val (.int (0 : Int32))] [(.int (XT.cmpL (x0.toInt64) (y0.toInt64)))])) _
      refine XS.ifYes X0.here hx rfl (pc0 := 15) (pc' := 20) rfl (hb hby own_d_prog_18_method_5_15) rfl (XT.ll_le_t d0) (by decide) (by decide) ?_
      show Steps p.tables e below (s₁.setTop (mkF m 20 #[.val (.ref ta), .val (.ref tb), .val (.int (0 : Int32))] [])) _
      refine XT.iincV X0.here hx rfl (1 : Int32) (hb hby own_d_prog_18_method_5_20) rfl rfl (l' := #[.val (.ref ta), .val (.ref tb), .val (.int (1 : Int32))]) rfl ?_
      show Steps p.tables e below (s₁.setTop (mkF m 23 #[.val (.ref ta), .val (.ref tb), .val (.int (1 : Int32))] [])) _
      refine XS.goto X0.here hx rfl (pc0 := 23) (pc' := 2) rfl (hb hby own_d_prog_18_method_5_23) (by decide) (by decide) ?_
      show Steps p.tables e below (s₁.setTop (mkF m 2 #[.val (.ref ta), .val (.ref tb), .val (.int (1 : Int32))] [])) _
      refine XS.iloadN X0.here hx rfl (hb hby own_d_prog_18_method_5_2) rfl ?_
      show Steps p.tables e below (s₁.setTop (mkF m 3 #[.val (.ref ta), .val (.ref tb), .val (.int (1 : Int32))] [(.int (1 : Int32))])) _
      refine XS.aloadN X0.here hx rfl (hb hby own_d_prog_18_method_5_3) rfl rfl ?_
      exact k)
    obtain ⟨cl11, Ar11, qc11, Sz11, Mz11, Hs11, Uf11⟩ := (show Arv Z h0 ta ka .double (2 : Int32) [(.double (FP.l2d (x0.toInt64))), (.double (FP.l2d (x1.toInt64)))] (.double (FP.l2d 0)) from VA)
    have pre14 : ∀ t, Steps p.tables e below (s₁.setTop (mkF m 10 #[.val (.ref ta), .val (.ref tb), .val (.int (1 : Int32))] [(.int (1 : Int32)), (.ref ta)])) t → Steps p.tables e below (s₁.setTop (entryFrame m #[(.ref ta), (.ref tb)] 3)) t := fun t k => pre12 _ (by
      show Steps p.tables e below (s₁.setTop (mkF m 4 #[.val (.ref ta), .val (.ref tb), .val (.int (1 : Int32))] [(.ref ta), (.int (1 : Int32))])) _
      refine X0.arraylength hx (by rw [e0]; exact Ar11.1) (State.isArrayOf_alike hZ.alike Ar11.2.1) (g := (mkF m 4 #[.val (.ref ta), .val (.ref tb), .val (.int (1 : Int32))] [(.ref ta), (.int (1 : Int32))])) rfl rfl (hb hby own_d_prog_18_method_5_4) _ ?_
      rw [len_of Sz11 Mz11]
      show Steps p.tables e below (s₁.setTop (mkF m 5 #[.val (.ref ta), .val (.ref tb), .val (.int (1 : Int32))] [(.int (2 : Int32)), (.int (1 : Int32))])) _
      refine XS.icmpNo X0.here hx rfl (hb hby own_d_prog_18_method_5_5) rfl (XT.ii_ge_f (by decide)) ?_
      show Steps p.tables e below (s₁.setTop (mkF m 8 #[.val (.ref ta), .val (.ref tb), .val (.int (1 : Int32))] [])) _
      refine XS.aloadN X0.here hx rfl (hb hby own_d_prog_18_method_5_8) rfl rfl ?_
      show Steps p.tables e below (s₁.setTop (mkF m 9 #[.val (.ref ta), .val (.ref tb), .val (.int (1 : Int32))] [(.ref ta)])) _
      refine XS.iloadN X0.here hx rfl (hb hby own_d_prog_18_method_5_9) rfl ?_
      exact k)
    obtain ⟨cl13, Ar13, qc13, Sz13, Mz13, Hs13, Uf13⟩ := (show Arv Z h0 ta ka .double (2 : Int32) [(.double (FP.l2d (x0.toInt64))), (.double (FP.l2d (x1.toInt64)))] (.double (FP.l2d 0)) from VA)
    have in15 : ¬ ((1 : Int32) < 0 ∨ cl13.slots.size ≤ ((1 : Int32)).toNatClampNeg) := inb_of Sz13 (by decide)
    have at15 : cl13.slots[((1 : Int32)).toNatClampNeg]? = some (.double (FP.l2d (x1.toInt64))) := Hs13.at in15 rfl
    have pre17 : ∀ t, Steps p.tables e below (s₁.setTop (mkF m 13 #[.val (.ref ta), .val (.ref tb), .val (.int (1 : Int32))] [(.int (1 : Int32)), (.ref tb), (.double (FP.l2d (x1.toInt64)))])) t → Steps p.tables e below (s₁.setTop (entryFrame m #[(.ref ta), (.ref tb)] 3)) t := fun t k => pre14 _ (by
      show Steps p.tables e below (s₁.setTop (mkF m 10 #[.val (.ref ta), .val (.ref tb), .val (.int (1 : Int32))] [(.int (1 : Int32)), (.ref ta)])) _
      refine X0.daload hx (j := (1 : Int32)) (v := (.double (FP.l2d (x1.toInt64)))) (by rw [e0]; exact Ar13.1) (State.isArrayOf_alike hZ.alike Ar13.2.1) Ar13.2.2 in15 at15 (g := (mkF m 10 #[.val (.ref ta), .val (.ref tb), .val (.int (1 : Int32))] [(.int (1 : Int32)), (.ref ta)])) rfl rfl (hb hby own_d_prog_18_method_5_10) _ ?_
      show Steps p.tables e below (s₁.setTop (mkF m 11 #[.val (.ref ta), .val (.ref tb), .val (.int (1 : Int32))] [(.double (FP.l2d (x1.toInt64)))])) _
      refine XS.aloadN X0.here hx rfl (hb hby own_d_prog_18_method_5_11) rfl rfl ?_
      show Steps p.tables e below (s₁.setTop (mkF m 12 #[.val (.ref ta), .val (.ref tb), .val (.int (1 : Int32))] [(.ref tb), (.double (FP.l2d (x1.toInt64)))])) _
      refine XS.iloadN X0.here hx rfl (hb hby own_d_prog_18_method_5_12) rfl ?_
      exact k)
    obtain ⟨cl16, Ar16, qc16, Sz16, Mz16, Hs16, Uf16⟩ := (show Arv Z h0 tb kb .double (2 : Int32) [(.double (FP.l2d (y0.toInt64))), (.double (FP.l2d (y1.toInt64)))] (.double (FP.l2d 0)) from VB)
    have in18 : ¬ ((1 : Int32) < 0 ∨ cl16.slots.size ≤ ((1 : Int32)).toNatClampNeg) := inb_of Sz16 (by decide)
    have at18 : cl16.slots[((1 : Int32)).toNatClampNeg]? = some (.double (FP.l2d (y1.toInt64))) := Hs16.at in18 rfl
    have pre19 : ∀ t, Steps p.tables e below (s₁.setTop (mkF m 15 #[.val (.ref ta), .val (.ref tb), .val (.int (1 : Int32))] [(.int (XT.cmpL (x1.toInt64) (y1.toInt64)))])) t → Steps p.tables e below (s₁.setTop (entryFrame m #[(.ref ta), (.ref tb)] 3)) t := fun t k => pre17 _ (by
      show Steps p.tables e below (s₁.setTop (mkF m 13 #[.val (.ref ta), .val (.ref tb), .val (.int (1 : Int32))] [(.int (1 : Int32)), (.ref tb), (.double (FP.l2d (x1.toInt64)))])) _
      refine X0.daload hx (j := (1 : Int32)) (v := (.double (FP.l2d (y1.toInt64)))) (by rw [e0]; exact Ar16.1) (State.isArrayOf_alike hZ.alike Ar16.2.1) Ar16.2.2 in18 at18 (g := (mkF m 13 #[.val (.ref ta), .val (.ref tb), .val (.int (1 : Int32))] [(.int (1 : Int32)), (.ref tb), (.double (FP.l2d (x1.toInt64)))])) rfl rfl (hb hby own_d_prog_18_method_5_13) _ ?_
      show Steps p.tables e below (s₁.setTop (mkF m 14 #[.val (.ref ta), .val (.ref tb), .val (.int (1 : Int32))] [(.double (FP.l2d (y1.toInt64))), (.double (FP.l2d (x1.toInt64)))])) _
      refine XS.dcmpS X0.here hx rfl (hb hby own_d_prog_18_method_5_14) rfl (v := XT.cmpL (x1.toInt64) (y1.toInt64)) (dcmpV_w (own_b53 x1) (own_b53 y1) .l) ?_
      exact k)
    by_cases d1 : (y1.toInt64) < (x1.toInt64)
    · have pre20 : ∀ t, Steps p.tables e below (s₁.setTop (mkF m 19 #[.val (.ref ta), .val (.ref tb), .val (.int (1 : Int32))] [(.int (0 : Int32))])) t → Steps p.tables e below (s₁.setTop (entryFrame m #[(.ref ta), (.ref tb)] 3)) t := fun t k => pre19 _ (by
        show Steps p.tables e below (s₁.setTop (mkF m 15 #[.val (.ref ta), .val (.ref tb), .val (.int (1 : Int32))] [(.int (XT.cmpL (x1.toInt64) (y1.toInt64)))])) _
        refine XS.ifNo X0.here hx rfl (hb hby own_d_prog_18_method_5_15) rfl (XT.ll_le_f d1) ?_
        show Steps p.tables e below (s₁.setTop (mkF m 18 #[.val (.ref ta), .val (.ref tb), .val (.int (1 : Int32))] [])) _
        refine XT.iconstV X0.here hx rfl (0 : Int32) (hb hby own_d_prog_18_method_5_18) rfl ?_
        exact k)
      obtain ⟨fs, hr, hrun, hended, hW, hsame⟩ := X0.leave (v := some (.int (0 : Int32))) (fun h => by rw [Bd.returns] at h; cases h)
      refine ⟨_, _, pre20 _ ?_, hrun, hended, _, _, rfl, ?_, ⟨_, rfl⟩, hW, hsame.mono (by decide) (by decide)⟩
      · show Steps p.tables e below (s₁.setTop (mkF m 19 #[.val (.ref ta), .val (.ref tb), .val (.int (1 : Int32))] [(.int (0 : Int32))])) _
        exact retN X0 hx (t := .boolean) Bd.returns (by simp) (hb hby own_d_prog_18_method_5_19) hr
      · show Q_own_nw2 Z ta tb ka kb x0 x1 y0 y1 h0 n0 _ s₁.heap _
        rw [e0]
        exact ⟨by simp [own_nw, d0, d1], N0, rfl⟩
    · have pre22 : ∀ t, Steps p.tables e below (s₁.setTop (mkF m 4 #[.val (.ref ta), .val (.ref tb), .val (.int (2 : Int32))] [(.ref ta), (.int (2 : Int32))])) t → Steps p.tables e below (s₁.setTop (entryFrame m #[(.ref ta), (.ref tb)] 3)) t := fun t k => pre19 _ (by
        show Steps p.tables e below (s₁.setTop (mkF m 15 #[.val (.ref ta), .val (.ref tb), .val (.int (1 : Int32))] [(.int (XT.cmpL (x1.toInt64) (y1.toInt64)))])) _
        refine XS.ifYes X0.here hx rfl (pc0 := 15) (pc' := 20) rfl (hb hby own_d_prog_18_method_5_15) rfl (XT.ll_le_t d1) (by decide) (by decide) ?_
        show Steps p.tables e below (s₁.setTop (mkF m 20 #[.val (.ref ta), .val (.ref tb), .val (.int (1 : Int32))] [])) _
        refine XT.iincV X0.here hx rfl (1 : Int32) (hb hby own_d_prog_18_method_5_20) rfl rfl (l' := #[.val (.ref ta), .val (.ref tb), .val (.int (2 : Int32))]) rfl ?_
        show Steps p.tables e below (s₁.setTop (mkF m 23 #[.val (.ref ta), .val (.ref tb), .val (.int (2 : Int32))] [])) _
        refine XS.goto X0.here hx rfl (pc0 := 23) (pc' := 2) rfl (hb hby own_d_prog_18_method_5_23) (by decide) (by decide) ?_
        show Steps p.tables e below (s₁.setTop (mkF m 2 #[.val (.ref ta), .val (.ref tb), .val (.int (2 : Int32))] [])) _
        refine XS.iloadN X0.here hx rfl (hb hby own_d_prog_18_method_5_2) rfl ?_
        show Steps p.tables e below (s₁.setTop (mkF m 3 #[.val (.ref ta), .val (.ref tb), .val (.int (2 : Int32))] [(.int (2 : Int32))])) _
        refine XS.aloadN X0.here hx rfl (hb hby own_d_prog_18_method_5_3) rfl rfl ?_
        exact k)
      obtain ⟨cl21, Ar21, qc21, Sz21, Mz21, Hs21, Uf21⟩ := (show Arv Z h0 ta ka .double (2 : Int32) [(.double (FP.l2d (x0.toInt64))), (.double (FP.l2d (x1.toInt64)))] (.double (FP.l2d 0)) from VA)
      have pre23 : ∀ t, Steps p.tables e below (s₁.setTop (mkF m 27 #[.val (.ref ta), .val (.ref tb), .val (.int (2 : Int32))] [(.int (1 : Int32))])) t → Steps p.tables e below (s₁.setTop (entryFrame m #[(.ref ta), (.ref tb)] 3)) t := fun t k => pre22 _ (by
        show Steps p.tables e below (s₁.setTop (mkF m 4 #[.val (.ref ta), .val (.ref tb), .val (.int (2 : Int32))] [(.ref ta), (.int (2 : Int32))])) _
        refine X0.arraylength hx (by rw [e0]; exact Ar21.1) (State.isArrayOf_alike hZ.alike Ar21.2.1) (g := (mkF m 4 #[.val (.ref ta), .val (.ref tb), .val (.int (2 : Int32))] [(.ref ta), (.int (2 : Int32))])) rfl rfl (hb hby own_d_prog_18_method_5_4) _ ?_
        rw [len_of Sz21 Mz21]
        show Steps p.tables e below (s₁.setTop (mkF m 5 #[.val (.ref ta), .val (.ref tb), .val (.int (2 : Int32))] [(.int (2 : Int32)), (.int (2 : Int32))])) _
        refine XS.icmpYes X0.here hx rfl (pc0 := 5) (pc' := 26) rfl (hb hby own_d_prog_18_method_5_5) rfl (XT.ii_ge_t (by decide)) (by decide) (by decide) ?_
        show Steps p.tables e below (s₁.setTop (mkF m 26 #[.val (.ref ta), .val (.ref tb), .val (.int (2 : Int32))] [])) _
        refine XT.iconstV X0.here hx rfl (1 : Int32) (hb hby own_d_prog_18_method_5_26) rfl ?_
        exact k)
      obtain ⟨fs, hr, hrun, hended, hW, hsame⟩ := X0.leave (v := some (.int (1 : Int32))) (fun h => by rw [Bd.returns] at h; cases h)
      refine ⟨_, _, pre23 _ ?_, hrun, hended, _, _, rfl, ?_, ⟨_, rfl⟩, hW, hsame.mono (by decide) (by decide)⟩
      · show Steps p.tables e below (s₁.setTop (mkF m 27 #[.val (.ref ta), .val (.ref tb), .val (.int (2 : Int32))] [(.int (1 : Int32))])) _
        exact retN X0 hx (t := .boolean) Bd.returns (by simp) (hb hby own_d_prog_18_method_5_27) hr
      · show Q_own_nw2 Z ta tb ka kb x0 x1 y0 y1 h0 n0 _ s₁.heap _
        rw [e0]
        exact ⟨by simp [own_nw, d0, d1], N0, rfl⟩
theorem own_ef_own_dom2 (m : MethodId) (ta : Addr) (tb : Addr) : entryFrame m #[(.ref ta), (.ref tb)] 2 = mkF m 0 #[.val (.ref ta), .val (.ref tb)] [] := by first | (simp [entryFrame, mkF, argsToLocals, Value.category]; done) | rfl
def Q_own_dom2 (Z : State) (ta : Addr) (tb : Addr) (ka : ClassId) (kb : ClassId) (x0 : Int32) (x1 : Int32) (y0 : Int32) (y1 : Int32) (h0 : Heap) (n0 : Nat) (v : Option Value) (h : Heap) (L : List Loc) : Prop := v = some (.int (own_dom [(x0, y0), (x1, y1)] [(y0, x0), (y1, x1)])) ∧ Fr n0 L ∧ h = h0
set_option maxRecDepth 65536 in
set_option maxHeartbeats 40000000 in
theorem own_dom2 (l : Launch) (Z : State) (a0 : Array Value) (hw : ∀ d ∈ tables_1, d.before a0 Z = true) (ws : List Jvm.Cond) (ta : Addr) (tb : Addr) (ka : ClassId) (kb : ClassId) (x0 : Int32) (x1 : Int32) (y0 : Int32) (y1 : Int32) (h0 : Heap) (n0 : Nat) (Z0 : n0 ≤ h0.size) (VA : Arv Z h0 ta ka .double (2 : Int32) [(.double (FP.l2d (x0.toInt64))), (.double (FP.l2d (x1.toInt64)))] (.double (FP.l2d 0))) (VB : Arv Z h0 tb kb .double (2 : Int32) [(.double (FP.l2d (y0.toInt64))), (.double (FP.l2d (y1.toInt64)))] (.double (FP.l2d 0))) :
    MetFree l (⟨"com/example/cultivar/cultivar/Pareto", "dominates", "([D[D)Z"⟩ : MethodName) (head1 (Jvm.Cond.code (⟨"com/example/cultivar/cultivar/Pareto", "dominates", "([D[D)Z"⟩ : MethodName) prog_18_method_3_code 2 (some .boolean) :: ws) ({ frames := 1, cells := 0, slots := 0, locals := 14 } : Room)) (fun a U => a = #[(.ref ta), (.ref tb)] ∧ Z.Warmed39 U.vm ∧ U.heap = h0) (fun _ _ _ _ _ => True) (fun _ U o U' => ∃ v L, o = .returned v ∧ Q_own_dom2 Z ta tb ka kb x0 x1 y0 y1 h0 n0 v U'.heap L ∧ FrameEnd U o U' L ({ frames := 1, cells := 0, slots := 0, locals := 14 } : Room).cells ({ frames := 1, cells := 0, slots := 0, locals := 14 } : Room).slots) := by
  refine MetFree.of_bodySF (plainFor_of_name own_pn_com_example_cultivar_cultivar_Pareto) hisR ?_
  intro p e s m args below meth c s₁ Bd hml0 hP hK
  obtain ⟨rfl, hZ, hh⟩ := hP
  have hx := Bd.exec
  have hby := Bd.bytes
  have hml : c.maxLocals = 2 := hml0
  have hown : s.vm.findClass "com/example/cultivar/cultivar/Pareto" = some m.cls := findClass_of_methodNamed Bd.named
  have hnm := (name_of_methodNamed Bd.named Bd.method).1
  have X0 : Stand p l e ({ frames := 1, cells := 0, slots := 0, locals := 14 } : Room) s m #[(.ref ta), (.ref tb)] below meth c s₁ [] 0 0 := Stand.of_body Bd
  have e0 : s₁.heap = h0 := by rw [← hh, Bd.state]; rfl
  have N0 := Fr.nil n0
  have pre0 : ∀ t, Steps p.tables e below (s₁.setTop (mkF m 0 #[.val (.ref ta), .val (.ref tb)] [])) t → Steps p.tables e below (s₁.setTop (entryFrame m #[(.ref ta), (.ref tb)] 2)) t := fun t k => castTop (own_ef_own_dom2 m ta tb) k
  have pre1 : ∀ t, Steps p.tables e below (s₁.setTop (mkF m 2 #[.val (.ref ta), .val (.ref tb)] [(.ref tb), (.ref ta)])) t → Steps p.tables e below (s₁.setTop (entryFrame m #[(.ref ta), (.ref tb)] 2)) t := fun t k => pre0 _ (by
    show Steps p.tables e below (s₁.setTop (mkF m 0 #[.val (.ref ta), .val (.ref tb)] [])) _
    refine XS.aloadN X0.here hx rfl (hb hby own_d_prog_18_method_3_0) rfl rfl ?_
    show Steps p.tables e below (s₁.setTop (mkF m 1 #[.val (.ref ta), .val (.ref tb)] [(.ref ta)])) _
    refine XS.aloadN X0.here hx rfl (hb hby own_d_prog_18_method_3_1) rfl rfl ?_
    exact k)
  obtain ⟨_, _, ⟨T2, L2, k2, n2⟩, -, X2, ⟨Lc2, hQ2, l2, y2, z2⟩, st2⟩ := Jvm.LawKit.callS X0 hx (y := (⟨"com/example/cultivar/cultivar/Pareto", "noWorse", "([D[D)Z"⟩ : MethodName)) hown (mvT hZ (hw _ (List.mem_of_getElem? (i := 12) rfl))) (mvT hZ (hw _ (List.mem_of_getElem? (i := 13) rfl))) (mvT hZ (hw _ (List.mem_of_getElem? (i := 10) rfl))) (mvT hZ (hw _ (List.mem_of_getElem? (i := 14) rfl))) (by decide) (backOf (W := 0) (own_nw2 l Z a0 hw [] ta tb ka kb x0 x1 y0 y1 h0 n0 Z0 VA VB) hZ (hw _ (List.mem_of_getElem? (i := 14) rfl)) (hw _ (List.mem_of_getElem? (i := 10) rfl)) (by decide) (by decide)) (g := (mkF m 2 #[.val (.ref ta), .val (.ref tb)] [(.ref tb), (.ref ta)])) rfl (by rw [hml]; rfl) (argsL := [(.ref ta), (.ref tb)]) (rest := []) (lenOf own_pd___D_D_Z rfl) rfl (by show 2 * 0 + _ ≤ _; exact Nat.le_of_eq rfl) (hb hby own_d_prog_18_method_3_2) (fun _ _ => ⟨rfl, e0, (by decide : 0 + 0 ≤ _), (by decide : 0 + 0 ≤ _)⟩)
  dsimp only [Pt.U, Pt.locs, Pt.cells, Pt.slots] at X2 l2 y2 z2 st2 hQ2
  subst l2 y2 z2
  obtain ⟨rfl, N2q, e2⟩ := hQ2
  have N2 := Fr.app N0 N2q
  have pre3 : ∀ t, Steps p.tables e below (T2.setTop (mkF m 5 #[.val (.ref ta), .val (.ref tb)] [(.int (own_nw [(x0, y0), (x1, y1)]))])) t → Steps p.tables e below (s₁.setTop (entryFrame m #[(.ref ta), (.ref tb)] 2)) t := fun t k => pre1 _ (st2 _ k)
  by_cases c5 : (own_nw [(x0, y0), (x1, y1)]) = 0
  · have pre4 : ∀ t, Steps p.tables e below (T2.setTop (mkF m 21 #[.val (.ref ta), .val (.ref tb)] [(.int (0 : Int32))])) t → Steps p.tables e below (s₁.setTop (entryFrame m #[(.ref ta), (.ref tb)] 2)) t := fun t k => pre3 _ (by
      show Steps p.tables e below (T2.setTop (mkF m 5 #[.val (.ref ta), .val (.ref tb)] [(.int (own_nw [(x0, y0), (x1, y1)]))])) _
      refine XS.ifYes X2.here hx rfl (pc0 := 5) (pc' := 20) rfl (hb hby own_d_prog_18_method_3_5) rfl (XT.i0_eq_t c5) (by decide) (by decide) ?_
      show Steps p.tables e below (T2.setTop (mkF m 20 #[.val (.ref ta), .val (.ref tb)] [])) _
      refine XT.iconstV X2.here hx rfl (0 : Int32) (hb hby own_d_prog_18_method_3_20) rfl ?_
      exact k)
    obtain ⟨fs, hr, hrun, hended, hW, hsame⟩ := X2.leave (v := some (.int (0 : Int32))) (fun h => by rw [Bd.returns] at h; cases h)
    refine ⟨_, _, pre4 _ ?_, hrun, hended, _, _, rfl, ?_, ⟨_, rfl⟩, hW, hsame.mono (by decide) (by decide)⟩
    · show Steps p.tables e below (T2.setTop (mkF m 21 #[.val (.ref ta), .val (.ref tb)] [(.int (0 : Int32))])) _
      exact retN X2 hx (t := .boolean) Bd.returns (by simp) (hb hby own_d_prog_18_method_3_21) hr
    · show Q_own_dom2 Z ta tb ka kb x0 x1 y0 y1 h0 n0 _ T2.heap _
      rw [e2]
      exact ⟨by unfold own_dom; rw [if_pos c5], N2, rfl⟩
  · have pre5 : ∀ t, Steps p.tables e below (T2.setTop (mkF m 10 #[.val (.ref ta), .val (.ref tb)] [(.ref ta), (.ref tb)])) t → Steps p.tables e below (s₁.setTop (entryFrame m #[(.ref ta), (.ref tb)] 2)) t := fun t k => pre3 _ (by
      show Steps p.tables e below (T2.setTop (mkF m 5 #[.val (.ref ta), .val (.ref tb)] [(.int (own_nw [(x0, y0), (x1, y1)]))])) _
      refine XS.ifNo X2.here hx rfl (hb hby own_d_prog_18_method_3_5) rfl (XT.i0_eq_f c5) ?_
      show Steps p.tables e below (T2.setTop (mkF m 8 #[.val (.ref ta), .val (.ref tb)] [])) _
      refine XS.aloadN X2.here hx rfl (hb hby own_d_prog_18_method_3_8) rfl rfl ?_
      show Steps p.tables e below (T2.setTop (mkF m 9 #[.val (.ref ta), .val (.ref tb)] [(.ref tb)])) _
      refine XS.aloadN X2.here hx rfl (hb hby own_d_prog_18_method_3_9) rfl rfl ?_
      exact k)
    obtain ⟨_, _, ⟨T6, L6, k6, n6⟩, -, X6, ⟨Lc6, hQ6, l6, y6, z6⟩, st6⟩ := Jvm.LawKit.callS X2 hx (y := (⟨"com/example/cultivar/cultivar/Pareto", "noWorse", "([D[D)Z"⟩ : MethodName)) hown (mvT hZ (hw _ (List.mem_of_getElem? (i := 12) rfl))) (mvT hZ (hw _ (List.mem_of_getElem? (i := 13) rfl))) (mvT hZ (hw _ (List.mem_of_getElem? (i := 10) rfl))) (mvT hZ (hw _ (List.mem_of_getElem? (i := 14) rfl))) (by decide) (backOf (W := 0) (own_nw2 l Z a0 hw [] tb ta kb ka y0 y1 x0 x1 h0 n0 Z0 VB VA) hZ (hw _ (List.mem_of_getElem? (i := 14) rfl)) (hw _ (List.mem_of_getElem? (i := 10) rfl)) (by decide) (by decide)) (g := (mkF m 10 #[.val (.ref ta), .val (.ref tb)] [(.ref ta), (.ref tb)])) rfl (by rw [hml]; rfl) (argsL := [(.ref tb), (.ref ta)]) (rest := []) (lenOf own_pd___D_D_Z rfl) rfl (by show 2 * 0 + _ ≤ _; exact Nat.le_of_eq rfl) (hb hby own_d_prog_18_method_3_10) (fun _ _ => ⟨rfl, e2, (by decide : 0 + 0 ≤ _), (by decide : 0 + 0 ≤ _)⟩)
    dsimp only [Pt.U, Pt.locs, Pt.cells, Pt.slots] at X6 l6 y6 z6 st6 hQ6
    subst l6 y6 z6
    obtain ⟨rfl, N6q, e6⟩ := hQ6
    have N6 := Fr.app N2 N6q
    have pre7 : ∀ t, Steps p.tables e below (T6.setTop (mkF m 13 #[.val (.ref ta), .val (.ref tb)] [(.int (own_nw [(y0, x0), (y1, x1)]))])) t → Steps p.tables e below (s₁.setTop (entryFrame m #[(.ref ta), (.ref tb)] 2)) t := fun t k => pre5 _ (st6 _ k)
    by_cases c13 : (own_nw [(y0, x0), (y1, x1)]) = 0
    · have pre8 : ∀ t, Steps p.tables e below (T6.setTop (mkF m 21 #[.val (.ref ta), .val (.ref tb)] [(.int (1 : Int32))])) t → Steps p.tables e below (s₁.setTop (entryFrame m #[(.ref ta), (.ref tb)] 2)) t := fun t k => pre7 _ (by
        show Steps p.tables e below (T6.setTop (mkF m 13 #[.val (.ref ta), .val (.ref tb)] [(.int (own_nw [(y0, x0), (y1, x1)]))])) _
        refine XS.ifNo X6.here hx rfl (hb hby own_d_prog_18_method_3_13) rfl (XT.i0_ne_f c13) ?_
        show Steps p.tables e below (T6.setTop (mkF m 16 #[.val (.ref ta), .val (.ref tb)] [])) _
        refine XT.iconstV X6.here hx rfl (1 : Int32) (hb hby own_d_prog_18_method_3_16) rfl ?_
        show Steps p.tables e below (T6.setTop (mkF m 17 #[.val (.ref ta), .val (.ref tb)] [(.int (1 : Int32))])) _
        refine XS.goto X6.here hx rfl (pc0 := 17) (pc' := 21) rfl (hb hby own_d_prog_18_method_3_17) (by decide) (by decide) ?_
        exact k)
      obtain ⟨fs, hr, hrun, hended, hW, hsame⟩ := X6.leave (v := some (.int (1 : Int32))) (fun h => by rw [Bd.returns] at h; cases h)
      refine ⟨_, _, pre8 _ ?_, hrun, hended, _, _, rfl, ?_, ⟨_, rfl⟩, hW, hsame.mono (by decide) (by decide)⟩
      · show Steps p.tables e below (T6.setTop (mkF m 21 #[.val (.ref ta), .val (.ref tb)] [(.int (1 : Int32))])) _
        exact retN X6 hx (t := .boolean) Bd.returns (by simp) (hb hby own_d_prog_18_method_3_21) hr
      · show Q_own_dom2 Z ta tb ka kb x0 x1 y0 y1 h0 n0 _ T6.heap _
        rw [e6]
        exact ⟨by unfold own_dom; rw [if_neg c5, if_pos c13], N6, rfl⟩
    · have pre9 : ∀ t, Steps p.tables e below (T6.setTop (mkF m 21 #[.val (.ref ta), .val (.ref tb)] [(.int (0 : Int32))])) t → Steps p.tables e below (s₁.setTop (entryFrame m #[(.ref ta), (.ref tb)] 2)) t := fun t k => pre7 _ (by
        show Steps p.tables e below (T6.setTop (mkF m 13 #[.val (.ref ta), .val (.ref tb)] [(.int (own_nw [(y0, x0), (y1, x1)]))])) _
        refine XS.ifYes X6.here hx rfl (pc0 := 13) (pc' := 20) rfl (hb hby own_d_prog_18_method_3_13) rfl (XT.i0_ne_t c13) (by decide) (by decide) ?_
        show Steps p.tables e below (T6.setTop (mkF m 20 #[.val (.ref ta), .val (.ref tb)] [])) _
        refine XT.iconstV X6.here hx rfl (0 : Int32) (hb hby own_d_prog_18_method_3_20) rfl ?_
        exact k)
      obtain ⟨fs, hr, hrun, hended, hW, hsame⟩ := X6.leave (v := some (.int (0 : Int32))) (fun h => by rw [Bd.returns] at h; cases h)
      refine ⟨_, _, pre9 _ ?_, hrun, hended, _, _, rfl, ?_, ⟨_, rfl⟩, hW, hsame.mono (by decide) (by decide)⟩
      · show Steps p.tables e below (T6.setTop (mkF m 21 #[.val (.ref ta), .val (.ref tb)] [(.int (0 : Int32))])) _
        exact retN X6 hx (t := .boolean) Bd.returns (by simp) (hb hby own_d_prog_18_method_3_21) hr
      · show Q_own_dom2 Z ta tb ka kb x0 x1 y0 y1 h0 n0 _ T6.heap _
        rw [e6]
        exact ⟨by unfold own_dom; rw [if_neg c5, if_neg c13], N6, rfl⟩
theorem own_ef_own_nw3 (m : MethodId) (ta : Addr) (tb : Addr) : entryFrame m #[(.ref ta), (.ref tb)] 3 = mkF m 0 #[.val (.ref ta), .val (.ref tb), .unset] [] := by first | (simp [entryFrame, mkF, argsToLocals, Value.category]; done) | rfl
def Q_own_nw3 (Z : State) (ta : Addr) (tb : Addr) (ka : ClassId) (kb : ClassId) (x0 : Int32) (x1 : Int32) (x2 : Int32) (y0 : Int32) (y1 : Int32) (y2 : Int32) (h0 : Heap) (n0 : Nat) (v : Option Value) (h : Heap) (L : List Loc) : Prop := v = some (.int (own_nw [(x0, y0), (x1, y1), (x2, y2)])) ∧ Fr n0 L ∧ h = h0
set_option maxRecDepth 65536 in
set_option maxHeartbeats 40000000 in
theorem own_nw3 (l : Launch) (Z : State) (a0 : Array Value) (hw : ∀ d ∈ tables_1, d.before a0 Z = true) (ws : List Jvm.Cond) (ta : Addr) (tb : Addr) (ka : ClassId) (kb : ClassId) (x0 : Int32) (x1 : Int32) (x2 : Int32) (y0 : Int32) (y1 : Int32) (y2 : Int32) (h0 : Heap) (n0 : Nat) (Z0 : n0 ≤ h0.size) (VA : Arv Z h0 ta ka .double (3 : Int32) [(.double (FP.l2d (x0.toInt64))), (.double (FP.l2d (x1.toInt64))), (.double (FP.l2d (x2.toInt64)))] (.double (FP.l2d 0))) (VB : Arv Z h0 tb kb .double (3 : Int32) [(.double (FP.l2d (y0.toInt64))), (.double (FP.l2d (y1.toInt64))), (.double (FP.l2d (y2.toInt64)))] (.double (FP.l2d 0))) :
    MetFree l (⟨"com/example/cultivar/cultivar/Pareto", "noWorse", "([D[D)Z"⟩ : MethodName) (head1 (Jvm.Cond.code (⟨"com/example/cultivar/cultivar/Pareto", "noWorse", "([D[D)Z"⟩ : MethodName) prog_18_method_5_code 3 (some .boolean) :: ws) ({ frames := 0, cells := 0, slots := 0, locals := 0 } : Room)) (fun a U => a = #[(.ref ta), (.ref tb)] ∧ Z.Warmed39 U.vm ∧ U.heap = h0) (fun _ _ _ _ _ => True) (fun _ U o U' => ∃ v L, o = .returned v ∧ Q_own_nw3 Z ta tb ka kb x0 x1 x2 y0 y1 y2 h0 n0 v U'.heap L ∧ FrameEnd U o U' L ({ frames := 0, cells := 0, slots := 0, locals := 0 } : Room).cells ({ frames := 0, cells := 0, slots := 0, locals := 0 } : Room).slots) := by
  refine MetFree.of_bodySF (plainFor_of_name own_pn_com_example_cultivar_cultivar_Pareto) hisR ?_
  intro p e s m args below meth c s₁ Bd hml0 hP hK
  obtain ⟨rfl, hZ, hh⟩ := hP
  have hx := Bd.exec
  have hby := Bd.bytes
  have hml : c.maxLocals = 3 := hml0
  have hown : s.vm.findClass "com/example/cultivar/cultivar/Pareto" = some m.cls := findClass_of_methodNamed Bd.named
  have hnm := (name_of_methodNamed Bd.named Bd.method).1
  have X0 : Stand p l e ({ frames := 0, cells := 0, slots := 0, locals := 0 } : Room) s m #[(.ref ta), (.ref tb)] below meth c s₁ [] 0 0 := Stand.of_body Bd
  have e0 : s₁.heap = h0 := by rw [← hh, Bd.state]; rfl
  have N0 := Fr.nil n0
  have pre0 : ∀ t, Steps p.tables e below (s₁.setTop (mkF m 0 #[.val (.ref ta), .val (.ref tb), .unset] [])) t → Steps p.tables e below (s₁.setTop (entryFrame m #[(.ref ta), (.ref tb)] 3)) t := fun t k => castTop (own_ef_own_nw3 m ta tb) k
  have pre2 : ∀ t, Steps p.tables e below (s₁.setTop (mkF m 4 #[.val (.ref ta), .val (.ref tb), .val (.int (0 : Int32))] [(.ref ta), (.int (0 : Int32))])) t → Steps p.tables e below (s₁.setTop (entryFrame m #[(.ref ta), (.ref tb)] 3)) t := fun t k => pre0 _ (by
    show Steps p.tables e below (s₁.setTop (mkF m 0 #[.val (.ref ta), .val (.ref tb), .unset] [])) _
    refine XT.iconstV X0.here hx rfl (0 : Int32) (hb hby own_d_prog_18_method_5_0) rfl ?_
    show Steps p.tables e below (s₁.setTop (mkF m 1 #[.val (.ref ta), .val (.ref tb), .unset] [(.int (0 : Int32))])) _
    refine XS.istoreN X0.here hx rfl (hb hby own_d_prog_18_method_5_1) rfl (l' := #[.val (.ref ta), .val (.ref tb), .val (.int (0 : Int32))]) rfl ?_
    show Steps p.tables e below (s₁.setTop (mkF m 2 #[.val (.ref ta), .val (.ref tb), .val (.int (0 : Int32))] [])) _
    refine XS.iloadN X0.here hx rfl (hb hby own_d_prog_18_method_5_2) rfl ?_
    show Steps p.tables e below (s₁.setTop (mkF m 3 #[.val (.ref ta), .val (.ref tb), .val (.int (0 : Int32))] [(.int (0 : Int32))])) _
    refine XS.aloadN X0.here hx rfl (hb hby own_d_prog_18_method_5_3) rfl rfl ?_
    exact k)
  obtain ⟨cl1, Ar1, qc1, Sz1, Mz1, Hs1, Uf1⟩ := (show Arv Z h0 ta ka .double (3 : Int32) [(.double (FP.l2d (x0.toInt64))), (.double (FP.l2d (x1.toInt64))), (.double (FP.l2d (x2.toInt64)))] (.double (FP.l2d 0)) from VA)
  have pre4 : ∀ t, Steps p.tables e below (s₁.setTop (mkF m 10 #[.val (.ref ta), .val (.ref tb), .val (.int (0 : Int32))] [(.int (0 : Int32)), (.ref ta)])) t → Steps p.tables e below (s₁.setTop (entryFrame m #[(.ref ta), (.ref tb)] 3)) t := fun t k => pre2 _ (by
    show Steps p.tables e below (s₁.setTop (mkF m 4 #[.val (.ref ta), .val (.ref tb), .val (.int (0 : Int32))] [(.ref ta), (.int (0 : Int32))])) _
    refine X0.arraylength hx (by rw [e0]; exact Ar1.1) (State.isArrayOf_alike hZ.alike Ar1.2.1) (g := (mkF m 4 #[.val (.ref ta), .val (.ref tb), .val (.int (0 : Int32))] [(.ref ta), (.int (0 : Int32))])) rfl rfl (hb hby own_d_prog_18_method_5_4) _ ?_
    rw [len_of Sz1 Mz1]
    show Steps p.tables e below (s₁.setTop (mkF m 5 #[.val (.ref ta), .val (.ref tb), .val (.int (0 : Int32))] [(.int (3 : Int32)), (.int (0 : Int32))])) _
    refine XS.icmpNo X0.here hx rfl (hb hby own_d_prog_18_method_5_5) rfl (XT.ii_ge_f (by decide)) ?_
    show Steps p.tables e below (s₁.setTop (mkF m 8 #[.val (.ref ta), .val (.ref tb), .val (.int (0 : Int32))] [])) _
    refine XS.aloadN X0.here hx rfl (hb hby own_d_prog_18_method_5_8) rfl rfl ?_
    show Steps p.tables e below (s₁.setTop (mkF m 9 #[.val (.ref ta), .val (.ref tb), .val (.int (0 : Int32))] [(.ref ta)])) _
    refine XS.iloadN X0.here hx rfl (hb hby own_d_prog_18_method_5_9) rfl ?_
    exact k)
  obtain ⟨cl3, Ar3, qc3, Sz3, Mz3, Hs3, Uf3⟩ := (show Arv Z h0 ta ka .double (3 : Int32) [(.double (FP.l2d (x0.toInt64))), (.double (FP.l2d (x1.toInt64))), (.double (FP.l2d (x2.toInt64)))] (.double (FP.l2d 0)) from VA)
  have in5 : ¬ ((0 : Int32) < 0 ∨ cl3.slots.size ≤ ((0 : Int32)).toNatClampNeg) := inb_of Sz3 (by decide)
  have at5 : cl3.slots[((0 : Int32)).toNatClampNeg]? = some (.double (FP.l2d (x0.toInt64))) := Hs3.at in5 rfl
  have pre7 : ∀ t, Steps p.tables e below (s₁.setTop (mkF m 13 #[.val (.ref ta), .val (.ref tb), .val (.int (0 : Int32))] [(.int (0 : Int32)), (.ref tb), (.double (FP.l2d (x0.toInt64)))])) t → Steps p.tables e below (s₁.setTop (entryFrame m #[(.ref ta), (.ref tb)] 3)) t := fun t k => pre4 _ (by
    show Steps p.tables e below (s₁.setTop (mkF m 10 #[.val (.ref ta), .val (.ref tb), .val (.int (0 : Int32))] [(.int (0 : Int32)), (.ref ta)])) _
    refine X0.daload hx (j := (0 : Int32)) (v := (.double (FP.l2d (x0.toInt64)))) (by rw [e0]; exact Ar3.1) (State.isArrayOf_alike hZ.alike Ar3.2.1) Ar3.2.2 in5 at5 (g := (mkF m 10 #[.val (.ref ta), .val (.ref tb), .val (.int (0 : Int32))] [(.int (0 : Int32)), (.ref ta)])) rfl rfl (hb hby own_d_prog_18_method_5_10) _ ?_
    show Steps p.tables e below (s₁.setTop (mkF m 11 #[.val (.ref ta), .val (.ref tb), .val (.int (0 : Int32))] [(.double (FP.l2d (x0.toInt64)))])) _
    refine XS.aloadN X0.here hx rfl (hb hby own_d_prog_18_method_5_11) rfl rfl ?_
    show Steps p.tables e below (s₁.setTop (mkF m 12 #[.val (.ref ta), .val (.ref tb), .val (.int (0 : Int32))] [(.ref tb), (.double (FP.l2d (x0.toInt64)))])) _
    refine XS.iloadN X0.here hx rfl (hb hby own_d_prog_18_method_5_12) rfl ?_
    exact k)
  obtain ⟨cl6, Ar6, qc6, Sz6, Mz6, Hs6, Uf6⟩ := (show Arv Z h0 tb kb .double (3 : Int32) [(.double (FP.l2d (y0.toInt64))), (.double (FP.l2d (y1.toInt64))), (.double (FP.l2d (y2.toInt64)))] (.double (FP.l2d 0)) from VB)
  have in8 : ¬ ((0 : Int32) < 0 ∨ cl6.slots.size ≤ ((0 : Int32)).toNatClampNeg) := inb_of Sz6 (by decide)
  have at8 : cl6.slots[((0 : Int32)).toNatClampNeg]? = some (.double (FP.l2d (y0.toInt64))) := Hs6.at in8 rfl
  have pre9 : ∀ t, Steps p.tables e below (s₁.setTop (mkF m 15 #[.val (.ref ta), .val (.ref tb), .val (.int (0 : Int32))] [(.int (XT.cmpL (x0.toInt64) (y0.toInt64)))])) t → Steps p.tables e below (s₁.setTop (entryFrame m #[(.ref ta), (.ref tb)] 3)) t := fun t k => pre7 _ (by
    show Steps p.tables e below (s₁.setTop (mkF m 13 #[.val (.ref ta), .val (.ref tb), .val (.int (0 : Int32))] [(.int (0 : Int32)), (.ref tb), (.double (FP.l2d (x0.toInt64)))])) _
    refine X0.daload hx (j := (0 : Int32)) (v := (.double (FP.l2d (y0.toInt64)))) (by rw [e0]; exact Ar6.1) (State.isArrayOf_alike hZ.alike Ar6.2.1) Ar6.2.2 in8 at8 (g := (mkF m 13 #[.val (.ref ta), .val (.ref tb), .val (.int (0 : Int32))] [(.int (0 : Int32)), (.ref tb), (.double (FP.l2d (x0.toInt64)))])) rfl rfl (hb hby own_d_prog_18_method_5_13) _ ?_
    show Steps p.tables e below (s₁.setTop (mkF m 14 #[.val (.ref ta), .val (.ref tb), .val (.int (0 : Int32))] [(.double (FP.l2d (y0.toInt64))), (.double (FP.l2d (x0.toInt64)))])) _
    refine XS.dcmpS X0.here hx rfl (hb hby own_d_prog_18_method_5_14) rfl (v := XT.cmpL (x0.toInt64) (y0.toInt64)) (dcmpV_w (own_b53 x0) (own_b53 y0) .l) ?_
    exact k)
  by_cases d0 : (y0.toInt64) < (x0.toInt64)
  · have pre10 : ∀ t, Steps p.tables e below (s₁.setTop (mkF m 19 #[.val (.ref ta), .val (.ref tb), .val (.int (0 : Int32))] [(.int (0 : Int32))])) t → Steps p.tables e below (s₁.setTop (entryFrame m #[(.ref ta), (.ref tb)] 3)) t := fun t k => pre9 _ (by
      show Steps p.tables e below (s₁.setTop (mkF m 15 #[.val (.ref ta), .val (.ref tb), .val (.int (0 : Int32))] [(.int (XT.cmpL (x0.toInt64) (y0.toInt64)))])) _
      refine XS.ifNo X0.here hx rfl (hb hby own_d_prog_18_method_5_15) rfl (XT.ll_le_f d0) ?_
      show Steps p.tables e below (s₁.setTop (mkF m 18 #[.val (.ref ta), .val (.ref tb), .val (.int (0 : Int32))] [])) _
      refine XT.iconstV X0.here hx rfl (0 : Int32) (hb hby own_d_prog_18_method_5_18) rfl ?_
      exact k)
    obtain ⟨fs, hr, hrun, hended, hW, hsame⟩ := X0.leave (v := some (.int (0 : Int32))) (fun h => by rw [Bd.returns] at h; cases h)
    refine ⟨_, _, pre10 _ ?_, hrun, hended, _, _, rfl, ?_, ⟨_, rfl⟩, hW, hsame.mono (by decide) (by decide)⟩
    · show Steps p.tables e below (s₁.setTop (mkF m 19 #[.val (.ref ta), .val (.ref tb), .val (.int (0 : Int32))] [(.int (0 : Int32))])) _
      exact retN X0 hx (t := .boolean) Bd.returns (by simp) (hb hby own_d_prog_18_method_5_19) hr
    · show Q_own_nw3 Z ta tb ka kb x0 x1 x2 y0 y1 y2 h0 n0 _ s₁.heap _
      rw [e0]
      exact ⟨by simp [own_nw, d0], N0, rfl⟩
  · have pre12 : ∀ t, Steps p.tables e below (s₁.setTop (mkF m 4 #[.val (.ref ta), .val (.ref tb), .val (.int (1 : Int32))] [(.ref ta), (.int (1 : Int32))])) t → Steps p.tables e below (s₁.setTop (entryFrame m #[(.ref ta), (.ref tb)] 3)) t := fun t k => pre9 _ (by
      show Steps p.tables e below (s₁.setTop (mkF m 15 #[.val (.ref ta), .val (.ref tb), .val (.int (0 : Int32))] [(.int (XT.cmpL (x0.toInt64) (y0.toInt64)))])) _
      refine XS.ifYes X0.here hx rfl (pc0 := 15) (pc' := 20) rfl (hb hby own_d_prog_18_method_5_15) rfl (XT.ll_le_t d0) (by decide) (by decide) ?_
      show Steps p.tables e below (s₁.setTop (mkF m 20 #[.val (.ref ta), .val (.ref tb), .val (.int (0 : Int32))] [])) _
      refine XT.iincV X0.here hx rfl (1 : Int32) (hb hby own_d_prog_18_method_5_20) rfl rfl (l' := #[.val (.ref ta), .val (.ref tb), .val (.int (1 : Int32))]) rfl ?_
      show Steps p.tables e below (s₁.setTop (mkF m 23 #[.val (.ref ta), .val (.ref tb), .val (.int (1 : Int32))] [])) _
      refine XS.goto X0.here hx rfl (pc0 := 23) (pc' := 2) rfl (hb hby own_d_prog_18_method_5_23) (by decide) (by decide) ?_
      show Steps p.tables e below (s₁.setTop (mkF m 2 #[.val (.ref ta), .val (.ref tb), .val (.int (1 : Int32))] [])) _
      refine XS.iloadN X0.here hx rfl (hb hby own_d_prog_18_method_5_2) rfl ?_
      show Steps p.tables e below (s₁.setTop (mkF m 3 #[.val (.ref ta), .val (.ref tb), .val (.int (1 : Int32))] [(.int (1 : Int32))])) _
      refine XS.aloadN X0.here hx rfl (hb hby own_d_prog_18_method_5_3) rfl rfl ?_
      exact k)
    obtain ⟨cl11, Ar11, qc11, Sz11, Mz11, Hs11, Uf11⟩ := (show Arv Z h0 ta ka .double (3 : Int32) [(.double (FP.l2d (x0.toInt64))), (.double (FP.l2d (x1.toInt64))), (.double (FP.l2d (x2.toInt64)))] (.double (FP.l2d 0)) from VA)
    have pre14 : ∀ t, Steps p.tables e below (s₁.setTop (mkF m 10 #[.val (.ref ta), .val (.ref tb), .val (.int (1 : Int32))] [(.int (1 : Int32)), (.ref ta)])) t → Steps p.tables e below (s₁.setTop (entryFrame m #[(.ref ta), (.ref tb)] 3)) t := fun t k => pre12 _ (by
      show Steps p.tables e below (s₁.setTop (mkF m 4 #[.val (.ref ta), .val (.ref tb), .val (.int (1 : Int32))] [(.ref ta), (.int (1 : Int32))])) _
      refine X0.arraylength hx (by rw [e0]; exact Ar11.1) (State.isArrayOf_alike hZ.alike Ar11.2.1) (g := (mkF m 4 #[.val (.ref ta), .val (.ref tb), .val (.int (1 : Int32))] [(.ref ta), (.int (1 : Int32))])) rfl rfl (hb hby own_d_prog_18_method_5_4) _ ?_
      rw [len_of Sz11 Mz11]
      show Steps p.tables e below (s₁.setTop (mkF m 5 #[.val (.ref ta), .val (.ref tb), .val (.int (1 : Int32))] [(.int (3 : Int32)), (.int (1 : Int32))])) _
      refine XS.icmpNo X0.here hx rfl (hb hby own_d_prog_18_method_5_5) rfl (XT.ii_ge_f (by decide)) ?_
      show Steps p.tables e below (s₁.setTop (mkF m 8 #[.val (.ref ta), .val (.ref tb), .val (.int (1 : Int32))] [])) _
      refine XS.aloadN X0.here hx rfl (hb hby own_d_prog_18_method_5_8) rfl rfl ?_
      show Steps p.tables e below (s₁.setTop (mkF m 9 #[.val (.ref ta), .val (.ref tb), .val (.int (1 : Int32))] [(.ref ta)])) _
      refine XS.iloadN X0.here hx rfl (hb hby own_d_prog_18_method_5_9) rfl ?_
      exact k)
    obtain ⟨cl13, Ar13, qc13, Sz13, Mz13, Hs13, Uf13⟩ := (show Arv Z h0 ta ka .double (3 : Int32) [(.double (FP.l2d (x0.toInt64))), (.double (FP.l2d (x1.toInt64))), (.double (FP.l2d (x2.toInt64)))] (.double (FP.l2d 0)) from VA)
    have in15 : ¬ ((1 : Int32) < 0 ∨ cl13.slots.size ≤ ((1 : Int32)).toNatClampNeg) := inb_of Sz13 (by decide)
    have at15 : cl13.slots[((1 : Int32)).toNatClampNeg]? = some (.double (FP.l2d (x1.toInt64))) := Hs13.at in15 rfl
    have pre17 : ∀ t, Steps p.tables e below (s₁.setTop (mkF m 13 #[.val (.ref ta), .val (.ref tb), .val (.int (1 : Int32))] [(.int (1 : Int32)), (.ref tb), (.double (FP.l2d (x1.toInt64)))])) t → Steps p.tables e below (s₁.setTop (entryFrame m #[(.ref ta), (.ref tb)] 3)) t := fun t k => pre14 _ (by
      show Steps p.tables e below (s₁.setTop (mkF m 10 #[.val (.ref ta), .val (.ref tb), .val (.int (1 : Int32))] [(.int (1 : Int32)), (.ref ta)])) _
      refine X0.daload hx (j := (1 : Int32)) (v := (.double (FP.l2d (x1.toInt64)))) (by rw [e0]; exact Ar13.1) (State.isArrayOf_alike hZ.alike Ar13.2.1) Ar13.2.2 in15 at15 (g := (mkF m 10 #[.val (.ref ta), .val (.ref tb), .val (.int (1 : Int32))] [(.int (1 : Int32)), (.ref ta)])) rfl rfl (hb hby own_d_prog_18_method_5_10) _ ?_
      show Steps p.tables e below (s₁.setTop (mkF m 11 #[.val (.ref ta), .val (.ref tb), .val (.int (1 : Int32))] [(.double (FP.l2d (x1.toInt64)))])) _
      refine XS.aloadN X0.here hx rfl (hb hby own_d_prog_18_method_5_11) rfl rfl ?_
      show Steps p.tables e below (s₁.setTop (mkF m 12 #[.val (.ref ta), .val (.ref tb), .val (.int (1 : Int32))] [(.ref tb), (.double (FP.l2d (x1.toInt64)))])) _
      refine XS.iloadN X0.here hx rfl (hb hby own_d_prog_18_method_5_12) rfl ?_
      exact k)
    obtain ⟨cl16, Ar16, qc16, Sz16, Mz16, Hs16, Uf16⟩ := (show Arv Z h0 tb kb .double (3 : Int32) [(.double (FP.l2d (y0.toInt64))), (.double (FP.l2d (y1.toInt64))), (.double (FP.l2d (y2.toInt64)))] (.double (FP.l2d 0)) from VB)
    have in18 : ¬ ((1 : Int32) < 0 ∨ cl16.slots.size ≤ ((1 : Int32)).toNatClampNeg) := inb_of Sz16 (by decide)
    have at18 : cl16.slots[((1 : Int32)).toNatClampNeg]? = some (.double (FP.l2d (y1.toInt64))) := Hs16.at in18 rfl
    have pre19 : ∀ t, Steps p.tables e below (s₁.setTop (mkF m 15 #[.val (.ref ta), .val (.ref tb), .val (.int (1 : Int32))] [(.int (XT.cmpL (x1.toInt64) (y1.toInt64)))])) t → Steps p.tables e below (s₁.setTop (entryFrame m #[(.ref ta), (.ref tb)] 3)) t := fun t k => pre17 _ (by
      show Steps p.tables e below (s₁.setTop (mkF m 13 #[.val (.ref ta), .val (.ref tb), .val (.int (1 : Int32))] [(.int (1 : Int32)), (.ref tb), (.double (FP.l2d (x1.toInt64)))])) _
      refine X0.daload hx (j := (1 : Int32)) (v := (.double (FP.l2d (y1.toInt64)))) (by rw [e0]; exact Ar16.1) (State.isArrayOf_alike hZ.alike Ar16.2.1) Ar16.2.2 in18 at18 (g := (mkF m 13 #[.val (.ref ta), .val (.ref tb), .val (.int (1 : Int32))] [(.int (1 : Int32)), (.ref tb), (.double (FP.l2d (x1.toInt64)))])) rfl rfl (hb hby own_d_prog_18_method_5_13) _ ?_
      show Steps p.tables e below (s₁.setTop (mkF m 14 #[.val (.ref ta), .val (.ref tb), .val (.int (1 : Int32))] [(.double (FP.l2d (y1.toInt64))), (.double (FP.l2d (x1.toInt64)))])) _
      refine XS.dcmpS X0.here hx rfl (hb hby own_d_prog_18_method_5_14) rfl (v := XT.cmpL (x1.toInt64) (y1.toInt64)) (dcmpV_w (own_b53 x1) (own_b53 y1) .l) ?_
      exact k)
    by_cases d1 : (y1.toInt64) < (x1.toInt64)
    · have pre20 : ∀ t, Steps p.tables e below (s₁.setTop (mkF m 19 #[.val (.ref ta), .val (.ref tb), .val (.int (1 : Int32))] [(.int (0 : Int32))])) t → Steps p.tables e below (s₁.setTop (entryFrame m #[(.ref ta), (.ref tb)] 3)) t := fun t k => pre19 _ (by
        show Steps p.tables e below (s₁.setTop (mkF m 15 #[.val (.ref ta), .val (.ref tb), .val (.int (1 : Int32))] [(.int (XT.cmpL (x1.toInt64) (y1.toInt64)))])) _
        refine XS.ifNo X0.here hx rfl (hb hby own_d_prog_18_method_5_15) rfl (XT.ll_le_f d1) ?_
        show Steps p.tables e below (s₁.setTop (mkF m 18 #[.val (.ref ta), .val (.ref tb), .val (.int (1 : Int32))] [])) _
        refine XT.iconstV X0.here hx rfl (0 : Int32) (hb hby own_d_prog_18_method_5_18) rfl ?_
        exact k)
      obtain ⟨fs, hr, hrun, hended, hW, hsame⟩ := X0.leave (v := some (.int (0 : Int32))) (fun h => by rw [Bd.returns] at h; cases h)
      refine ⟨_, _, pre20 _ ?_, hrun, hended, _, _, rfl, ?_, ⟨_, rfl⟩, hW, hsame.mono (by decide) (by decide)⟩
      · show Steps p.tables e below (s₁.setTop (mkF m 19 #[.val (.ref ta), .val (.ref tb), .val (.int (1 : Int32))] [(.int (0 : Int32))])) _
        exact retN X0 hx (t := .boolean) Bd.returns (by simp) (hb hby own_d_prog_18_method_5_19) hr
      · show Q_own_nw3 Z ta tb ka kb x0 x1 x2 y0 y1 y2 h0 n0 _ s₁.heap _
        rw [e0]
        exact ⟨by simp [own_nw, d0, d1], N0, rfl⟩
    · have pre22 : ∀ t, Steps p.tables e below (s₁.setTop (mkF m 4 #[.val (.ref ta), .val (.ref tb), .val (.int (2 : Int32))] [(.ref ta), (.int (2 : Int32))])) t → Steps p.tables e below (s₁.setTop (entryFrame m #[(.ref ta), (.ref tb)] 3)) t := fun t k => pre19 _ (by
        show Steps p.tables e below (s₁.setTop (mkF m 15 #[.val (.ref ta), .val (.ref tb), .val (.int (1 : Int32))] [(.int (XT.cmpL (x1.toInt64) (y1.toInt64)))])) _
        refine XS.ifYes X0.here hx rfl (pc0 := 15) (pc' := 20) rfl (hb hby own_d_prog_18_method_5_15) rfl (XT.ll_le_t d1) (by decide) (by decide) ?_
        show Steps p.tables e below (s₁.setTop (mkF m 20 #[.val (.ref ta), .val (.ref tb), .val (.int (1 : Int32))] [])) _
        refine XT.iincV X0.here hx rfl (1 : Int32) (hb hby own_d_prog_18_method_5_20) rfl rfl (l' := #[.val (.ref ta), .val (.ref tb), .val (.int (2 : Int32))]) rfl ?_
        show Steps p.tables e below (s₁.setTop (mkF m 23 #[.val (.ref ta), .val (.ref tb), .val (.int (2 : Int32))] [])) _
        refine XS.goto X0.here hx rfl (pc0 := 23) (pc' := 2) rfl (hb hby own_d_prog_18_method_5_23) (by decide) (by decide) ?_
        show Steps p.tables e below (s₁.setTop (mkF m 2 #[.val (.ref ta), .val (.ref tb), .val (.int (2 : Int32))] [])) _
        refine XS.iloadN X0.here hx rfl (hb hby own_d_prog_18_method_5_2) rfl ?_
        show Steps p.tables e below (s₁.setTop (mkF m 3 #[.val (.ref ta), .val (.ref tb), .val (.int (2 : Int32))] [(.int (2 : Int32))])) _
        refine XS.aloadN X0.here hx rfl (hb hby own_d_prog_18_method_5_3) rfl rfl ?_
        exact k)
      obtain ⟨cl21, Ar21, qc21, Sz21, Mz21, Hs21, Uf21⟩ := (show Arv Z h0 ta ka .double (3 : Int32) [(.double (FP.l2d (x0.toInt64))), (.double (FP.l2d (x1.toInt64))), (.double (FP.l2d (x2.toInt64)))] (.double (FP.l2d 0)) from VA)
      have pre24 : ∀ t, Steps p.tables e below (s₁.setTop (mkF m 10 #[.val (.ref ta), .val (.ref tb), .val (.int (2 : Int32))] [(.int (2 : Int32)), (.ref ta)])) t → Steps p.tables e below (s₁.setTop (entryFrame m #[(.ref ta), (.ref tb)] 3)) t := fun t k => pre22 _ (by
        show Steps p.tables e below (s₁.setTop (mkF m 4 #[.val (.ref ta), .val (.ref tb), .val (.int (2 : Int32))] [(.ref ta), (.int (2 : Int32))])) _
        refine X0.arraylength hx (by rw [e0]; exact Ar21.1) (State.isArrayOf_alike hZ.alike Ar21.2.1) (g := (mkF m 4 #[.val (.ref ta), .val (.ref tb), .val (.int (2 : Int32))] [(.ref ta), (.int (2 : Int32))])) rfl rfl (hb hby own_d_prog_18_method_5_4) _ ?_
        rw [len_of Sz21 Mz21]
        show Steps p.tables e below (s₁.setTop (mkF m 5 #[.val (.ref ta), .val (.ref tb), .val (.int (2 : Int32))] [(.int (3 : Int32)), (.int (2 : Int32))])) _
        refine XS.icmpNo X0.here hx rfl (hb hby own_d_prog_18_method_5_5) rfl (XT.ii_ge_f (by decide)) ?_
        show Steps p.tables e below (s₁.setTop (mkF m 8 #[.val (.ref ta), .val (.ref tb), .val (.int (2 : Int32))] [])) _
        refine XS.aloadN X0.here hx rfl (hb hby own_d_prog_18_method_5_8) rfl rfl ?_
        show Steps p.tables e below (s₁.setTop (mkF m 9 #[.val (.ref ta), .val (.ref tb), .val (.int (2 : Int32))] [(.ref ta)])) _
        refine XS.iloadN X0.here hx rfl (hb hby own_d_prog_18_method_5_9) rfl ?_
        exact k)
      obtain ⟨cl23, Ar23, qc23, Sz23, Mz23, Hs23, Uf23⟩ := (show Arv Z h0 ta ka .double (3 : Int32) [(.double (FP.l2d (x0.toInt64))), (.double (FP.l2d (x1.toInt64))), (.double (FP.l2d (x2.toInt64)))] (.double (FP.l2d 0)) from VA)
      have in25 : ¬ ((2 : Int32) < 0 ∨ cl23.slots.size ≤ ((2 : Int32)).toNatClampNeg) := inb_of Sz23 (by decide)
      have at25 : cl23.slots[((2 : Int32)).toNatClampNeg]? = some (.double (FP.l2d (x2.toInt64))) := Hs23.at in25 rfl
      have pre27 : ∀ t, Steps p.tables e below (s₁.setTop (mkF m 13 #[.val (.ref ta), .val (.ref tb), .val (.int (2 : Int32))] [(.int (2 : Int32)), (.ref tb), (.double (FP.l2d (x2.toInt64)))])) t → Steps p.tables e below (s₁.setTop (entryFrame m #[(.ref ta), (.ref tb)] 3)) t := fun t k => pre24 _ (by
        show Steps p.tables e below (s₁.setTop (mkF m 10 #[.val (.ref ta), .val (.ref tb), .val (.int (2 : Int32))] [(.int (2 : Int32)), (.ref ta)])) _
        refine X0.daload hx (j := (2 : Int32)) (v := (.double (FP.l2d (x2.toInt64)))) (by rw [e0]; exact Ar23.1) (State.isArrayOf_alike hZ.alike Ar23.2.1) Ar23.2.2 in25 at25 (g := (mkF m 10 #[.val (.ref ta), .val (.ref tb), .val (.int (2 : Int32))] [(.int (2 : Int32)), (.ref ta)])) rfl rfl (hb hby own_d_prog_18_method_5_10) _ ?_
        show Steps p.tables e below (s₁.setTop (mkF m 11 #[.val (.ref ta), .val (.ref tb), .val (.int (2 : Int32))] [(.double (FP.l2d (x2.toInt64)))])) _
        refine XS.aloadN X0.here hx rfl (hb hby own_d_prog_18_method_5_11) rfl rfl ?_
        show Steps p.tables e below (s₁.setTop (mkF m 12 #[.val (.ref ta), .val (.ref tb), .val (.int (2 : Int32))] [(.ref tb), (.double (FP.l2d (x2.toInt64)))])) _
        refine XS.iloadN X0.here hx rfl (hb hby own_d_prog_18_method_5_12) rfl ?_
        exact k)
      obtain ⟨cl26, Ar26, qc26, Sz26, Mz26, Hs26, Uf26⟩ := (show Arv Z h0 tb kb .double (3 : Int32) [(.double (FP.l2d (y0.toInt64))), (.double (FP.l2d (y1.toInt64))), (.double (FP.l2d (y2.toInt64)))] (.double (FP.l2d 0)) from VB)
      have in28 : ¬ ((2 : Int32) < 0 ∨ cl26.slots.size ≤ ((2 : Int32)).toNatClampNeg) := inb_of Sz26 (by decide)
      have at28 : cl26.slots[((2 : Int32)).toNatClampNeg]? = some (.double (FP.l2d (y2.toInt64))) := Hs26.at in28 rfl
      have pre29 : ∀ t, Steps p.tables e below (s₁.setTop (mkF m 15 #[.val (.ref ta), .val (.ref tb), .val (.int (2 : Int32))] [(.int (XT.cmpL (x2.toInt64) (y2.toInt64)))])) t → Steps p.tables e below (s₁.setTop (entryFrame m #[(.ref ta), (.ref tb)] 3)) t := fun t k => pre27 _ (by
        show Steps p.tables e below (s₁.setTop (mkF m 13 #[.val (.ref ta), .val (.ref tb), .val (.int (2 : Int32))] [(.int (2 : Int32)), (.ref tb), (.double (FP.l2d (x2.toInt64)))])) _
        refine X0.daload hx (j := (2 : Int32)) (v := (.double (FP.l2d (y2.toInt64)))) (by rw [e0]; exact Ar26.1) (State.isArrayOf_alike hZ.alike Ar26.2.1) Ar26.2.2 in28 at28 (g := (mkF m 13 #[.val (.ref ta), .val (.ref tb), .val (.int (2 : Int32))] [(.int (2 : Int32)), (.ref tb), (.double (FP.l2d (x2.toInt64)))])) rfl rfl (hb hby own_d_prog_18_method_5_13) _ ?_
        show Steps p.tables e below (s₁.setTop (mkF m 14 #[.val (.ref ta), .val (.ref tb), .val (.int (2 : Int32))] [(.double (FP.l2d (y2.toInt64))), (.double (FP.l2d (x2.toInt64)))])) _
        refine XS.dcmpS X0.here hx rfl (hb hby own_d_prog_18_method_5_14) rfl (v := XT.cmpL (x2.toInt64) (y2.toInt64)) (dcmpV_w (own_b53 x2) (own_b53 y2) .l) ?_
        exact k)
      by_cases d2 : (y2.toInt64) < (x2.toInt64)
      · have pre30 : ∀ t, Steps p.tables e below (s₁.setTop (mkF m 19 #[.val (.ref ta), .val (.ref tb), .val (.int (2 : Int32))] [(.int (0 : Int32))])) t → Steps p.tables e below (s₁.setTop (entryFrame m #[(.ref ta), (.ref tb)] 3)) t := fun t k => pre29 _ (by
          show Steps p.tables e below (s₁.setTop (mkF m 15 #[.val (.ref ta), .val (.ref tb), .val (.int (2 : Int32))] [(.int (XT.cmpL (x2.toInt64) (y2.toInt64)))])) _
          refine XS.ifNo X0.here hx rfl (hb hby own_d_prog_18_method_5_15) rfl (XT.ll_le_f d2) ?_
          show Steps p.tables e below (s₁.setTop (mkF m 18 #[.val (.ref ta), .val (.ref tb), .val (.int (2 : Int32))] [])) _
          refine XT.iconstV X0.here hx rfl (0 : Int32) (hb hby own_d_prog_18_method_5_18) rfl ?_
          exact k)
        obtain ⟨fs, hr, hrun, hended, hW, hsame⟩ := X0.leave (v := some (.int (0 : Int32))) (fun h => by rw [Bd.returns] at h; cases h)
        refine ⟨_, _, pre30 _ ?_, hrun, hended, _, _, rfl, ?_, ⟨_, rfl⟩, hW, hsame.mono (by decide) (by decide)⟩
        · show Steps p.tables e below (s₁.setTop (mkF m 19 #[.val (.ref ta), .val (.ref tb), .val (.int (2 : Int32))] [(.int (0 : Int32))])) _
          exact retN X0 hx (t := .boolean) Bd.returns (by simp) (hb hby own_d_prog_18_method_5_19) hr
        · show Q_own_nw3 Z ta tb ka kb x0 x1 x2 y0 y1 y2 h0 n0 _ s₁.heap _
          rw [e0]
          exact ⟨by simp [own_nw, d0, d1, d2], N0, rfl⟩
      · have pre32 : ∀ t, Steps p.tables e below (s₁.setTop (mkF m 4 #[.val (.ref ta), .val (.ref tb), .val (.int (3 : Int32))] [(.ref ta), (.int (3 : Int32))])) t → Steps p.tables e below (s₁.setTop (entryFrame m #[(.ref ta), (.ref tb)] 3)) t := fun t k => pre29 _ (by
          show Steps p.tables e below (s₁.setTop (mkF m 15 #[.val (.ref ta), .val (.ref tb), .val (.int (2 : Int32))] [(.int (XT.cmpL (x2.toInt64) (y2.toInt64)))])) _
          refine XS.ifYes X0.here hx rfl (pc0 := 15) (pc' := 20) rfl (hb hby own_d_prog_18_method_5_15) rfl (XT.ll_le_t d2) (by decide) (by decide) ?_
          show Steps p.tables e below (s₁.setTop (mkF m 20 #[.val (.ref ta), .val (.ref tb), .val (.int (2 : Int32))] [])) _
          refine XT.iincV X0.here hx rfl (1 : Int32) (hb hby own_d_prog_18_method_5_20) rfl rfl (l' := #[.val (.ref ta), .val (.ref tb), .val (.int (3 : Int32))]) rfl ?_
          show Steps p.tables e below (s₁.setTop (mkF m 23 #[.val (.ref ta), .val (.ref tb), .val (.int (3 : Int32))] [])) _
          refine XS.goto X0.here hx rfl (pc0 := 23) (pc' := 2) rfl (hb hby own_d_prog_18_method_5_23) (by decide) (by decide) ?_
          show Steps p.tables e below (s₁.setTop (mkF m 2 #[.val (.ref ta), .val (.ref tb), .val (.int (3 : Int32))] [])) _
          refine XS.iloadN X0.here hx rfl (hb hby own_d_prog_18_method_5_2) rfl ?_
          show Steps p.tables e below (s₁.setTop (mkF m 3 #[.val (.ref ta), .val (.ref tb), .val (.int (3 : Int32))] [(.int (3 : Int32))])) _
          refine XS.aloadN X0.here hx rfl (hb hby own_d_prog_18_method_5_3) rfl rfl ?_
          exact k)
        obtain ⟨cl31, Ar31, qc31, Sz31, Mz31, Hs31, Uf31⟩ := (show Arv Z h0 ta ka .double (3 : Int32) [(.double (FP.l2d (x0.toInt64))), (.double (FP.l2d (x1.toInt64))), (.double (FP.l2d (x2.toInt64)))] (.double (FP.l2d 0)) from VA)
        have pre33 : ∀ t, Steps p.tables e below (s₁.setTop (mkF m 27 #[.val (.ref ta), .val (.ref tb), .val (.int (3 : Int32))] [(.int (1 : Int32))])) t → Steps p.tables e below (s₁.setTop (entryFrame m #[(.ref ta), (.ref tb)] 3)) t := fun t k => pre32 _ (by
          show Steps p.tables e below (s₁.setTop (mkF m 4 #[.val (.ref ta), .val (.ref tb), .val (.int (3 : Int32))] [(.ref ta), (.int (3 : Int32))])) _
          refine X0.arraylength hx (by rw [e0]; exact Ar31.1) (State.isArrayOf_alike hZ.alike Ar31.2.1) (g := (mkF m 4 #[.val (.ref ta), .val (.ref tb), .val (.int (3 : Int32))] [(.ref ta), (.int (3 : Int32))])) rfl rfl (hb hby own_d_prog_18_method_5_4) _ ?_
          rw [len_of Sz31 Mz31]
          show Steps p.tables e below (s₁.setTop (mkF m 5 #[.val (.ref ta), .val (.ref tb), .val (.int (3 : Int32))] [(.int (3 : Int32)), (.int (3 : Int32))])) _
          refine XS.icmpYes X0.here hx rfl (pc0 := 5) (pc' := 26) rfl (hb hby own_d_prog_18_method_5_5) rfl (XT.ii_ge_t (by decide)) (by decide) (by decide) ?_
          show Steps p.tables e below (s₁.setTop (mkF m 26 #[.val (.ref ta), .val (.ref tb), .val (.int (3 : Int32))] [])) _
          refine XT.iconstV X0.here hx rfl (1 : Int32) (hb hby own_d_prog_18_method_5_26) rfl ?_
          exact k)
        obtain ⟨fs, hr, hrun, hended, hW, hsame⟩ := X0.leave (v := some (.int (1 : Int32))) (fun h => by rw [Bd.returns] at h; cases h)
        refine ⟨_, _, pre33 _ ?_, hrun, hended, _, _, rfl, ?_, ⟨_, rfl⟩, hW, hsame.mono (by decide) (by decide)⟩
        · show Steps p.tables e below (s₁.setTop (mkF m 27 #[.val (.ref ta), .val (.ref tb), .val (.int (3 : Int32))] [(.int (1 : Int32))])) _
          exact retN X0 hx (t := .boolean) Bd.returns (by simp) (hb hby own_d_prog_18_method_5_27) hr
        · show Q_own_nw3 Z ta tb ka kb x0 x1 x2 y0 y1 y2 h0 n0 _ s₁.heap _
          rw [e0]
          exact ⟨by simp [own_nw, d0, d1, d2], N0, rfl⟩
theorem own_ef_own_dom3 (m : MethodId) (ta : Addr) (tb : Addr) : entryFrame m #[(.ref ta), (.ref tb)] 2 = mkF m 0 #[.val (.ref ta), .val (.ref tb)] [] := by first | (simp [entryFrame, mkF, argsToLocals, Value.category]; done) | rfl
def Q_own_dom3 (Z : State) (ta : Addr) (tb : Addr) (ka : ClassId) (kb : ClassId) (x0 : Int32) (x1 : Int32) (x2 : Int32) (y0 : Int32) (y1 : Int32) (y2 : Int32) (h0 : Heap) (n0 : Nat) (v : Option Value) (h : Heap) (L : List Loc) : Prop := v = some (.int (own_dom [(x0, y0), (x1, y1), (x2, y2)] [(y0, x0), (y1, x1), (y2, x2)])) ∧ Fr n0 L ∧ h = h0
set_option maxRecDepth 65536 in
set_option maxHeartbeats 40000000 in
theorem own_dom3 (l : Launch) (Z : State) (a0 : Array Value) (hw : ∀ d ∈ tables_1, d.before a0 Z = true) (ws : List Jvm.Cond) (ta : Addr) (tb : Addr) (ka : ClassId) (kb : ClassId) (x0 : Int32) (x1 : Int32) (x2 : Int32) (y0 : Int32) (y1 : Int32) (y2 : Int32) (h0 : Heap) (n0 : Nat) (Z0 : n0 ≤ h0.size) (VA : Arv Z h0 ta ka .double (3 : Int32) [(.double (FP.l2d (x0.toInt64))), (.double (FP.l2d (x1.toInt64))), (.double (FP.l2d (x2.toInt64)))] (.double (FP.l2d 0))) (VB : Arv Z h0 tb kb .double (3 : Int32) [(.double (FP.l2d (y0.toInt64))), (.double (FP.l2d (y1.toInt64))), (.double (FP.l2d (y2.toInt64)))] (.double (FP.l2d 0))) :
    MetFree l (⟨"com/example/cultivar/cultivar/Pareto", "dominates", "([D[D)Z"⟩ : MethodName) (head1 (Jvm.Cond.code (⟨"com/example/cultivar/cultivar/Pareto", "dominates", "([D[D)Z"⟩ : MethodName) prog_18_method_3_code 2 (some .boolean) :: ws) ({ frames := 1, cells := 0, slots := 0, locals := 14 } : Room)) (fun a U => a = #[(.ref ta), (.ref tb)] ∧ Z.Warmed39 U.vm ∧ U.heap = h0) (fun _ _ _ _ _ => True) (fun _ U o U' => ∃ v L, o = .returned v ∧ Q_own_dom3 Z ta tb ka kb x0 x1 x2 y0 y1 y2 h0 n0 v U'.heap L ∧ FrameEnd U o U' L ({ frames := 1, cells := 0, slots := 0, locals := 14 } : Room).cells ({ frames := 1, cells := 0, slots := 0, locals := 14 } : Room).slots) := by
  refine MetFree.of_bodySF (plainFor_of_name own_pn_com_example_cultivar_cultivar_Pareto) hisR ?_
  intro p e s m args below meth c s₁ Bd hml0 hP hK
  obtain ⟨rfl, hZ, hh⟩ := hP
  have hx := Bd.exec
  have hby := Bd.bytes
  have hml : c.maxLocals = 2 := hml0
  have hown : s.vm.findClass "com/example/cultivar/cultivar/Pareto" = some m.cls := findClass_of_methodNamed Bd.named
  have hnm := (name_of_methodNamed Bd.named Bd.method).1
  have X0 : Stand p l e ({ frames := 1, cells := 0, slots := 0, locals := 14 } : Room) s m #[(.ref ta), (.ref tb)] below meth c s₁ [] 0 0 := Stand.of_body Bd
  have e0 : s₁.heap = h0 := by rw [← hh, Bd.state]; rfl
  have N0 := Fr.nil n0
  have pre0 : ∀ t, Steps p.tables e below (s₁.setTop (mkF m 0 #[.val (.ref ta), .val (.ref tb)] [])) t → Steps p.tables e below (s₁.setTop (entryFrame m #[(.ref ta), (.ref tb)] 2)) t := fun t k => castTop (own_ef_own_dom3 m ta tb) k
  have pre1 : ∀ t, Steps p.tables e below (s₁.setTop (mkF m 2 #[.val (.ref ta), .val (.ref tb)] [(.ref tb), (.ref ta)])) t → Steps p.tables e below (s₁.setTop (entryFrame m #[(.ref ta), (.ref tb)] 2)) t := fun t k => pre0 _ (by
    show Steps p.tables e below (s₁.setTop (mkF m 0 #[.val (.ref ta), .val (.ref tb)] [])) _
    refine XS.aloadN X0.here hx rfl (hb hby own_d_prog_18_method_3_0) rfl rfl ?_
    show Steps p.tables e below (s₁.setTop (mkF m 1 #[.val (.ref ta), .val (.ref tb)] [(.ref ta)])) _
    refine XS.aloadN X0.here hx rfl (hb hby own_d_prog_18_method_3_1) rfl rfl ?_
    exact k)
  obtain ⟨_, _, ⟨T2, L2, k2, n2⟩, -, X2, ⟨Lc2, hQ2, l2, y2, z2⟩, st2⟩ := Jvm.LawKit.callS X0 hx (y := (⟨"com/example/cultivar/cultivar/Pareto", "noWorse", "([D[D)Z"⟩ : MethodName)) hown (mvT hZ (hw _ (List.mem_of_getElem? (i := 12) rfl))) (mvT hZ (hw _ (List.mem_of_getElem? (i := 13) rfl))) (mvT hZ (hw _ (List.mem_of_getElem? (i := 10) rfl))) (mvT hZ (hw _ (List.mem_of_getElem? (i := 14) rfl))) (by decide) (backOf (W := 0) (own_nw3 l Z a0 hw [] ta tb ka kb x0 x1 x2 y0 y1 y2 h0 n0 Z0 VA VB) hZ (hw _ (List.mem_of_getElem? (i := 14) rfl)) (hw _ (List.mem_of_getElem? (i := 10) rfl)) (by decide) (by decide)) (g := (mkF m 2 #[.val (.ref ta), .val (.ref tb)] [(.ref tb), (.ref ta)])) rfl (by rw [hml]; rfl) (argsL := [(.ref ta), (.ref tb)]) (rest := []) (lenOf own_pd___D_D_Z rfl) rfl (by show 2 * 0 + _ ≤ _; exact Nat.le_of_eq rfl) (hb hby own_d_prog_18_method_3_2) (fun _ _ => ⟨rfl, e0, (by decide : 0 + 0 ≤ _), (by decide : 0 + 0 ≤ _)⟩)
  dsimp only [Pt.U, Pt.locs, Pt.cells, Pt.slots] at X2 l2 y2 z2 st2 hQ2
  subst l2 y2 z2
  obtain ⟨rfl, N2q, e2⟩ := hQ2
  have N2 := Fr.app N0 N2q
  have pre3 : ∀ t, Steps p.tables e below (T2.setTop (mkF m 5 #[.val (.ref ta), .val (.ref tb)] [(.int (own_nw [(x0, y0), (x1, y1), (x2, y2)]))])) t → Steps p.tables e below (s₁.setTop (entryFrame m #[(.ref ta), (.ref tb)] 2)) t := fun t k => pre1 _ (st2 _ k)
  by_cases c5 : (own_nw [(x0, y0), (x1, y1), (x2, y2)]) = 0
  · have pre4 : ∀ t, Steps p.tables e below (T2.setTop (mkF m 21 #[.val (.ref ta), .val (.ref tb)] [(.int (0 : Int32))])) t → Steps p.tables e below (s₁.setTop (entryFrame m #[(.ref ta), (.ref tb)] 2)) t := fun t k => pre3 _ (by
      show Steps p.tables e below (T2.setTop (mkF m 5 #[.val (.ref ta), .val (.ref tb)] [(.int (own_nw [(x0, y0), (x1, y1), (x2, y2)]))])) _
      refine XS.ifYes X2.here hx rfl (pc0 := 5) (pc' := 20) rfl (hb hby own_d_prog_18_method_3_5) rfl (XT.i0_eq_t c5) (by decide) (by decide) ?_
      show Steps p.tables e below (T2.setTop (mkF m 20 #[.val (.ref ta), .val (.ref tb)] [])) _
      refine XT.iconstV X2.here hx rfl (0 : Int32) (hb hby own_d_prog_18_method_3_20) rfl ?_
      exact k)
    obtain ⟨fs, hr, hrun, hended, hW, hsame⟩ := X2.leave (v := some (.int (0 : Int32))) (fun h => by rw [Bd.returns] at h; cases h)
    refine ⟨_, _, pre4 _ ?_, hrun, hended, _, _, rfl, ?_, ⟨_, rfl⟩, hW, hsame.mono (by decide) (by decide)⟩
    · show Steps p.tables e below (T2.setTop (mkF m 21 #[.val (.ref ta), .val (.ref tb)] [(.int (0 : Int32))])) _
      exact retN X2 hx (t := .boolean) Bd.returns (by simp) (hb hby own_d_prog_18_method_3_21) hr
    · show Q_own_dom3 Z ta tb ka kb x0 x1 x2 y0 y1 y2 h0 n0 _ T2.heap _
      rw [e2]
      exact ⟨by unfold own_dom; rw [if_pos c5], N2, rfl⟩
  · have pre5 : ∀ t, Steps p.tables e below (T2.setTop (mkF m 10 #[.val (.ref ta), .val (.ref tb)] [(.ref ta), (.ref tb)])) t → Steps p.tables e below (s₁.setTop (entryFrame m #[(.ref ta), (.ref tb)] 2)) t := fun t k => pre3 _ (by
      show Steps p.tables e below (T2.setTop (mkF m 5 #[.val (.ref ta), .val (.ref tb)] [(.int (own_nw [(x0, y0), (x1, y1), (x2, y2)]))])) _
      refine XS.ifNo X2.here hx rfl (hb hby own_d_prog_18_method_3_5) rfl (XT.i0_eq_f c5) ?_
      show Steps p.tables e below (T2.setTop (mkF m 8 #[.val (.ref ta), .val (.ref tb)] [])) _
      refine XS.aloadN X2.here hx rfl (hb hby own_d_prog_18_method_3_8) rfl rfl ?_
      show Steps p.tables e below (T2.setTop (mkF m 9 #[.val (.ref ta), .val (.ref tb)] [(.ref tb)])) _
      refine XS.aloadN X2.here hx rfl (hb hby own_d_prog_18_method_3_9) rfl rfl ?_
      exact k)
    obtain ⟨_, _, ⟨T6, L6, k6, n6⟩, -, X6, ⟨Lc6, hQ6, l6, y6, z6⟩, st6⟩ := Jvm.LawKit.callS X2 hx (y := (⟨"com/example/cultivar/cultivar/Pareto", "noWorse", "([D[D)Z"⟩ : MethodName)) hown (mvT hZ (hw _ (List.mem_of_getElem? (i := 12) rfl))) (mvT hZ (hw _ (List.mem_of_getElem? (i := 13) rfl))) (mvT hZ (hw _ (List.mem_of_getElem? (i := 10) rfl))) (mvT hZ (hw _ (List.mem_of_getElem? (i := 14) rfl))) (by decide) (backOf (W := 0) (own_nw3 l Z a0 hw [] tb ta kb ka y0 y1 y2 x0 x1 x2 h0 n0 Z0 VB VA) hZ (hw _ (List.mem_of_getElem? (i := 14) rfl)) (hw _ (List.mem_of_getElem? (i := 10) rfl)) (by decide) (by decide)) (g := (mkF m 10 #[.val (.ref ta), .val (.ref tb)] [(.ref ta), (.ref tb)])) rfl (by rw [hml]; rfl) (argsL := [(.ref tb), (.ref ta)]) (rest := []) (lenOf own_pd___D_D_Z rfl) rfl (by show 2 * 0 + _ ≤ _; exact Nat.le_of_eq rfl) (hb hby own_d_prog_18_method_3_10) (fun _ _ => ⟨rfl, e2, (by decide : 0 + 0 ≤ _), (by decide : 0 + 0 ≤ _)⟩)
    dsimp only [Pt.U, Pt.locs, Pt.cells, Pt.slots] at X6 l6 y6 z6 st6 hQ6
    subst l6 y6 z6
    obtain ⟨rfl, N6q, e6⟩ := hQ6
    have N6 := Fr.app N2 N6q
    have pre7 : ∀ t, Steps p.tables e below (T6.setTop (mkF m 13 #[.val (.ref ta), .val (.ref tb)] [(.int (own_nw [(y0, x0), (y1, x1), (y2, x2)]))])) t → Steps p.tables e below (s₁.setTop (entryFrame m #[(.ref ta), (.ref tb)] 2)) t := fun t k => pre5 _ (st6 _ k)
    by_cases c13 : (own_nw [(y0, x0), (y1, x1), (y2, x2)]) = 0
    · have pre8 : ∀ t, Steps p.tables e below (T6.setTop (mkF m 21 #[.val (.ref ta), .val (.ref tb)] [(.int (1 : Int32))])) t → Steps p.tables e below (s₁.setTop (entryFrame m #[(.ref ta), (.ref tb)] 2)) t := fun t k => pre7 _ (by
        show Steps p.tables e below (T6.setTop (mkF m 13 #[.val (.ref ta), .val (.ref tb)] [(.int (own_nw [(y0, x0), (y1, x1), (y2, x2)]))])) _
        refine XS.ifNo X6.here hx rfl (hb hby own_d_prog_18_method_3_13) rfl (XT.i0_ne_f c13) ?_
        show Steps p.tables e below (T6.setTop (mkF m 16 #[.val (.ref ta), .val (.ref tb)] [])) _
        refine XT.iconstV X6.here hx rfl (1 : Int32) (hb hby own_d_prog_18_method_3_16) rfl ?_
        show Steps p.tables e below (T6.setTop (mkF m 17 #[.val (.ref ta), .val (.ref tb)] [(.int (1 : Int32))])) _
        refine XS.goto X6.here hx rfl (pc0 := 17) (pc' := 21) rfl (hb hby own_d_prog_18_method_3_17) (by decide) (by decide) ?_
        exact k)
      obtain ⟨fs, hr, hrun, hended, hW, hsame⟩ := X6.leave (v := some (.int (1 : Int32))) (fun h => by rw [Bd.returns] at h; cases h)
      refine ⟨_, _, pre8 _ ?_, hrun, hended, _, _, rfl, ?_, ⟨_, rfl⟩, hW, hsame.mono (by decide) (by decide)⟩
      · show Steps p.tables e below (T6.setTop (mkF m 21 #[.val (.ref ta), .val (.ref tb)] [(.int (1 : Int32))])) _
        exact retN X6 hx (t := .boolean) Bd.returns (by simp) (hb hby own_d_prog_18_method_3_21) hr
      · show Q_own_dom3 Z ta tb ka kb x0 x1 x2 y0 y1 y2 h0 n0 _ T6.heap _
        rw [e6]
        exact ⟨by unfold own_dom; rw [if_neg c5, if_pos c13], N6, rfl⟩
    · have pre9 : ∀ t, Steps p.tables e below (T6.setTop (mkF m 21 #[.val (.ref ta), .val (.ref tb)] [(.int (0 : Int32))])) t → Steps p.tables e below (s₁.setTop (entryFrame m #[(.ref ta), (.ref tb)] 2)) t := fun t k => pre7 _ (by
        show Steps p.tables e below (T6.setTop (mkF m 13 #[.val (.ref ta), .val (.ref tb)] [(.int (own_nw [(y0, x0), (y1, x1), (y2, x2)]))])) _
        refine XS.ifYes X6.here hx rfl (pc0 := 13) (pc' := 20) rfl (hb hby own_d_prog_18_method_3_13) rfl (XT.i0_ne_t c13) (by decide) (by decide) ?_
        show Steps p.tables e below (T6.setTop (mkF m 20 #[.val (.ref ta), .val (.ref tb)] [])) _
        refine XT.iconstV X6.here hx rfl (0 : Int32) (hb hby own_d_prog_18_method_3_20) rfl ?_
        exact k)
      obtain ⟨fs, hr, hrun, hended, hW, hsame⟩ := X6.leave (v := some (.int (0 : Int32))) (fun h => by rw [Bd.returns] at h; cases h)
      refine ⟨_, _, pre9 _ ?_, hrun, hended, _, _, rfl, ?_, ⟨_, rfl⟩, hW, hsame.mono (by decide) (by decide)⟩
      · show Steps p.tables e below (T6.setTop (mkF m 21 #[.val (.ref ta), .val (.ref tb)] [(.int (0 : Int32))])) _
        exact retN X6 hx (t := .boolean) Bd.returns (by simp) (hb hby own_d_prog_18_method_3_21) hr
      · show Q_own_dom3 Z ta tb ka kb x0 x1 x2 y0 y1 y2 h0 n0 _ T6.heap _
        rw [e6]
        exact ⟨by unfold own_dom; rw [if_neg c5, if_neg c13], N6, rfl⟩
theorem own_ef_own_law (m : MethodId) (p0 : Int32) (p1 : Int32) (p2 : Int32) (p3 : Int32) : entryFrame m #[(.int p0), (.int p1), (.int p2), (.int p3)] maxLocals = mkF m 0 #[.val (.int p0), .val (.int p1), .val (.int p2), .val (.int p3), .unset, .unset, .unset, .unset, .unset, .unset, .unset, .unset, .unset, .unset, .unset, .unset, .unset, .unset, .unset, .unset, .unset] [] := by first | (simp [entryFrame, mkF, argsToLocals, Value.category, maxLocals]; done) | rfl
def Q_own_law (Z : State) (p0 : Int32) (p1 : Int32) (p2 : Int32) (p3 : Int32)  (h0 : Heap) (n0 : Nat) (v : Option Value) (h : Heap) (L : List Loc) : Prop := v = some (.int 1) ∧ Fr n0 L
theorem own_pd__I_I : parseMethodDescriptor "(I)I" = some ⟨[.int], some .int⟩ := by decide +kernel
set_option maxRecDepth 65536 in
set_option maxHeartbeats 40000000 in
theorem own_law (l : Launch) (Z : State) (a0 : Array Value) (hw : ∀ d ∈ tables_1, d.before a0 Z = true) (ws : List Jvm.Cond) (p0 : Int32) (p1 : Int32) (p2 : Int32) (p3 : Int32)  (h0 : Heap) (n0 : Nat) (Z0 : n0 ≤ h0.size)  :
    MetFree l x (head1 (Jvm.Cond.code x code maxLocals ret :: ws) room_1) (fun a U => a = #[(.int p0), (.int p1), (.int p2), (.int p3)] ∧ Z.Warmed39 U.vm ∧ U.heap = h0) (fun _ _ _ _ _ => True) (fun _ U o U' => ∃ v L, o = .returned v ∧ Q_own_law Z p0 p1 p2 p3 h0 n0 v U'.heap L ∧ FrameEnd U o U' L room_1.cells room_1.slots) := by
  refine MetFree.of_bodySF (plainFor_of_name own_pn_com_example_cultivar_cultivar_ParetoDominatesPinLaw) hisR ?_
  intro p e s m args below meth c s₁ Bd hml0 hP hK
  obtain ⟨rfl, hZ, hh⟩ := hP
  have hx := Bd.exec
  have hby := Bd.bytes
  have hml : c.maxLocals = 21 := hml0
  have hown : s.vm.findClass "com/example/cultivar/cultivar/ParetoDominatesPinLaw" = some m.cls := findClass_of_methodNamed Bd.named
  have hnm := (name_of_methodNamed Bd.named Bd.method).1
  have X0 : Stand p l e room_1 s m #[(.int p0), (.int p1), (.int p2), (.int p3)] below meth c s₁ [] 0 0 := Stand.of_body Bd
  have e0 : s₁.heap = h0 := by rw [← hh, Bd.state]; rfl
  have N0 := Fr.nil n0
  have pre0 : ∀ t, Steps p.tables e below (s₁.setTop (mkF m 0 #[.val (.int p0), .val (.int p1), .val (.int p2), .val (.int p3), .unset, .unset, .unset, .unset, .unset, .unset, .unset, .unset, .unset, .unset, .unset, .unset, .unset, .unset, .unset, .unset, .unset] [])) t → Steps p.tables e below (s₁.setTop (entryFrame m #[(.int p0), (.int p1), (.int p2), (.int p3)] maxLocals)) t := fun t k => castTop (own_ef_own_law m p0 p1 p2 p3) k
  have pre1 : ∀ t, Steps p.tables e below (s₁.setTop (mkF m 6 #[.val (.int p0), .val (.int p1), .val (.int p2), .val (.int p3), .val (.int (p0 &&& (3 : Int32))), .unset, .unset, .unset, .unset, .unset, .unset, .unset, .unset, .unset, .unset, .unset, .unset, .unset, .unset, .unset, .unset] [(.int p1)])) t → Steps p.tables e below (s₁.setTop (entryFrame m #[(.int p0), (.int p1), (.int p2), (.int p3)] maxLocals)) t := fun t k => pre0 _ (by
    show Steps p.tables e below (s₁.setTop (mkF m 0 #[.val (.int p0), .val (.int p1), .val (.int p2), .val (.int p3), .unset, .unset, .unset, .unset, .unset, .unset, .unset, .unset, .unset, .unset, .unset, .unset, .unset, .unset, .unset, .unset, .unset] [])) _
    refine XS.iloadN X0.here hx rfl (hb hby at_0) rfl ?_
    show Steps p.tables e below (s₁.setTop (mkF m 1 #[.val (.int p0), .val (.int p1), .val (.int p2), .val (.int p3), .unset, .unset, .unset, .unset, .unset, .unset, .unset, .unset, .unset, .unset, .unset, .unset, .unset, .unset, .unset, .unset, .unset] [(.int p0)])) _
    refine XT.iconstV X0.here hx rfl (3 : Int32) (hb hby at_1) rfl ?_
    show Steps p.tables e below (s₁.setTop (mkF m 2 #[.val (.int p0), .val (.int p1), .val (.int p2), .val (.int p3), .unset, .unset, .unset, .unset, .unset, .unset, .unset, .unset, .unset, .unset, .unset, .unset, .unset, .unset, .unset, .unset, .unset] [(.int (3 : Int32)), (.int p0)])) _
    refine XS.iand X0.here hx rfl (hb hby at_2) rfl ?_
    show Steps p.tables e below (s₁.setTop (mkF m 3 #[.val (.int p0), .val (.int p1), .val (.int p2), .val (.int p3), .unset, .unset, .unset, .unset, .unset, .unset, .unset, .unset, .unset, .unset, .unset, .unset, .unset, .unset, .unset, .unset, .unset] [(.int (p0 &&& (3 : Int32)))])) _
    refine XS.istore X0.here hx rfl (hb hby at_3) rfl (l' := #[.val (.int p0), .val (.int p1), .val (.int p2), .val (.int p3), .val (.int (p0 &&& (3 : Int32))), .unset, .unset, .unset, .unset, .unset, .unset, .unset, .unset, .unset, .unset, .unset, .unset, .unset, .unset, .unset, .unset]) rfl ?_
    show Steps p.tables e below (s₁.setTop (mkF m 5 #[.val (.int p0), .val (.int p1), .val (.int p2), .val (.int p3), .val (.int (p0 &&& (3 : Int32))), .unset, .unset, .unset, .unset, .unset, .unset, .unset, .unset, .unset, .unset, .unset, .unset, .unset, .unset, .unset, .unset] [])) _
    refine XS.iloadN X0.here hx rfl (hb hby at_5) rfl ?_
    exact k)
  obtain ⟨_, _, ⟨T2, L2, k2, n2⟩, -, X2, ⟨Lc2, hQ2, l2, y2, z2⟩, st2⟩ := Jvm.LawKit.callS X0 hx (y := (⟨"com/example/cultivar/cultivar/ParetoDominatesPinLaw", "lo", "(I)I"⟩ : MethodName)) hown (mvT hZ (hw _ (List.mem_of_getElem? (i := 0) rfl))) (mvT hZ (hw _ (List.mem_of_getElem? (i := 1) rfl))) (mvT hZ (hw _ (List.mem_of_getElem? (i := 2) rfl))) (mvT hZ (hw _ (List.mem_of_getElem? (i := 3) rfl))) (by decide) (backOf (W := 0) (own_lo l Z a0 hw [] p1 h0 n0 Z0) hZ (hw _ (List.mem_of_getElem? (i := 3) rfl)) (hw _ (List.mem_of_getElem? (i := 2) rfl)) (by decide) (by decide)) (g := (mkF m 6 #[.val (.int p0), .val (.int p1), .val (.int p2), .val (.int p3), .val (.int (p0 &&& (3 : Int32))), .unset, .unset, .unset, .unset, .unset, .unset, .unset, .unset, .unset, .unset, .unset, .unset, .unset, .unset, .unset, .unset] [(.int p1)])) rfl (by rw [hml]; rfl) (argsL := [(.int p1)]) (rest := []) (lenOf own_pd__I_I rfl) rfl (by show 2 * 0 + _ ≤ _; exact Nat.le_of_eq rfl) (hb hby at_6) (fun _ _ => ⟨rfl, e0, (by decide : 0 + 0 ≤ _), (by decide : 0 + 0 ≤ _)⟩)
  dsimp only [Pt.U, Pt.locs, Pt.cells, Pt.slots] at X2 l2 y2 z2 st2 hQ2
  subst l2 y2 z2
  obtain ⟨rfl, N2q, e2⟩ := hQ2
  have N2 := Fr.app N0 N2q
  have pre3 : ∀ t, Steps p.tables e below (T2.setTop (mkF m 9 #[.val (.int p0), .val (.int p1), .val (.int p2), .val (.int p3), .val (.int (p0 &&& (3 : Int32))), .unset, .unset, .unset, .unset, .unset, .unset, .unset, .unset, .unset, .unset, .unset, .unset, .unset, .unset, .unset, .unset] [(.int (p1.toInt16.toInt32))])) t → Steps p.tables e below (s₁.setTop (entryFrame m #[(.int p0), (.int p1), (.int p2), (.int p3)] maxLocals)) t := fun t k => pre1 _ (st2 _ k)
  obtain ⟨ra0, hra0⟩ : ∃ z : Int32, z = (p1.toInt16.toInt32) := ⟨_, rfl⟩
  have pre4 : ∀ t, Steps p.tables e below (T2.setTop (mkF m 9 #[.val (.int p0), .val (.int p1), .val (.int p2), .val (.int p3), .val (.int (p0 &&& (3 : Int32))), .unset, .unset, .unset, .unset, .unset, .unset, .unset, .unset, .unset, .unset, .unset, .unset, .unset, .unset, .unset, .unset] [(.int ra0)])) t → Steps p.tables e below (s₁.setTop (entryFrame m #[(.int p0), (.int p1), (.int p2), (.int p3)] maxLocals)) t := fun t k => pre3 _ (by rw [hra0] at k; exact k)
  have pre5 : ∀ t, Steps p.tables e below (T2.setTop (mkF m 12 #[.val (.int p0), .val (.int p1), .val (.int p2), .val (.int p3), .val (.int (p0 &&& (3 : Int32))), .val (.int ra0), .unset, .unset, .unset, .unset, .unset, .unset, .unset, .unset, .unset, .unset, .unset, .unset, .unset, .unset, .unset] [(.int p1)])) t → Steps p.tables e below (s₁.setTop (entryFrame m #[(.int p0), (.int p1), (.int p2), (.int p3)] maxLocals)) t := fun t k => pre4 _ (by
    show Steps p.tables e below (T2.setTop (mkF m 9 #[.val (.int p0), .val (.int p1), .val (.int p2), .val (.int p3), .val (.int (p0 &&& (3 : Int32))), .unset, .unset, .unset, .unset, .unset, .unset, .unset, .unset, .unset, .unset, .unset, .unset, .unset, .unset, .unset, .unset] [(.int ra0)])) _
    refine XS.istore X2.here hx rfl (hb hby at_9) rfl (l' := #[.val (.int p0), .val (.int p1), .val (.int p2), .val (.int p3), .val (.int (p0 &&& (3 : Int32))), .val (.int ra0), .unset, .unset, .unset, .unset, .unset, .unset, .unset, .unset, .unset, .unset, .unset, .unset, .unset, .unset, .unset]) rfl ?_
    show Steps p.tables e below (T2.setTop (mkF m 11 #[.val (.int p0), .val (.int p1), .val (.int p2), .val (.int p3), .val (.int (p0 &&& (3 : Int32))), .val (.int ra0), .unset, .unset, .unset, .unset, .unset, .unset, .unset, .unset, .unset, .unset, .unset, .unset, .unset, .unset, .unset] [])) _
    refine XS.iloadN X2.here hx rfl (hb hby at_11) rfl ?_
    exact k)
  obtain ⟨_, _, ⟨T6, L6, k6, n6⟩, -, X6, ⟨Lc6, hQ6, l6, y6, z6⟩, st6⟩ := Jvm.LawKit.callS X2 hx (y := (⟨"com/example/cultivar/cultivar/ParetoDominatesPinLaw", "hi", "(I)I"⟩ : MethodName)) hown (mvT hZ (hw _ (List.mem_of_getElem? (i := 4) rfl))) (mvT hZ (hw _ (List.mem_of_getElem? (i := 5) rfl))) (mvT hZ (hw _ (List.mem_of_getElem? (i := 2) rfl))) (mvT hZ (hw _ (List.mem_of_getElem? (i := 6) rfl))) (by decide) (backOf (W := 0) (own_hi l Z a0 hw [] p1 h0 n0 Z0) hZ (hw _ (List.mem_of_getElem? (i := 6) rfl)) (hw _ (List.mem_of_getElem? (i := 2) rfl)) (by decide) (by decide)) (g := (mkF m 12 #[.val (.int p0), .val (.int p1), .val (.int p2), .val (.int p3), .val (.int (p0 &&& (3 : Int32))), .val (.int ra0), .unset, .unset, .unset, .unset, .unset, .unset, .unset, .unset, .unset, .unset, .unset, .unset, .unset, .unset, .unset] [(.int p1)])) rfl (by rw [hml]; rfl) (argsL := [(.int p1)]) (rest := []) (lenOf own_pd__I_I rfl) rfl (by show 2 * 0 + _ ≤ _; exact Nat.le_of_eq rfl) (hb hby at_12) (fun _ _ => ⟨rfl, e2, (by decide : 0 + 0 ≤ _), (by decide : 0 + 0 ≤ _)⟩)
  dsimp only [Pt.U, Pt.locs, Pt.cells, Pt.slots] at X6 l6 y6 z6 st6 hQ6
  subst l6 y6 z6
  obtain ⟨rfl, N6q, e6⟩ := hQ6
  have N6 := Fr.app N2 N6q
  have pre7 : ∀ t, Steps p.tables e below (T6.setTop (mkF m 15 #[.val (.int p0), .val (.int p1), .val (.int p2), .val (.int p3), .val (.int (p0 &&& (3 : Int32))), .val (.int ra0), .unset, .unset, .unset, .unset, .unset, .unset, .unset, .unset, .unset, .unset, .unset, .unset, .unset, .unset, .unset] [(.int (((p1.toUInt32 >>> ((16 : Int32) &&& 31).toUInt32).toInt32).toInt16.toInt32))])) t → Steps p.tables e below (s₁.setTop (entryFrame m #[(.int p0), (.int p1), (.int p2), (.int p3)] maxLocals)) t := fun t k => pre5 _ (st6 _ k)
  obtain ⟨rb0, hrb0⟩ : ∃ z : Int32, z = (((p1.toUInt32 >>> ((16 : Int32) &&& 31).toUInt32).toInt32).toInt16.toInt32) := ⟨_, rfl⟩
  have pre8 : ∀ t, Steps p.tables e below (T6.setTop (mkF m 15 #[.val (.int p0), .val (.int p1), .val (.int p2), .val (.int p3), .val (.int (p0 &&& (3 : Int32))), .val (.int ra0), .unset, .unset, .unset, .unset, .unset, .unset, .unset, .unset, .unset, .unset, .unset, .unset, .unset, .unset, .unset] [(.int rb0)])) t → Steps p.tables e below (s₁.setTop (entryFrame m #[(.int p0), (.int p1), (.int p2), (.int p3)] maxLocals)) t := fun t k => pre7 _ (by rw [hrb0] at k; exact k)
  have pre9 : ∀ t, Steps p.tables e below (T6.setTop (mkF m 18 #[.val (.int p0), .val (.int p1), .val (.int p2), .val (.int p3), .val (.int (p0 &&& (3 : Int32))), .val (.int ra0), .val (.int rb0), .unset, .unset, .unset, .unset, .unset, .unset, .unset, .unset, .unset, .unset, .unset, .unset, .unset, .unset] [(.int p2)])) t → Steps p.tables e below (s₁.setTop (entryFrame m #[(.int p0), (.int p1), (.int p2), (.int p3)] maxLocals)) t := fun t k => pre8 _ (by
    show Steps p.tables e below (T6.setTop (mkF m 15 #[.val (.int p0), .val (.int p1), .val (.int p2), .val (.int p3), .val (.int (p0 &&& (3 : Int32))), .val (.int ra0), .unset, .unset, .unset, .unset, .unset, .unset, .unset, .unset, .unset, .unset, .unset, .unset, .unset, .unset, .unset] [(.int rb0)])) _
    refine XS.istore X6.here hx rfl (hb hby at_15) rfl (l' := #[.val (.int p0), .val (.int p1), .val (.int p2), .val (.int p3), .val (.int (p0 &&& (3 : Int32))), .val (.int ra0), .val (.int rb0), .unset, .unset, .unset, .unset, .unset, .unset, .unset, .unset, .unset, .unset, .unset, .unset, .unset, .unset]) rfl ?_
    show Steps p.tables e below (T6.setTop (mkF m 17 #[.val (.int p0), .val (.int p1), .val (.int p2), .val (.int p3), .val (.int (p0 &&& (3 : Int32))), .val (.int ra0), .val (.int rb0), .unset, .unset, .unset, .unset, .unset, .unset, .unset, .unset, .unset, .unset, .unset, .unset, .unset, .unset] [])) _
    refine XS.iloadN X6.here hx rfl (hb hby at_17) rfl ?_
    exact k)
  obtain ⟨_, _, ⟨T10, L10, k10, n10⟩, -, X10, ⟨Lc10, hQ10, l10, y10, z10⟩, st10⟩ := Jvm.LawKit.callS X6 hx (y := (⟨"com/example/cultivar/cultivar/ParetoDominatesPinLaw", "lo", "(I)I"⟩ : MethodName)) hown (mvT hZ (hw _ (List.mem_of_getElem? (i := 0) rfl))) (mvT hZ (hw _ (List.mem_of_getElem? (i := 1) rfl))) (mvT hZ (hw _ (List.mem_of_getElem? (i := 2) rfl))) (mvT hZ (hw _ (List.mem_of_getElem? (i := 3) rfl))) (by decide) (backOf (W := 0) (own_lo l Z a0 hw [] p2 h0 n0 Z0) hZ (hw _ (List.mem_of_getElem? (i := 3) rfl)) (hw _ (List.mem_of_getElem? (i := 2) rfl)) (by decide) (by decide)) (g := (mkF m 18 #[.val (.int p0), .val (.int p1), .val (.int p2), .val (.int p3), .val (.int (p0 &&& (3 : Int32))), .val (.int ra0), .val (.int rb0), .unset, .unset, .unset, .unset, .unset, .unset, .unset, .unset, .unset, .unset, .unset, .unset, .unset, .unset] [(.int p2)])) rfl (by rw [hml]; rfl) (argsL := [(.int p2)]) (rest := []) (lenOf own_pd__I_I rfl) rfl (by show 2 * 0 + _ ≤ _; exact Nat.le_of_eq rfl) (hb hby at_18) (fun _ _ => ⟨rfl, e6, (by decide : 0 + 0 ≤ _), (by decide : 0 + 0 ≤ _)⟩)
  dsimp only [Pt.U, Pt.locs, Pt.cells, Pt.slots] at X10 l10 y10 z10 st10 hQ10
  subst l10 y10 z10
  obtain ⟨rfl, N10q, e10⟩ := hQ10
  have N10 := Fr.app N6 N10q
  have pre11 : ∀ t, Steps p.tables e below (T10.setTop (mkF m 21 #[.val (.int p0), .val (.int p1), .val (.int p2), .val (.int p3), .val (.int (p0 &&& (3 : Int32))), .val (.int ra0), .val (.int rb0), .unset, .unset, .unset, .unset, .unset, .unset, .unset, .unset, .unset, .unset, .unset, .unset, .unset, .unset] [(.int (p2.toInt16.toInt32))])) t → Steps p.tables e below (s₁.setTop (entryFrame m #[(.int p0), (.int p1), (.int p2), (.int p3)] maxLocals)) t := fun t k => pre9 _ (st10 _ k)
  obtain ⟨ra1, hra1⟩ : ∃ z : Int32, z = (p2.toInt16.toInt32) := ⟨_, rfl⟩
  have pre12 : ∀ t, Steps p.tables e below (T10.setTop (mkF m 21 #[.val (.int p0), .val (.int p1), .val (.int p2), .val (.int p3), .val (.int (p0 &&& (3 : Int32))), .val (.int ra0), .val (.int rb0), .unset, .unset, .unset, .unset, .unset, .unset, .unset, .unset, .unset, .unset, .unset, .unset, .unset, .unset] [(.int ra1)])) t → Steps p.tables e below (s₁.setTop (entryFrame m #[(.int p0), (.int p1), (.int p2), (.int p3)] maxLocals)) t := fun t k => pre11 _ (by rw [hra1] at k; exact k)
  have pre13 : ∀ t, Steps p.tables e below (T10.setTop (mkF m 24 #[.val (.int p0), .val (.int p1), .val (.int p2), .val (.int p3), .val (.int (p0 &&& (3 : Int32))), .val (.int ra0), .val (.int rb0), .val (.int ra1), .unset, .unset, .unset, .unset, .unset, .unset, .unset, .unset, .unset, .unset, .unset, .unset, .unset] [(.int p2)])) t → Steps p.tables e below (s₁.setTop (entryFrame m #[(.int p0), (.int p1), (.int p2), (.int p3)] maxLocals)) t := fun t k => pre12 _ (by
    show Steps p.tables e below (T10.setTop (mkF m 21 #[.val (.int p0), .val (.int p1), .val (.int p2), .val (.int p3), .val (.int (p0 &&& (3 : Int32))), .val (.int ra0), .val (.int rb0), .unset, .unset, .unset, .unset, .unset, .unset, .unset, .unset, .unset, .unset, .unset, .unset, .unset, .unset] [(.int ra1)])) _
    refine XS.istore X10.here hx rfl (hb hby at_21) rfl (l' := #[.val (.int p0), .val (.int p1), .val (.int p2), .val (.int p3), .val (.int (p0 &&& (3 : Int32))), .val (.int ra0), .val (.int rb0), .val (.int ra1), .unset, .unset, .unset, .unset, .unset, .unset, .unset, .unset, .unset, .unset, .unset, .unset, .unset]) rfl ?_
    show Steps p.tables e below (T10.setTop (mkF m 23 #[.val (.int p0), .val (.int p1), .val (.int p2), .val (.int p3), .val (.int (p0 &&& (3 : Int32))), .val (.int ra0), .val (.int rb0), .val (.int ra1), .unset, .unset, .unset, .unset, .unset, .unset, .unset, .unset, .unset, .unset, .unset, .unset, .unset] [])) _
    refine XS.iloadN X10.here hx rfl (hb hby at_23) rfl ?_
    exact k)
  obtain ⟨_, _, ⟨T14, L14, k14, n14⟩, -, X14, ⟨Lc14, hQ14, l14, y14, z14⟩, st14⟩ := Jvm.LawKit.callS X10 hx (y := (⟨"com/example/cultivar/cultivar/ParetoDominatesPinLaw", "hi", "(I)I"⟩ : MethodName)) hown (mvT hZ (hw _ (List.mem_of_getElem? (i := 4) rfl))) (mvT hZ (hw _ (List.mem_of_getElem? (i := 5) rfl))) (mvT hZ (hw _ (List.mem_of_getElem? (i := 2) rfl))) (mvT hZ (hw _ (List.mem_of_getElem? (i := 6) rfl))) (by decide) (backOf (W := 0) (own_hi l Z a0 hw [] p2 h0 n0 Z0) hZ (hw _ (List.mem_of_getElem? (i := 6) rfl)) (hw _ (List.mem_of_getElem? (i := 2) rfl)) (by decide) (by decide)) (g := (mkF m 24 #[.val (.int p0), .val (.int p1), .val (.int p2), .val (.int p3), .val (.int (p0 &&& (3 : Int32))), .val (.int ra0), .val (.int rb0), .val (.int ra1), .unset, .unset, .unset, .unset, .unset, .unset, .unset, .unset, .unset, .unset, .unset, .unset, .unset] [(.int p2)])) rfl (by rw [hml]; rfl) (argsL := [(.int p2)]) (rest := []) (lenOf own_pd__I_I rfl) rfl (by show 2 * 0 + _ ≤ _; exact Nat.le_of_eq rfl) (hb hby at_24) (fun _ _ => ⟨rfl, e10, (by decide : 0 + 0 ≤ _), (by decide : 0 + 0 ≤ _)⟩)
  dsimp only [Pt.U, Pt.locs, Pt.cells, Pt.slots] at X14 l14 y14 z14 st14 hQ14
  subst l14 y14 z14
  obtain ⟨rfl, N14q, e14⟩ := hQ14
  have N14 := Fr.app N10 N14q
  have pre15 : ∀ t, Steps p.tables e below (T14.setTop (mkF m 27 #[.val (.int p0), .val (.int p1), .val (.int p2), .val (.int p3), .val (.int (p0 &&& (3 : Int32))), .val (.int ra0), .val (.int rb0), .val (.int ra1), .unset, .unset, .unset, .unset, .unset, .unset, .unset, .unset, .unset, .unset, .unset, .unset, .unset] [(.int (((p2.toUInt32 >>> ((16 : Int32) &&& 31).toUInt32).toInt32).toInt16.toInt32))])) t → Steps p.tables e below (s₁.setTop (entryFrame m #[(.int p0), (.int p1), (.int p2), (.int p3)] maxLocals)) t := fun t k => pre13 _ (st14 _ k)
  obtain ⟨rb1, hrb1⟩ : ∃ z : Int32, z = (((p2.toUInt32 >>> ((16 : Int32) &&& 31).toUInt32).toInt32).toInt16.toInt32) := ⟨_, rfl⟩
  have pre16 : ∀ t, Steps p.tables e below (T14.setTop (mkF m 27 #[.val (.int p0), .val (.int p1), .val (.int p2), .val (.int p3), .val (.int (p0 &&& (3 : Int32))), .val (.int ra0), .val (.int rb0), .val (.int ra1), .unset, .unset, .unset, .unset, .unset, .unset, .unset, .unset, .unset, .unset, .unset, .unset, .unset] [(.int rb1)])) t → Steps p.tables e below (s₁.setTop (entryFrame m #[(.int p0), (.int p1), (.int p2), (.int p3)] maxLocals)) t := fun t k => pre15 _ (by rw [hrb1] at k; exact k)
  have pre17 : ∀ t, Steps p.tables e below (T14.setTop (mkF m 30 #[.val (.int p0), .val (.int p1), .val (.int p2), .val (.int p3), .val (.int (p0 &&& (3 : Int32))), .val (.int ra0), .val (.int rb0), .val (.int ra1), .val (.int rb1), .unset, .unset, .unset, .unset, .unset, .unset, .unset, .unset, .unset, .unset, .unset, .unset] [(.int p3)])) t → Steps p.tables e below (s₁.setTop (entryFrame m #[(.int p0), (.int p1), (.int p2), (.int p3)] maxLocals)) t := fun t k => pre16 _ (by
    show Steps p.tables e below (T14.setTop (mkF m 27 #[.val (.int p0), .val (.int p1), .val (.int p2), .val (.int p3), .val (.int (p0 &&& (3 : Int32))), .val (.int ra0), .val (.int rb0), .val (.int ra1), .unset, .unset, .unset, .unset, .unset, .unset, .unset, .unset, .unset, .unset, .unset, .unset, .unset] [(.int rb1)])) _
    refine XS.istore X14.here hx rfl (hb hby at_27) rfl (l' := #[.val (.int p0), .val (.int p1), .val (.int p2), .val (.int p3), .val (.int (p0 &&& (3 : Int32))), .val (.int ra0), .val (.int rb0), .val (.int ra1), .val (.int rb1), .unset, .unset, .unset, .unset, .unset, .unset, .unset, .unset, .unset, .unset, .unset, .unset]) rfl ?_
    show Steps p.tables e below (T14.setTop (mkF m 29 #[.val (.int p0), .val (.int p1), .val (.int p2), .val (.int p3), .val (.int (p0 &&& (3 : Int32))), .val (.int ra0), .val (.int rb0), .val (.int ra1), .val (.int rb1), .unset, .unset, .unset, .unset, .unset, .unset, .unset, .unset, .unset, .unset, .unset, .unset] [])) _
    refine XS.iloadN X14.here hx rfl (hb hby at_29) rfl ?_
    exact k)
  obtain ⟨_, _, ⟨T18, L18, k18, n18⟩, -, X18, ⟨Lc18, hQ18, l18, y18, z18⟩, st18⟩ := Jvm.LawKit.callS X14 hx (y := (⟨"com/example/cultivar/cultivar/ParetoDominatesPinLaw", "lo", "(I)I"⟩ : MethodName)) hown (mvT hZ (hw _ (List.mem_of_getElem? (i := 0) rfl))) (mvT hZ (hw _ (List.mem_of_getElem? (i := 1) rfl))) (mvT hZ (hw _ (List.mem_of_getElem? (i := 2) rfl))) (mvT hZ (hw _ (List.mem_of_getElem? (i := 3) rfl))) (by decide) (backOf (W := 0) (own_lo l Z a0 hw [] p3 h0 n0 Z0) hZ (hw _ (List.mem_of_getElem? (i := 3) rfl)) (hw _ (List.mem_of_getElem? (i := 2) rfl)) (by decide) (by decide)) (g := (mkF m 30 #[.val (.int p0), .val (.int p1), .val (.int p2), .val (.int p3), .val (.int (p0 &&& (3 : Int32))), .val (.int ra0), .val (.int rb0), .val (.int ra1), .val (.int rb1), .unset, .unset, .unset, .unset, .unset, .unset, .unset, .unset, .unset, .unset, .unset, .unset] [(.int p3)])) rfl (by rw [hml]; rfl) (argsL := [(.int p3)]) (rest := []) (lenOf own_pd__I_I rfl) rfl (by show 2 * 0 + _ ≤ _; exact Nat.le_of_eq rfl) (hb hby at_30) (fun _ _ => ⟨rfl, e14, (by decide : 0 + 0 ≤ _), (by decide : 0 + 0 ≤ _)⟩)
  dsimp only [Pt.U, Pt.locs, Pt.cells, Pt.slots] at X18 l18 y18 z18 st18 hQ18
  subst l18 y18 z18
  obtain ⟨rfl, N18q, e18⟩ := hQ18
  have N18 := Fr.app N14 N18q
  have pre19 : ∀ t, Steps p.tables e below (T18.setTop (mkF m 33 #[.val (.int p0), .val (.int p1), .val (.int p2), .val (.int p3), .val (.int (p0 &&& (3 : Int32))), .val (.int ra0), .val (.int rb0), .val (.int ra1), .val (.int rb1), .unset, .unset, .unset, .unset, .unset, .unset, .unset, .unset, .unset, .unset, .unset, .unset] [(.int (p3.toInt16.toInt32))])) t → Steps p.tables e below (s₁.setTop (entryFrame m #[(.int p0), (.int p1), (.int p2), (.int p3)] maxLocals)) t := fun t k => pre17 _ (st18 _ k)
  obtain ⟨ra2, hra2⟩ : ∃ z : Int32, z = (p3.toInt16.toInt32) := ⟨_, rfl⟩
  have pre20 : ∀ t, Steps p.tables e below (T18.setTop (mkF m 33 #[.val (.int p0), .val (.int p1), .val (.int p2), .val (.int p3), .val (.int (p0 &&& (3 : Int32))), .val (.int ra0), .val (.int rb0), .val (.int ra1), .val (.int rb1), .unset, .unset, .unset, .unset, .unset, .unset, .unset, .unset, .unset, .unset, .unset, .unset] [(.int ra2)])) t → Steps p.tables e below (s₁.setTop (entryFrame m #[(.int p0), (.int p1), (.int p2), (.int p3)] maxLocals)) t := fun t k => pre19 _ (by rw [hra2] at k; exact k)
  have pre21 : ∀ t, Steps p.tables e below (T18.setTop (mkF m 36 #[.val (.int p0), .val (.int p1), .val (.int p2), .val (.int p3), .val (.int (p0 &&& (3 : Int32))), .val (.int ra0), .val (.int rb0), .val (.int ra1), .val (.int rb1), .val (.int ra2), .unset, .unset, .unset, .unset, .unset, .unset, .unset, .unset, .unset, .unset, .unset] [(.int p3)])) t → Steps p.tables e below (s₁.setTop (entryFrame m #[(.int p0), (.int p1), (.int p2), (.int p3)] maxLocals)) t := fun t k => pre20 _ (by
    show Steps p.tables e below (T18.setTop (mkF m 33 #[.val (.int p0), .val (.int p1), .val (.int p2), .val (.int p3), .val (.int (p0 &&& (3 : Int32))), .val (.int ra0), .val (.int rb0), .val (.int ra1), .val (.int rb1), .unset, .unset, .unset, .unset, .unset, .unset, .unset, .unset, .unset, .unset, .unset, .unset] [(.int ra2)])) _
    refine XS.istore X18.here hx rfl (hb hby at_33) rfl (l' := #[.val (.int p0), .val (.int p1), .val (.int p2), .val (.int p3), .val (.int (p0 &&& (3 : Int32))), .val (.int ra0), .val (.int rb0), .val (.int ra1), .val (.int rb1), .val (.int ra2), .unset, .unset, .unset, .unset, .unset, .unset, .unset, .unset, .unset, .unset, .unset]) rfl ?_
    show Steps p.tables e below (T18.setTop (mkF m 35 #[.val (.int p0), .val (.int p1), .val (.int p2), .val (.int p3), .val (.int (p0 &&& (3 : Int32))), .val (.int ra0), .val (.int rb0), .val (.int ra1), .val (.int rb1), .val (.int ra2), .unset, .unset, .unset, .unset, .unset, .unset, .unset, .unset, .unset, .unset, .unset] [])) _
    refine XS.iloadN X18.here hx rfl (hb hby at_35) rfl ?_
    exact k)
  obtain ⟨_, _, ⟨T22, L22, k22, n22⟩, -, X22, ⟨Lc22, hQ22, l22, y22, z22⟩, st22⟩ := Jvm.LawKit.callS X18 hx (y := (⟨"com/example/cultivar/cultivar/ParetoDominatesPinLaw", "hi", "(I)I"⟩ : MethodName)) hown (mvT hZ (hw _ (List.mem_of_getElem? (i := 4) rfl))) (mvT hZ (hw _ (List.mem_of_getElem? (i := 5) rfl))) (mvT hZ (hw _ (List.mem_of_getElem? (i := 2) rfl))) (mvT hZ (hw _ (List.mem_of_getElem? (i := 6) rfl))) (by decide) (backOf (W := 0) (own_hi l Z a0 hw [] p3 h0 n0 Z0) hZ (hw _ (List.mem_of_getElem? (i := 6) rfl)) (hw _ (List.mem_of_getElem? (i := 2) rfl)) (by decide) (by decide)) (g := (mkF m 36 #[.val (.int p0), .val (.int p1), .val (.int p2), .val (.int p3), .val (.int (p0 &&& (3 : Int32))), .val (.int ra0), .val (.int rb0), .val (.int ra1), .val (.int rb1), .val (.int ra2), .unset, .unset, .unset, .unset, .unset, .unset, .unset, .unset, .unset, .unset, .unset] [(.int p3)])) rfl (by rw [hml]; rfl) (argsL := [(.int p3)]) (rest := []) (lenOf own_pd__I_I rfl) rfl (by show 2 * 0 + _ ≤ _; exact Nat.le_of_eq rfl) (hb hby at_36) (fun _ _ => ⟨rfl, e18, (by decide : 0 + 0 ≤ _), (by decide : 0 + 0 ≤ _)⟩)
  dsimp only [Pt.U, Pt.locs, Pt.cells, Pt.slots] at X22 l22 y22 z22 st22 hQ22
  subst l22 y22 z22
  obtain ⟨rfl, N22q, e22⟩ := hQ22
  have N22 := Fr.app N18 N22q
  have pre23 : ∀ t, Steps p.tables e below (T22.setTop (mkF m 39 #[.val (.int p0), .val (.int p1), .val (.int p2), .val (.int p3), .val (.int (p0 &&& (3 : Int32))), .val (.int ra0), .val (.int rb0), .val (.int ra1), .val (.int rb1), .val (.int ra2), .unset, .unset, .unset, .unset, .unset, .unset, .unset, .unset, .unset, .unset, .unset] [(.int (((p3.toUInt32 >>> ((16 : Int32) &&& 31).toUInt32).toInt32).toInt16.toInt32))])) t → Steps p.tables e below (s₁.setTop (entryFrame m #[(.int p0), (.int p1), (.int p2), (.int p3)] maxLocals)) t := fun t k => pre21 _ (st22 _ k)
  obtain ⟨rb2, hrb2⟩ : ∃ z : Int32, z = (((p3.toUInt32 >>> ((16 : Int32) &&& 31).toUInt32).toInt32).toInt16.toInt32) := ⟨_, rfl⟩
  have pre24 : ∀ t, Steps p.tables e below (T22.setTop (mkF m 39 #[.val (.int p0), .val (.int p1), .val (.int p2), .val (.int p3), .val (.int (p0 &&& (3 : Int32))), .val (.int ra0), .val (.int rb0), .val (.int ra1), .val (.int rb1), .val (.int ra2), .unset, .unset, .unset, .unset, .unset, .unset, .unset, .unset, .unset, .unset, .unset] [(.int rb2)])) t → Steps p.tables e below (s₁.setTop (entryFrame m #[(.int p0), (.int p1), (.int p2), (.int p3)] maxLocals)) t := fun t k => pre23 _ (by rw [hrb2] at k; exact k)
  have pre25 : ∀ t, Steps p.tables e below (T22.setTop (mkF m 43 #[.val (.int p0), .val (.int p1), .val (.int p2), .val (.int p3), .val (.int (p0 &&& (3 : Int32))), .val (.int ra0), .val (.int rb0), .val (.int ra1), .val (.int rb1), .val (.int ra2), .val (.int rb2), .unset, .unset, .unset, .unset, .unset, .unset, .unset, .unset, .unset, .unset] [(.int (p0 &&& (3 : Int32)))])) t → Steps p.tables e below (s₁.setTop (entryFrame m #[(.int p0), (.int p1), (.int p2), (.int p3)] maxLocals)) t := fun t k => pre24 _ (by
    show Steps p.tables e below (T22.setTop (mkF m 39 #[.val (.int p0), .val (.int p1), .val (.int p2), .val (.int p3), .val (.int (p0 &&& (3 : Int32))), .val (.int ra0), .val (.int rb0), .val (.int ra1), .val (.int rb1), .val (.int ra2), .unset, .unset, .unset, .unset, .unset, .unset, .unset, .unset, .unset, .unset, .unset] [(.int rb2)])) _
    refine XS.istore X22.here hx rfl (hb hby at_39) rfl (l' := #[.val (.int p0), .val (.int p1), .val (.int p2), .val (.int p3), .val (.int (p0 &&& (3 : Int32))), .val (.int ra0), .val (.int rb0), .val (.int ra1), .val (.int rb1), .val (.int ra2), .val (.int rb2), .unset, .unset, .unset, .unset, .unset, .unset, .unset, .unset, .unset, .unset]) rfl ?_
    show Steps p.tables e below (T22.setTop (mkF m 41 #[.val (.int p0), .val (.int p1), .val (.int p2), .val (.int p3), .val (.int (p0 &&& (3 : Int32))), .val (.int ra0), .val (.int rb0), .val (.int ra1), .val (.int rb1), .val (.int ra2), .val (.int rb2), .unset, .unset, .unset, .unset, .unset, .unset, .unset, .unset, .unset, .unset] [])) _
    refine XS.iload X22.here hx rfl (hb hby at_41) rfl ?_
    exact k)
  obtain ⟨nn, hnn⟩ : ∃ z : Int32, z = (p0 &&& (3 : Int32)) := ⟨_, rfl⟩
  have pre26 : ∀ t, Steps p.tables e below (T22.setTop (mkF m 43 #[.val (.int p0), .val (.int p1), .val (.int p2), .val (.int p3), .val (.int nn), .val (.int ra0), .val (.int rb0), .val (.int ra1), .val (.int rb1), .val (.int ra2), .val (.int rb2), .unset, .unset, .unset, .unset, .unset, .unset, .unset, .unset, .unset, .unset] [(.int nn)])) t → Steps p.tables e below (s₁.setTop (entryFrame m #[(.int p0), (.int p1), (.int p2), (.int p3)] maxLocals)) t := fun t k => pre25 _ (by rw [hnn] at k; exact k)
  rcases own_n4 p0 hnn with hcs | hcs | hcs | hcs
  · subst hcs
    obtain ⟨T27, h27, cA27, X27, e27, E27, A27, st27⟩ := newP X22 hx hZ (aty := .double) (hw _ (List.mem_of_getElem? (i := 7) rfl)) e22 (g := (mkF m 43 #[.val (.int p0), .val (.int p1), .val (.int p2), .val (.int p3), .val (.int (0 : Int32)), .val (.int ra0), .val (.int rb0), .val (.int ra1), .val (.int rb1), .val (.int ra2), .val (.int rb2), .unset, .unset, .unset, .unset, .unset, .unset, .unset, .unset, .unset, .unset] [(.int (0 : Int32))])) rfl (hb hby at_43) rfl (by decide) (cap := 0) (by decide) (by decide) (by decide) (by decide)
    obtain ⟨a27, ga27⟩ : ∃ z, z = h0.size := ⟨_, rfl⟩
    rw [← ga27] at A27 st27
    have ge_a27 : n0 ≤ a27 := Nat.le_trans Z0 (Nat.le_of_eq ga27.symm)
    have Z27 : n0 ≤ h27.size := Nat.le_trans Z0 E27.1
    have pre28 : ∀ t, Steps p.tables e below (T27.setTop (mkF m 45 #[.val (.int p0), .val (.int p1), .val (.int p2), .val (.int p3), .val (.int (0 : Int32)), .val (.int ra0), .val (.int rb0), .val (.int ra1), .val (.int rb1), .val (.int ra2), .val (.int rb2), .unset, .unset, .unset, .unset, .unset, .unset, .unset, .unset, .unset, .unset] [(.ref a27)])) t → Steps p.tables e below (s₁.setTop (entryFrame m #[(.int p0), (.int p1), (.int p2), (.int p3)] maxLocals)) t := fun t k => pre26 _ (st27 _ k)
    have V27 : Arv Z h27 a27 cA27 .double (0 : Int32) [] (.double (FP.l2d 0)) := (Arv.newD A27 (by decide)).pad (pad_rep [] (.double (FP.l2d 0)) 0)
    have pre29 : ∀ t, Steps p.tables e below (T27.setTop (mkF m 49 #[.val (.int p0), .val (.int p1), .val (.int p2), .val (.int p3), .val (.int (0 : Int32)), .val (.int ra0), .val (.int rb0), .val (.int ra1), .val (.int rb1), .val (.int ra2), .val (.int rb2), .val (.ref a27), .unset, .unset, .unset, .unset, .unset, .unset, .unset, .unset, .unset] [(.int (0 : Int32))])) t → Steps p.tables e below (s₁.setTop (entryFrame m #[(.int p0), (.int p1), (.int p2), (.int p3)] maxLocals)) t := fun t k => pre28 _ (by
      show Steps p.tables e below (T27.setTop (mkF m 45 #[.val (.int p0), .val (.int p1), .val (.int p2), .val (.int p3), .val (.int (0 : Int32)), .val (.int ra0), .val (.int rb0), .val (.int ra1), .val (.int rb1), .val (.int ra2), .val (.int rb2), .unset, .unset, .unset, .unset, .unset, .unset, .unset, .unset, .unset, .unset] [(.ref a27)])) _
      refine XS.astore X27.here hx rfl (hb hby at_45) rfl rfl (l' := #[.val (.int p0), .val (.int p1), .val (.int p2), .val (.int p3), .val (.int (0 : Int32)), .val (.int ra0), .val (.int rb0), .val (.int ra1), .val (.int rb1), .val (.int ra2), .val (.int rb2), .val (.ref a27), .unset, .unset, .unset, .unset, .unset, .unset, .unset, .unset, .unset]) rfl ?_
      show Steps p.tables e below (T27.setTop (mkF m 47 #[.val (.int p0), .val (.int p1), .val (.int p2), .val (.int p3), .val (.int (0 : Int32)), .val (.int ra0), .val (.int rb0), .val (.int ra1), .val (.int rb1), .val (.int ra2), .val (.int rb2), .val (.ref a27), .unset, .unset, .unset, .unset, .unset, .unset, .unset, .unset, .unset] [])) _
      refine XS.iload X27.here hx rfl (hb hby at_47) rfl ?_
      exact k)
    obtain ⟨T30, h30, cA30, X30, e30, E30, A30, st30⟩ := newP X27 hx hZ (aty := .double) (hw _ (List.mem_of_getElem? (i := 7) rfl)) e27 (g := (mkF m 49 #[.val (.int p0), .val (.int p1), .val (.int p2), .val (.int p3), .val (.int (0 : Int32)), .val (.int ra0), .val (.int rb0), .val (.int ra1), .val (.int rb1), .val (.int ra2), .val (.int rb2), .val (.ref a27), .unset, .unset, .unset, .unset, .unset, .unset, .unset, .unset, .unset] [(.int (0 : Int32))])) rfl (hb hby at_49) rfl (by decide) (cap := 0) (by decide) (by decide) (by decide) (by decide)
    obtain ⟨a30, ga30⟩ : ∃ z, z = h27.size := ⟨_, rfl⟩
    rw [← ga30] at A30 st30
    have lt_a27_a30 : a27 < a30 := Nat.lt_of_lt_of_eq V27.lt ga30.symm
    have ne_a27_a30 : a27 ≠ a30 := Nat.ne_of_lt lt_a27_a30
    have ge_a30 : n0 ≤ a30 := Nat.le_trans Z27 (Nat.le_of_eq ga30.symm)
    have Z30 : n0 ≤ h30.size := Nat.le_trans Z27 E30.1
    have pre31 : ∀ t, Steps p.tables e below (T30.setTop (mkF m 51 #[.val (.int p0), .val (.int p1), .val (.int p2), .val (.int p3), .val (.int (0 : Int32)), .val (.int ra0), .val (.int rb0), .val (.int ra1), .val (.int rb1), .val (.int ra2), .val (.int rb2), .val (.ref a27), .unset, .unset, .unset, .unset, .unset, .unset, .unset, .unset, .unset] [(.ref a30)])) t → Steps p.tables e below (s₁.setTop (entryFrame m #[(.int p0), (.int p1), (.int p2), (.int p3)] maxLocals)) t := fun t k => pre29 _ (st30 _ k)
    have V30 : Arv Z h30 a30 cA30 .double (0 : Int32) [] (.double (FP.l2d 0)) := (Arv.newD A30 (by decide)).pad (pad_rep [] (.double (FP.l2d 0)) 0)
    have pre32 : ∀ t, Steps p.tables e below (T30.setTop (mkF m 271 #[.val (.int p0), .val (.int p1), .val (.int p2), .val (.int p3), .val (.int (0 : Int32)), .val (.int ra0), .val (.int rb0), .val (.int ra1), .val (.int rb1), .val (.int ra2), .val (.int rb2), .val (.ref a27), .val (.ref a30), .val (.int (1 : Int32)), .val (.int (1 : Int32)), .val (.int (1 : Int32)), .val (.int (0 : Int32)), .val (.int (0 : Int32)), .val (.int (0 : Int32)), .val (.int (0 : Int32)), .unset] [(.ref a30), (.ref a27)])) t → Steps p.tables e below (s₁.setTop (entryFrame m #[(.int p0), (.int p1), (.int p2), (.int p3)] maxLocals)) t := fun t k => pre31 _ (by
      show Steps p.tables e below (T30.setTop (mkF m 51 #[.val (.int p0), .val (.int p1), .val (.int p2), .val (.int p3), .val (.int (0 : Int32)), .val (.int ra0), .val (.int rb0), .val (.int ra1), .val (.int rb1), .val (.int ra2), .val (.int rb2), .val (.ref a27), .unset, .unset, .unset, .unset, .unset, .unset, .unset, .unset, .unset] [(.ref a30)])) _
      refine XS.astore X30.here hx rfl (hb hby at_51) rfl rfl (l' := #[.val (.int p0), .val (.int p1), .val (.int p2), .val (.int p3), .val (.int (0 : Int32)), .val (.int ra0), .val (.int rb0), .val (.int ra1), .val (.int rb1), .val (.int ra2), .val (.int rb2), .val (.ref a27), .val (.ref a30), .unset, .unset, .unset, .unset, .unset, .unset, .unset, .unset]) rfl ?_
      show Steps p.tables e below (T30.setTop (mkF m 53 #[.val (.int p0), .val (.int p1), .val (.int p2), .val (.int p3), .val (.int (0 : Int32)), .val (.int ra0), .val (.int rb0), .val (.int ra1), .val (.int rb1), .val (.int ra2), .val (.int rb2), .val (.ref a27), .val (.ref a30), .unset, .unset, .unset, .unset, .unset, .unset, .unset, .unset] [])) _
      refine XS.iload X30.here hx rfl (hb hby at_53) rfl ?_
      show Steps p.tables e below (T30.setTop (mkF m 55 #[.val (.int p0), .val (.int p1), .val (.int p2), .val (.int p3), .val (.int (0 : Int32)), .val (.int ra0), .val (.int rb0), .val (.int ra1), .val (.int rb1), .val (.int ra2), .val (.int rb2), .val (.ref a27), .val (.ref a30), .unset, .unset, .unset, .unset, .unset, .unset, .unset, .unset] [(.int (0 : Int32))])) _
      refine XS.ifYes X30.here hx rfl (pc0 := 55) (pc' := 72) rfl (hb hby at_55) rfl (XT.i0_le_t (by decide)) (by decide) (by decide) ?_
      show Steps p.tables e below (T30.setTop (mkF m 72 #[.val (.int p0), .val (.int p1), .val (.int p2), .val (.int p3), .val (.int (0 : Int32)), .val (.int ra0), .val (.int rb0), .val (.int ra1), .val (.int rb1), .val (.int ra2), .val (.int rb2), .val (.ref a27), .val (.ref a30), .unset, .unset, .unset, .unset, .unset, .unset, .unset, .unset] [])) _
      refine XS.iload X30.here hx rfl (hb hby at_72) rfl ?_
      show Steps p.tables e below (T30.setTop (mkF m 74 #[.val (.int p0), .val (.int p1), .val (.int p2), .val (.int p3), .val (.int (0 : Int32)), .val (.int ra0), .val (.int rb0), .val (.int ra1), .val (.int rb1), .val (.int ra2), .val (.int rb2), .val (.ref a27), .val (.ref a30), .unset, .unset, .unset, .unset, .unset, .unset, .unset, .unset] [(.int (0 : Int32))])) _
      refine XT.iconstV X30.here hx rfl (1 : Int32) (hb hby at_74) rfl ?_
      show Steps p.tables e below (T30.setTop (mkF m 75 #[.val (.int p0), .val (.int p1), .val (.int p2), .val (.int p3), .val (.int (0 : Int32)), .val (.int ra0), .val (.int rb0), .val (.int ra1), .val (.int rb1), .val (.int ra2), .val (.int rb2), .val (.ref a27), .val (.ref a30), .unset, .unset, .unset, .unset, .unset, .unset, .unset, .unset] [(.int (1 : Int32)), (.int (0 : Int32))])) _
      refine XS.icmpYes X30.here hx rfl (pc0 := 75) (pc' := 92) rfl (hb hby at_75) rfl (XT.ii_le_t (by decide)) (by decide) (by decide) ?_
      show Steps p.tables e below (T30.setTop (mkF m 92 #[.val (.int p0), .val (.int p1), .val (.int p2), .val (.int p3), .val (.int (0 : Int32)), .val (.int ra0), .val (.int rb0), .val (.int ra1), .val (.int rb1), .val (.int ra2), .val (.int rb2), .val (.ref a27), .val (.ref a30), .unset, .unset, .unset, .unset, .unset, .unset, .unset, .unset] [])) _
      refine XS.iload X30.here hx rfl (hb hby at_92) rfl ?_
      show Steps p.tables e below (T30.setTop (mkF m 94 #[.val (.int p0), .val (.int p1), .val (.int p2), .val (.int p3), .val (.int (0 : Int32)), .val (.int ra0), .val (.int rb0), .val (.int ra1), .val (.int rb1), .val (.int ra2), .val (.int rb2), .val (.ref a27), .val (.ref a30), .unset, .unset, .unset, .unset, .unset, .unset, .unset, .unset] [(.int (0 : Int32))])) _
      refine XT.iconstV X30.here hx rfl (2 : Int32) (hb hby at_94) rfl ?_
      show Steps p.tables e below (T30.setTop (mkF m 95 #[.val (.int p0), .val (.int p1), .val (.int p2), .val (.int p3), .val (.int (0 : Int32)), .val (.int ra0), .val (.int rb0), .val (.int ra1), .val (.int rb1), .val (.int ra2), .val (.int rb2), .val (.ref a27), .val (.ref a30), .unset, .unset, .unset, .unset, .unset, .unset, .unset, .unset] [(.int (2 : Int32)), (.int (0 : Int32))])) _
      refine XS.icmpYes X30.here hx rfl (pc0 := 95) (pc' := 112) rfl (hb hby at_95) rfl (XT.ii_le_t (by decide)) (by decide) (by decide) ?_
      show Steps p.tables e below (T30.setTop (mkF m 112 #[.val (.int p0), .val (.int p1), .val (.int p2), .val (.int p3), .val (.int (0 : Int32)), .val (.int ra0), .val (.int rb0), .val (.int ra1), .val (.int rb1), .val (.int ra2), .val (.int rb2), .val (.ref a27), .val (.ref a30), .unset, .unset, .unset, .unset, .unset, .unset, .unset, .unset] [])) _
      refine XS.iload X30.here hx rfl (hb hby at_112) rfl ?_
      show Steps p.tables e below (T30.setTop (mkF m 114 #[.val (.int p0), .val (.int p1), .val (.int p2), .val (.int p3), .val (.int (0 : Int32)), .val (.int ra0), .val (.int rb0), .val (.int ra1), .val (.int rb1), .val (.int ra2), .val (.int rb2), .val (.ref a27), .val (.ref a30), .unset, .unset, .unset, .unset, .unset, .unset, .unset, .unset] [(.int (0 : Int32))])) _
      refine XS.ifYes X30.here hx rfl (pc0 := 114) (pc' := 124) rfl (hb hby at_114) rfl (XT.i0_le_t (by decide)) (by decide) (by decide) ?_
      show Steps p.tables e below (T30.setTop (mkF m 124 #[.val (.int p0), .val (.int p1), .val (.int p2), .val (.int p3), .val (.int (0 : Int32)), .val (.int ra0), .val (.int rb0), .val (.int ra1), .val (.int rb1), .val (.int ra2), .val (.int rb2), .val (.ref a27), .val (.ref a30), .unset, .unset, .unset, .unset, .unset, .unset, .unset, .unset] [])) _
      refine XT.iconstV X30.here hx rfl (1 : Int32) (hb hby at_124) rfl ?_
      show Steps p.tables e below (T30.setTop (mkF m 125 #[.val (.int p0), .val (.int p1), .val (.int p2), .val (.int p3), .val (.int (0 : Int32)), .val (.int ra0), .val (.int rb0), .val (.int ra1), .val (.int rb1), .val (.int ra2), .val (.int rb2), .val (.ref a27), .val (.ref a30), .unset, .unset, .unset, .unset, .unset, .unset, .unset, .unset] [(.int (1 : Int32))])) _
      refine XS.goto X30.here hx rfl (pc0 := 125) (pc' := 129) rfl (hb hby at_125) (by decide) (by decide) ?_
      show Steps p.tables e below (T30.setTop (mkF m 129 #[.val (.int p0), .val (.int p1), .val (.int p2), .val (.int p3), .val (.int (0 : Int32)), .val (.int ra0), .val (.int rb0), .val (.int ra1), .val (.int rb1), .val (.int ra2), .val (.int rb2), .val (.ref a27), .val (.ref a30), .unset, .unset, .unset, .unset, .unset, .unset, .unset, .unset] [(.int (1 : Int32))])) _
      refine XS.istore X30.here hx rfl (hb hby at_129) rfl (l' := #[.val (.int p0), .val (.int p1), .val (.int p2), .val (.int p3), .val (.int (0 : Int32)), .val (.int ra0), .val (.int rb0), .val (.int ra1), .val (.int rb1), .val (.int ra2), .val (.int rb2), .val (.ref a27), .val (.ref a30), .val (.int (1 : Int32)), .unset, .unset, .unset, .unset, .unset, .unset, .unset]) rfl ?_
      show Steps p.tables e below (T30.setTop (mkF m 131 #[.val (.int p0), .val (.int p1), .val (.int p2), .val (.int p3), .val (.int (0 : Int32)), .val (.int ra0), .val (.int rb0), .val (.int ra1), .val (.int rb1), .val (.int ra2), .val (.int rb2), .val (.ref a27), .val (.ref a30), .val (.int (1 : Int32)), .unset, .unset, .unset, .unset, .unset, .unset, .unset] [])) _
      refine XS.iload X30.here hx rfl (hb hby at_131) rfl ?_
      show Steps p.tables e below (T30.setTop (mkF m 133 #[.val (.int p0), .val (.int p1), .val (.int p2), .val (.int p3), .val (.int (0 : Int32)), .val (.int ra0), .val (.int rb0), .val (.int ra1), .val (.int rb1), .val (.int ra2), .val (.int rb2), .val (.ref a27), .val (.ref a30), .val (.int (1 : Int32)), .unset, .unset, .unset, .unset, .unset, .unset, .unset] [(.int (0 : Int32))])) _
      refine XT.iconstV X30.here hx rfl (1 : Int32) (hb hby at_133) rfl ?_
      show Steps p.tables e below (T30.setTop (mkF m 134 #[.val (.int p0), .val (.int p1), .val (.int p2), .val (.int p3), .val (.int (0 : Int32)), .val (.int ra0), .val (.int rb0), .val (.int ra1), .val (.int rb1), .val (.int ra2), .val (.int rb2), .val (.ref a27), .val (.ref a30), .val (.int (1 : Int32)), .unset, .unset, .unset, .unset, .unset, .unset, .unset] [(.int (1 : Int32)), (.int (0 : Int32))])) _
      refine XS.icmpYes X30.here hx rfl (pc0 := 134) (pc' := 144) rfl (hb hby at_134) rfl (XT.ii_le_t (by decide)) (by decide) (by decide) ?_
      show Steps p.tables e below (T30.setTop (mkF m 144 #[.val (.int p0), .val (.int p1), .val (.int p2), .val (.int p3), .val (.int (0 : Int32)), .val (.int ra0), .val (.int rb0), .val (.int ra1), .val (.int rb1), .val (.int ra2), .val (.int rb2), .val (.ref a27), .val (.ref a30), .val (.int (1 : Int32)), .unset, .unset, .unset, .unset, .unset, .unset, .unset] [])) _
      refine XT.iconstV X30.here hx rfl (1 : Int32) (hb hby at_144) rfl ?_
      show Steps p.tables e below (T30.setTop (mkF m 145 #[.val (.int p0), .val (.int p1), .val (.int p2), .val (.int p3), .val (.int (0 : Int32)), .val (.int ra0), .val (.int rb0), .val (.int ra1), .val (.int rb1), .val (.int ra2), .val (.int rb2), .val (.ref a27), .val (.ref a30), .val (.int (1 : Int32)), .unset, .unset, .unset, .unset, .unset, .unset, .unset] [(.int (1 : Int32))])) _
      refine XS.goto X30.here hx rfl (pc0 := 145) (pc' := 149) rfl (hb hby at_145) (by decide) (by decide) ?_
      show Steps p.tables e below (T30.setTop (mkF m 149 #[.val (.int p0), .val (.int p1), .val (.int p2), .val (.int p3), .val (.int (0 : Int32)), .val (.int ra0), .val (.int rb0), .val (.int ra1), .val (.int rb1), .val (.int ra2), .val (.int rb2), .val (.ref a27), .val (.ref a30), .val (.int (1 : Int32)), .unset, .unset, .unset, .unset, .unset, .unset, .unset] [(.int (1 : Int32))])) _
      refine XS.istore X30.here hx rfl (hb hby at_149) rfl (l' := #[.val (.int p0), .val (.int p1), .val (.int p2), .val (.int p3), .val (.int (0 : Int32)), .val (.int ra0), .val (.int rb0), .val (.int ra1), .val (.int rb1), .val (.int ra2), .val (.int rb2), .val (.ref a27), .val (.ref a30), .val (.int (1 : Int32)), .val (.int (1 : Int32)), .unset, .unset, .unset, .unset, .unset, .unset]) rfl ?_
      show Steps p.tables e below (T30.setTop (mkF m 151 #[.val (.int p0), .val (.int p1), .val (.int p2), .val (.int p3), .val (.int (0 : Int32)), .val (.int ra0), .val (.int rb0), .val (.int ra1), .val (.int rb1), .val (.int ra2), .val (.int rb2), .val (.ref a27), .val (.ref a30), .val (.int (1 : Int32)), .val (.int (1 : Int32)), .unset, .unset, .unset, .unset, .unset, .unset] [])) _
      refine XS.iload X30.here hx rfl (hb hby at_151) rfl ?_
      show Steps p.tables e below (T30.setTop (mkF m 153 #[.val (.int p0), .val (.int p1), .val (.int p2), .val (.int p3), .val (.int (0 : Int32)), .val (.int ra0), .val (.int rb0), .val (.int ra1), .val (.int rb1), .val (.int ra2), .val (.int rb2), .val (.ref a27), .val (.ref a30), .val (.int (1 : Int32)), .val (.int (1 : Int32)), .unset, .unset, .unset, .unset, .unset, .unset] [(.int (0 : Int32))])) _
      refine XT.iconstV X30.here hx rfl (2 : Int32) (hb hby at_153) rfl ?_
      show Steps p.tables e below (T30.setTop (mkF m 154 #[.val (.int p0), .val (.int p1), .val (.int p2), .val (.int p3), .val (.int (0 : Int32)), .val (.int ra0), .val (.int rb0), .val (.int ra1), .val (.int rb1), .val (.int ra2), .val (.int rb2), .val (.ref a27), .val (.ref a30), .val (.int (1 : Int32)), .val (.int (1 : Int32)), .unset, .unset, .unset, .unset, .unset, .unset] [(.int (2 : Int32)), (.int (0 : Int32))])) _
      refine XS.icmpYes X30.here hx rfl (pc0 := 154) (pc' := 164) rfl (hb hby at_154) rfl (XT.ii_le_t (by decide)) (by decide) (by decide) ?_
      show Steps p.tables e below (T30.setTop (mkF m 164 #[.val (.int p0), .val (.int p1), .val (.int p2), .val (.int p3), .val (.int (0 : Int32)), .val (.int ra0), .val (.int rb0), .val (.int ra1), .val (.int rb1), .val (.int ra2), .val (.int rb2), .val (.ref a27), .val (.ref a30), .val (.int (1 : Int32)), .val (.int (1 : Int32)), .unset, .unset, .unset, .unset, .unset, .unset] [])) _
      refine XT.iconstV X30.here hx rfl (1 : Int32) (hb hby at_164) rfl ?_
      show Steps p.tables e below (T30.setTop (mkF m 165 #[.val (.int p0), .val (.int p1), .val (.int p2), .val (.int p3), .val (.int (0 : Int32)), .val (.int ra0), .val (.int rb0), .val (.int ra1), .val (.int rb1), .val (.int ra2), .val (.int rb2), .val (.ref a27), .val (.ref a30), .val (.int (1 : Int32)), .val (.int (1 : Int32)), .unset, .unset, .unset, .unset, .unset, .unset] [(.int (1 : Int32))])) _
      refine XS.goto X30.here hx rfl (pc0 := 165) (pc' := 169) rfl (hb hby at_165) (by decide) (by decide) ?_
      show Steps p.tables e below (T30.setTop (mkF m 169 #[.val (.int p0), .val (.int p1), .val (.int p2), .val (.int p3), .val (.int (0 : Int32)), .val (.int ra0), .val (.int rb0), .val (.int ra1), .val (.int rb1), .val (.int ra2), .val (.int rb2), .val (.ref a27), .val (.ref a30), .val (.int (1 : Int32)), .val (.int (1 : Int32)), .unset, .unset, .unset, .unset, .unset, .unset] [(.int (1 : Int32))])) _
      refine XS.istore X30.here hx rfl (hb hby at_169) rfl (l' := #[.val (.int p0), .val (.int p1), .val (.int p2), .val (.int p3), .val (.int (0 : Int32)), .val (.int ra0), .val (.int rb0), .val (.int ra1), .val (.int rb1), .val (.int ra2), .val (.int rb2), .val (.ref a27), .val (.ref a30), .val (.int (1 : Int32)), .val (.int (1 : Int32)), .val (.int (1 : Int32)), .unset, .unset, .unset, .unset, .unset]) rfl ?_
      show Steps p.tables e below (T30.setTop (mkF m 171 #[.val (.int p0), .val (.int p1), .val (.int p2), .val (.int p3), .val (.int (0 : Int32)), .val (.int ra0), .val (.int rb0), .val (.int ra1), .val (.int rb1), .val (.int ra2), .val (.int rb2), .val (.ref a27), .val (.ref a30), .val (.int (1 : Int32)), .val (.int (1 : Int32)), .val (.int (1 : Int32)), .unset, .unset, .unset, .unset, .unset] [])) _
      refine XS.iload X30.here hx rfl (hb hby at_171) rfl ?_
      show Steps p.tables e below (T30.setTop (mkF m 173 #[.val (.int p0), .val (.int p1), .val (.int p2), .val (.int p3), .val (.int (0 : Int32)), .val (.int ra0), .val (.int rb0), .val (.int ra1), .val (.int rb1), .val (.int ra2), .val (.int rb2), .val (.ref a27), .val (.ref a30), .val (.int (1 : Int32)), .val (.int (1 : Int32)), .val (.int (1 : Int32)), .unset, .unset, .unset, .unset, .unset] [(.int (0 : Int32))])) _
      refine XS.ifYes X30.here hx rfl (pc0 := 173) (pc' := 187) rfl (hb hby at_173) rfl (XT.i0_le_t (by decide)) (by decide) (by decide) ?_
      show Steps p.tables e below (T30.setTop (mkF m 187 #[.val (.int p0), .val (.int p1), .val (.int p2), .val (.int p3), .val (.int (0 : Int32)), .val (.int ra0), .val (.int rb0), .val (.int ra1), .val (.int rb1), .val (.int ra2), .val (.int rb2), .val (.ref a27), .val (.ref a30), .val (.int (1 : Int32)), .val (.int (1 : Int32)), .val (.int (1 : Int32)), .unset, .unset, .unset, .unset, .unset] [])) _
      refine XT.iconstV X30.here hx rfl (0 : Int32) (hb hby at_187) rfl ?_
      show Steps p.tables e below (T30.setTop (mkF m 188 #[.val (.int p0), .val (.int p1), .val (.int p2), .val (.int p3), .val (.int (0 : Int32)), .val (.int ra0), .val (.int rb0), .val (.int ra1), .val (.int rb1), .val (.int ra2), .val (.int rb2), .val (.ref a27), .val (.ref a30), .val (.int (1 : Int32)), .val (.int (1 : Int32)), .val (.int (1 : Int32)), .unset, .unset, .unset, .unset, .unset] [(.int (0 : Int32))])) _
      refine XS.istore X30.here hx rfl (hb hby at_188) rfl (l' := #[.val (.int p0), .val (.int p1), .val (.int p2), .val (.int p3), .val (.int (0 : Int32)), .val (.int ra0), .val (.int rb0), .val (.int ra1), .val (.int rb1), .val (.int ra2), .val (.int rb2), .val (.ref a27), .val (.ref a30), .val (.int (1 : Int32)), .val (.int (1 : Int32)), .val (.int (1 : Int32)), .val (.int (0 : Int32)), .unset, .unset, .unset, .unset]) rfl ?_
      show Steps p.tables e below (T30.setTop (mkF m 190 #[.val (.int p0), .val (.int p1), .val (.int p2), .val (.int p3), .val (.int (0 : Int32)), .val (.int ra0), .val (.int rb0), .val (.int ra1), .val (.int rb1), .val (.int ra2), .val (.int rb2), .val (.ref a27), .val (.ref a30), .val (.int (1 : Int32)), .val (.int (1 : Int32)), .val (.int (1 : Int32)), .val (.int (0 : Int32)), .unset, .unset, .unset, .unset] [])) _
      refine XS.iload X30.here hx rfl (hb hby at_190) rfl ?_
      show Steps p.tables e below (T30.setTop (mkF m 192 #[.val (.int p0), .val (.int p1), .val (.int p2), .val (.int p3), .val (.int (0 : Int32)), .val (.int ra0), .val (.int rb0), .val (.int ra1), .val (.int rb1), .val (.int ra2), .val (.int rb2), .val (.ref a27), .val (.ref a30), .val (.int (1 : Int32)), .val (.int (1 : Int32)), .val (.int (1 : Int32)), .val (.int (0 : Int32)), .unset, .unset, .unset, .unset] [(.int (0 : Int32))])) _
      refine XT.iconstV X30.here hx rfl (1 : Int32) (hb hby at_192) rfl ?_
      show Steps p.tables e below (T30.setTop (mkF m 193 #[.val (.int p0), .val (.int p1), .val (.int p2), .val (.int p3), .val (.int (0 : Int32)), .val (.int ra0), .val (.int rb0), .val (.int ra1), .val (.int rb1), .val (.int ra2), .val (.int rb2), .val (.ref a27), .val (.ref a30), .val (.int (1 : Int32)), .val (.int (1 : Int32)), .val (.int (1 : Int32)), .val (.int (0 : Int32)), .unset, .unset, .unset, .unset] [(.int (1 : Int32)), (.int (0 : Int32))])) _
      refine XS.icmpYes X30.here hx rfl (pc0 := 193) (pc' := 207) rfl (hb hby at_193) rfl (XT.ii_le_t (by decide)) (by decide) (by decide) ?_
      show Steps p.tables e below (T30.setTop (mkF m 207 #[.val (.int p0), .val (.int p1), .val (.int p2), .val (.int p3), .val (.int (0 : Int32)), .val (.int ra0), .val (.int rb0), .val (.int ra1), .val (.int rb1), .val (.int ra2), .val (.int rb2), .val (.ref a27), .val (.ref a30), .val (.int (1 : Int32)), .val (.int (1 : Int32)), .val (.int (1 : Int32)), .val (.int (0 : Int32)), .unset, .unset, .unset, .unset] [])) _
      refine XT.iconstV X30.here hx rfl (0 : Int32) (hb hby at_207) rfl ?_
      show Steps p.tables e below (T30.setTop (mkF m 208 #[.val (.int p0), .val (.int p1), .val (.int p2), .val (.int p3), .val (.int (0 : Int32)), .val (.int ra0), .val (.int rb0), .val (.int ra1), .val (.int rb1), .val (.int ra2), .val (.int rb2), .val (.ref a27), .val (.ref a30), .val (.int (1 : Int32)), .val (.int (1 : Int32)), .val (.int (1 : Int32)), .val (.int (0 : Int32)), .unset, .unset, .unset, .unset] [(.int (0 : Int32))])) _
      refine XS.istore X30.here hx rfl (hb hby at_208) rfl (l' := #[.val (.int p0), .val (.int p1), .val (.int p2), .val (.int p3), .val (.int (0 : Int32)), .val (.int ra0), .val (.int rb0), .val (.int ra1), .val (.int rb1), .val (.int ra2), .val (.int rb2), .val (.ref a27), .val (.ref a30), .val (.int (1 : Int32)), .val (.int (1 : Int32)), .val (.int (1 : Int32)), .val (.int (0 : Int32)), .val (.int (0 : Int32)), .unset, .unset, .unset]) rfl ?_
      show Steps p.tables e below (T30.setTop (mkF m 210 #[.val (.int p0), .val (.int p1), .val (.int p2), .val (.int p3), .val (.int (0 : Int32)), .val (.int ra0), .val (.int rb0), .val (.int ra1), .val (.int rb1), .val (.int ra2), .val (.int rb2), .val (.ref a27), .val (.ref a30), .val (.int (1 : Int32)), .val (.int (1 : Int32)), .val (.int (1 : Int32)), .val (.int (0 : Int32)), .val (.int (0 : Int32)), .unset, .unset, .unset] [])) _
      refine XS.iload X30.here hx rfl (hb hby at_210) rfl ?_
      show Steps p.tables e below (T30.setTop (mkF m 212 #[.val (.int p0), .val (.int p1), .val (.int p2), .val (.int p3), .val (.int (0 : Int32)), .val (.int ra0), .val (.int rb0), .val (.int ra1), .val (.int rb1), .val (.int ra2), .val (.int rb2), .val (.ref a27), .val (.ref a30), .val (.int (1 : Int32)), .val (.int (1 : Int32)), .val (.int (1 : Int32)), .val (.int (0 : Int32)), .val (.int (0 : Int32)), .unset, .unset, .unset] [(.int (0 : Int32))])) _
      refine XT.iconstV X30.here hx rfl (2 : Int32) (hb hby at_212) rfl ?_
      show Steps p.tables e below (T30.setTop (mkF m 213 #[.val (.int p0), .val (.int p1), .val (.int p2), .val (.int p3), .val (.int (0 : Int32)), .val (.int ra0), .val (.int rb0), .val (.int ra1), .val (.int rb1), .val (.int ra2), .val (.int rb2), .val (.ref a27), .val (.ref a30), .val (.int (1 : Int32)), .val (.int (1 : Int32)), .val (.int (1 : Int32)), .val (.int (0 : Int32)), .val (.int (0 : Int32)), .unset, .unset, .unset] [(.int (2 : Int32)), (.int (0 : Int32))])) _
      refine XS.icmpYes X30.here hx rfl (pc0 := 213) (pc' := 227) rfl (hb hby at_213) rfl (XT.ii_le_t (by decide)) (by decide) (by decide) ?_
      show Steps p.tables e below (T30.setTop (mkF m 227 #[.val (.int p0), .val (.int p1), .val (.int p2), .val (.int p3), .val (.int (0 : Int32)), .val (.int ra0), .val (.int rb0), .val (.int ra1), .val (.int rb1), .val (.int ra2), .val (.int rb2), .val (.ref a27), .val (.ref a30), .val (.int (1 : Int32)), .val (.int (1 : Int32)), .val (.int (1 : Int32)), .val (.int (0 : Int32)), .val (.int (0 : Int32)), .unset, .unset, .unset] [])) _
      refine XT.iconstV X30.here hx rfl (0 : Int32) (hb hby at_227) rfl ?_
      show Steps p.tables e below (T30.setTop (mkF m 228 #[.val (.int p0), .val (.int p1), .val (.int p2), .val (.int p3), .val (.int (0 : Int32)), .val (.int ra0), .val (.int rb0), .val (.int ra1), .val (.int rb1), .val (.int ra2), .val (.int rb2), .val (.ref a27), .val (.ref a30), .val (.int (1 : Int32)), .val (.int (1 : Int32)), .val (.int (1 : Int32)), .val (.int (0 : Int32)), .val (.int (0 : Int32)), .unset, .unset, .unset] [(.int (0 : Int32))])) _
      refine XS.istore X30.here hx rfl (hb hby at_228) rfl (l' := #[.val (.int p0), .val (.int p1), .val (.int p2), .val (.int p3), .val (.int (0 : Int32)), .val (.int ra0), .val (.int rb0), .val (.int ra1), .val (.int rb1), .val (.int ra2), .val (.int rb2), .val (.ref a27), .val (.ref a30), .val (.int (1 : Int32)), .val (.int (1 : Int32)), .val (.int (1 : Int32)), .val (.int (0 : Int32)), .val (.int (0 : Int32)), .val (.int (0 : Int32)), .unset, .unset]) rfl ?_
      show Steps p.tables e below (T30.setTop (mkF m 230 #[.val (.int p0), .val (.int p1), .val (.int p2), .val (.int p3), .val (.int (0 : Int32)), .val (.int ra0), .val (.int rb0), .val (.int ra1), .val (.int rb1), .val (.int ra2), .val (.int rb2), .val (.ref a27), .val (.ref a30), .val (.int (1 : Int32)), .val (.int (1 : Int32)), .val (.int (1 : Int32)), .val (.int (0 : Int32)), .val (.int (0 : Int32)), .val (.int (0 : Int32)), .unset, .unset] [])) _
      refine XS.iload X30.here hx rfl (hb hby at_230) rfl ?_
      show Steps p.tables e below (T30.setTop (mkF m 232 #[.val (.int p0), .val (.int p1), .val (.int p2), .val (.int p3), .val (.int (0 : Int32)), .val (.int ra0), .val (.int rb0), .val (.int ra1), .val (.int rb1), .val (.int ra2), .val (.int rb2), .val (.ref a27), .val (.ref a30), .val (.int (1 : Int32)), .val (.int (1 : Int32)), .val (.int (1 : Int32)), .val (.int (0 : Int32)), .val (.int (0 : Int32)), .val (.int (0 : Int32)), .unset, .unset] [(.int (1 : Int32))])) _
      refine XS.ifNo X30.here hx rfl (hb hby at_232) rfl (XT.i0_eq_f (by decide)) ?_
      show Steps p.tables e below (T30.setTop (mkF m 235 #[.val (.int p0), .val (.int p1), .val (.int p2), .val (.int p3), .val (.int (0 : Int32)), .val (.int ra0), .val (.int rb0), .val (.int ra1), .val (.int rb1), .val (.int ra2), .val (.int rb2), .val (.ref a27), .val (.ref a30), .val (.int (1 : Int32)), .val (.int (1 : Int32)), .val (.int (1 : Int32)), .val (.int (0 : Int32)), .val (.int (0 : Int32)), .val (.int (0 : Int32)), .unset, .unset] [])) _
      refine XS.iload X30.here hx rfl (hb hby at_235) rfl ?_
      show Steps p.tables e below (T30.setTop (mkF m 237 #[.val (.int p0), .val (.int p1), .val (.int p2), .val (.int p3), .val (.int (0 : Int32)), .val (.int ra0), .val (.int rb0), .val (.int ra1), .val (.int rb1), .val (.int ra2), .val (.int rb2), .val (.ref a27), .val (.ref a30), .val (.int (1 : Int32)), .val (.int (1 : Int32)), .val (.int (1 : Int32)), .val (.int (0 : Int32)), .val (.int (0 : Int32)), .val (.int (0 : Int32)), .unset, .unset] [(.int (1 : Int32))])) _
      refine XS.ifNo X30.here hx rfl (hb hby at_237) rfl (XT.i0_eq_f (by decide)) ?_
      show Steps p.tables e below (T30.setTop (mkF m 240 #[.val (.int p0), .val (.int p1), .val (.int p2), .val (.int p3), .val (.int (0 : Int32)), .val (.int ra0), .val (.int rb0), .val (.int ra1), .val (.int rb1), .val (.int ra2), .val (.int rb2), .val (.ref a27), .val (.ref a30), .val (.int (1 : Int32)), .val (.int (1 : Int32)), .val (.int (1 : Int32)), .val (.int (0 : Int32)), .val (.int (0 : Int32)), .val (.int (0 : Int32)), .unset, .unset] [])) _
      refine XS.iload X30.here hx rfl (hb hby at_240) rfl ?_
      show Steps p.tables e below (T30.setTop (mkF m 242 #[.val (.int p0), .val (.int p1), .val (.int p2), .val (.int p3), .val (.int (0 : Int32)), .val (.int ra0), .val (.int rb0), .val (.int ra1), .val (.int rb1), .val (.int ra2), .val (.int rb2), .val (.ref a27), .val (.ref a30), .val (.int (1 : Int32)), .val (.int (1 : Int32)), .val (.int (1 : Int32)), .val (.int (0 : Int32)), .val (.int (0 : Int32)), .val (.int (0 : Int32)), .unset, .unset] [(.int (1 : Int32))])) _
      refine XS.ifNo X30.here hx rfl (hb hby at_242) rfl (XT.i0_eq_f (by decide)) ?_
      show Steps p.tables e below (T30.setTop (mkF m 245 #[.val (.int p0), .val (.int p1), .val (.int p2), .val (.int p3), .val (.int (0 : Int32)), .val (.int ra0), .val (.int rb0), .val (.int ra1), .val (.int rb1), .val (.int ra2), .val (.int rb2), .val (.ref a27), .val (.ref a30), .val (.int (1 : Int32)), .val (.int (1 : Int32)), .val (.int (1 : Int32)), .val (.int (0 : Int32)), .val (.int (0 : Int32)), .val (.int (0 : Int32)), .unset, .unset] [])) _
      refine XS.iload X30.here hx rfl (hb hby at_245) rfl ?_
      show Steps p.tables e below (T30.setTop (mkF m 247 #[.val (.int p0), .val (.int p1), .val (.int p2), .val (.int p3), .val (.int (0 : Int32)), .val (.int ra0), .val (.int rb0), .val (.int ra1), .val (.int rb1), .val (.int ra2), .val (.int rb2), .val (.ref a27), .val (.ref a30), .val (.int (1 : Int32)), .val (.int (1 : Int32)), .val (.int (1 : Int32)), .val (.int (0 : Int32)), .val (.int (0 : Int32)), .val (.int (0 : Int32)), .unset, .unset] [(.int (0 : Int32))])) _
      refine XS.ifNo X30.here hx rfl (hb hby at_247) rfl (XT.i0_ne_f (by decide)) ?_
      show Steps p.tables e below (T30.setTop (mkF m 250 #[.val (.int p0), .val (.int p1), .val (.int p2), .val (.int p3), .val (.int (0 : Int32)), .val (.int ra0), .val (.int rb0), .val (.int ra1), .val (.int rb1), .val (.int ra2), .val (.int rb2), .val (.ref a27), .val (.ref a30), .val (.int (1 : Int32)), .val (.int (1 : Int32)), .val (.int (1 : Int32)), .val (.int (0 : Int32)), .val (.int (0 : Int32)), .val (.int (0 : Int32)), .unset, .unset] [])) _
      refine XS.iload X30.here hx rfl (hb hby at_250) rfl ?_
      show Steps p.tables e below (T30.setTop (mkF m 252 #[.val (.int p0), .val (.int p1), .val (.int p2), .val (.int p3), .val (.int (0 : Int32)), .val (.int ra0), .val (.int rb0), .val (.int ra1), .val (.int rb1), .val (.int ra2), .val (.int rb2), .val (.ref a27), .val (.ref a30), .val (.int (1 : Int32)), .val (.int (1 : Int32)), .val (.int (1 : Int32)), .val (.int (0 : Int32)), .val (.int (0 : Int32)), .val (.int (0 : Int32)), .unset, .unset] [(.int (0 : Int32))])) _
      refine XS.ifNo X30.here hx rfl (hb hby at_252) rfl (XT.i0_ne_f (by decide)) ?_
      show Steps p.tables e below (T30.setTop (mkF m 255 #[.val (.int p0), .val (.int p1), .val (.int p2), .val (.int p3), .val (.int (0 : Int32)), .val (.int ra0), .val (.int rb0), .val (.int ra1), .val (.int rb1), .val (.int ra2), .val (.int rb2), .val (.ref a27), .val (.ref a30), .val (.int (1 : Int32)), .val (.int (1 : Int32)), .val (.int (1 : Int32)), .val (.int (0 : Int32)), .val (.int (0 : Int32)), .val (.int (0 : Int32)), .unset, .unset] [])) _
      refine XS.iload X30.here hx rfl (hb hby at_255) rfl ?_
      show Steps p.tables e below (T30.setTop (mkF m 257 #[.val (.int p0), .val (.int p1), .val (.int p2), .val (.int p3), .val (.int (0 : Int32)), .val (.int ra0), .val (.int rb0), .val (.int ra1), .val (.int rb1), .val (.int ra2), .val (.int rb2), .val (.ref a27), .val (.ref a30), .val (.int (1 : Int32)), .val (.int (1 : Int32)), .val (.int (1 : Int32)), .val (.int (0 : Int32)), .val (.int (0 : Int32)), .val (.int (0 : Int32)), .unset, .unset] [(.int (0 : Int32))])) _
      refine XS.ifYes X30.here hx rfl (pc0 := 257) (pc' := 264) rfl (hb hby at_257) rfl (XT.i0_eq_t (by decide)) (by decide) (by decide) ?_
      show Steps p.tables e below (T30.setTop (mkF m 264 #[.val (.int p0), .val (.int p1), .val (.int p2), .val (.int p3), .val (.int (0 : Int32)), .val (.int ra0), .val (.int rb0), .val (.int ra1), .val (.int rb1), .val (.int ra2), .val (.int rb2), .val (.ref a27), .val (.ref a30), .val (.int (1 : Int32)), .val (.int (1 : Int32)), .val (.int (1 : Int32)), .val (.int (0 : Int32)), .val (.int (0 : Int32)), .val (.int (0 : Int32)), .unset, .unset] [])) _
      refine XT.iconstV X30.here hx rfl (0 : Int32) (hb hby at_264) rfl ?_
      show Steps p.tables e below (T30.setTop (mkF m 265 #[.val (.int p0), .val (.int p1), .val (.int p2), .val (.int p3), .val (.int (0 : Int32)), .val (.int ra0), .val (.int rb0), .val (.int ra1), .val (.int rb1), .val (.int ra2), .val (.int rb2), .val (.ref a27), .val (.ref a30), .val (.int (1 : Int32)), .val (.int (1 : Int32)), .val (.int (1 : Int32)), .val (.int (0 : Int32)), .val (.int (0 : Int32)), .val (.int (0 : Int32)), .unset, .unset] [(.int (0 : Int32))])) _
      refine XS.istore X30.here hx rfl (hb hby at_265) rfl (l' := #[.val (.int p0), .val (.int p1), .val (.int p2), .val (.int p3), .val (.int (0 : Int32)), .val (.int ra0), .val (.int rb0), .val (.int ra1), .val (.int rb1), .val (.int ra2), .val (.int rb2), .val (.ref a27), .val (.ref a30), .val (.int (1 : Int32)), .val (.int (1 : Int32)), .val (.int (1 : Int32)), .val (.int (0 : Int32)), .val (.int (0 : Int32)), .val (.int (0 : Int32)), .val (.int (0 : Int32)), .unset]) rfl ?_
      show Steps p.tables e below (T30.setTop (mkF m 267 #[.val (.int p0), .val (.int p1), .val (.int p2), .val (.int p3), .val (.int (0 : Int32)), .val (.int ra0), .val (.int rb0), .val (.int ra1), .val (.int rb1), .val (.int ra2), .val (.int rb2), .val (.ref a27), .val (.ref a30), .val (.int (1 : Int32)), .val (.int (1 : Int32)), .val (.int (1 : Int32)), .val (.int (0 : Int32)), .val (.int (0 : Int32)), .val (.int (0 : Int32)), .val (.int (0 : Int32)), .unset] [])) _
      refine XS.aload X30.here hx rfl (hb hby at_267) rfl rfl ?_
      show Steps p.tables e below (T30.setTop (mkF m 269 #[.val (.int p0), .val (.int p1), .val (.int p2), .val (.int p3), .val (.int (0 : Int32)), .val (.int ra0), .val (.int rb0), .val (.int ra1), .val (.int rb1), .val (.int ra2), .val (.int rb2), .val (.ref a27), .val (.ref a30), .val (.int (1 : Int32)), .val (.int (1 : Int32)), .val (.int (1 : Int32)), .val (.int (0 : Int32)), .val (.int (0 : Int32)), .val (.int (0 : Int32)), .val (.int (0 : Int32)), .unset] [(.ref a27)])) _
      refine XS.aload X30.here hx rfl (hb hby at_269) rfl rfl ?_
      exact k)
    obtain ⟨_, _, ⟨T33, L33, k33, n33⟩, -, X33, ⟨Lc33, hQ33, l33, y33, z33⟩, st33⟩ := Jvm.LawKit.callS X30 hx (y := (⟨"com/example/cultivar/cultivar/Pareto", "dominates", "([D[D)Z"⟩ : MethodName)) hown (mvT hZ (hw _ (List.mem_of_getElem? (i := 8) rfl))) (mvT hZ (hw _ (List.mem_of_getElem? (i := 9) rfl))) (mvT hZ (hw _ (List.mem_of_getElem? (i := 10) rfl))) (mvT hZ (hw _ (List.mem_of_getElem? (i := 11) rfl))) (by decide) (backOf (W := 0) (own_dom0 l Z a0 hw [] a27 a30 cA27 cA30   h30 n0 Z30 (V27.ext E30) V30) hZ (hw _ (List.mem_of_getElem? (i := 11) rfl)) (hw _ (List.mem_of_getElem? (i := 10) rfl)) (by decide) (by decide)) (g := (mkF m 271 #[.val (.int p0), .val (.int p1), .val (.int p2), .val (.int p3), .val (.int (0 : Int32)), .val (.int ra0), .val (.int rb0), .val (.int ra1), .val (.int rb1), .val (.int ra2), .val (.int rb2), .val (.ref a27), .val (.ref a30), .val (.int (1 : Int32)), .val (.int (1 : Int32)), .val (.int (1 : Int32)), .val (.int (0 : Int32)), .val (.int (0 : Int32)), .val (.int (0 : Int32)), .val (.int (0 : Int32)), .unset] [(.ref a30), (.ref a27)])) rfl (by rw [hml]; rfl) (argsL := [(.ref a27), (.ref a30)]) (rest := []) (lenOf own_pd___D_D_Z rfl) rfl (by show 2 * 0 + _ ≤ _; exact Nat.le_of_eq rfl) (hb hby at_271) (fun _ _ => ⟨rfl, e30, (by decide : 2 + 0 ≤ _), (by decide : 0 + 0 ≤ _)⟩)
    dsimp only [Pt.U, Pt.locs, Pt.cells, Pt.slots] at X33 l33 y33 z33 st33 hQ33
    subst l33 y33 z33
    obtain ⟨rfl, N33q, e33⟩ := hQ33
    have N33 := Fr.app N22 N33q
    have pre34 : ∀ t, Steps p.tables e below (T33.setTop (mkF m 274 #[.val (.int p0), .val (.int p1), .val (.int p2), .val (.int p3), .val (.int (0 : Int32)), .val (.int ra0), .val (.int rb0), .val (.int ra1), .val (.int rb1), .val (.int ra2), .val (.int rb2), .val (.ref a27), .val (.ref a30), .val (.int (1 : Int32)), .val (.int (1 : Int32)), .val (.int (1 : Int32)), .val (.int (0 : Int32)), .val (.int (0 : Int32)), .val (.int (0 : Int32)), .val (.int (0 : Int32)), .unset] [(.int (own_dom [] []))])) t → Steps p.tables e below (s₁.setTop (entryFrame m #[(.int p0), (.int p1), (.int p2), (.int p3)] maxLocals)) t := fun t k => pre32 _ (st33 _ k)
    have pre35 : ∀ t, Steps p.tables e below (T33.setTop (mkF m 288 #[.val (.int p0), .val (.int p1), .val (.int p2), .val (.int p3), .val (.int (0 : Int32)), .val (.int ra0), .val (.int rb0), .val (.int ra1), .val (.int rb1), .val (.int ra2), .val (.int rb2), .val (.ref a27), .val (.ref a30), .val (.int (1 : Int32)), .val (.int (1 : Int32)), .val (.int (1 : Int32)), .val (.int (0 : Int32)), .val (.int (0 : Int32)), .val (.int (0 : Int32)), .val (.int (0 : Int32)), .val (.int (own_dom [] []))] [(.int (1 : Int32))])) t → Steps p.tables e below (s₁.setTop (entryFrame m #[(.int p0), (.int p1), (.int p2), (.int p3)] maxLocals)) t := fun t k => pre34 _ (by
      show Steps p.tables e below (T33.setTop (mkF m 274 #[.val (.int p0), .val (.int p1), .val (.int p2), .val (.int p3), .val (.int (0 : Int32)), .val (.int ra0), .val (.int rb0), .val (.int ra1), .val (.int rb1), .val (.int ra2), .val (.int rb2), .val (.ref a27), .val (.ref a30), .val (.int (1 : Int32)), .val (.int (1 : Int32)), .val (.int (1 : Int32)), .val (.int (0 : Int32)), .val (.int (0 : Int32)), .val (.int (0 : Int32)), .val (.int (0 : Int32)), .unset] [(.int (own_dom [] []))])) _
      refine XS.istore X33.here hx rfl (hb hby at_274) rfl (l' := #[.val (.int p0), .val (.int p1), .val (.int p2), .val (.int p3), .val (.int (0 : Int32)), .val (.int ra0), .val (.int rb0), .val (.int ra1), .val (.int rb1), .val (.int ra2), .val (.int rb2), .val (.ref a27), .val (.ref a30), .val (.int (1 : Int32)), .val (.int (1 : Int32)), .val (.int (1 : Int32)), .val (.int (0 : Int32)), .val (.int (0 : Int32)), .val (.int (0 : Int32)), .val (.int (0 : Int32)), .val (.int (own_dom [] []))]) rfl ?_
      show Steps p.tables e below (T33.setTop (mkF m 276 #[.val (.int p0), .val (.int p1), .val (.int p2), .val (.int p3), .val (.int (0 : Int32)), .val (.int ra0), .val (.int rb0), .val (.int ra1), .val (.int rb1), .val (.int ra2), .val (.int rb2), .val (.ref a27), .val (.ref a30), .val (.int (1 : Int32)), .val (.int (1 : Int32)), .val (.int (1 : Int32)), .val (.int (0 : Int32)), .val (.int (0 : Int32)), .val (.int (0 : Int32)), .val (.int (0 : Int32)), .val (.int (own_dom [] []))] [])) _
      refine XS.iload X33.here hx rfl (hb hby at_276) rfl ?_
      show Steps p.tables e below (T33.setTop (mkF m 278 #[.val (.int p0), .val (.int p1), .val (.int p2), .val (.int p3), .val (.int (0 : Int32)), .val (.int ra0), .val (.int rb0), .val (.int ra1), .val (.int rb1), .val (.int ra2), .val (.int rb2), .val (.ref a27), .val (.ref a30), .val (.int (1 : Int32)), .val (.int (1 : Int32)), .val (.int (1 : Int32)), .val (.int (0 : Int32)), .val (.int (0 : Int32)), .val (.int (0 : Int32)), .val (.int (0 : Int32)), .val (.int (own_dom [] []))] [(.int (own_dom [] []))])) _
      refine XS.iload X33.here hx rfl (hb hby at_278) rfl ?_
      show Steps p.tables e below (T33.setTop (mkF m 280 #[.val (.int p0), .val (.int p1), .val (.int p2), .val (.int p3), .val (.int (0 : Int32)), .val (.int ra0), .val (.int rb0), .val (.int ra1), .val (.int rb1), .val (.int ra2), .val (.int rb2), .val (.ref a27), .val (.ref a30), .val (.int (1 : Int32)), .val (.int (1 : Int32)), .val (.int (1 : Int32)), .val (.int (0 : Int32)), .val (.int (0 : Int32)), .val (.int (0 : Int32)), .val (.int (0 : Int32)), .val (.int (own_dom [] []))] [(.int (0 : Int32)), (.int (own_dom [] []))])) _
      refine XS.icmpNo X33.here hx rfl (hb hby at_280) rfl (XT.ii_ne_f (by decide)) ?_
      show Steps p.tables e below (T33.setTop (mkF m 283 #[.val (.int p0), .val (.int p1), .val (.int p2), .val (.int p3), .val (.int (0 : Int32)), .val (.int ra0), .val (.int rb0), .val (.int ra1), .val (.int rb1), .val (.int ra2), .val (.int rb2), .val (.ref a27), .val (.ref a30), .val (.int (1 : Int32)), .val (.int (1 : Int32)), .val (.int (1 : Int32)), .val (.int (0 : Int32)), .val (.int (0 : Int32)), .val (.int (0 : Int32)), .val (.int (0 : Int32)), .val (.int (own_dom [] []))] [])) _
      refine XT.iconstV X33.here hx rfl (1 : Int32) (hb hby at_283) rfl ?_
      show Steps p.tables e below (T33.setTop (mkF m 284 #[.val (.int p0), .val (.int p1), .val (.int p2), .val (.int p3), .val (.int (0 : Int32)), .val (.int ra0), .val (.int rb0), .val (.int ra1), .val (.int rb1), .val (.int ra2), .val (.int rb2), .val (.ref a27), .val (.ref a30), .val (.int (1 : Int32)), .val (.int (1 : Int32)), .val (.int (1 : Int32)), .val (.int (0 : Int32)), .val (.int (0 : Int32)), .val (.int (0 : Int32)), .val (.int (0 : Int32)), .val (.int (own_dom [] []))] [(.int (1 : Int32))])) _
      refine XS.goto X33.here hx rfl (pc0 := 284) (pc' := 288) rfl (hb hby at_284) (by decide) (by decide) ?_
      exact k)
    obtain ⟨fs, hr, hrun, hended, hW, hsame⟩ := X33.leave (v := some (.int (1 : Int32))) (fun h => by rw [Bd.returns] at h; cases h)
    refine ⟨_, _, pre35 _ ?_, hrun, hended, _, _, rfl, ?_, ⟨_, rfl⟩, hW, hsame.mono (by decide) (by decide)⟩
    · show Steps p.tables e below (T33.setTop (mkF m 288 #[.val (.int p0), .val (.int p1), .val (.int p2), .val (.int p3), .val (.int (0 : Int32)), .val (.int ra0), .val (.int rb0), .val (.int ra1), .val (.int rb1), .val (.int ra2), .val (.int rb2), .val (.ref a27), .val (.ref a30), .val (.int (1 : Int32)), .val (.int (1 : Int32)), .val (.int (1 : Int32)), .val (.int (0 : Int32)), .val (.int (0 : Int32)), .val (.int (0 : Int32)), .val (.int (0 : Int32)), .val (.int (own_dom [] []))] [(.int (1 : Int32))])) _
      exact retN X33 hx (t := .boolean) Bd.returns (by simp) (hb hby at_288) hr
    · show Q_own_law Z p0 p1 p2 p3 h0 n0 _ T33.heap _
      rw [e33]
      exact ⟨rfl, N33⟩
  · subst hcs
    obtain ⟨T36, h36, cA36, X36, e36, E36, A36, st36⟩ := newP X22 hx hZ (aty := .double) (hw _ (List.mem_of_getElem? (i := 7) rfl)) e22 (g := (mkF m 43 #[.val (.int p0), .val (.int p1), .val (.int p2), .val (.int p3), .val (.int (1 : Int32)), .val (.int ra0), .val (.int rb0), .val (.int ra1), .val (.int rb1), .val (.int ra2), .val (.int rb2), .unset, .unset, .unset, .unset, .unset, .unset, .unset, .unset, .unset, .unset] [(.int (1 : Int32))])) rfl (hb hby at_43) rfl (by decide) (cap := 1) (by decide) (by decide) (by decide) (by decide)
    obtain ⟨a36, ga36⟩ : ∃ z, z = h0.size := ⟨_, rfl⟩
    rw [← ga36] at A36 st36
    have ge_a36 : n0 ≤ a36 := Nat.le_trans Z0 (Nat.le_of_eq ga36.symm)
    have Z36 : n0 ≤ h36.size := Nat.le_trans Z0 E36.1
    have pre37 : ∀ t, Steps p.tables e below (T36.setTop (mkF m 45 #[.val (.int p0), .val (.int p1), .val (.int p2), .val (.int p3), .val (.int (1 : Int32)), .val (.int ra0), .val (.int rb0), .val (.int ra1), .val (.int rb1), .val (.int ra2), .val (.int rb2), .unset, .unset, .unset, .unset, .unset, .unset, .unset, .unset, .unset, .unset] [(.ref a36)])) t → Steps p.tables e below (s₁.setTop (entryFrame m #[(.int p0), (.int p1), (.int p2), (.int p3)] maxLocals)) t := fun t k => pre26 _ (st36 _ k)
    have V36 : Arv Z h36 a36 cA36 .double (1 : Int32) [(.double (FP.l2d 0))] (.double (FP.l2d 0)) := (Arv.newD A36 (by decide)).pad (pad_rep [] (.double (FP.l2d 0)) 1)
    have pre38 : ∀ t, Steps p.tables e below (T36.setTop (mkF m 49 #[.val (.int p0), .val (.int p1), .val (.int p2), .val (.int p3), .val (.int (1 : Int32)), .val (.int ra0), .val (.int rb0), .val (.int ra1), .val (.int rb1), .val (.int ra2), .val (.int rb2), .val (.ref a36), .unset, .unset, .unset, .unset, .unset, .unset, .unset, .unset, .unset] [(.int (1 : Int32))])) t → Steps p.tables e below (s₁.setTop (entryFrame m #[(.int p0), (.int p1), (.int p2), (.int p3)] maxLocals)) t := fun t k => pre37 _ (by
      show Steps p.tables e below (T36.setTop (mkF m 45 #[.val (.int p0), .val (.int p1), .val (.int p2), .val (.int p3), .val (.int (1 : Int32)), .val (.int ra0), .val (.int rb0), .val (.int ra1), .val (.int rb1), .val (.int ra2), .val (.int rb2), .unset, .unset, .unset, .unset, .unset, .unset, .unset, .unset, .unset, .unset] [(.ref a36)])) _
      refine XS.astore X36.here hx rfl (hb hby at_45) rfl rfl (l' := #[.val (.int p0), .val (.int p1), .val (.int p2), .val (.int p3), .val (.int (1 : Int32)), .val (.int ra0), .val (.int rb0), .val (.int ra1), .val (.int rb1), .val (.int ra2), .val (.int rb2), .val (.ref a36), .unset, .unset, .unset, .unset, .unset, .unset, .unset, .unset, .unset]) rfl ?_
      show Steps p.tables e below (T36.setTop (mkF m 47 #[.val (.int p0), .val (.int p1), .val (.int p2), .val (.int p3), .val (.int (1 : Int32)), .val (.int ra0), .val (.int rb0), .val (.int ra1), .val (.int rb1), .val (.int ra2), .val (.int rb2), .val (.ref a36), .unset, .unset, .unset, .unset, .unset, .unset, .unset, .unset, .unset] [])) _
      refine XS.iload X36.here hx rfl (hb hby at_47) rfl ?_
      exact k)
    obtain ⟨T39, h39, cA39, X39, e39, E39, A39, st39⟩ := newP X36 hx hZ (aty := .double) (hw _ (List.mem_of_getElem? (i := 7) rfl)) e36 (g := (mkF m 49 #[.val (.int p0), .val (.int p1), .val (.int p2), .val (.int p3), .val (.int (1 : Int32)), .val (.int ra0), .val (.int rb0), .val (.int ra1), .val (.int rb1), .val (.int ra2), .val (.int rb2), .val (.ref a36), .unset, .unset, .unset, .unset, .unset, .unset, .unset, .unset, .unset] [(.int (1 : Int32))])) rfl (hb hby at_49) rfl (by decide) (cap := 1) (by decide) (by decide) (by decide) (by decide)
    obtain ⟨a39, ga39⟩ : ∃ z, z = h36.size := ⟨_, rfl⟩
    rw [← ga39] at A39 st39
    have lt_a36_a39 : a36 < a39 := Nat.lt_of_lt_of_eq V36.lt ga39.symm
    have ne_a36_a39 : a36 ≠ a39 := Nat.ne_of_lt lt_a36_a39
    have ge_a39 : n0 ≤ a39 := Nat.le_trans Z36 (Nat.le_of_eq ga39.symm)
    have Z39 : n0 ≤ h39.size := Nat.le_trans Z36 E39.1
    have pre40 : ∀ t, Steps p.tables e below (T39.setTop (mkF m 51 #[.val (.int p0), .val (.int p1), .val (.int p2), .val (.int p3), .val (.int (1 : Int32)), .val (.int ra0), .val (.int rb0), .val (.int ra1), .val (.int rb1), .val (.int ra2), .val (.int rb2), .val (.ref a36), .unset, .unset, .unset, .unset, .unset, .unset, .unset, .unset, .unset] [(.ref a39)])) t → Steps p.tables e below (s₁.setTop (entryFrame m #[(.int p0), (.int p1), (.int p2), (.int p3)] maxLocals)) t := fun t k => pre38 _ (st39 _ k)
    have V39 : Arv Z h39 a39 cA39 .double (1 : Int32) [(.double (FP.l2d 0))] (.double (FP.l2d 0)) := (Arv.newD A39 (by decide)).pad (pad_rep [] (.double (FP.l2d 0)) 1)
    have pre41 : ∀ t, Steps p.tables e below (T39.setTop (mkF m 64 #[.val (.int p0), .val (.int p1), .val (.int p2), .val (.int p3), .val (.int (1 : Int32)), .val (.int ra0), .val (.int rb0), .val (.int ra1), .val (.int rb1), .val (.int ra2), .val (.int rb2), .val (.ref a36), .val (.ref a39), .unset, .unset, .unset, .unset, .unset, .unset, .unset, .unset] [(.double (FP.l2d (ra0.toInt64))), (.int (0 : Int32)), (.ref a36)])) t → Steps p.tables e below (s₁.setTop (entryFrame m #[(.int p0), (.int p1), (.int p2), (.int p3)] maxLocals)) t := fun t k => pre40 _ (by
      show Steps p.tables e below (T39.setTop (mkF m 51 #[.val (.int p0), .val (.int p1), .val (.int p2), .val (.int p3), .val (.int (1 : Int32)), .val (.int ra0), .val (.int rb0), .val (.int ra1), .val (.int rb1), .val (.int ra2), .val (.int rb2), .val (.ref a36), .unset, .unset, .unset, .unset, .unset, .unset, .unset, .unset, .unset] [(.ref a39)])) _
      refine XS.astore X39.here hx rfl (hb hby at_51) rfl rfl (l' := #[.val (.int p0), .val (.int p1), .val (.int p2), .val (.int p3), .val (.int (1 : Int32)), .val (.int ra0), .val (.int rb0), .val (.int ra1), .val (.int rb1), .val (.int ra2), .val (.int rb2), .val (.ref a36), .val (.ref a39), .unset, .unset, .unset, .unset, .unset, .unset, .unset, .unset]) rfl ?_
      show Steps p.tables e below (T39.setTop (mkF m 53 #[.val (.int p0), .val (.int p1), .val (.int p2), .val (.int p3), .val (.int (1 : Int32)), .val (.int ra0), .val (.int rb0), .val (.int ra1), .val (.int rb1), .val (.int ra2), .val (.int rb2), .val (.ref a36), .val (.ref a39), .unset, .unset, .unset, .unset, .unset, .unset, .unset, .unset] [])) _
      refine XS.iload X39.here hx rfl (hb hby at_53) rfl ?_
      show Steps p.tables e below (T39.setTop (mkF m 55 #[.val (.int p0), .val (.int p1), .val (.int p2), .val (.int p3), .val (.int (1 : Int32)), .val (.int ra0), .val (.int rb0), .val (.int ra1), .val (.int rb1), .val (.int ra2), .val (.int rb2), .val (.ref a36), .val (.ref a39), .unset, .unset, .unset, .unset, .unset, .unset, .unset, .unset] [(.int (1 : Int32))])) _
      refine XS.ifNo X39.here hx rfl (hb hby at_55) rfl (XT.i0_le_f (by decide)) ?_
      show Steps p.tables e below (T39.setTop (mkF m 58 #[.val (.int p0), .val (.int p1), .val (.int p2), .val (.int p3), .val (.int (1 : Int32)), .val (.int ra0), .val (.int rb0), .val (.int ra1), .val (.int rb1), .val (.int ra2), .val (.int rb2), .val (.ref a36), .val (.ref a39), .unset, .unset, .unset, .unset, .unset, .unset, .unset, .unset] [])) _
      refine XS.aload X39.here hx rfl (hb hby at_58) rfl rfl ?_
      show Steps p.tables e below (T39.setTop (mkF m 60 #[.val (.int p0), .val (.int p1), .val (.int p2), .val (.int p3), .val (.int (1 : Int32)), .val (.int ra0), .val (.int rb0), .val (.int ra1), .val (.int rb1), .val (.int ra2), .val (.int rb2), .val (.ref a36), .val (.ref a39), .unset, .unset, .unset, .unset, .unset, .unset, .unset, .unset] [(.ref a36)])) _
      refine XT.iconstV X39.here hx rfl (0 : Int32) (hb hby at_60) rfl ?_
      show Steps p.tables e below (T39.setTop (mkF m 61 #[.val (.int p0), .val (.int p1), .val (.int p2), .val (.int p3), .val (.int (1 : Int32)), .val (.int ra0), .val (.int rb0), .val (.int ra1), .val (.int rb1), .val (.int ra2), .val (.int rb2), .val (.ref a36), .val (.ref a39), .unset, .unset, .unset, .unset, .unset, .unset, .unset, .unset] [(.int (0 : Int32)), (.ref a36)])) _
      refine XS.iload X39.here hx rfl (hb hby at_61) rfl ?_
      show Steps p.tables e below (T39.setTop (mkF m 63 #[.val (.int p0), .val (.int p1), .val (.int p2), .val (.int p3), .val (.int (1 : Int32)), .val (.int ra0), .val (.int rb0), .val (.int ra1), .val (.int rb1), .val (.int ra2), .val (.int rb2), .val (.ref a36), .val (.ref a39), .unset, .unset, .unset, .unset, .unset, .unset, .unset, .unset] [(.int ra0), (.int (0 : Int32)), (.ref a36)])) _
      refine XS.i2dS X39.here hx rfl (hb hby at_63) rfl (i2d_w ra0) ?_
      exact k)
    obtain ⟨cl42, Ar42, qc42, Sz42, Mz42, Hs42, Uf42⟩ := (show Arv Z h39 a36 cA36 .double (1 : Int32) [(.double (FP.l2d 0))] (.double (FP.l2d 0)) from (V36.ext E39))
    have in43 : ¬ ((0 : Int32) < 0 ∨ cl42.slots.size ≤ ((0 : Int32)).toNatClampNeg) := inb_of Sz42 (by decide)
    obtain ⟨T43, h43, X43, e43, W43, st43⟩ := stD X39 hx hZ e39 Ar42 (j := (0 : Int32)) in43 (g := (mkF m 64 #[.val (.int p0), .val (.int p1), .val (.int p2), .val (.int p3), .val (.int (1 : Int32)), .val (.int ra0), .val (.int rb0), .val (.int ra1), .val (.int rb1), .val (.int ra2), .val (.int rb2), .val (.ref a36), .val (.ref a39), .unset, .unset, .unset, .unset, .unset, .unset, .unset, .unset] [(.double (FP.l2d (ra0.toInt64))), (.int (0 : Int32)), (.ref a36)])) rfl rfl (hb hby at_64)
    have N43 := Fr.snoc X43 N22 ge_a36
    have Z43 : n0 ≤ h43.size := Nat.le_trans Z39 (Keep.of_wr W43).1
    have V43 : Arv Z h43 a36 cA36 .double (1 : Int32) [(.double (FP.l2d (ra0.toInt64)))] (.double (FP.l2d 0)) := Arv.set Ar42 qc42 Sz42 Mz42 Hs42 Uf42 rfl W43 0 (by decide) (by show 0 < 1; decide)
    have pre44 : ∀ t, Steps p.tables e below (T43.setTop (mkF m 65 #[.val (.int p0), .val (.int p1), .val (.int p2), .val (.int p3), .val (.int (1 : Int32)), .val (.int ra0), .val (.int rb0), .val (.int ra1), .val (.int rb1), .val (.int ra2), .val (.int rb2), .val (.ref a36), .val (.ref a39), .unset, .unset, .unset, .unset, .unset, .unset, .unset, .unset] [])) t → Steps p.tables e below (s₁.setTop (entryFrame m #[(.int p0), (.int p1), (.int p2), (.int p3)] maxLocals)) t := fun t k => pre41 _ (st43 _ k)
    have pre45 : ∀ t, Steps p.tables e below (T43.setTop (mkF m 71 #[.val (.int p0), .val (.int p1), .val (.int p2), .val (.int p3), .val (.int (1 : Int32)), .val (.int ra0), .val (.int rb0), .val (.int ra1), .val (.int rb1), .val (.int ra2), .val (.int rb2), .val (.ref a36), .val (.ref a39), .unset, .unset, .unset, .unset, .unset, .unset, .unset, .unset] [(.double (FP.l2d (rb0.toInt64))), (.int (0 : Int32)), (.ref a39)])) t → Steps p.tables e below (s₁.setTop (entryFrame m #[(.int p0), (.int p1), (.int p2), (.int p3)] maxLocals)) t := fun t k => pre44 _ (by
      show Steps p.tables e below (T43.setTop (mkF m 65 #[.val (.int p0), .val (.int p1), .val (.int p2), .val (.int p3), .val (.int (1 : Int32)), .val (.int ra0), .val (.int rb0), .val (.int ra1), .val (.int rb1), .val (.int ra2), .val (.int rb2), .val (.ref a36), .val (.ref a39), .unset, .unset, .unset, .unset, .unset, .unset, .unset, .unset] [])) _
      refine XS.aload X43.here hx rfl (hb hby at_65) rfl rfl ?_
      show Steps p.tables e below (T43.setTop (mkF m 67 #[.val (.int p0), .val (.int p1), .val (.int p2), .val (.int p3), .val (.int (1 : Int32)), .val (.int ra0), .val (.int rb0), .val (.int ra1), .val (.int rb1), .val (.int ra2), .val (.int rb2), .val (.ref a36), .val (.ref a39), .unset, .unset, .unset, .unset, .unset, .unset, .unset, .unset] [(.ref a39)])) _
      refine XT.iconstV X43.here hx rfl (0 : Int32) (hb hby at_67) rfl ?_
      show Steps p.tables e below (T43.setTop (mkF m 68 #[.val (.int p0), .val (.int p1), .val (.int p2), .val (.int p3), .val (.int (1 : Int32)), .val (.int ra0), .val (.int rb0), .val (.int ra1), .val (.int rb1), .val (.int ra2), .val (.int rb2), .val (.ref a36), .val (.ref a39), .unset, .unset, .unset, .unset, .unset, .unset, .unset, .unset] [(.int (0 : Int32)), (.ref a39)])) _
      refine XS.iload X43.here hx rfl (hb hby at_68) rfl ?_
      show Steps p.tables e below (T43.setTop (mkF m 70 #[.val (.int p0), .val (.int p1), .val (.int p2), .val (.int p3), .val (.int (1 : Int32)), .val (.int ra0), .val (.int rb0), .val (.int ra1), .val (.int rb1), .val (.int ra2), .val (.int rb2), .val (.ref a36), .val (.ref a39), .unset, .unset, .unset, .unset, .unset, .unset, .unset, .unset] [(.int rb0), (.int (0 : Int32)), (.ref a39)])) _
      refine XS.i2dS X43.here hx rfl (hb hby at_70) rfl (i2d_w rb0) ?_
      exact k)
    obtain ⟨cl46, Ar46, qc46, Sz46, Mz46, Hs46, Uf46⟩ := (show Arv Z h43 a39 cA39 .double (1 : Int32) [(.double (FP.l2d 0))] (.double (FP.l2d 0)) from (V39.other W43 ne_a36_a39.symm))
    have in47 : ¬ ((0 : Int32) < 0 ∨ cl46.slots.size ≤ ((0 : Int32)).toNatClampNeg) := inb_of Sz46 (by decide)
    obtain ⟨T47, h47, X47, e47, W47, st47⟩ := stD X43 hx hZ e43 Ar46 (j := (0 : Int32)) in47 (g := (mkF m 71 #[.val (.int p0), .val (.int p1), .val (.int p2), .val (.int p3), .val (.int (1 : Int32)), .val (.int ra0), .val (.int rb0), .val (.int ra1), .val (.int rb1), .val (.int ra2), .val (.int rb2), .val (.ref a36), .val (.ref a39), .unset, .unset, .unset, .unset, .unset, .unset, .unset, .unset] [(.double (FP.l2d (rb0.toInt64))), (.int (0 : Int32)), (.ref a39)])) rfl rfl (hb hby at_71)
    have N47 := Fr.snoc X47 N43 ge_a39
    have Z47 : n0 ≤ h47.size := Nat.le_trans Z43 (Keep.of_wr W47).1
    have V47 : Arv Z h47 a39 cA39 .double (1 : Int32) [(.double (FP.l2d (rb0.toInt64)))] (.double (FP.l2d 0)) := Arv.set Ar46 qc46 Sz46 Mz46 Hs46 Uf46 rfl W47 0 (by decide) (by show 0 < 1; decide)
    have pre48 : ∀ t, Steps p.tables e below (T47.setTop (mkF m 72 #[.val (.int p0), .val (.int p1), .val (.int p2), .val (.int p3), .val (.int (1 : Int32)), .val (.int ra0), .val (.int rb0), .val (.int ra1), .val (.int rb1), .val (.int ra2), .val (.int rb2), .val (.ref a36), .val (.ref a39), .unset, .unset, .unset, .unset, .unset, .unset, .unset, .unset] [])) t → Steps p.tables e below (s₁.setTop (entryFrame m #[(.int p0), (.int p1), (.int p2), (.int p3)] maxLocals)) t := fun t k => pre45 _ (st47 _ k)
    have pre49 : ∀ t, Steps p.tables e below (T47.setTop (mkF m 121 #[.val (.int p0), .val (.int p1), .val (.int p2), .val (.int p3), .val (.int (1 : Int32)), .val (.int ra0), .val (.int rb0), .val (.int ra1), .val (.int rb1), .val (.int ra2), .val (.int rb2), .val (.ref a36), .val (.ref a39), .unset, .unset, .unset, .unset, .unset, .unset, .unset, .unset] [(.int rb0), (.int ra0)])) t → Steps p.tables e below (s₁.setTop (entryFrame m #[(.int p0), (.int p1), (.int p2), (.int p3)] maxLocals)) t := fun t k => pre48 _ (by
      show Steps p.tables e below (T47.setTop (mkF m 72 #[.val (.int p0), .val (.int p1), .val (.int p2), .val (.int p3), .val (.int (1 : Int32)), .val (.int ra0), .val (.int rb0), .val (.int ra1), .val (.int rb1), .val (.int ra2), .val (.int rb2), .val (.ref a36), .val (.ref a39), .unset, .unset, .unset, .unset, .unset, .unset, .unset, .unset] [])) _
      refine XS.iload X47.here hx rfl (hb hby at_72) rfl ?_
      show Steps p.tables e below (T47.setTop (mkF m 74 #[.val (.int p0), .val (.int p1), .val (.int p2), .val (.int p3), .val (.int (1 : Int32)), .val (.int ra0), .val (.int rb0), .val (.int ra1), .val (.int rb1), .val (.int ra2), .val (.int rb2), .val (.ref a36), .val (.ref a39), .unset, .unset, .unset, .unset, .unset, .unset, .unset, .unset] [(.int (1 : Int32))])) _
      refine XT.iconstV X47.here hx rfl (1 : Int32) (hb hby at_74) rfl ?_
      show Steps p.tables e below (T47.setTop (mkF m 75 #[.val (.int p0), .val (.int p1), .val (.int p2), .val (.int p3), .val (.int (1 : Int32)), .val (.int ra0), .val (.int rb0), .val (.int ra1), .val (.int rb1), .val (.int ra2), .val (.int rb2), .val (.ref a36), .val (.ref a39), .unset, .unset, .unset, .unset, .unset, .unset, .unset, .unset] [(.int (1 : Int32)), (.int (1 : Int32))])) _
      refine XS.icmpYes X47.here hx rfl (pc0 := 75) (pc' := 92) rfl (hb hby at_75) rfl (XT.ii_le_t (by decide)) (by decide) (by decide) ?_
      show Steps p.tables e below (T47.setTop (mkF m 92 #[.val (.int p0), .val (.int p1), .val (.int p2), .val (.int p3), .val (.int (1 : Int32)), .val (.int ra0), .val (.int rb0), .val (.int ra1), .val (.int rb1), .val (.int ra2), .val (.int rb2), .val (.ref a36), .val (.ref a39), .unset, .unset, .unset, .unset, .unset, .unset, .unset, .unset] [])) _
      refine XS.iload X47.here hx rfl (hb hby at_92) rfl ?_
      show Steps p.tables e below (T47.setTop (mkF m 94 #[.val (.int p0), .val (.int p1), .val (.int p2), .val (.int p3), .val (.int (1 : Int32)), .val (.int ra0), .val (.int rb0), .val (.int ra1), .val (.int rb1), .val (.int ra2), .val (.int rb2), .val (.ref a36), .val (.ref a39), .unset, .unset, .unset, .unset, .unset, .unset, .unset, .unset] [(.int (1 : Int32))])) _
      refine XT.iconstV X47.here hx rfl (2 : Int32) (hb hby at_94) rfl ?_
      show Steps p.tables e below (T47.setTop (mkF m 95 #[.val (.int p0), .val (.int p1), .val (.int p2), .val (.int p3), .val (.int (1 : Int32)), .val (.int ra0), .val (.int rb0), .val (.int ra1), .val (.int rb1), .val (.int ra2), .val (.int rb2), .val (.ref a36), .val (.ref a39), .unset, .unset, .unset, .unset, .unset, .unset, .unset, .unset] [(.int (2 : Int32)), (.int (1 : Int32))])) _
      refine XS.icmpYes X47.here hx rfl (pc0 := 95) (pc' := 112) rfl (hb hby at_95) rfl (XT.ii_le_t (by decide)) (by decide) (by decide) ?_
      show Steps p.tables e below (T47.setTop (mkF m 112 #[.val (.int p0), .val (.int p1), .val (.int p2), .val (.int p3), .val (.int (1 : Int32)), .val (.int ra0), .val (.int rb0), .val (.int ra1), .val (.int rb1), .val (.int ra2), .val (.int rb2), .val (.ref a36), .val (.ref a39), .unset, .unset, .unset, .unset, .unset, .unset, .unset, .unset] [])) _
      refine XS.iload X47.here hx rfl (hb hby at_112) rfl ?_
      show Steps p.tables e below (T47.setTop (mkF m 114 #[.val (.int p0), .val (.int p1), .val (.int p2), .val (.int p3), .val (.int (1 : Int32)), .val (.int ra0), .val (.int rb0), .val (.int ra1), .val (.int rb1), .val (.int ra2), .val (.int rb2), .val (.ref a36), .val (.ref a39), .unset, .unset, .unset, .unset, .unset, .unset, .unset, .unset] [(.int (1 : Int32))])) _
      refine XS.ifNo X47.here hx rfl (hb hby at_114) rfl (XT.i0_le_f (by decide)) ?_
      show Steps p.tables e below (T47.setTop (mkF m 117 #[.val (.int p0), .val (.int p1), .val (.int p2), .val (.int p3), .val (.int (1 : Int32)), .val (.int ra0), .val (.int rb0), .val (.int ra1), .val (.int rb1), .val (.int ra2), .val (.int rb2), .val (.ref a36), .val (.ref a39), .unset, .unset, .unset, .unset, .unset, .unset, .unset, .unset] [])) _
      refine XS.iload X47.here hx rfl (hb hby at_117) rfl ?_
      show Steps p.tables e below (T47.setTop (mkF m 119 #[.val (.int p0), .val (.int p1), .val (.int p2), .val (.int p3), .val (.int (1 : Int32)), .val (.int ra0), .val (.int rb0), .val (.int ra1), .val (.int rb1), .val (.int ra2), .val (.int rb2), .val (.ref a36), .val (.ref a39), .unset, .unset, .unset, .unset, .unset, .unset, .unset, .unset] [(.int ra0)])) _
      refine XS.iload X47.here hx rfl (hb hby at_119) rfl ?_
      exact k)
    obtain ⟨v51, hv51⟩ : ∃ z : Int32, z = (if rb0 < ra0 then (0 : Int32) else (1 : Int32)) := ⟨_, rfl⟩
    have pre52 : ∀ t, Steps p.tables e below (T47.setTop (mkF m 129 #[.val (.int p0), .val (.int p1), .val (.int p2), .val (.int p3), .val (.int (1 : Int32)), .val (.int ra0), .val (.int rb0), .val (.int ra1), .val (.int rb1), .val (.int ra2), .val (.int rb2), .val (.ref a36), .val (.ref a39), .unset, .unset, .unset, .unset, .unset, .unset, .unset, .unset] [(.int v51)])) t → Steps p.tables e below (s₁.setTop (entryFrame m #[(.int p0), (.int p1), (.int p2), (.int p3)] maxLocals)) t := fun t k => pre49 _ (by
      by_cases c121_50 : rb0 < ra0
      · rw [show v51 = _ from hv51.trans (if_pos c121_50)] at k
        show Steps p.tables e below (T47.setTop (mkF m 121 #[.val (.int p0), .val (.int p1), .val (.int p2), .val (.int p3), .val (.int (1 : Int32)), .val (.int ra0), .val (.int rb0), .val (.int ra1), .val (.int rb1), .val (.int ra2), .val (.int rb2), .val (.ref a36), .val (.ref a39), .unset, .unset, .unset, .unset, .unset, .unset, .unset, .unset] [(.int rb0), (.int ra0)])) _
        refine XS.icmpYes X47.here hx rfl (pc0 := 121) (pc' := 128) rfl (hb hby at_121) rfl (XT.ii_gt_t c121_50) (by decide) (by decide) ?_
        show Steps p.tables e below (T47.setTop (mkF m 128 #[.val (.int p0), .val (.int p1), .val (.int p2), .val (.int p3), .val (.int (1 : Int32)), .val (.int ra0), .val (.int rb0), .val (.int ra1), .val (.int rb1), .val (.int ra2), .val (.int rb2), .val (.ref a36), .val (.ref a39), .unset, .unset, .unset, .unset, .unset, .unset, .unset, .unset] [])) _
        refine XT.iconstV X47.here hx rfl (0 : Int32) (hb hby at_128) rfl ?_
        exact k
      · rw [show v51 = _ from hv51.trans (if_neg c121_50)] at k
        show Steps p.tables e below (T47.setTop (mkF m 121 #[.val (.int p0), .val (.int p1), .val (.int p2), .val (.int p3), .val (.int (1 : Int32)), .val (.int ra0), .val (.int rb0), .val (.int ra1), .val (.int rb1), .val (.int ra2), .val (.int rb2), .val (.ref a36), .val (.ref a39), .unset, .unset, .unset, .unset, .unset, .unset, .unset, .unset] [(.int rb0), (.int ra0)])) _
        refine XS.icmpNo X47.here hx rfl (hb hby at_121) rfl (XT.ii_gt_f c121_50) ?_
        show Steps p.tables e below (T47.setTop (mkF m 124 #[.val (.int p0), .val (.int p1), .val (.int p2), .val (.int p3), .val (.int (1 : Int32)), .val (.int ra0), .val (.int rb0), .val (.int ra1), .val (.int rb1), .val (.int ra2), .val (.int rb2), .val (.ref a36), .val (.ref a39), .unset, .unset, .unset, .unset, .unset, .unset, .unset, .unset] [])) _
        refine XT.iconstV X47.here hx rfl (1 : Int32) (hb hby at_124) rfl ?_
        show Steps p.tables e below (T47.setTop (mkF m 125 #[.val (.int p0), .val (.int p1), .val (.int p2), .val (.int p3), .val (.int (1 : Int32)), .val (.int ra0), .val (.int rb0), .val (.int ra1), .val (.int rb1), .val (.int ra2), .val (.int rb2), .val (.ref a36), .val (.ref a39), .unset, .unset, .unset, .unset, .unset, .unset, .unset, .unset] [(.int (1 : Int32))])) _
        refine XS.goto X47.here hx rfl (pc0 := 125) (pc' := 129) rfl (hb hby at_125) (by decide) (by decide) ?_
        exact k)
    have pre53 : ∀ t, Steps p.tables e below (T47.setTop (mkF m 180 #[.val (.int p0), .val (.int p1), .val (.int p2), .val (.int p3), .val (.int (1 : Int32)), .val (.int ra0), .val (.int rb0), .val (.int ra1), .val (.int rb1), .val (.int ra2), .val (.int rb2), .val (.ref a36), .val (.ref a39), .val (.int v51), .val (.int (1 : Int32)), .val (.int (1 : Int32)), .unset, .unset, .unset, .unset, .unset] [(.int rb0), (.int ra0)])) t → Steps p.tables e below (s₁.setTop (entryFrame m #[(.int p0), (.int p1), (.int p2), (.int p3)] maxLocals)) t := fun t k => pre52 _ (by
      show Steps p.tables e below (T47.setTop (mkF m 129 #[.val (.int p0), .val (.int p1), .val (.int p2), .val (.int p3), .val (.int (1 : Int32)), .val (.int ra0), .val (.int rb0), .val (.int ra1), .val (.int rb1), .val (.int ra2), .val (.int rb2), .val (.ref a36), .val (.ref a39), .unset, .unset, .unset, .unset, .unset, .unset, .unset, .unset] [(.int v51)])) _
      refine XS.istore X47.here hx rfl (hb hby at_129) rfl (l' := #[.val (.int p0), .val (.int p1), .val (.int p2), .val (.int p3), .val (.int (1 : Int32)), .val (.int ra0), .val (.int rb0), .val (.int ra1), .val (.int rb1), .val (.int ra2), .val (.int rb2), .val (.ref a36), .val (.ref a39), .val (.int v51), .unset, .unset, .unset, .unset, .unset, .unset, .unset]) rfl ?_
      show Steps p.tables e below (T47.setTop (mkF m 131 #[.val (.int p0), .val (.int p1), .val (.int p2), .val (.int p3), .val (.int (1 : Int32)), .val (.int ra0), .val (.int rb0), .val (.int ra1), .val (.int rb1), .val (.int ra2), .val (.int rb2), .val (.ref a36), .val (.ref a39), .val (.int v51), .unset, .unset, .unset, .unset, .unset, .unset, .unset] [])) _
      refine XS.iload X47.here hx rfl (hb hby at_131) rfl ?_
      show Steps p.tables e below (T47.setTop (mkF m 133 #[.val (.int p0), .val (.int p1), .val (.int p2), .val (.int p3), .val (.int (1 : Int32)), .val (.int ra0), .val (.int rb0), .val (.int ra1), .val (.int rb1), .val (.int ra2), .val (.int rb2), .val (.ref a36), .val (.ref a39), .val (.int v51), .unset, .unset, .unset, .unset, .unset, .unset, .unset] [(.int (1 : Int32))])) _
      refine XT.iconstV X47.here hx rfl (1 : Int32) (hb hby at_133) rfl ?_
      show Steps p.tables e below (T47.setTop (mkF m 134 #[.val (.int p0), .val (.int p1), .val (.int p2), .val (.int p3), .val (.int (1 : Int32)), .val (.int ra0), .val (.int rb0), .val (.int ra1), .val (.int rb1), .val (.int ra2), .val (.int rb2), .val (.ref a36), .val (.ref a39), .val (.int v51), .unset, .unset, .unset, .unset, .unset, .unset, .unset] [(.int (1 : Int32)), (.int (1 : Int32))])) _
      refine XS.icmpYes X47.here hx rfl (pc0 := 134) (pc' := 144) rfl (hb hby at_134) rfl (XT.ii_le_t (by decide)) (by decide) (by decide) ?_
      show Steps p.tables e below (T47.setTop (mkF m 144 #[.val (.int p0), .val (.int p1), .val (.int p2), .val (.int p3), .val (.int (1 : Int32)), .val (.int ra0), .val (.int rb0), .val (.int ra1), .val (.int rb1), .val (.int ra2), .val (.int rb2), .val (.ref a36), .val (.ref a39), .val (.int v51), .unset, .unset, .unset, .unset, .unset, .unset, .unset] [])) _
      refine XT.iconstV X47.here hx rfl (1 : Int32) (hb hby at_144) rfl ?_
      show Steps p.tables e below (T47.setTop (mkF m 145 #[.val (.int p0), .val (.int p1), .val (.int p2), .val (.int p3), .val (.int (1 : Int32)), .val (.int ra0), .val (.int rb0), .val (.int ra1), .val (.int rb1), .val (.int ra2), .val (.int rb2), .val (.ref a36), .val (.ref a39), .val (.int v51), .unset, .unset, .unset, .unset, .unset, .unset, .unset] [(.int (1 : Int32))])) _
      refine XS.goto X47.here hx rfl (pc0 := 145) (pc' := 149) rfl (hb hby at_145) (by decide) (by decide) ?_
      show Steps p.tables e below (T47.setTop (mkF m 149 #[.val (.int p0), .val (.int p1), .val (.int p2), .val (.int p3), .val (.int (1 : Int32)), .val (.int ra0), .val (.int rb0), .val (.int ra1), .val (.int rb1), .val (.int ra2), .val (.int rb2), .val (.ref a36), .val (.ref a39), .val (.int v51), .unset, .unset, .unset, .unset, .unset, .unset, .unset] [(.int (1 : Int32))])) _
      refine XS.istore X47.here hx rfl (hb hby at_149) rfl (l' := #[.val (.int p0), .val (.int p1), .val (.int p2), .val (.int p3), .val (.int (1 : Int32)), .val (.int ra0), .val (.int rb0), .val (.int ra1), .val (.int rb1), .val (.int ra2), .val (.int rb2), .val (.ref a36), .val (.ref a39), .val (.int v51), .val (.int (1 : Int32)), .unset, .unset, .unset, .unset, .unset, .unset]) rfl ?_
      show Steps p.tables e below (T47.setTop (mkF m 151 #[.val (.int p0), .val (.int p1), .val (.int p2), .val (.int p3), .val (.int (1 : Int32)), .val (.int ra0), .val (.int rb0), .val (.int ra1), .val (.int rb1), .val (.int ra2), .val (.int rb2), .val (.ref a36), .val (.ref a39), .val (.int v51), .val (.int (1 : Int32)), .unset, .unset, .unset, .unset, .unset, .unset] [])) _
      refine XS.iload X47.here hx rfl (hb hby at_151) rfl ?_
      show Steps p.tables e below (T47.setTop (mkF m 153 #[.val (.int p0), .val (.int p1), .val (.int p2), .val (.int p3), .val (.int (1 : Int32)), .val (.int ra0), .val (.int rb0), .val (.int ra1), .val (.int rb1), .val (.int ra2), .val (.int rb2), .val (.ref a36), .val (.ref a39), .val (.int v51), .val (.int (1 : Int32)), .unset, .unset, .unset, .unset, .unset, .unset] [(.int (1 : Int32))])) _
      refine XT.iconstV X47.here hx rfl (2 : Int32) (hb hby at_153) rfl ?_
      show Steps p.tables e below (T47.setTop (mkF m 154 #[.val (.int p0), .val (.int p1), .val (.int p2), .val (.int p3), .val (.int (1 : Int32)), .val (.int ra0), .val (.int rb0), .val (.int ra1), .val (.int rb1), .val (.int ra2), .val (.int rb2), .val (.ref a36), .val (.ref a39), .val (.int v51), .val (.int (1 : Int32)), .unset, .unset, .unset, .unset, .unset, .unset] [(.int (2 : Int32)), (.int (1 : Int32))])) _
      refine XS.icmpYes X47.here hx rfl (pc0 := 154) (pc' := 164) rfl (hb hby at_154) rfl (XT.ii_le_t (by decide)) (by decide) (by decide) ?_
      show Steps p.tables e below (T47.setTop (mkF m 164 #[.val (.int p0), .val (.int p1), .val (.int p2), .val (.int p3), .val (.int (1 : Int32)), .val (.int ra0), .val (.int rb0), .val (.int ra1), .val (.int rb1), .val (.int ra2), .val (.int rb2), .val (.ref a36), .val (.ref a39), .val (.int v51), .val (.int (1 : Int32)), .unset, .unset, .unset, .unset, .unset, .unset] [])) _
      refine XT.iconstV X47.here hx rfl (1 : Int32) (hb hby at_164) rfl ?_
      show Steps p.tables e below (T47.setTop (mkF m 165 #[.val (.int p0), .val (.int p1), .val (.int p2), .val (.int p3), .val (.int (1 : Int32)), .val (.int ra0), .val (.int rb0), .val (.int ra1), .val (.int rb1), .val (.int ra2), .val (.int rb2), .val (.ref a36), .val (.ref a39), .val (.int v51), .val (.int (1 : Int32)), .unset, .unset, .unset, .unset, .unset, .unset] [(.int (1 : Int32))])) _
      refine XS.goto X47.here hx rfl (pc0 := 165) (pc' := 169) rfl (hb hby at_165) (by decide) (by decide) ?_
      show Steps p.tables e below (T47.setTop (mkF m 169 #[.val (.int p0), .val (.int p1), .val (.int p2), .val (.int p3), .val (.int (1 : Int32)), .val (.int ra0), .val (.int rb0), .val (.int ra1), .val (.int rb1), .val (.int ra2), .val (.int rb2), .val (.ref a36), .val (.ref a39), .val (.int v51), .val (.int (1 : Int32)), .unset, .unset, .unset, .unset, .unset, .unset] [(.int (1 : Int32))])) _
      refine XS.istore X47.here hx rfl (hb hby at_169) rfl (l' := #[.val (.int p0), .val (.int p1), .val (.int p2), .val (.int p3), .val (.int (1 : Int32)), .val (.int ra0), .val (.int rb0), .val (.int ra1), .val (.int rb1), .val (.int ra2), .val (.int rb2), .val (.ref a36), .val (.ref a39), .val (.int v51), .val (.int (1 : Int32)), .val (.int (1 : Int32)), .unset, .unset, .unset, .unset, .unset]) rfl ?_
      show Steps p.tables e below (T47.setTop (mkF m 171 #[.val (.int p0), .val (.int p1), .val (.int p2), .val (.int p3), .val (.int (1 : Int32)), .val (.int ra0), .val (.int rb0), .val (.int ra1), .val (.int rb1), .val (.int ra2), .val (.int rb2), .val (.ref a36), .val (.ref a39), .val (.int v51), .val (.int (1 : Int32)), .val (.int (1 : Int32)), .unset, .unset, .unset, .unset, .unset] [])) _
      refine XS.iload X47.here hx rfl (hb hby at_171) rfl ?_
      show Steps p.tables e below (T47.setTop (mkF m 173 #[.val (.int p0), .val (.int p1), .val (.int p2), .val (.int p3), .val (.int (1 : Int32)), .val (.int ra0), .val (.int rb0), .val (.int ra1), .val (.int rb1), .val (.int ra2), .val (.int rb2), .val (.ref a36), .val (.ref a39), .val (.int v51), .val (.int (1 : Int32)), .val (.int (1 : Int32)), .unset, .unset, .unset, .unset, .unset] [(.int (1 : Int32))])) _
      refine XS.ifNo X47.here hx rfl (hb hby at_173) rfl (XT.i0_le_f (by decide)) ?_
      show Steps p.tables e below (T47.setTop (mkF m 176 #[.val (.int p0), .val (.int p1), .val (.int p2), .val (.int p3), .val (.int (1 : Int32)), .val (.int ra0), .val (.int rb0), .val (.int ra1), .val (.int rb1), .val (.int ra2), .val (.int rb2), .val (.ref a36), .val (.ref a39), .val (.int v51), .val (.int (1 : Int32)), .val (.int (1 : Int32)), .unset, .unset, .unset, .unset, .unset] [])) _
      refine XS.iload X47.here hx rfl (hb hby at_176) rfl ?_
      show Steps p.tables e below (T47.setTop (mkF m 178 #[.val (.int p0), .val (.int p1), .val (.int p2), .val (.int p3), .val (.int (1 : Int32)), .val (.int ra0), .val (.int rb0), .val (.int ra1), .val (.int rb1), .val (.int ra2), .val (.int rb2), .val (.ref a36), .val (.ref a39), .val (.int v51), .val (.int (1 : Int32)), .val (.int (1 : Int32)), .unset, .unset, .unset, .unset, .unset] [(.int ra0)])) _
      refine XS.iload X47.here hx rfl (hb hby at_178) rfl ?_
      exact k)
    obtain ⟨v55, hv55⟩ : ∃ z : Int32, z = (if ra0 < rb0 then (1 : Int32) else (0 : Int32)) := ⟨_, rfl⟩
    have pre56 : ∀ t, Steps p.tables e below (T47.setTop (mkF m 188 #[.val (.int p0), .val (.int p1), .val (.int p2), .val (.int p3), .val (.int (1 : Int32)), .val (.int ra0), .val (.int rb0), .val (.int ra1), .val (.int rb1), .val (.int ra2), .val (.int rb2), .val (.ref a36), .val (.ref a39), .val (.int v51), .val (.int (1 : Int32)), .val (.int (1 : Int32)), .unset, .unset, .unset, .unset, .unset] [(.int v55)])) t → Steps p.tables e below (s₁.setTop (entryFrame m #[(.int p0), (.int p1), (.int p2), (.int p3)] maxLocals)) t := fun t k => pre53 _ (by
      by_cases c180_54 : ra0 < rb0
      · rw [show v55 = _ from hv55.trans (if_pos c180_54)] at k
        show Steps p.tables e below (T47.setTop (mkF m 180 #[.val (.int p0), .val (.int p1), .val (.int p2), .val (.int p3), .val (.int (1 : Int32)), .val (.int ra0), .val (.int rb0), .val (.int ra1), .val (.int rb1), .val (.int ra2), .val (.int rb2), .val (.ref a36), .val (.ref a39), .val (.int v51), .val (.int (1 : Int32)), .val (.int (1 : Int32)), .unset, .unset, .unset, .unset, .unset] [(.int rb0), (.int ra0)])) _
        refine XS.icmpNo X47.here hx rfl (hb hby at_180) rfl (XT.ii_ge_f c180_54) ?_
        show Steps p.tables e below (T47.setTop (mkF m 183 #[.val (.int p0), .val (.int p1), .val (.int p2), .val (.int p3), .val (.int (1 : Int32)), .val (.int ra0), .val (.int rb0), .val (.int ra1), .val (.int rb1), .val (.int ra2), .val (.int rb2), .val (.ref a36), .val (.ref a39), .val (.int v51), .val (.int (1 : Int32)), .val (.int (1 : Int32)), .unset, .unset, .unset, .unset, .unset] [])) _
        refine XT.iconstV X47.here hx rfl (1 : Int32) (hb hby at_183) rfl ?_
        show Steps p.tables e below (T47.setTop (mkF m 184 #[.val (.int p0), .val (.int p1), .val (.int p2), .val (.int p3), .val (.int (1 : Int32)), .val (.int ra0), .val (.int rb0), .val (.int ra1), .val (.int rb1), .val (.int ra2), .val (.int rb2), .val (.ref a36), .val (.ref a39), .val (.int v51), .val (.int (1 : Int32)), .val (.int (1 : Int32)), .unset, .unset, .unset, .unset, .unset] [(.int (1 : Int32))])) _
        refine XS.goto X47.here hx rfl (pc0 := 184) (pc' := 188) rfl (hb hby at_184) (by decide) (by decide) ?_
        exact k
      · rw [show v55 = _ from hv55.trans (if_neg c180_54)] at k
        show Steps p.tables e below (T47.setTop (mkF m 180 #[.val (.int p0), .val (.int p1), .val (.int p2), .val (.int p3), .val (.int (1 : Int32)), .val (.int ra0), .val (.int rb0), .val (.int ra1), .val (.int rb1), .val (.int ra2), .val (.int rb2), .val (.ref a36), .val (.ref a39), .val (.int v51), .val (.int (1 : Int32)), .val (.int (1 : Int32)), .unset, .unset, .unset, .unset, .unset] [(.int rb0), (.int ra0)])) _
        refine XS.icmpYes X47.here hx rfl (pc0 := 180) (pc' := 187) rfl (hb hby at_180) rfl (XT.ii_ge_t c180_54) (by decide) (by decide) ?_
        show Steps p.tables e below (T47.setTop (mkF m 187 #[.val (.int p0), .val (.int p1), .val (.int p2), .val (.int p3), .val (.int (1 : Int32)), .val (.int ra0), .val (.int rb0), .val (.int ra1), .val (.int rb1), .val (.int ra2), .val (.int rb2), .val (.ref a36), .val (.ref a39), .val (.int v51), .val (.int (1 : Int32)), .val (.int (1 : Int32)), .unset, .unset, .unset, .unset, .unset] [])) _
        refine XT.iconstV X47.here hx rfl (0 : Int32) (hb hby at_187) rfl ?_
        exact k)
    have pre57 : ∀ t, Steps p.tables e below (T47.setTop (mkF m 232 #[.val (.int p0), .val (.int p1), .val (.int p2), .val (.int p3), .val (.int (1 : Int32)), .val (.int ra0), .val (.int rb0), .val (.int ra1), .val (.int rb1), .val (.int ra2), .val (.int rb2), .val (.ref a36), .val (.ref a39), .val (.int v51), .val (.int (1 : Int32)), .val (.int (1 : Int32)), .val (.int v55), .val (.int (0 : Int32)), .val (.int (0 : Int32)), .unset, .unset] [(.int v51)])) t → Steps p.tables e below (s₁.setTop (entryFrame m #[(.int p0), (.int p1), (.int p2), (.int p3)] maxLocals)) t := fun t k => pre56 _ (by
      show Steps p.tables e below (T47.setTop (mkF m 188 #[.val (.int p0), .val (.int p1), .val (.int p2), .val (.int p3), .val (.int (1 : Int32)), .val (.int ra0), .val (.int rb0), .val (.int ra1), .val (.int rb1), .val (.int ra2), .val (.int rb2), .val (.ref a36), .val (.ref a39), .val (.int v51), .val (.int (1 : Int32)), .val (.int (1 : Int32)), .unset, .unset, .unset, .unset, .unset] [(.int v55)])) _
      refine XS.istore X47.here hx rfl (hb hby at_188) rfl (l' := #[.val (.int p0), .val (.int p1), .val (.int p2), .val (.int p3), .val (.int (1 : Int32)), .val (.int ra0), .val (.int rb0), .val (.int ra1), .val (.int rb1), .val (.int ra2), .val (.int rb2), .val (.ref a36), .val (.ref a39), .val (.int v51), .val (.int (1 : Int32)), .val (.int (1 : Int32)), .val (.int v55), .unset, .unset, .unset, .unset]) rfl ?_
      show Steps p.tables e below (T47.setTop (mkF m 190 #[.val (.int p0), .val (.int p1), .val (.int p2), .val (.int p3), .val (.int (1 : Int32)), .val (.int ra0), .val (.int rb0), .val (.int ra1), .val (.int rb1), .val (.int ra2), .val (.int rb2), .val (.ref a36), .val (.ref a39), .val (.int v51), .val (.int (1 : Int32)), .val (.int (1 : Int32)), .val (.int v55), .unset, .unset, .unset, .unset] [])) _
      refine XS.iload X47.here hx rfl (hb hby at_190) rfl ?_
      show Steps p.tables e below (T47.setTop (mkF m 192 #[.val (.int p0), .val (.int p1), .val (.int p2), .val (.int p3), .val (.int (1 : Int32)), .val (.int ra0), .val (.int rb0), .val (.int ra1), .val (.int rb1), .val (.int ra2), .val (.int rb2), .val (.ref a36), .val (.ref a39), .val (.int v51), .val (.int (1 : Int32)), .val (.int (1 : Int32)), .val (.int v55), .unset, .unset, .unset, .unset] [(.int (1 : Int32))])) _
      refine XT.iconstV X47.here hx rfl (1 : Int32) (hb hby at_192) rfl ?_
      show Steps p.tables e below (T47.setTop (mkF m 193 #[.val (.int p0), .val (.int p1), .val (.int p2), .val (.int p3), .val (.int (1 : Int32)), .val (.int ra0), .val (.int rb0), .val (.int ra1), .val (.int rb1), .val (.int ra2), .val (.int rb2), .val (.ref a36), .val (.ref a39), .val (.int v51), .val (.int (1 : Int32)), .val (.int (1 : Int32)), .val (.int v55), .unset, .unset, .unset, .unset] [(.int (1 : Int32)), (.int (1 : Int32))])) _
      refine XS.icmpYes X47.here hx rfl (pc0 := 193) (pc' := 207) rfl (hb hby at_193) rfl (XT.ii_le_t (by decide)) (by decide) (by decide) ?_
      show Steps p.tables e below (T47.setTop (mkF m 207 #[.val (.int p0), .val (.int p1), .val (.int p2), .val (.int p3), .val (.int (1 : Int32)), .val (.int ra0), .val (.int rb0), .val (.int ra1), .val (.int rb1), .val (.int ra2), .val (.int rb2), .val (.ref a36), .val (.ref a39), .val (.int v51), .val (.int (1 : Int32)), .val (.int (1 : Int32)), .val (.int v55), .unset, .unset, .unset, .unset] [])) _
      refine XT.iconstV X47.here hx rfl (0 : Int32) (hb hby at_207) rfl ?_
      show Steps p.tables e below (T47.setTop (mkF m 208 #[.val (.int p0), .val (.int p1), .val (.int p2), .val (.int p3), .val (.int (1 : Int32)), .val (.int ra0), .val (.int rb0), .val (.int ra1), .val (.int rb1), .val (.int ra2), .val (.int rb2), .val (.ref a36), .val (.ref a39), .val (.int v51), .val (.int (1 : Int32)), .val (.int (1 : Int32)), .val (.int v55), .unset, .unset, .unset, .unset] [(.int (0 : Int32))])) _
      refine XS.istore X47.here hx rfl (hb hby at_208) rfl (l' := #[.val (.int p0), .val (.int p1), .val (.int p2), .val (.int p3), .val (.int (1 : Int32)), .val (.int ra0), .val (.int rb0), .val (.int ra1), .val (.int rb1), .val (.int ra2), .val (.int rb2), .val (.ref a36), .val (.ref a39), .val (.int v51), .val (.int (1 : Int32)), .val (.int (1 : Int32)), .val (.int v55), .val (.int (0 : Int32)), .unset, .unset, .unset]) rfl ?_
      show Steps p.tables e below (T47.setTop (mkF m 210 #[.val (.int p0), .val (.int p1), .val (.int p2), .val (.int p3), .val (.int (1 : Int32)), .val (.int ra0), .val (.int rb0), .val (.int ra1), .val (.int rb1), .val (.int ra2), .val (.int rb2), .val (.ref a36), .val (.ref a39), .val (.int v51), .val (.int (1 : Int32)), .val (.int (1 : Int32)), .val (.int v55), .val (.int (0 : Int32)), .unset, .unset, .unset] [])) _
      refine XS.iload X47.here hx rfl (hb hby at_210) rfl ?_
      show Steps p.tables e below (T47.setTop (mkF m 212 #[.val (.int p0), .val (.int p1), .val (.int p2), .val (.int p3), .val (.int (1 : Int32)), .val (.int ra0), .val (.int rb0), .val (.int ra1), .val (.int rb1), .val (.int ra2), .val (.int rb2), .val (.ref a36), .val (.ref a39), .val (.int v51), .val (.int (1 : Int32)), .val (.int (1 : Int32)), .val (.int v55), .val (.int (0 : Int32)), .unset, .unset, .unset] [(.int (1 : Int32))])) _
      refine XT.iconstV X47.here hx rfl (2 : Int32) (hb hby at_212) rfl ?_
      show Steps p.tables e below (T47.setTop (mkF m 213 #[.val (.int p0), .val (.int p1), .val (.int p2), .val (.int p3), .val (.int (1 : Int32)), .val (.int ra0), .val (.int rb0), .val (.int ra1), .val (.int rb1), .val (.int ra2), .val (.int rb2), .val (.ref a36), .val (.ref a39), .val (.int v51), .val (.int (1 : Int32)), .val (.int (1 : Int32)), .val (.int v55), .val (.int (0 : Int32)), .unset, .unset, .unset] [(.int (2 : Int32)), (.int (1 : Int32))])) _
      refine XS.icmpYes X47.here hx rfl (pc0 := 213) (pc' := 227) rfl (hb hby at_213) rfl (XT.ii_le_t (by decide)) (by decide) (by decide) ?_
      show Steps p.tables e below (T47.setTop (mkF m 227 #[.val (.int p0), .val (.int p1), .val (.int p2), .val (.int p3), .val (.int (1 : Int32)), .val (.int ra0), .val (.int rb0), .val (.int ra1), .val (.int rb1), .val (.int ra2), .val (.int rb2), .val (.ref a36), .val (.ref a39), .val (.int v51), .val (.int (1 : Int32)), .val (.int (1 : Int32)), .val (.int v55), .val (.int (0 : Int32)), .unset, .unset, .unset] [])) _
      refine XT.iconstV X47.here hx rfl (0 : Int32) (hb hby at_227) rfl ?_
      show Steps p.tables e below (T47.setTop (mkF m 228 #[.val (.int p0), .val (.int p1), .val (.int p2), .val (.int p3), .val (.int (1 : Int32)), .val (.int ra0), .val (.int rb0), .val (.int ra1), .val (.int rb1), .val (.int ra2), .val (.int rb2), .val (.ref a36), .val (.ref a39), .val (.int v51), .val (.int (1 : Int32)), .val (.int (1 : Int32)), .val (.int v55), .val (.int (0 : Int32)), .unset, .unset, .unset] [(.int (0 : Int32))])) _
      refine XS.istore X47.here hx rfl (hb hby at_228) rfl (l' := #[.val (.int p0), .val (.int p1), .val (.int p2), .val (.int p3), .val (.int (1 : Int32)), .val (.int ra0), .val (.int rb0), .val (.int ra1), .val (.int rb1), .val (.int ra2), .val (.int rb2), .val (.ref a36), .val (.ref a39), .val (.int v51), .val (.int (1 : Int32)), .val (.int (1 : Int32)), .val (.int v55), .val (.int (0 : Int32)), .val (.int (0 : Int32)), .unset, .unset]) rfl ?_
      show Steps p.tables e below (T47.setTop (mkF m 230 #[.val (.int p0), .val (.int p1), .val (.int p2), .val (.int p3), .val (.int (1 : Int32)), .val (.int ra0), .val (.int rb0), .val (.int ra1), .val (.int rb1), .val (.int ra2), .val (.int rb2), .val (.ref a36), .val (.ref a39), .val (.int v51), .val (.int (1 : Int32)), .val (.int (1 : Int32)), .val (.int v55), .val (.int (0 : Int32)), .val (.int (0 : Int32)), .unset, .unset] [])) _
      refine XS.iload X47.here hx rfl (hb hby at_230) rfl ?_
      exact k)
    obtain ⟨v60, hv60⟩ : ∃ z : Int32, z = (if v55 = 0 then (0 : Int32) else (1 : Int32)) := ⟨_, rfl⟩
    obtain ⟨v62, hv62⟩ : ∃ z : Int32, z = (if v51 = 0 then (0 : Int32) else v60) := ⟨_, rfl⟩
    have pre63 : ∀ t, Steps p.tables e below (T47.setTop (mkF m 265 #[.val (.int p0), .val (.int p1), .val (.int p2), .val (.int p3), .val (.int (1 : Int32)), .val (.int ra0), .val (.int rb0), .val (.int ra1), .val (.int rb1), .val (.int ra2), .val (.int rb2), .val (.ref a36), .val (.ref a39), .val (.int v51), .val (.int (1 : Int32)), .val (.int (1 : Int32)), .val (.int v55), .val (.int (0 : Int32)), .val (.int (0 : Int32)), .unset, .unset] [(.int v62)])) t → Steps p.tables e below (s₁.setTop (entryFrame m #[(.int p0), (.int p1), (.int p2), (.int p3)] maxLocals)) t := fun t k => pre57 _ (by
      by_cases c232_58 : v51 = 0
      · rw [show v62 = _ from hv62.trans (if_pos c232_58)] at k
        show Steps p.tables e below (T47.setTop (mkF m 232 #[.val (.int p0), .val (.int p1), .val (.int p2), .val (.int p3), .val (.int (1 : Int32)), .val (.int ra0), .val (.int rb0), .val (.int ra1), .val (.int rb1), .val (.int ra2), .val (.int rb2), .val (.ref a36), .val (.ref a39), .val (.int v51), .val (.int (1 : Int32)), .val (.int (1 : Int32)), .val (.int v55), .val (.int (0 : Int32)), .val (.int (0 : Int32)), .unset, .unset] [(.int v51)])) _
        refine XS.ifYes X47.here hx rfl (pc0 := 232) (pc' := 264) rfl (hb hby at_232) rfl (XT.i0_eq_t c232_58) (by decide) (by decide) ?_
        show Steps p.tables e below (T47.setTop (mkF m 264 #[.val (.int p0), .val (.int p1), .val (.int p2), .val (.int p3), .val (.int (1 : Int32)), .val (.int ra0), .val (.int rb0), .val (.int ra1), .val (.int rb1), .val (.int ra2), .val (.int rb2), .val (.ref a36), .val (.ref a39), .val (.int v51), .val (.int (1 : Int32)), .val (.int (1 : Int32)), .val (.int v55), .val (.int (0 : Int32)), .val (.int (0 : Int32)), .unset, .unset] [])) _
        refine XT.iconstV X47.here hx rfl (0 : Int32) (hb hby at_264) rfl ?_
        exact k
      · rw [show v62 = _ from hv62.trans (if_neg c232_58)] at k
        show Steps p.tables e below (T47.setTop (mkF m 232 #[.val (.int p0), .val (.int p1), .val (.int p2), .val (.int p3), .val (.int (1 : Int32)), .val (.int ra0), .val (.int rb0), .val (.int ra1), .val (.int rb1), .val (.int ra2), .val (.int rb2), .val (.ref a36), .val (.ref a39), .val (.int v51), .val (.int (1 : Int32)), .val (.int (1 : Int32)), .val (.int v55), .val (.int (0 : Int32)), .val (.int (0 : Int32)), .unset, .unset] [(.int v51)])) _
        refine XS.ifNo X47.here hx rfl (hb hby at_232) rfl (XT.i0_eq_f c232_58) ?_
        show Steps p.tables e below (T47.setTop (mkF m 235 #[.val (.int p0), .val (.int p1), .val (.int p2), .val (.int p3), .val (.int (1 : Int32)), .val (.int ra0), .val (.int rb0), .val (.int ra1), .val (.int rb1), .val (.int ra2), .val (.int rb2), .val (.ref a36), .val (.ref a39), .val (.int v51), .val (.int (1 : Int32)), .val (.int (1 : Int32)), .val (.int v55), .val (.int (0 : Int32)), .val (.int (0 : Int32)), .unset, .unset] [])) _
        refine XS.iload X47.here hx rfl (hb hby at_235) rfl ?_
        show Steps p.tables e below (T47.setTop (mkF m 237 #[.val (.int p0), .val (.int p1), .val (.int p2), .val (.int p3), .val (.int (1 : Int32)), .val (.int ra0), .val (.int rb0), .val (.int ra1), .val (.int rb1), .val (.int ra2), .val (.int rb2), .val (.ref a36), .val (.ref a39), .val (.int v51), .val (.int (1 : Int32)), .val (.int (1 : Int32)), .val (.int v55), .val (.int (0 : Int32)), .val (.int (0 : Int32)), .unset, .unset] [(.int (1 : Int32))])) _
        refine XS.ifNo X47.here hx rfl (hb hby at_237) rfl (XT.i0_eq_f (by decide)) ?_
        show Steps p.tables e below (T47.setTop (mkF m 240 #[.val (.int p0), .val (.int p1), .val (.int p2), .val (.int p3), .val (.int (1 : Int32)), .val (.int ra0), .val (.int rb0), .val (.int ra1), .val (.int rb1), .val (.int ra2), .val (.int rb2), .val (.ref a36), .val (.ref a39), .val (.int v51), .val (.int (1 : Int32)), .val (.int (1 : Int32)), .val (.int v55), .val (.int (0 : Int32)), .val (.int (0 : Int32)), .unset, .unset] [])) _
        refine XS.iload X47.here hx rfl (hb hby at_240) rfl ?_
        show Steps p.tables e below (T47.setTop (mkF m 242 #[.val (.int p0), .val (.int p1), .val (.int p2), .val (.int p3), .val (.int (1 : Int32)), .val (.int ra0), .val (.int rb0), .val (.int ra1), .val (.int rb1), .val (.int ra2), .val (.int rb2), .val (.ref a36), .val (.ref a39), .val (.int v51), .val (.int (1 : Int32)), .val (.int (1 : Int32)), .val (.int v55), .val (.int (0 : Int32)), .val (.int (0 : Int32)), .unset, .unset] [(.int (1 : Int32))])) _
        refine XS.ifNo X47.here hx rfl (hb hby at_242) rfl (XT.i0_eq_f (by decide)) ?_
        show Steps p.tables e below (T47.setTop (mkF m 245 #[.val (.int p0), .val (.int p1), .val (.int p2), .val (.int p3), .val (.int (1 : Int32)), .val (.int ra0), .val (.int rb0), .val (.int ra1), .val (.int rb1), .val (.int ra2), .val (.int rb2), .val (.ref a36), .val (.ref a39), .val (.int v51), .val (.int (1 : Int32)), .val (.int (1 : Int32)), .val (.int v55), .val (.int (0 : Int32)), .val (.int (0 : Int32)), .unset, .unset] [])) _
        refine XS.iload X47.here hx rfl (hb hby at_245) rfl ?_
        have m61 : ∀ t, Steps p.tables e below (T47.setTop (mkF m 265 #[.val (.int p0), .val (.int p1), .val (.int p2), .val (.int p3), .val (.int (1 : Int32)), .val (.int ra0), .val (.int rb0), .val (.int ra1), .val (.int rb1), .val (.int ra2), .val (.int rb2), .val (.ref a36), .val (.ref a39), .val (.int v51), .val (.int (1 : Int32)), .val (.int (1 : Int32)), .val (.int v55), .val (.int (0 : Int32)), .val (.int (0 : Int32)), .unset, .unset] [(.int v60)])) t → Steps p.tables e below (T47.setTop (mkF m 247 #[.val (.int p0), .val (.int p1), .val (.int p2), .val (.int p3), .val (.int (1 : Int32)), .val (.int ra0), .val (.int rb0), .val (.int ra1), .val (.int rb1), .val (.int ra2), .val (.int rb2), .val (.ref a36), .val (.ref a39), .val (.int v51), .val (.int (1 : Int32)), .val (.int (1 : Int32)), .val (.int v55), .val (.int (0 : Int32)), .val (.int (0 : Int32)), .unset, .unset] [(.int v55)])) t := fun t k => by
          by_cases c247_59 : v55 = 0
          · rw [show v60 = _ from hv60.trans (if_pos c247_59)] at k
            show Steps p.tables e below (T47.setTop (mkF m 247 #[.val (.int p0), .val (.int p1), .val (.int p2), .val (.int p3), .val (.int (1 : Int32)), .val (.int ra0), .val (.int rb0), .val (.int ra1), .val (.int rb1), .val (.int ra2), .val (.int rb2), .val (.ref a36), .val (.ref a39), .val (.int v51), .val (.int (1 : Int32)), .val (.int (1 : Int32)), .val (.int v55), .val (.int (0 : Int32)), .val (.int (0 : Int32)), .unset, .unset] [(.int v55)])) _
            refine XS.ifNo X47.here hx rfl (hb hby at_247) rfl (XT.i0_ne_f c247_59) ?_
            show Steps p.tables e below (T47.setTop (mkF m 250 #[.val (.int p0), .val (.int p1), .val (.int p2), .val (.int p3), .val (.int (1 : Int32)), .val (.int ra0), .val (.int rb0), .val (.int ra1), .val (.int rb1), .val (.int ra2), .val (.int rb2), .val (.ref a36), .val (.ref a39), .val (.int v51), .val (.int (1 : Int32)), .val (.int (1 : Int32)), .val (.int v55), .val (.int (0 : Int32)), .val (.int (0 : Int32)), .unset, .unset] [])) _
            refine XS.iload X47.here hx rfl (hb hby at_250) rfl ?_
            show Steps p.tables e below (T47.setTop (mkF m 252 #[.val (.int p0), .val (.int p1), .val (.int p2), .val (.int p3), .val (.int (1 : Int32)), .val (.int ra0), .val (.int rb0), .val (.int ra1), .val (.int rb1), .val (.int ra2), .val (.int rb2), .val (.ref a36), .val (.ref a39), .val (.int v51), .val (.int (1 : Int32)), .val (.int (1 : Int32)), .val (.int v55), .val (.int (0 : Int32)), .val (.int (0 : Int32)), .unset, .unset] [(.int (0 : Int32))])) _
            refine XS.ifNo X47.here hx rfl (hb hby at_252) rfl (XT.i0_ne_f (by decide)) ?_
            show Steps p.tables e below (T47.setTop (mkF m 255 #[.val (.int p0), .val (.int p1), .val (.int p2), .val (.int p3), .val (.int (1 : Int32)), .val (.int ra0), .val (.int rb0), .val (.int ra1), .val (.int rb1), .val (.int ra2), .val (.int rb2), .val (.ref a36), .val (.ref a39), .val (.int v51), .val (.int (1 : Int32)), .val (.int (1 : Int32)), .val (.int v55), .val (.int (0 : Int32)), .val (.int (0 : Int32)), .unset, .unset] [])) _
            refine XS.iload X47.here hx rfl (hb hby at_255) rfl ?_
            show Steps p.tables e below (T47.setTop (mkF m 257 #[.val (.int p0), .val (.int p1), .val (.int p2), .val (.int p3), .val (.int (1 : Int32)), .val (.int ra0), .val (.int rb0), .val (.int ra1), .val (.int rb1), .val (.int ra2), .val (.int rb2), .val (.ref a36), .val (.ref a39), .val (.int v51), .val (.int (1 : Int32)), .val (.int (1 : Int32)), .val (.int v55), .val (.int (0 : Int32)), .val (.int (0 : Int32)), .unset, .unset] [(.int (0 : Int32))])) _
            refine XS.ifYes X47.here hx rfl (pc0 := 257) (pc' := 264) rfl (hb hby at_257) rfl (XT.i0_eq_t (by decide)) (by decide) (by decide) ?_
            show Steps p.tables e below (T47.setTop (mkF m 264 #[.val (.int p0), .val (.int p1), .val (.int p2), .val (.int p3), .val (.int (1 : Int32)), .val (.int ra0), .val (.int rb0), .val (.int ra1), .val (.int rb1), .val (.int ra2), .val (.int rb2), .val (.ref a36), .val (.ref a39), .val (.int v51), .val (.int (1 : Int32)), .val (.int (1 : Int32)), .val (.int v55), .val (.int (0 : Int32)), .val (.int (0 : Int32)), .unset, .unset] [])) _
            refine XT.iconstV X47.here hx rfl (0 : Int32) (hb hby at_264) rfl ?_
            exact k
          · rw [show v60 = _ from hv60.trans (if_neg c247_59)] at k
            show Steps p.tables e below (T47.setTop (mkF m 247 #[.val (.int p0), .val (.int p1), .val (.int p2), .val (.int p3), .val (.int (1 : Int32)), .val (.int ra0), .val (.int rb0), .val (.int ra1), .val (.int rb1), .val (.int ra2), .val (.int rb2), .val (.ref a36), .val (.ref a39), .val (.int v51), .val (.int (1 : Int32)), .val (.int (1 : Int32)), .val (.int v55), .val (.int (0 : Int32)), .val (.int (0 : Int32)), .unset, .unset] [(.int v55)])) _
            refine XS.ifYes X47.here hx rfl (pc0 := 247) (pc' := 260) rfl (hb hby at_247) rfl (XT.i0_ne_t c247_59) (by decide) (by decide) ?_
            show Steps p.tables e below (T47.setTop (mkF m 260 #[.val (.int p0), .val (.int p1), .val (.int p2), .val (.int p3), .val (.int (1 : Int32)), .val (.int ra0), .val (.int rb0), .val (.int ra1), .val (.int rb1), .val (.int ra2), .val (.int rb2), .val (.ref a36), .val (.ref a39), .val (.int v51), .val (.int (1 : Int32)), .val (.int (1 : Int32)), .val (.int v55), .val (.int (0 : Int32)), .val (.int (0 : Int32)), .unset, .unset] [])) _
            refine XT.iconstV X47.here hx rfl (1 : Int32) (hb hby at_260) rfl ?_
            show Steps p.tables e below (T47.setTop (mkF m 261 #[.val (.int p0), .val (.int p1), .val (.int p2), .val (.int p3), .val (.int (1 : Int32)), .val (.int ra0), .val (.int rb0), .val (.int ra1), .val (.int rb1), .val (.int ra2), .val (.int rb2), .val (.ref a36), .val (.ref a39), .val (.int v51), .val (.int (1 : Int32)), .val (.int (1 : Int32)), .val (.int v55), .val (.int (0 : Int32)), .val (.int (0 : Int32)), .unset, .unset] [(.int (1 : Int32))])) _
            refine XS.goto X47.here hx rfl (pc0 := 261) (pc' := 265) rfl (hb hby at_261) (by decide) (by decide) ?_
            exact k
        refine m61 _ ?_
        exact k)
    have pre64 : ∀ t, Steps p.tables e below (T47.setTop (mkF m 271 #[.val (.int p0), .val (.int p1), .val (.int p2), .val (.int p3), .val (.int (1 : Int32)), .val (.int ra0), .val (.int rb0), .val (.int ra1), .val (.int rb1), .val (.int ra2), .val (.int rb2), .val (.ref a36), .val (.ref a39), .val (.int v51), .val (.int (1 : Int32)), .val (.int (1 : Int32)), .val (.int v55), .val (.int (0 : Int32)), .val (.int (0 : Int32)), .val (.int v62), .unset] [(.ref a39), (.ref a36)])) t → Steps p.tables e below (s₁.setTop (entryFrame m #[(.int p0), (.int p1), (.int p2), (.int p3)] maxLocals)) t := fun t k => pre63 _ (by
      show Steps p.tables e below (T47.setTop (mkF m 265 #[.val (.int p0), .val (.int p1), .val (.int p2), .val (.int p3), .val (.int (1 : Int32)), .val (.int ra0), .val (.int rb0), .val (.int ra1), .val (.int rb1), .val (.int ra2), .val (.int rb2), .val (.ref a36), .val (.ref a39), .val (.int v51), .val (.int (1 : Int32)), .val (.int (1 : Int32)), .val (.int v55), .val (.int (0 : Int32)), .val (.int (0 : Int32)), .unset, .unset] [(.int v62)])) _
      refine XS.istore X47.here hx rfl (hb hby at_265) rfl (l' := #[.val (.int p0), .val (.int p1), .val (.int p2), .val (.int p3), .val (.int (1 : Int32)), .val (.int ra0), .val (.int rb0), .val (.int ra1), .val (.int rb1), .val (.int ra2), .val (.int rb2), .val (.ref a36), .val (.ref a39), .val (.int v51), .val (.int (1 : Int32)), .val (.int (1 : Int32)), .val (.int v55), .val (.int (0 : Int32)), .val (.int (0 : Int32)), .val (.int v62), .unset]) rfl ?_
      show Steps p.tables e below (T47.setTop (mkF m 267 #[.val (.int p0), .val (.int p1), .val (.int p2), .val (.int p3), .val (.int (1 : Int32)), .val (.int ra0), .val (.int rb0), .val (.int ra1), .val (.int rb1), .val (.int ra2), .val (.int rb2), .val (.ref a36), .val (.ref a39), .val (.int v51), .val (.int (1 : Int32)), .val (.int (1 : Int32)), .val (.int v55), .val (.int (0 : Int32)), .val (.int (0 : Int32)), .val (.int v62), .unset] [])) _
      refine XS.aload X47.here hx rfl (hb hby at_267) rfl rfl ?_
      show Steps p.tables e below (T47.setTop (mkF m 269 #[.val (.int p0), .val (.int p1), .val (.int p2), .val (.int p3), .val (.int (1 : Int32)), .val (.int ra0), .val (.int rb0), .val (.int ra1), .val (.int rb1), .val (.int ra2), .val (.int rb2), .val (.ref a36), .val (.ref a39), .val (.int v51), .val (.int (1 : Int32)), .val (.int (1 : Int32)), .val (.int v55), .val (.int (0 : Int32)), .val (.int (0 : Int32)), .val (.int v62), .unset] [(.ref a36)])) _
      refine XS.aload X47.here hx rfl (hb hby at_269) rfl rfl ?_
      exact k)
    obtain ⟨_, _, ⟨T65, L65, k65, n65⟩, -, X65, ⟨Lc65, hQ65, l65, y65, z65⟩, st65⟩ := Jvm.LawKit.callS X47 hx (y := (⟨"com/example/cultivar/cultivar/Pareto", "dominates", "([D[D)Z"⟩ : MethodName)) hown (mvT hZ (hw _ (List.mem_of_getElem? (i := 8) rfl))) (mvT hZ (hw _ (List.mem_of_getElem? (i := 9) rfl))) (mvT hZ (hw _ (List.mem_of_getElem? (i := 10) rfl))) (mvT hZ (hw _ (List.mem_of_getElem? (i := 11) rfl))) (by decide) (backOf (W := 0) (own_dom1 l Z a0 hw [] a36 a39 cA36 cA39 ra0 rb0 h47 n0 Z47 (V43.other W47 ne_a36_a39) V47) hZ (hw _ (List.mem_of_getElem? (i := 11) rfl)) (hw _ (List.mem_of_getElem? (i := 10) rfl)) (by decide) (by decide)) (g := (mkF m 271 #[.val (.int p0), .val (.int p1), .val (.int p2), .val (.int p3), .val (.int (1 : Int32)), .val (.int ra0), .val (.int rb0), .val (.int ra1), .val (.int rb1), .val (.int ra2), .val (.int rb2), .val (.ref a36), .val (.ref a39), .val (.int v51), .val (.int (1 : Int32)), .val (.int (1 : Int32)), .val (.int v55), .val (.int (0 : Int32)), .val (.int (0 : Int32)), .val (.int v62), .unset] [(.ref a39), (.ref a36)])) rfl (by rw [hml]; rfl) (argsL := [(.ref a36), (.ref a39)]) (rest := []) (lenOf own_pd___D_D_Z rfl) rfl (by show 2 * 0 + _ ≤ _; exact Nat.le_of_eq rfl) (hb hby at_271) (fun _ _ => ⟨rfl, e47, (by decide : 2 + 0 ≤ _), (by decide : 2 + 0 ≤ _)⟩)
    dsimp only [Pt.U, Pt.locs, Pt.cells, Pt.slots] at X65 l65 y65 z65 st65 hQ65
    subst l65 y65 z65
    obtain ⟨rfl, N65q, e65⟩ := hQ65
    have N65 := Fr.app N47 N65q
    have pre66 : ∀ t, Steps p.tables e below (T65.setTop (mkF m 274 #[.val (.int p0), .val (.int p1), .val (.int p2), .val (.int p3), .val (.int (1 : Int32)), .val (.int ra0), .val (.int rb0), .val (.int ra1), .val (.int rb1), .val (.int ra2), .val (.int rb2), .val (.ref a36), .val (.ref a39), .val (.int v51), .val (.int (1 : Int32)), .val (.int (1 : Int32)), .val (.int v55), .val (.int (0 : Int32)), .val (.int (0 : Int32)), .val (.int v62), .unset] [(.int (own_dom [(ra0, rb0)] [(rb0, ra0)]))])) t → Steps p.tables e below (s₁.setTop (entryFrame m #[(.int p0), (.int p1), (.int p2), (.int p3)] maxLocals)) t := fun t k => pre64 _ (st65 _ k)
    have pre67 : ∀ t, Steps p.tables e below (T65.setTop (mkF m 288 #[.val (.int p0), .val (.int p1), .val (.int p2), .val (.int p3), .val (.int (1 : Int32)), .val (.int ra0), .val (.int rb0), .val (.int ra1), .val (.int rb1), .val (.int ra2), .val (.int rb2), .val (.ref a36), .val (.ref a39), .val (.int v51), .val (.int (1 : Int32)), .val (.int (1 : Int32)), .val (.int v55), .val (.int (0 : Int32)), .val (.int (0 : Int32)), .val (.int v62), .val (.int (own_dom [(ra0, rb0)] [(rb0, ra0)]))] [(.int (1 : Int32))])) t → Steps p.tables e below (s₁.setTop (entryFrame m #[(.int p0), (.int p1), (.int p2), (.int p3)] maxLocals)) t := fun t k => pre66 _ (by
      show Steps p.tables e below (T65.setTop (mkF m 274 #[.val (.int p0), .val (.int p1), .val (.int p2), .val (.int p3), .val (.int (1 : Int32)), .val (.int ra0), .val (.int rb0), .val (.int ra1), .val (.int rb1), .val (.int ra2), .val (.int rb2), .val (.ref a36), .val (.ref a39), .val (.int v51), .val (.int (1 : Int32)), .val (.int (1 : Int32)), .val (.int v55), .val (.int (0 : Int32)), .val (.int (0 : Int32)), .val (.int v62), .unset] [(.int (own_dom [(ra0, rb0)] [(rb0, ra0)]))])) _
      refine XS.istore X65.here hx rfl (hb hby at_274) rfl (l' := #[.val (.int p0), .val (.int p1), .val (.int p2), .val (.int p3), .val (.int (1 : Int32)), .val (.int ra0), .val (.int rb0), .val (.int ra1), .val (.int rb1), .val (.int ra2), .val (.int rb2), .val (.ref a36), .val (.ref a39), .val (.int v51), .val (.int (1 : Int32)), .val (.int (1 : Int32)), .val (.int v55), .val (.int (0 : Int32)), .val (.int (0 : Int32)), .val (.int v62), .val (.int (own_dom [(ra0, rb0)] [(rb0, ra0)]))]) rfl ?_
      show Steps p.tables e below (T65.setTop (mkF m 276 #[.val (.int p0), .val (.int p1), .val (.int p2), .val (.int p3), .val (.int (1 : Int32)), .val (.int ra0), .val (.int rb0), .val (.int ra1), .val (.int rb1), .val (.int ra2), .val (.int rb2), .val (.ref a36), .val (.ref a39), .val (.int v51), .val (.int (1 : Int32)), .val (.int (1 : Int32)), .val (.int v55), .val (.int (0 : Int32)), .val (.int (0 : Int32)), .val (.int v62), .val (.int (own_dom [(ra0, rb0)] [(rb0, ra0)]))] [])) _
      refine XS.iload X65.here hx rfl (hb hby at_276) rfl ?_
      show Steps p.tables e below (T65.setTop (mkF m 278 #[.val (.int p0), .val (.int p1), .val (.int p2), .val (.int p3), .val (.int (1 : Int32)), .val (.int ra0), .val (.int rb0), .val (.int ra1), .val (.int rb1), .val (.int ra2), .val (.int rb2), .val (.ref a36), .val (.ref a39), .val (.int v51), .val (.int (1 : Int32)), .val (.int (1 : Int32)), .val (.int v55), .val (.int (0 : Int32)), .val (.int (0 : Int32)), .val (.int v62), .val (.int (own_dom [(ra0, rb0)] [(rb0, ra0)]))] [(.int (own_dom [(ra0, rb0)] [(rb0, ra0)]))])) _
      refine XS.iload X65.here hx rfl (hb hby at_278) rfl ?_
      show Steps p.tables e below (T65.setTop (mkF m 280 #[.val (.int p0), .val (.int p1), .val (.int p2), .val (.int p3), .val (.int (1 : Int32)), .val (.int ra0), .val (.int rb0), .val (.int ra1), .val (.int rb1), .val (.int ra2), .val (.int rb2), .val (.ref a36), .val (.ref a39), .val (.int v51), .val (.int (1 : Int32)), .val (.int (1 : Int32)), .val (.int v55), .val (.int (0 : Int32)), .val (.int (0 : Int32)), .val (.int v62), .val (.int (own_dom [(ra0, rb0)] [(rb0, ra0)]))] [(.int v62), (.int (own_dom [(ra0, rb0)] [(rb0, ra0)]))])) _
      refine XS.icmpNo X65.here hx rfl (hb hby at_280) rfl (XT.ii_ne_f (own_fin1 ra0 rb0 _ _ _ _ hv51 hv55 hv60 hv62)) ?_
      show Steps p.tables e below (T65.setTop (mkF m 283 #[.val (.int p0), .val (.int p1), .val (.int p2), .val (.int p3), .val (.int (1 : Int32)), .val (.int ra0), .val (.int rb0), .val (.int ra1), .val (.int rb1), .val (.int ra2), .val (.int rb2), .val (.ref a36), .val (.ref a39), .val (.int v51), .val (.int (1 : Int32)), .val (.int (1 : Int32)), .val (.int v55), .val (.int (0 : Int32)), .val (.int (0 : Int32)), .val (.int v62), .val (.int (own_dom [(ra0, rb0)] [(rb0, ra0)]))] [])) _
      refine XT.iconstV X65.here hx rfl (1 : Int32) (hb hby at_283) rfl ?_
      show Steps p.tables e below (T65.setTop (mkF m 284 #[.val (.int p0), .val (.int p1), .val (.int p2), .val (.int p3), .val (.int (1 : Int32)), .val (.int ra0), .val (.int rb0), .val (.int ra1), .val (.int rb1), .val (.int ra2), .val (.int rb2), .val (.ref a36), .val (.ref a39), .val (.int v51), .val (.int (1 : Int32)), .val (.int (1 : Int32)), .val (.int v55), .val (.int (0 : Int32)), .val (.int (0 : Int32)), .val (.int v62), .val (.int (own_dom [(ra0, rb0)] [(rb0, ra0)]))] [(.int (1 : Int32))])) _
      refine XS.goto X65.here hx rfl (pc0 := 284) (pc' := 288) rfl (hb hby at_284) (by decide) (by decide) ?_
      exact k)
    obtain ⟨fs, hr, hrun, hended, hW, hsame⟩ := X65.leave (v := some (.int (1 : Int32))) (fun h => by rw [Bd.returns] at h; cases h)
    refine ⟨_, _, pre67 _ ?_, hrun, hended, _, _, rfl, ?_, ⟨_, rfl⟩, hW, hsame.mono (by decide) (by decide)⟩
    · show Steps p.tables e below (T65.setTop (mkF m 288 #[.val (.int p0), .val (.int p1), .val (.int p2), .val (.int p3), .val (.int (1 : Int32)), .val (.int ra0), .val (.int rb0), .val (.int ra1), .val (.int rb1), .val (.int ra2), .val (.int rb2), .val (.ref a36), .val (.ref a39), .val (.int v51), .val (.int (1 : Int32)), .val (.int (1 : Int32)), .val (.int v55), .val (.int (0 : Int32)), .val (.int (0 : Int32)), .val (.int v62), .val (.int (own_dom [(ra0, rb0)] [(rb0, ra0)]))] [(.int (1 : Int32))])) _
      exact retN X65 hx (t := .boolean) Bd.returns (by simp) (hb hby at_288) hr
    · show Q_own_law Z p0 p1 p2 p3 h0 n0 _ T65.heap _
      rw [e65]
      exact ⟨rfl, N65⟩
  · subst hcs
    obtain ⟨T68, h68, cA68, X68, e68, E68, A68, st68⟩ := newP X22 hx hZ (aty := .double) (hw _ (List.mem_of_getElem? (i := 7) rfl)) e22 (g := (mkF m 43 #[.val (.int p0), .val (.int p1), .val (.int p2), .val (.int p3), .val (.int (2 : Int32)), .val (.int ra0), .val (.int rb0), .val (.int ra1), .val (.int rb1), .val (.int ra2), .val (.int rb2), .unset, .unset, .unset, .unset, .unset, .unset, .unset, .unset, .unset, .unset] [(.int (2 : Int32))])) rfl (hb hby at_43) rfl (by decide) (cap := 2) (by decide) (by decide) (by decide) (by decide)
    obtain ⟨a68, ga68⟩ : ∃ z, z = h0.size := ⟨_, rfl⟩
    rw [← ga68] at A68 st68
    have ge_a68 : n0 ≤ a68 := Nat.le_trans Z0 (Nat.le_of_eq ga68.symm)
    have Z68 : n0 ≤ h68.size := Nat.le_trans Z0 E68.1
    have pre69 : ∀ t, Steps p.tables e below (T68.setTop (mkF m 45 #[.val (.int p0), .val (.int p1), .val (.int p2), .val (.int p3), .val (.int (2 : Int32)), .val (.int ra0), .val (.int rb0), .val (.int ra1), .val (.int rb1), .val (.int ra2), .val (.int rb2), .unset, .unset, .unset, .unset, .unset, .unset, .unset, .unset, .unset, .unset] [(.ref a68)])) t → Steps p.tables e below (s₁.setTop (entryFrame m #[(.int p0), (.int p1), (.int p2), (.int p3)] maxLocals)) t := fun t k => pre26 _ (st68 _ k)
    have V68 : Arv Z h68 a68 cA68 .double (2 : Int32) [(.double (FP.l2d 0)), (.double (FP.l2d 0))] (.double (FP.l2d 0)) := (Arv.newD A68 (by decide)).pad (pad_rep [] (.double (FP.l2d 0)) 2)
    have pre70 : ∀ t, Steps p.tables e below (T68.setTop (mkF m 49 #[.val (.int p0), .val (.int p1), .val (.int p2), .val (.int p3), .val (.int (2 : Int32)), .val (.int ra0), .val (.int rb0), .val (.int ra1), .val (.int rb1), .val (.int ra2), .val (.int rb2), .val (.ref a68), .unset, .unset, .unset, .unset, .unset, .unset, .unset, .unset, .unset] [(.int (2 : Int32))])) t → Steps p.tables e below (s₁.setTop (entryFrame m #[(.int p0), (.int p1), (.int p2), (.int p3)] maxLocals)) t := fun t k => pre69 _ (by
      show Steps p.tables e below (T68.setTop (mkF m 45 #[.val (.int p0), .val (.int p1), .val (.int p2), .val (.int p3), .val (.int (2 : Int32)), .val (.int ra0), .val (.int rb0), .val (.int ra1), .val (.int rb1), .val (.int ra2), .val (.int rb2), .unset, .unset, .unset, .unset, .unset, .unset, .unset, .unset, .unset, .unset] [(.ref a68)])) _
      refine XS.astore X68.here hx rfl (hb hby at_45) rfl rfl (l' := #[.val (.int p0), .val (.int p1), .val (.int p2), .val (.int p3), .val (.int (2 : Int32)), .val (.int ra0), .val (.int rb0), .val (.int ra1), .val (.int rb1), .val (.int ra2), .val (.int rb2), .val (.ref a68), .unset, .unset, .unset, .unset, .unset, .unset, .unset, .unset, .unset]) rfl ?_
      show Steps p.tables e below (T68.setTop (mkF m 47 #[.val (.int p0), .val (.int p1), .val (.int p2), .val (.int p3), .val (.int (2 : Int32)), .val (.int ra0), .val (.int rb0), .val (.int ra1), .val (.int rb1), .val (.int ra2), .val (.int rb2), .val (.ref a68), .unset, .unset, .unset, .unset, .unset, .unset, .unset, .unset, .unset] [])) _
      refine XS.iload X68.here hx rfl (hb hby at_47) rfl ?_
      exact k)
    obtain ⟨T71, h71, cA71, X71, e71, E71, A71, st71⟩ := newP X68 hx hZ (aty := .double) (hw _ (List.mem_of_getElem? (i := 7) rfl)) e68 (g := (mkF m 49 #[.val (.int p0), .val (.int p1), .val (.int p2), .val (.int p3), .val (.int (2 : Int32)), .val (.int ra0), .val (.int rb0), .val (.int ra1), .val (.int rb1), .val (.int ra2), .val (.int rb2), .val (.ref a68), .unset, .unset, .unset, .unset, .unset, .unset, .unset, .unset, .unset] [(.int (2 : Int32))])) rfl (hb hby at_49) rfl (by decide) (cap := 2) (by decide) (by decide) (by decide) (by decide)
    obtain ⟨a71, ga71⟩ : ∃ z, z = h68.size := ⟨_, rfl⟩
    rw [← ga71] at A71 st71
    have lt_a68_a71 : a68 < a71 := Nat.lt_of_lt_of_eq V68.lt ga71.symm
    have ne_a68_a71 : a68 ≠ a71 := Nat.ne_of_lt lt_a68_a71
    have ge_a71 : n0 ≤ a71 := Nat.le_trans Z68 (Nat.le_of_eq ga71.symm)
    have Z71 : n0 ≤ h71.size := Nat.le_trans Z68 E71.1
    have pre72 : ∀ t, Steps p.tables e below (T71.setTop (mkF m 51 #[.val (.int p0), .val (.int p1), .val (.int p2), .val (.int p3), .val (.int (2 : Int32)), .val (.int ra0), .val (.int rb0), .val (.int ra1), .val (.int rb1), .val (.int ra2), .val (.int rb2), .val (.ref a68), .unset, .unset, .unset, .unset, .unset, .unset, .unset, .unset, .unset] [(.ref a71)])) t → Steps p.tables e below (s₁.setTop (entryFrame m #[(.int p0), (.int p1), (.int p2), (.int p3)] maxLocals)) t := fun t k => pre70 _ (st71 _ k)
    have V71 : Arv Z h71 a71 cA71 .double (2 : Int32) [(.double (FP.l2d 0)), (.double (FP.l2d 0))] (.double (FP.l2d 0)) := (Arv.newD A71 (by decide)).pad (pad_rep [] (.double (FP.l2d 0)) 2)
    have pre73 : ∀ t, Steps p.tables e below (T71.setTop (mkF m 64 #[.val (.int p0), .val (.int p1), .val (.int p2), .val (.int p3), .val (.int (2 : Int32)), .val (.int ra0), .val (.int rb0), .val (.int ra1), .val (.int rb1), .val (.int ra2), .val (.int rb2), .val (.ref a68), .val (.ref a71), .unset, .unset, .unset, .unset, .unset, .unset, .unset, .unset] [(.double (FP.l2d (ra0.toInt64))), (.int (0 : Int32)), (.ref a68)])) t → Steps p.tables e below (s₁.setTop (entryFrame m #[(.int p0), (.int p1), (.int p2), (.int p3)] maxLocals)) t := fun t k => pre72 _ (by
      show Steps p.tables e below (T71.setTop (mkF m 51 #[.val (.int p0), .val (.int p1), .val (.int p2), .val (.int p3), .val (.int (2 : Int32)), .val (.int ra0), .val (.int rb0), .val (.int ra1), .val (.int rb1), .val (.int ra2), .val (.int rb2), .val (.ref a68), .unset, .unset, .unset, .unset, .unset, .unset, .unset, .unset, .unset] [(.ref a71)])) _
      refine XS.astore X71.here hx rfl (hb hby at_51) rfl rfl (l' := #[.val (.int p0), .val (.int p1), .val (.int p2), .val (.int p3), .val (.int (2 : Int32)), .val (.int ra0), .val (.int rb0), .val (.int ra1), .val (.int rb1), .val (.int ra2), .val (.int rb2), .val (.ref a68), .val (.ref a71), .unset, .unset, .unset, .unset, .unset, .unset, .unset, .unset]) rfl ?_
      show Steps p.tables e below (T71.setTop (mkF m 53 #[.val (.int p0), .val (.int p1), .val (.int p2), .val (.int p3), .val (.int (2 : Int32)), .val (.int ra0), .val (.int rb0), .val (.int ra1), .val (.int rb1), .val (.int ra2), .val (.int rb2), .val (.ref a68), .val (.ref a71), .unset, .unset, .unset, .unset, .unset, .unset, .unset, .unset] [])) _
      refine XS.iload X71.here hx rfl (hb hby at_53) rfl ?_
      show Steps p.tables e below (T71.setTop (mkF m 55 #[.val (.int p0), .val (.int p1), .val (.int p2), .val (.int p3), .val (.int (2 : Int32)), .val (.int ra0), .val (.int rb0), .val (.int ra1), .val (.int rb1), .val (.int ra2), .val (.int rb2), .val (.ref a68), .val (.ref a71), .unset, .unset, .unset, .unset, .unset, .unset, .unset, .unset] [(.int (2 : Int32))])) _
      refine XS.ifNo X71.here hx rfl (hb hby at_55) rfl (XT.i0_le_f (by decide)) ?_
      show Steps p.tables e below (T71.setTop (mkF m 58 #[.val (.int p0), .val (.int p1), .val (.int p2), .val (.int p3), .val (.int (2 : Int32)), .val (.int ra0), .val (.int rb0), .val (.int ra1), .val (.int rb1), .val (.int ra2), .val (.int rb2), .val (.ref a68), .val (.ref a71), .unset, .unset, .unset, .unset, .unset, .unset, .unset, .unset] [])) _
      refine XS.aload X71.here hx rfl (hb hby at_58) rfl rfl ?_
      show Steps p.tables e below (T71.setTop (mkF m 60 #[.val (.int p0), .val (.int p1), .val (.int p2), .val (.int p3), .val (.int (2 : Int32)), .val (.int ra0), .val (.int rb0), .val (.int ra1), .val (.int rb1), .val (.int ra2), .val (.int rb2), .val (.ref a68), .val (.ref a71), .unset, .unset, .unset, .unset, .unset, .unset, .unset, .unset] [(.ref a68)])) _
      refine XT.iconstV X71.here hx rfl (0 : Int32) (hb hby at_60) rfl ?_
      show Steps p.tables e below (T71.setTop (mkF m 61 #[.val (.int p0), .val (.int p1), .val (.int p2), .val (.int p3), .val (.int (2 : Int32)), .val (.int ra0), .val (.int rb0), .val (.int ra1), .val (.int rb1), .val (.int ra2), .val (.int rb2), .val (.ref a68), .val (.ref a71), .unset, .unset, .unset, .unset, .unset, .unset, .unset, .unset] [(.int (0 : Int32)), (.ref a68)])) _
      refine XS.iload X71.here hx rfl (hb hby at_61) rfl ?_
      show Steps p.tables e below (T71.setTop (mkF m 63 #[.val (.int p0), .val (.int p1), .val (.int p2), .val (.int p3), .val (.int (2 : Int32)), .val (.int ra0), .val (.int rb0), .val (.int ra1), .val (.int rb1), .val (.int ra2), .val (.int rb2), .val (.ref a68), .val (.ref a71), .unset, .unset, .unset, .unset, .unset, .unset, .unset, .unset] [(.int ra0), (.int (0 : Int32)), (.ref a68)])) _
      refine XS.i2dS X71.here hx rfl (hb hby at_63) rfl (i2d_w ra0) ?_
      exact k)
    obtain ⟨cl74, Ar74, qc74, Sz74, Mz74, Hs74, Uf74⟩ := (show Arv Z h71 a68 cA68 .double (2 : Int32) [(.double (FP.l2d 0)), (.double (FP.l2d 0))] (.double (FP.l2d 0)) from (V68.ext E71))
    have in75 : ¬ ((0 : Int32) < 0 ∨ cl74.slots.size ≤ ((0 : Int32)).toNatClampNeg) := inb_of Sz74 (by decide)
    obtain ⟨T75, h75, X75, e75, W75, st75⟩ := stD X71 hx hZ e71 Ar74 (j := (0 : Int32)) in75 (g := (mkF m 64 #[.val (.int p0), .val (.int p1), .val (.int p2), .val (.int p3), .val (.int (2 : Int32)), .val (.int ra0), .val (.int rb0), .val (.int ra1), .val (.int rb1), .val (.int ra2), .val (.int rb2), .val (.ref a68), .val (.ref a71), .unset, .unset, .unset, .unset, .unset, .unset, .unset, .unset] [(.double (FP.l2d (ra0.toInt64))), (.int (0 : Int32)), (.ref a68)])) rfl rfl (hb hby at_64)
    have N75 := Fr.snoc X75 N22 ge_a68
    have Z75 : n0 ≤ h75.size := Nat.le_trans Z71 (Keep.of_wr W75).1
    have V75 : Arv Z h75 a68 cA68 .double (2 : Int32) [(.double (FP.l2d (ra0.toInt64))), (.double (FP.l2d 0))] (.double (FP.l2d 0)) := Arv.set Ar74 qc74 Sz74 Mz74 Hs74 Uf74 rfl W75 0 (by decide) (by show 0 < 2; decide)
    have pre76 : ∀ t, Steps p.tables e below (T75.setTop (mkF m 65 #[.val (.int p0), .val (.int p1), .val (.int p2), .val (.int p3), .val (.int (2 : Int32)), .val (.int ra0), .val (.int rb0), .val (.int ra1), .val (.int rb1), .val (.int ra2), .val (.int rb2), .val (.ref a68), .val (.ref a71), .unset, .unset, .unset, .unset, .unset, .unset, .unset, .unset] [])) t → Steps p.tables e below (s₁.setTop (entryFrame m #[(.int p0), (.int p1), (.int p2), (.int p3)] maxLocals)) t := fun t k => pre73 _ (st75 _ k)
    have pre77 : ∀ t, Steps p.tables e below (T75.setTop (mkF m 71 #[.val (.int p0), .val (.int p1), .val (.int p2), .val (.int p3), .val (.int (2 : Int32)), .val (.int ra0), .val (.int rb0), .val (.int ra1), .val (.int rb1), .val (.int ra2), .val (.int rb2), .val (.ref a68), .val (.ref a71), .unset, .unset, .unset, .unset, .unset, .unset, .unset, .unset] [(.double (FP.l2d (rb0.toInt64))), (.int (0 : Int32)), (.ref a71)])) t → Steps p.tables e below (s₁.setTop (entryFrame m #[(.int p0), (.int p1), (.int p2), (.int p3)] maxLocals)) t := fun t k => pre76 _ (by
      show Steps p.tables e below (T75.setTop (mkF m 65 #[.val (.int p0), .val (.int p1), .val (.int p2), .val (.int p3), .val (.int (2 : Int32)), .val (.int ra0), .val (.int rb0), .val (.int ra1), .val (.int rb1), .val (.int ra2), .val (.int rb2), .val (.ref a68), .val (.ref a71), .unset, .unset, .unset, .unset, .unset, .unset, .unset, .unset] [])) _
      refine XS.aload X75.here hx rfl (hb hby at_65) rfl rfl ?_
      show Steps p.tables e below (T75.setTop (mkF m 67 #[.val (.int p0), .val (.int p1), .val (.int p2), .val (.int p3), .val (.int (2 : Int32)), .val (.int ra0), .val (.int rb0), .val (.int ra1), .val (.int rb1), .val (.int ra2), .val (.int rb2), .val (.ref a68), .val (.ref a71), .unset, .unset, .unset, .unset, .unset, .unset, .unset, .unset] [(.ref a71)])) _
      refine XT.iconstV X75.here hx rfl (0 : Int32) (hb hby at_67) rfl ?_
      show Steps p.tables e below (T75.setTop (mkF m 68 #[.val (.int p0), .val (.int p1), .val (.int p2), .val (.int p3), .val (.int (2 : Int32)), .val (.int ra0), .val (.int rb0), .val (.int ra1), .val (.int rb1), .val (.int ra2), .val (.int rb2), .val (.ref a68), .val (.ref a71), .unset, .unset, .unset, .unset, .unset, .unset, .unset, .unset] [(.int (0 : Int32)), (.ref a71)])) _
      refine XS.iload X75.here hx rfl (hb hby at_68) rfl ?_
      show Steps p.tables e below (T75.setTop (mkF m 70 #[.val (.int p0), .val (.int p1), .val (.int p2), .val (.int p3), .val (.int (2 : Int32)), .val (.int ra0), .val (.int rb0), .val (.int ra1), .val (.int rb1), .val (.int ra2), .val (.int rb2), .val (.ref a68), .val (.ref a71), .unset, .unset, .unset, .unset, .unset, .unset, .unset, .unset] [(.int rb0), (.int (0 : Int32)), (.ref a71)])) _
      refine XS.i2dS X75.here hx rfl (hb hby at_70) rfl (i2d_w rb0) ?_
      exact k)
    obtain ⟨cl78, Ar78, qc78, Sz78, Mz78, Hs78, Uf78⟩ := (show Arv Z h75 a71 cA71 .double (2 : Int32) [(.double (FP.l2d 0)), (.double (FP.l2d 0))] (.double (FP.l2d 0)) from (V71.other W75 ne_a68_a71.symm))
    have in79 : ¬ ((0 : Int32) < 0 ∨ cl78.slots.size ≤ ((0 : Int32)).toNatClampNeg) := inb_of Sz78 (by decide)
    obtain ⟨T79, h79, X79, e79, W79, st79⟩ := stD X75 hx hZ e75 Ar78 (j := (0 : Int32)) in79 (g := (mkF m 71 #[.val (.int p0), .val (.int p1), .val (.int p2), .val (.int p3), .val (.int (2 : Int32)), .val (.int ra0), .val (.int rb0), .val (.int ra1), .val (.int rb1), .val (.int ra2), .val (.int rb2), .val (.ref a68), .val (.ref a71), .unset, .unset, .unset, .unset, .unset, .unset, .unset, .unset] [(.double (FP.l2d (rb0.toInt64))), (.int (0 : Int32)), (.ref a71)])) rfl rfl (hb hby at_71)
    have N79 := Fr.snoc X79 N75 ge_a71
    have Z79 : n0 ≤ h79.size := Nat.le_trans Z75 (Keep.of_wr W79).1
    have V79 : Arv Z h79 a71 cA71 .double (2 : Int32) [(.double (FP.l2d (rb0.toInt64))), (.double (FP.l2d 0))] (.double (FP.l2d 0)) := Arv.set Ar78 qc78 Sz78 Mz78 Hs78 Uf78 rfl W79 0 (by decide) (by show 0 < 2; decide)
    have pre80 : ∀ t, Steps p.tables e below (T79.setTop (mkF m 72 #[.val (.int p0), .val (.int p1), .val (.int p2), .val (.int p3), .val (.int (2 : Int32)), .val (.int ra0), .val (.int rb0), .val (.int ra1), .val (.int rb1), .val (.int ra2), .val (.int rb2), .val (.ref a68), .val (.ref a71), .unset, .unset, .unset, .unset, .unset, .unset, .unset, .unset] [])) t → Steps p.tables e below (s₁.setTop (entryFrame m #[(.int p0), (.int p1), (.int p2), (.int p3)] maxLocals)) t := fun t k => pre77 _ (st79 _ k)
    have pre81 : ∀ t, Steps p.tables e below (T79.setTop (mkF m 84 #[.val (.int p0), .val (.int p1), .val (.int p2), .val (.int p3), .val (.int (2 : Int32)), .val (.int ra0), .val (.int rb0), .val (.int ra1), .val (.int rb1), .val (.int ra2), .val (.int rb2), .val (.ref a68), .val (.ref a71), .unset, .unset, .unset, .unset, .unset, .unset, .unset, .unset] [(.double (FP.l2d (ra1.toInt64))), (.int (1 : Int32)), (.ref a68)])) t → Steps p.tables e below (s₁.setTop (entryFrame m #[(.int p0), (.int p1), (.int p2), (.int p3)] maxLocals)) t := fun t k => pre80 _ (by
      show Steps p.tables e below (T79.setTop (mkF m 72 #[.val (.int p0), .val (.int p1), .val (.int p2), .val (.int p3), .val (.int (2 : Int32)), .val (.int ra0), .val (.int rb0), .val (.int ra1), .val (.int rb1), .val (.int ra2), .val (.int rb2), .val (.ref a68), .val (.ref a71), .unset, .unset, .unset, .unset, .unset, .unset, .unset, .unset] [])) _
      refine XS.iload X79.here hx rfl (hb hby at_72) rfl ?_
      show Steps p.tables e below (T79.setTop (mkF m 74 #[.val (.int p0), .val (.int p1), .val (.int p2), .val (.int p3), .val (.int (2 : Int32)), .val (.int ra0), .val (.int rb0), .val (.int ra1), .val (.int rb1), .val (.int ra2), .val (.int rb2), .val (.ref a68), .val (.ref a71), .unset, .unset, .unset, .unset, .unset, .unset, .unset, .unset] [(.int (2 : Int32))])) _
      refine XT.iconstV X79.here hx rfl (1 : Int32) (hb hby at_74) rfl ?_
      show Steps p.tables e below (T79.setTop (mkF m 75 #[.val (.int p0), .val (.int p1), .val (.int p2), .val (.int p3), .val (.int (2 : Int32)), .val (.int ra0), .val (.int rb0), .val (.int ra1), .val (.int rb1), .val (.int ra2), .val (.int rb2), .val (.ref a68), .val (.ref a71), .unset, .unset, .unset, .unset, .unset, .unset, .unset, .unset] [(.int (1 : Int32)), (.int (2 : Int32))])) _
      refine XS.icmpNo X79.here hx rfl (hb hby at_75) rfl (XT.ii_le_f (by decide)) ?_
      show Steps p.tables e below (T79.setTop (mkF m 78 #[.val (.int p0), .val (.int p1), .val (.int p2), .val (.int p3), .val (.int (2 : Int32)), .val (.int ra0), .val (.int rb0), .val (.int ra1), .val (.int rb1), .val (.int ra2), .val (.int rb2), .val (.ref a68), .val (.ref a71), .unset, .unset, .unset, .unset, .unset, .unset, .unset, .unset] [])) _
      refine XS.aload X79.here hx rfl (hb hby at_78) rfl rfl ?_
      show Steps p.tables e below (T79.setTop (mkF m 80 #[.val (.int p0), .val (.int p1), .val (.int p2), .val (.int p3), .val (.int (2 : Int32)), .val (.int ra0), .val (.int rb0), .val (.int ra1), .val (.int rb1), .val (.int ra2), .val (.int rb2), .val (.ref a68), .val (.ref a71), .unset, .unset, .unset, .unset, .unset, .unset, .unset, .unset] [(.ref a68)])) _
      refine XT.iconstV X79.here hx rfl (1 : Int32) (hb hby at_80) rfl ?_
      show Steps p.tables e below (T79.setTop (mkF m 81 #[.val (.int p0), .val (.int p1), .val (.int p2), .val (.int p3), .val (.int (2 : Int32)), .val (.int ra0), .val (.int rb0), .val (.int ra1), .val (.int rb1), .val (.int ra2), .val (.int rb2), .val (.ref a68), .val (.ref a71), .unset, .unset, .unset, .unset, .unset, .unset, .unset, .unset] [(.int (1 : Int32)), (.ref a68)])) _
      refine XS.iload X79.here hx rfl (hb hby at_81) rfl ?_
      show Steps p.tables e below (T79.setTop (mkF m 83 #[.val (.int p0), .val (.int p1), .val (.int p2), .val (.int p3), .val (.int (2 : Int32)), .val (.int ra0), .val (.int rb0), .val (.int ra1), .val (.int rb1), .val (.int ra2), .val (.int rb2), .val (.ref a68), .val (.ref a71), .unset, .unset, .unset, .unset, .unset, .unset, .unset, .unset] [(.int ra1), (.int (1 : Int32)), (.ref a68)])) _
      refine XS.i2dS X79.here hx rfl (hb hby at_83) rfl (i2d_w ra1) ?_
      exact k)
    obtain ⟨cl82, Ar82, qc82, Sz82, Mz82, Hs82, Uf82⟩ := (show Arv Z h79 a68 cA68 .double (2 : Int32) [(.double (FP.l2d (ra0.toInt64))), (.double (FP.l2d 0))] (.double (FP.l2d 0)) from (V75.other W79 ne_a68_a71))
    have in83 : ¬ ((1 : Int32) < 0 ∨ cl82.slots.size ≤ ((1 : Int32)).toNatClampNeg) := inb_of Sz82 (by decide)
    obtain ⟨T83, h83, X83, e83, W83, st83⟩ := stD X79 hx hZ e79 Ar82 (j := (1 : Int32)) in83 (g := (mkF m 84 #[.val (.int p0), .val (.int p1), .val (.int p2), .val (.int p3), .val (.int (2 : Int32)), .val (.int ra0), .val (.int rb0), .val (.int ra1), .val (.int rb1), .val (.int ra2), .val (.int rb2), .val (.ref a68), .val (.ref a71), .unset, .unset, .unset, .unset, .unset, .unset, .unset, .unset] [(.double (FP.l2d (ra1.toInt64))), (.int (1 : Int32)), (.ref a68)])) rfl rfl (hb hby at_84)
    have N83 := Fr.snoc X83 N79 ge_a68
    have Z83 : n0 ≤ h83.size := Nat.le_trans Z79 (Keep.of_wr W83).1
    have V83 : Arv Z h83 a68 cA68 .double (2 : Int32) [(.double (FP.l2d (ra0.toInt64))), (.double (FP.l2d (ra1.toInt64)))] (.double (FP.l2d 0)) := Arv.set Ar82 qc82 Sz82 Mz82 Hs82 Uf82 rfl W83 1 (by decide) (by show 1 < 2; decide)
    have pre84 : ∀ t, Steps p.tables e below (T83.setTop (mkF m 85 #[.val (.int p0), .val (.int p1), .val (.int p2), .val (.int p3), .val (.int (2 : Int32)), .val (.int ra0), .val (.int rb0), .val (.int ra1), .val (.int rb1), .val (.int ra2), .val (.int rb2), .val (.ref a68), .val (.ref a71), .unset, .unset, .unset, .unset, .unset, .unset, .unset, .unset] [])) t → Steps p.tables e below (s₁.setTop (entryFrame m #[(.int p0), (.int p1), (.int p2), (.int p3)] maxLocals)) t := fun t k => pre81 _ (st83 _ k)
    have pre85 : ∀ t, Steps p.tables e below (T83.setTop (mkF m 91 #[.val (.int p0), .val (.int p1), .val (.int p2), .val (.int p3), .val (.int (2 : Int32)), .val (.int ra0), .val (.int rb0), .val (.int ra1), .val (.int rb1), .val (.int ra2), .val (.int rb2), .val (.ref a68), .val (.ref a71), .unset, .unset, .unset, .unset, .unset, .unset, .unset, .unset] [(.double (FP.l2d (rb1.toInt64))), (.int (1 : Int32)), (.ref a71)])) t → Steps p.tables e below (s₁.setTop (entryFrame m #[(.int p0), (.int p1), (.int p2), (.int p3)] maxLocals)) t := fun t k => pre84 _ (by
      show Steps p.tables e below (T83.setTop (mkF m 85 #[.val (.int p0), .val (.int p1), .val (.int p2), .val (.int p3), .val (.int (2 : Int32)), .val (.int ra0), .val (.int rb0), .val (.int ra1), .val (.int rb1), .val (.int ra2), .val (.int rb2), .val (.ref a68), .val (.ref a71), .unset, .unset, .unset, .unset, .unset, .unset, .unset, .unset] [])) _
      refine XS.aload X83.here hx rfl (hb hby at_85) rfl rfl ?_
      show Steps p.tables e below (T83.setTop (mkF m 87 #[.val (.int p0), .val (.int p1), .val (.int p2), .val (.int p3), .val (.int (2 : Int32)), .val (.int ra0), .val (.int rb0), .val (.int ra1), .val (.int rb1), .val (.int ra2), .val (.int rb2), .val (.ref a68), .val (.ref a71), .unset, .unset, .unset, .unset, .unset, .unset, .unset, .unset] [(.ref a71)])) _
      refine XT.iconstV X83.here hx rfl (1 : Int32) (hb hby at_87) rfl ?_
      show Steps p.tables e below (T83.setTop (mkF m 88 #[.val (.int p0), .val (.int p1), .val (.int p2), .val (.int p3), .val (.int (2 : Int32)), .val (.int ra0), .val (.int rb0), .val (.int ra1), .val (.int rb1), .val (.int ra2), .val (.int rb2), .val (.ref a68), .val (.ref a71), .unset, .unset, .unset, .unset, .unset, .unset, .unset, .unset] [(.int (1 : Int32)), (.ref a71)])) _
      refine XS.iload X83.here hx rfl (hb hby at_88) rfl ?_
      show Steps p.tables e below (T83.setTop (mkF m 90 #[.val (.int p0), .val (.int p1), .val (.int p2), .val (.int p3), .val (.int (2 : Int32)), .val (.int ra0), .val (.int rb0), .val (.int ra1), .val (.int rb1), .val (.int ra2), .val (.int rb2), .val (.ref a68), .val (.ref a71), .unset, .unset, .unset, .unset, .unset, .unset, .unset, .unset] [(.int rb1), (.int (1 : Int32)), (.ref a71)])) _
      refine XS.i2dS X83.here hx rfl (hb hby at_90) rfl (i2d_w rb1) ?_
      exact k)
    obtain ⟨cl86, Ar86, qc86, Sz86, Mz86, Hs86, Uf86⟩ := (show Arv Z h83 a71 cA71 .double (2 : Int32) [(.double (FP.l2d (rb0.toInt64))), (.double (FP.l2d 0))] (.double (FP.l2d 0)) from (V79.other W83 ne_a68_a71.symm))
    have in87 : ¬ ((1 : Int32) < 0 ∨ cl86.slots.size ≤ ((1 : Int32)).toNatClampNeg) := inb_of Sz86 (by decide)
    obtain ⟨T87, h87, X87, e87, W87, st87⟩ := stD X83 hx hZ e83 Ar86 (j := (1 : Int32)) in87 (g := (mkF m 91 #[.val (.int p0), .val (.int p1), .val (.int p2), .val (.int p3), .val (.int (2 : Int32)), .val (.int ra0), .val (.int rb0), .val (.int ra1), .val (.int rb1), .val (.int ra2), .val (.int rb2), .val (.ref a68), .val (.ref a71), .unset, .unset, .unset, .unset, .unset, .unset, .unset, .unset] [(.double (FP.l2d (rb1.toInt64))), (.int (1 : Int32)), (.ref a71)])) rfl rfl (hb hby at_91)
    have N87 := Fr.snoc X87 N83 ge_a71
    have Z87 : n0 ≤ h87.size := Nat.le_trans Z83 (Keep.of_wr W87).1
    have V87 : Arv Z h87 a71 cA71 .double (2 : Int32) [(.double (FP.l2d (rb0.toInt64))), (.double (FP.l2d (rb1.toInt64)))] (.double (FP.l2d 0)) := Arv.set Ar86 qc86 Sz86 Mz86 Hs86 Uf86 rfl W87 1 (by decide) (by show 1 < 2; decide)
    have pre88 : ∀ t, Steps p.tables e below (T87.setTop (mkF m 92 #[.val (.int p0), .val (.int p1), .val (.int p2), .val (.int p3), .val (.int (2 : Int32)), .val (.int ra0), .val (.int rb0), .val (.int ra1), .val (.int rb1), .val (.int ra2), .val (.int rb2), .val (.ref a68), .val (.ref a71), .unset, .unset, .unset, .unset, .unset, .unset, .unset, .unset] [])) t → Steps p.tables e below (s₁.setTop (entryFrame m #[(.int p0), (.int p1), (.int p2), (.int p3)] maxLocals)) t := fun t k => pre85 _ (st87 _ k)
    have pre89 : ∀ t, Steps p.tables e below (T87.setTop (mkF m 121 #[.val (.int p0), .val (.int p1), .val (.int p2), .val (.int p3), .val (.int (2 : Int32)), .val (.int ra0), .val (.int rb0), .val (.int ra1), .val (.int rb1), .val (.int ra2), .val (.int rb2), .val (.ref a68), .val (.ref a71), .unset, .unset, .unset, .unset, .unset, .unset, .unset, .unset] [(.int rb0), (.int ra0)])) t → Steps p.tables e below (s₁.setTop (entryFrame m #[(.int p0), (.int p1), (.int p2), (.int p3)] maxLocals)) t := fun t k => pre88 _ (by
      show Steps p.tables e below (T87.setTop (mkF m 92 #[.val (.int p0), .val (.int p1), .val (.int p2), .val (.int p3), .val (.int (2 : Int32)), .val (.int ra0), .val (.int rb0), .val (.int ra1), .val (.int rb1), .val (.int ra2), .val (.int rb2), .val (.ref a68), .val (.ref a71), .unset, .unset, .unset, .unset, .unset, .unset, .unset, .unset] [])) _
      refine XS.iload X87.here hx rfl (hb hby at_92) rfl ?_
      show Steps p.tables e below (T87.setTop (mkF m 94 #[.val (.int p0), .val (.int p1), .val (.int p2), .val (.int p3), .val (.int (2 : Int32)), .val (.int ra0), .val (.int rb0), .val (.int ra1), .val (.int rb1), .val (.int ra2), .val (.int rb2), .val (.ref a68), .val (.ref a71), .unset, .unset, .unset, .unset, .unset, .unset, .unset, .unset] [(.int (2 : Int32))])) _
      refine XT.iconstV X87.here hx rfl (2 : Int32) (hb hby at_94) rfl ?_
      show Steps p.tables e below (T87.setTop (mkF m 95 #[.val (.int p0), .val (.int p1), .val (.int p2), .val (.int p3), .val (.int (2 : Int32)), .val (.int ra0), .val (.int rb0), .val (.int ra1), .val (.int rb1), .val (.int ra2), .val (.int rb2), .val (.ref a68), .val (.ref a71), .unset, .unset, .unset, .unset, .unset, .unset, .unset, .unset] [(.int (2 : Int32)), (.int (2 : Int32))])) _
      refine XS.icmpYes X87.here hx rfl (pc0 := 95) (pc' := 112) rfl (hb hby at_95) rfl (XT.ii_le_t (by decide)) (by decide) (by decide) ?_
      show Steps p.tables e below (T87.setTop (mkF m 112 #[.val (.int p0), .val (.int p1), .val (.int p2), .val (.int p3), .val (.int (2 : Int32)), .val (.int ra0), .val (.int rb0), .val (.int ra1), .val (.int rb1), .val (.int ra2), .val (.int rb2), .val (.ref a68), .val (.ref a71), .unset, .unset, .unset, .unset, .unset, .unset, .unset, .unset] [])) _
      refine XS.iload X87.here hx rfl (hb hby at_112) rfl ?_
      show Steps p.tables e below (T87.setTop (mkF m 114 #[.val (.int p0), .val (.int p1), .val (.int p2), .val (.int p3), .val (.int (2 : Int32)), .val (.int ra0), .val (.int rb0), .val (.int ra1), .val (.int rb1), .val (.int ra2), .val (.int rb2), .val (.ref a68), .val (.ref a71), .unset, .unset, .unset, .unset, .unset, .unset, .unset, .unset] [(.int (2 : Int32))])) _
      refine XS.ifNo X87.here hx rfl (hb hby at_114) rfl (XT.i0_le_f (by decide)) ?_
      show Steps p.tables e below (T87.setTop (mkF m 117 #[.val (.int p0), .val (.int p1), .val (.int p2), .val (.int p3), .val (.int (2 : Int32)), .val (.int ra0), .val (.int rb0), .val (.int ra1), .val (.int rb1), .val (.int ra2), .val (.int rb2), .val (.ref a68), .val (.ref a71), .unset, .unset, .unset, .unset, .unset, .unset, .unset, .unset] [])) _
      refine XS.iload X87.here hx rfl (hb hby at_117) rfl ?_
      show Steps p.tables e below (T87.setTop (mkF m 119 #[.val (.int p0), .val (.int p1), .val (.int p2), .val (.int p3), .val (.int (2 : Int32)), .val (.int ra0), .val (.int rb0), .val (.int ra1), .val (.int rb1), .val (.int ra2), .val (.int rb2), .val (.ref a68), .val (.ref a71), .unset, .unset, .unset, .unset, .unset, .unset, .unset, .unset] [(.int ra0)])) _
      refine XS.iload X87.here hx rfl (hb hby at_119) rfl ?_
      exact k)
    obtain ⟨v91, hv91⟩ : ∃ z : Int32, z = (if rb0 < ra0 then (0 : Int32) else (1 : Int32)) := ⟨_, rfl⟩
    have pre92 : ∀ t, Steps p.tables e below (T87.setTop (mkF m 129 #[.val (.int p0), .val (.int p1), .val (.int p2), .val (.int p3), .val (.int (2 : Int32)), .val (.int ra0), .val (.int rb0), .val (.int ra1), .val (.int rb1), .val (.int ra2), .val (.int rb2), .val (.ref a68), .val (.ref a71), .unset, .unset, .unset, .unset, .unset, .unset, .unset, .unset] [(.int v91)])) t → Steps p.tables e below (s₁.setTop (entryFrame m #[(.int p0), (.int p1), (.int p2), (.int p3)] maxLocals)) t := fun t k => pre89 _ (by
      by_cases c121_90 : rb0 < ra0
      · rw [show v91 = _ from hv91.trans (if_pos c121_90)] at k
        show Steps p.tables e below (T87.setTop (mkF m 121 #[.val (.int p0), .val (.int p1), .val (.int p2), .val (.int p3), .val (.int (2 : Int32)), .val (.int ra0), .val (.int rb0), .val (.int ra1), .val (.int rb1), .val (.int ra2), .val (.int rb2), .val (.ref a68), .val (.ref a71), .unset, .unset, .unset, .unset, .unset, .unset, .unset, .unset] [(.int rb0), (.int ra0)])) _
        refine XS.icmpYes X87.here hx rfl (pc0 := 121) (pc' := 128) rfl (hb hby at_121) rfl (XT.ii_gt_t c121_90) (by decide) (by decide) ?_
        show Steps p.tables e below (T87.setTop (mkF m 128 #[.val (.int p0), .val (.int p1), .val (.int p2), .val (.int p3), .val (.int (2 : Int32)), .val (.int ra0), .val (.int rb0), .val (.int ra1), .val (.int rb1), .val (.int ra2), .val (.int rb2), .val (.ref a68), .val (.ref a71), .unset, .unset, .unset, .unset, .unset, .unset, .unset, .unset] [])) _
        refine XT.iconstV X87.here hx rfl (0 : Int32) (hb hby at_128) rfl ?_
        exact k
      · rw [show v91 = _ from hv91.trans (if_neg c121_90)] at k
        show Steps p.tables e below (T87.setTop (mkF m 121 #[.val (.int p0), .val (.int p1), .val (.int p2), .val (.int p3), .val (.int (2 : Int32)), .val (.int ra0), .val (.int rb0), .val (.int ra1), .val (.int rb1), .val (.int ra2), .val (.int rb2), .val (.ref a68), .val (.ref a71), .unset, .unset, .unset, .unset, .unset, .unset, .unset, .unset] [(.int rb0), (.int ra0)])) _
        refine XS.icmpNo X87.here hx rfl (hb hby at_121) rfl (XT.ii_gt_f c121_90) ?_
        show Steps p.tables e below (T87.setTop (mkF m 124 #[.val (.int p0), .val (.int p1), .val (.int p2), .val (.int p3), .val (.int (2 : Int32)), .val (.int ra0), .val (.int rb0), .val (.int ra1), .val (.int rb1), .val (.int ra2), .val (.int rb2), .val (.ref a68), .val (.ref a71), .unset, .unset, .unset, .unset, .unset, .unset, .unset, .unset] [])) _
        refine XT.iconstV X87.here hx rfl (1 : Int32) (hb hby at_124) rfl ?_
        show Steps p.tables e below (T87.setTop (mkF m 125 #[.val (.int p0), .val (.int p1), .val (.int p2), .val (.int p3), .val (.int (2 : Int32)), .val (.int ra0), .val (.int rb0), .val (.int ra1), .val (.int rb1), .val (.int ra2), .val (.int rb2), .val (.ref a68), .val (.ref a71), .unset, .unset, .unset, .unset, .unset, .unset, .unset, .unset] [(.int (1 : Int32))])) _
        refine XS.goto X87.here hx rfl (pc0 := 125) (pc' := 129) rfl (hb hby at_125) (by decide) (by decide) ?_
        exact k)
    have pre93 : ∀ t, Steps p.tables e below (T87.setTop (mkF m 141 #[.val (.int p0), .val (.int p1), .val (.int p2), .val (.int p3), .val (.int (2 : Int32)), .val (.int ra0), .val (.int rb0), .val (.int ra1), .val (.int rb1), .val (.int ra2), .val (.int rb2), .val (.ref a68), .val (.ref a71), .val (.int v91), .unset, .unset, .unset, .unset, .unset, .unset, .unset] [(.int rb1), (.int ra1)])) t → Steps p.tables e below (s₁.setTop (entryFrame m #[(.int p0), (.int p1), (.int p2), (.int p3)] maxLocals)) t := fun t k => pre92 _ (by
      show Steps p.tables e below (T87.setTop (mkF m 129 #[.val (.int p0), .val (.int p1), .val (.int p2), .val (.int p3), .val (.int (2 : Int32)), .val (.int ra0), .val (.int rb0), .val (.int ra1), .val (.int rb1), .val (.int ra2), .val (.int rb2), .val (.ref a68), .val (.ref a71), .unset, .unset, .unset, .unset, .unset, .unset, .unset, .unset] [(.int v91)])) _
      refine XS.istore X87.here hx rfl (hb hby at_129) rfl (l' := #[.val (.int p0), .val (.int p1), .val (.int p2), .val (.int p3), .val (.int (2 : Int32)), .val (.int ra0), .val (.int rb0), .val (.int ra1), .val (.int rb1), .val (.int ra2), .val (.int rb2), .val (.ref a68), .val (.ref a71), .val (.int v91), .unset, .unset, .unset, .unset, .unset, .unset, .unset]) rfl ?_
      show Steps p.tables e below (T87.setTop (mkF m 131 #[.val (.int p0), .val (.int p1), .val (.int p2), .val (.int p3), .val (.int (2 : Int32)), .val (.int ra0), .val (.int rb0), .val (.int ra1), .val (.int rb1), .val (.int ra2), .val (.int rb2), .val (.ref a68), .val (.ref a71), .val (.int v91), .unset, .unset, .unset, .unset, .unset, .unset, .unset] [])) _
      refine XS.iload X87.here hx rfl (hb hby at_131) rfl ?_
      show Steps p.tables e below (T87.setTop (mkF m 133 #[.val (.int p0), .val (.int p1), .val (.int p2), .val (.int p3), .val (.int (2 : Int32)), .val (.int ra0), .val (.int rb0), .val (.int ra1), .val (.int rb1), .val (.int ra2), .val (.int rb2), .val (.ref a68), .val (.ref a71), .val (.int v91), .unset, .unset, .unset, .unset, .unset, .unset, .unset] [(.int (2 : Int32))])) _
      refine XT.iconstV X87.here hx rfl (1 : Int32) (hb hby at_133) rfl ?_
      show Steps p.tables e below (T87.setTop (mkF m 134 #[.val (.int p0), .val (.int p1), .val (.int p2), .val (.int p3), .val (.int (2 : Int32)), .val (.int ra0), .val (.int rb0), .val (.int ra1), .val (.int rb1), .val (.int ra2), .val (.int rb2), .val (.ref a68), .val (.ref a71), .val (.int v91), .unset, .unset, .unset, .unset, .unset, .unset, .unset] [(.int (1 : Int32)), (.int (2 : Int32))])) _
      refine XS.icmpNo X87.here hx rfl (hb hby at_134) rfl (XT.ii_le_f (by decide)) ?_
      show Steps p.tables e below (T87.setTop (mkF m 137 #[.val (.int p0), .val (.int p1), .val (.int p2), .val (.int p3), .val (.int (2 : Int32)), .val (.int ra0), .val (.int rb0), .val (.int ra1), .val (.int rb1), .val (.int ra2), .val (.int rb2), .val (.ref a68), .val (.ref a71), .val (.int v91), .unset, .unset, .unset, .unset, .unset, .unset, .unset] [])) _
      refine XS.iload X87.here hx rfl (hb hby at_137) rfl ?_
      show Steps p.tables e below (T87.setTop (mkF m 139 #[.val (.int p0), .val (.int p1), .val (.int p2), .val (.int p3), .val (.int (2 : Int32)), .val (.int ra0), .val (.int rb0), .val (.int ra1), .val (.int rb1), .val (.int ra2), .val (.int rb2), .val (.ref a68), .val (.ref a71), .val (.int v91), .unset, .unset, .unset, .unset, .unset, .unset, .unset] [(.int ra1)])) _
      refine XS.iload X87.here hx rfl (hb hby at_139) rfl ?_
      exact k)
    obtain ⟨v95, hv95⟩ : ∃ z : Int32, z = (if rb1 < ra1 then (0 : Int32) else (1 : Int32)) := ⟨_, rfl⟩
    have pre96 : ∀ t, Steps p.tables e below (T87.setTop (mkF m 149 #[.val (.int p0), .val (.int p1), .val (.int p2), .val (.int p3), .val (.int (2 : Int32)), .val (.int ra0), .val (.int rb0), .val (.int ra1), .val (.int rb1), .val (.int ra2), .val (.int rb2), .val (.ref a68), .val (.ref a71), .val (.int v91), .unset, .unset, .unset, .unset, .unset, .unset, .unset] [(.int v95)])) t → Steps p.tables e below (s₁.setTop (entryFrame m #[(.int p0), (.int p1), (.int p2), (.int p3)] maxLocals)) t := fun t k => pre93 _ (by
      by_cases c141_94 : rb1 < ra1
      · rw [show v95 = _ from hv95.trans (if_pos c141_94)] at k
        show Steps p.tables e below (T87.setTop (mkF m 141 #[.val (.int p0), .val (.int p1), .val (.int p2), .val (.int p3), .val (.int (2 : Int32)), .val (.int ra0), .val (.int rb0), .val (.int ra1), .val (.int rb1), .val (.int ra2), .val (.int rb2), .val (.ref a68), .val (.ref a71), .val (.int v91), .unset, .unset, .unset, .unset, .unset, .unset, .unset] [(.int rb1), (.int ra1)])) _
        refine XS.icmpYes X87.here hx rfl (pc0 := 141) (pc' := 148) rfl (hb hby at_141) rfl (XT.ii_gt_t c141_94) (by decide) (by decide) ?_
        show Steps p.tables e below (T87.setTop (mkF m 148 #[.val (.int p0), .val (.int p1), .val (.int p2), .val (.int p3), .val (.int (2 : Int32)), .val (.int ra0), .val (.int rb0), .val (.int ra1), .val (.int rb1), .val (.int ra2), .val (.int rb2), .val (.ref a68), .val (.ref a71), .val (.int v91), .unset, .unset, .unset, .unset, .unset, .unset, .unset] [])) _
        refine XT.iconstV X87.here hx rfl (0 : Int32) (hb hby at_148) rfl ?_
        exact k
      · rw [show v95 = _ from hv95.trans (if_neg c141_94)] at k
        show Steps p.tables e below (T87.setTop (mkF m 141 #[.val (.int p0), .val (.int p1), .val (.int p2), .val (.int p3), .val (.int (2 : Int32)), .val (.int ra0), .val (.int rb0), .val (.int ra1), .val (.int rb1), .val (.int ra2), .val (.int rb2), .val (.ref a68), .val (.ref a71), .val (.int v91), .unset, .unset, .unset, .unset, .unset, .unset, .unset] [(.int rb1), (.int ra1)])) _
        refine XS.icmpNo X87.here hx rfl (hb hby at_141) rfl (XT.ii_gt_f c141_94) ?_
        show Steps p.tables e below (T87.setTop (mkF m 144 #[.val (.int p0), .val (.int p1), .val (.int p2), .val (.int p3), .val (.int (2 : Int32)), .val (.int ra0), .val (.int rb0), .val (.int ra1), .val (.int rb1), .val (.int ra2), .val (.int rb2), .val (.ref a68), .val (.ref a71), .val (.int v91), .unset, .unset, .unset, .unset, .unset, .unset, .unset] [])) _
        refine XT.iconstV X87.here hx rfl (1 : Int32) (hb hby at_144) rfl ?_
        show Steps p.tables e below (T87.setTop (mkF m 145 #[.val (.int p0), .val (.int p1), .val (.int p2), .val (.int p3), .val (.int (2 : Int32)), .val (.int ra0), .val (.int rb0), .val (.int ra1), .val (.int rb1), .val (.int ra2), .val (.int rb2), .val (.ref a68), .val (.ref a71), .val (.int v91), .unset, .unset, .unset, .unset, .unset, .unset, .unset] [(.int (1 : Int32))])) _
        refine XS.goto X87.here hx rfl (pc0 := 145) (pc' := 149) rfl (hb hby at_145) (by decide) (by decide) ?_
        exact k)
    have pre97 : ∀ t, Steps p.tables e below (T87.setTop (mkF m 180 #[.val (.int p0), .val (.int p1), .val (.int p2), .val (.int p3), .val (.int (2 : Int32)), .val (.int ra0), .val (.int rb0), .val (.int ra1), .val (.int rb1), .val (.int ra2), .val (.int rb2), .val (.ref a68), .val (.ref a71), .val (.int v91), .val (.int v95), .val (.int (1 : Int32)), .unset, .unset, .unset, .unset, .unset] [(.int rb0), (.int ra0)])) t → Steps p.tables e below (s₁.setTop (entryFrame m #[(.int p0), (.int p1), (.int p2), (.int p3)] maxLocals)) t := fun t k => pre96 _ (by
      show Steps p.tables e below (T87.setTop (mkF m 149 #[.val (.int p0), .val (.int p1), .val (.int p2), .val (.int p3), .val (.int (2 : Int32)), .val (.int ra0), .val (.int rb0), .val (.int ra1), .val (.int rb1), .val (.int ra2), .val (.int rb2), .val (.ref a68), .val (.ref a71), .val (.int v91), .unset, .unset, .unset, .unset, .unset, .unset, .unset] [(.int v95)])) _
      refine XS.istore X87.here hx rfl (hb hby at_149) rfl (l' := #[.val (.int p0), .val (.int p1), .val (.int p2), .val (.int p3), .val (.int (2 : Int32)), .val (.int ra0), .val (.int rb0), .val (.int ra1), .val (.int rb1), .val (.int ra2), .val (.int rb2), .val (.ref a68), .val (.ref a71), .val (.int v91), .val (.int v95), .unset, .unset, .unset, .unset, .unset, .unset]) rfl ?_
      show Steps p.tables e below (T87.setTop (mkF m 151 #[.val (.int p0), .val (.int p1), .val (.int p2), .val (.int p3), .val (.int (2 : Int32)), .val (.int ra0), .val (.int rb0), .val (.int ra1), .val (.int rb1), .val (.int ra2), .val (.int rb2), .val (.ref a68), .val (.ref a71), .val (.int v91), .val (.int v95), .unset, .unset, .unset, .unset, .unset, .unset] [])) _
      refine XS.iload X87.here hx rfl (hb hby at_151) rfl ?_
      show Steps p.tables e below (T87.setTop (mkF m 153 #[.val (.int p0), .val (.int p1), .val (.int p2), .val (.int p3), .val (.int (2 : Int32)), .val (.int ra0), .val (.int rb0), .val (.int ra1), .val (.int rb1), .val (.int ra2), .val (.int rb2), .val (.ref a68), .val (.ref a71), .val (.int v91), .val (.int v95), .unset, .unset, .unset, .unset, .unset, .unset] [(.int (2 : Int32))])) _
      refine XT.iconstV X87.here hx rfl (2 : Int32) (hb hby at_153) rfl ?_
      show Steps p.tables e below (T87.setTop (mkF m 154 #[.val (.int p0), .val (.int p1), .val (.int p2), .val (.int p3), .val (.int (2 : Int32)), .val (.int ra0), .val (.int rb0), .val (.int ra1), .val (.int rb1), .val (.int ra2), .val (.int rb2), .val (.ref a68), .val (.ref a71), .val (.int v91), .val (.int v95), .unset, .unset, .unset, .unset, .unset, .unset] [(.int (2 : Int32)), (.int (2 : Int32))])) _
      refine XS.icmpYes X87.here hx rfl (pc0 := 154) (pc' := 164) rfl (hb hby at_154) rfl (XT.ii_le_t (by decide)) (by decide) (by decide) ?_
      show Steps p.tables e below (T87.setTop (mkF m 164 #[.val (.int p0), .val (.int p1), .val (.int p2), .val (.int p3), .val (.int (2 : Int32)), .val (.int ra0), .val (.int rb0), .val (.int ra1), .val (.int rb1), .val (.int ra2), .val (.int rb2), .val (.ref a68), .val (.ref a71), .val (.int v91), .val (.int v95), .unset, .unset, .unset, .unset, .unset, .unset] [])) _
      refine XT.iconstV X87.here hx rfl (1 : Int32) (hb hby at_164) rfl ?_
      show Steps p.tables e below (T87.setTop (mkF m 165 #[.val (.int p0), .val (.int p1), .val (.int p2), .val (.int p3), .val (.int (2 : Int32)), .val (.int ra0), .val (.int rb0), .val (.int ra1), .val (.int rb1), .val (.int ra2), .val (.int rb2), .val (.ref a68), .val (.ref a71), .val (.int v91), .val (.int v95), .unset, .unset, .unset, .unset, .unset, .unset] [(.int (1 : Int32))])) _
      refine XS.goto X87.here hx rfl (pc0 := 165) (pc' := 169) rfl (hb hby at_165) (by decide) (by decide) ?_
      show Steps p.tables e below (T87.setTop (mkF m 169 #[.val (.int p0), .val (.int p1), .val (.int p2), .val (.int p3), .val (.int (2 : Int32)), .val (.int ra0), .val (.int rb0), .val (.int ra1), .val (.int rb1), .val (.int ra2), .val (.int rb2), .val (.ref a68), .val (.ref a71), .val (.int v91), .val (.int v95), .unset, .unset, .unset, .unset, .unset, .unset] [(.int (1 : Int32))])) _
      refine XS.istore X87.here hx rfl (hb hby at_169) rfl (l' := #[.val (.int p0), .val (.int p1), .val (.int p2), .val (.int p3), .val (.int (2 : Int32)), .val (.int ra0), .val (.int rb0), .val (.int ra1), .val (.int rb1), .val (.int ra2), .val (.int rb2), .val (.ref a68), .val (.ref a71), .val (.int v91), .val (.int v95), .val (.int (1 : Int32)), .unset, .unset, .unset, .unset, .unset]) rfl ?_
      show Steps p.tables e below (T87.setTop (mkF m 171 #[.val (.int p0), .val (.int p1), .val (.int p2), .val (.int p3), .val (.int (2 : Int32)), .val (.int ra0), .val (.int rb0), .val (.int ra1), .val (.int rb1), .val (.int ra2), .val (.int rb2), .val (.ref a68), .val (.ref a71), .val (.int v91), .val (.int v95), .val (.int (1 : Int32)), .unset, .unset, .unset, .unset, .unset] [])) _
      refine XS.iload X87.here hx rfl (hb hby at_171) rfl ?_
      show Steps p.tables e below (T87.setTop (mkF m 173 #[.val (.int p0), .val (.int p1), .val (.int p2), .val (.int p3), .val (.int (2 : Int32)), .val (.int ra0), .val (.int rb0), .val (.int ra1), .val (.int rb1), .val (.int ra2), .val (.int rb2), .val (.ref a68), .val (.ref a71), .val (.int v91), .val (.int v95), .val (.int (1 : Int32)), .unset, .unset, .unset, .unset, .unset] [(.int (2 : Int32))])) _
      refine XS.ifNo X87.here hx rfl (hb hby at_173) rfl (XT.i0_le_f (by decide)) ?_
      show Steps p.tables e below (T87.setTop (mkF m 176 #[.val (.int p0), .val (.int p1), .val (.int p2), .val (.int p3), .val (.int (2 : Int32)), .val (.int ra0), .val (.int rb0), .val (.int ra1), .val (.int rb1), .val (.int ra2), .val (.int rb2), .val (.ref a68), .val (.ref a71), .val (.int v91), .val (.int v95), .val (.int (1 : Int32)), .unset, .unset, .unset, .unset, .unset] [])) _
      refine XS.iload X87.here hx rfl (hb hby at_176) rfl ?_
      show Steps p.tables e below (T87.setTop (mkF m 178 #[.val (.int p0), .val (.int p1), .val (.int p2), .val (.int p3), .val (.int (2 : Int32)), .val (.int ra0), .val (.int rb0), .val (.int ra1), .val (.int rb1), .val (.int ra2), .val (.int rb2), .val (.ref a68), .val (.ref a71), .val (.int v91), .val (.int v95), .val (.int (1 : Int32)), .unset, .unset, .unset, .unset, .unset] [(.int ra0)])) _
      refine XS.iload X87.here hx rfl (hb hby at_178) rfl ?_
      exact k)
    obtain ⟨v99, hv99⟩ : ∃ z : Int32, z = (if ra0 < rb0 then (1 : Int32) else (0 : Int32)) := ⟨_, rfl⟩
    have pre100 : ∀ t, Steps p.tables e below (T87.setTop (mkF m 188 #[.val (.int p0), .val (.int p1), .val (.int p2), .val (.int p3), .val (.int (2 : Int32)), .val (.int ra0), .val (.int rb0), .val (.int ra1), .val (.int rb1), .val (.int ra2), .val (.int rb2), .val (.ref a68), .val (.ref a71), .val (.int v91), .val (.int v95), .val (.int (1 : Int32)), .unset, .unset, .unset, .unset, .unset] [(.int v99)])) t → Steps p.tables e below (s₁.setTop (entryFrame m #[(.int p0), (.int p1), (.int p2), (.int p3)] maxLocals)) t := fun t k => pre97 _ (by
      by_cases c180_98 : ra0 < rb0
      · rw [show v99 = _ from hv99.trans (if_pos c180_98)] at k
        show Steps p.tables e below (T87.setTop (mkF m 180 #[.val (.int p0), .val (.int p1), .val (.int p2), .val (.int p3), .val (.int (2 : Int32)), .val (.int ra0), .val (.int rb0), .val (.int ra1), .val (.int rb1), .val (.int ra2), .val (.int rb2), .val (.ref a68), .val (.ref a71), .val (.int v91), .val (.int v95), .val (.int (1 : Int32)), .unset, .unset, .unset, .unset, .unset] [(.int rb0), (.int ra0)])) _
        refine XS.icmpNo X87.here hx rfl (hb hby at_180) rfl (XT.ii_ge_f c180_98) ?_
        show Steps p.tables e below (T87.setTop (mkF m 183 #[.val (.int p0), .val (.int p1), .val (.int p2), .val (.int p3), .val (.int (2 : Int32)), .val (.int ra0), .val (.int rb0), .val (.int ra1), .val (.int rb1), .val (.int ra2), .val (.int rb2), .val (.ref a68), .val (.ref a71), .val (.int v91), .val (.int v95), .val (.int (1 : Int32)), .unset, .unset, .unset, .unset, .unset] [])) _
        refine XT.iconstV X87.here hx rfl (1 : Int32) (hb hby at_183) rfl ?_
        show Steps p.tables e below (T87.setTop (mkF m 184 #[.val (.int p0), .val (.int p1), .val (.int p2), .val (.int p3), .val (.int (2 : Int32)), .val (.int ra0), .val (.int rb0), .val (.int ra1), .val (.int rb1), .val (.int ra2), .val (.int rb2), .val (.ref a68), .val (.ref a71), .val (.int v91), .val (.int v95), .val (.int (1 : Int32)), .unset, .unset, .unset, .unset, .unset] [(.int (1 : Int32))])) _
        refine XS.goto X87.here hx rfl (pc0 := 184) (pc' := 188) rfl (hb hby at_184) (by decide) (by decide) ?_
        exact k
      · rw [show v99 = _ from hv99.trans (if_neg c180_98)] at k
        show Steps p.tables e below (T87.setTop (mkF m 180 #[.val (.int p0), .val (.int p1), .val (.int p2), .val (.int p3), .val (.int (2 : Int32)), .val (.int ra0), .val (.int rb0), .val (.int ra1), .val (.int rb1), .val (.int ra2), .val (.int rb2), .val (.ref a68), .val (.ref a71), .val (.int v91), .val (.int v95), .val (.int (1 : Int32)), .unset, .unset, .unset, .unset, .unset] [(.int rb0), (.int ra0)])) _
        refine XS.icmpYes X87.here hx rfl (pc0 := 180) (pc' := 187) rfl (hb hby at_180) rfl (XT.ii_ge_t c180_98) (by decide) (by decide) ?_
        show Steps p.tables e below (T87.setTop (mkF m 187 #[.val (.int p0), .val (.int p1), .val (.int p2), .val (.int p3), .val (.int (2 : Int32)), .val (.int ra0), .val (.int rb0), .val (.int ra1), .val (.int rb1), .val (.int ra2), .val (.int rb2), .val (.ref a68), .val (.ref a71), .val (.int v91), .val (.int v95), .val (.int (1 : Int32)), .unset, .unset, .unset, .unset, .unset] [])) _
        refine XT.iconstV X87.here hx rfl (0 : Int32) (hb hby at_187) rfl ?_
        exact k)
    have pre101 : ∀ t, Steps p.tables e below (T87.setTop (mkF m 200 #[.val (.int p0), .val (.int p1), .val (.int p2), .val (.int p3), .val (.int (2 : Int32)), .val (.int ra0), .val (.int rb0), .val (.int ra1), .val (.int rb1), .val (.int ra2), .val (.int rb2), .val (.ref a68), .val (.ref a71), .val (.int v91), .val (.int v95), .val (.int (1 : Int32)), .val (.int v99), .unset, .unset, .unset, .unset] [(.int rb1), (.int ra1)])) t → Steps p.tables e below (s₁.setTop (entryFrame m #[(.int p0), (.int p1), (.int p2), (.int p3)] maxLocals)) t := fun t k => pre100 _ (by
      show Steps p.tables e below (T87.setTop (mkF m 188 #[.val (.int p0), .val (.int p1), .val (.int p2), .val (.int p3), .val (.int (2 : Int32)), .val (.int ra0), .val (.int rb0), .val (.int ra1), .val (.int rb1), .val (.int ra2), .val (.int rb2), .val (.ref a68), .val (.ref a71), .val (.int v91), .val (.int v95), .val (.int (1 : Int32)), .unset, .unset, .unset, .unset, .unset] [(.int v99)])) _
      refine XS.istore X87.here hx rfl (hb hby at_188) rfl (l' := #[.val (.int p0), .val (.int p1), .val (.int p2), .val (.int p3), .val (.int (2 : Int32)), .val (.int ra0), .val (.int rb0), .val (.int ra1), .val (.int rb1), .val (.int ra2), .val (.int rb2), .val (.ref a68), .val (.ref a71), .val (.int v91), .val (.int v95), .val (.int (1 : Int32)), .val (.int v99), .unset, .unset, .unset, .unset]) rfl ?_
      show Steps p.tables e below (T87.setTop (mkF m 190 #[.val (.int p0), .val (.int p1), .val (.int p2), .val (.int p3), .val (.int (2 : Int32)), .val (.int ra0), .val (.int rb0), .val (.int ra1), .val (.int rb1), .val (.int ra2), .val (.int rb2), .val (.ref a68), .val (.ref a71), .val (.int v91), .val (.int v95), .val (.int (1 : Int32)), .val (.int v99), .unset, .unset, .unset, .unset] [])) _
      refine XS.iload X87.here hx rfl (hb hby at_190) rfl ?_
      show Steps p.tables e below (T87.setTop (mkF m 192 #[.val (.int p0), .val (.int p1), .val (.int p2), .val (.int p3), .val (.int (2 : Int32)), .val (.int ra0), .val (.int rb0), .val (.int ra1), .val (.int rb1), .val (.int ra2), .val (.int rb2), .val (.ref a68), .val (.ref a71), .val (.int v91), .val (.int v95), .val (.int (1 : Int32)), .val (.int v99), .unset, .unset, .unset, .unset] [(.int (2 : Int32))])) _
      refine XT.iconstV X87.here hx rfl (1 : Int32) (hb hby at_192) rfl ?_
      show Steps p.tables e below (T87.setTop (mkF m 193 #[.val (.int p0), .val (.int p1), .val (.int p2), .val (.int p3), .val (.int (2 : Int32)), .val (.int ra0), .val (.int rb0), .val (.int ra1), .val (.int rb1), .val (.int ra2), .val (.int rb2), .val (.ref a68), .val (.ref a71), .val (.int v91), .val (.int v95), .val (.int (1 : Int32)), .val (.int v99), .unset, .unset, .unset, .unset] [(.int (1 : Int32)), (.int (2 : Int32))])) _
      refine XS.icmpNo X87.here hx rfl (hb hby at_193) rfl (XT.ii_le_f (by decide)) ?_
      show Steps p.tables e below (T87.setTop (mkF m 196 #[.val (.int p0), .val (.int p1), .val (.int p2), .val (.int p3), .val (.int (2 : Int32)), .val (.int ra0), .val (.int rb0), .val (.int ra1), .val (.int rb1), .val (.int ra2), .val (.int rb2), .val (.ref a68), .val (.ref a71), .val (.int v91), .val (.int v95), .val (.int (1 : Int32)), .val (.int v99), .unset, .unset, .unset, .unset] [])) _
      refine XS.iload X87.here hx rfl (hb hby at_196) rfl ?_
      show Steps p.tables e below (T87.setTop (mkF m 198 #[.val (.int p0), .val (.int p1), .val (.int p2), .val (.int p3), .val (.int (2 : Int32)), .val (.int ra0), .val (.int rb0), .val (.int ra1), .val (.int rb1), .val (.int ra2), .val (.int rb2), .val (.ref a68), .val (.ref a71), .val (.int v91), .val (.int v95), .val (.int (1 : Int32)), .val (.int v99), .unset, .unset, .unset, .unset] [(.int ra1)])) _
      refine XS.iload X87.here hx rfl (hb hby at_198) rfl ?_
      exact k)
    obtain ⟨v103, hv103⟩ : ∃ z : Int32, z = (if ra1 < rb1 then (1 : Int32) else (0 : Int32)) := ⟨_, rfl⟩
    have pre104 : ∀ t, Steps p.tables e below (T87.setTop (mkF m 208 #[.val (.int p0), .val (.int p1), .val (.int p2), .val (.int p3), .val (.int (2 : Int32)), .val (.int ra0), .val (.int rb0), .val (.int ra1), .val (.int rb1), .val (.int ra2), .val (.int rb2), .val (.ref a68), .val (.ref a71), .val (.int v91), .val (.int v95), .val (.int (1 : Int32)), .val (.int v99), .unset, .unset, .unset, .unset] [(.int v103)])) t → Steps p.tables e below (s₁.setTop (entryFrame m #[(.int p0), (.int p1), (.int p2), (.int p3)] maxLocals)) t := fun t k => pre101 _ (by
      by_cases c200_102 : ra1 < rb1
      · rw [show v103 = _ from hv103.trans (if_pos c200_102)] at k
        show Steps p.tables e below (T87.setTop (mkF m 200 #[.val (.int p0), .val (.int p1), .val (.int p2), .val (.int p3), .val (.int (2 : Int32)), .val (.int ra0), .val (.int rb0), .val (.int ra1), .val (.int rb1), .val (.int ra2), .val (.int rb2), .val (.ref a68), .val (.ref a71), .val (.int v91), .val (.int v95), .val (.int (1 : Int32)), .val (.int v99), .unset, .unset, .unset, .unset] [(.int rb1), (.int ra1)])) _
        refine XS.icmpNo X87.here hx rfl (hb hby at_200) rfl (XT.ii_ge_f c200_102) ?_
        show Steps p.tables e below (T87.setTop (mkF m 203 #[.val (.int p0), .val (.int p1), .val (.int p2), .val (.int p3), .val (.int (2 : Int32)), .val (.int ra0), .val (.int rb0), .val (.int ra1), .val (.int rb1), .val (.int ra2), .val (.int rb2), .val (.ref a68), .val (.ref a71), .val (.int v91), .val (.int v95), .val (.int (1 : Int32)), .val (.int v99), .unset, .unset, .unset, .unset] [])) _
        refine XT.iconstV X87.here hx rfl (1 : Int32) (hb hby at_203) rfl ?_
        show Steps p.tables e below (T87.setTop (mkF m 204 #[.val (.int p0), .val (.int p1), .val (.int p2), .val (.int p3), .val (.int (2 : Int32)), .val (.int ra0), .val (.int rb0), .val (.int ra1), .val (.int rb1), .val (.int ra2), .val (.int rb2), .val (.ref a68), .val (.ref a71), .val (.int v91), .val (.int v95), .val (.int (1 : Int32)), .val (.int v99), .unset, .unset, .unset, .unset] [(.int (1 : Int32))])) _
        refine XS.goto X87.here hx rfl (pc0 := 204) (pc' := 208) rfl (hb hby at_204) (by decide) (by decide) ?_
        exact k
      · rw [show v103 = _ from hv103.trans (if_neg c200_102)] at k
        show Steps p.tables e below (T87.setTop (mkF m 200 #[.val (.int p0), .val (.int p1), .val (.int p2), .val (.int p3), .val (.int (2 : Int32)), .val (.int ra0), .val (.int rb0), .val (.int ra1), .val (.int rb1), .val (.int ra2), .val (.int rb2), .val (.ref a68), .val (.ref a71), .val (.int v91), .val (.int v95), .val (.int (1 : Int32)), .val (.int v99), .unset, .unset, .unset, .unset] [(.int rb1), (.int ra1)])) _
        refine XS.icmpYes X87.here hx rfl (pc0 := 200) (pc' := 207) rfl (hb hby at_200) rfl (XT.ii_ge_t c200_102) (by decide) (by decide) ?_
        show Steps p.tables e below (T87.setTop (mkF m 207 #[.val (.int p0), .val (.int p1), .val (.int p2), .val (.int p3), .val (.int (2 : Int32)), .val (.int ra0), .val (.int rb0), .val (.int ra1), .val (.int rb1), .val (.int ra2), .val (.int rb2), .val (.ref a68), .val (.ref a71), .val (.int v91), .val (.int v95), .val (.int (1 : Int32)), .val (.int v99), .unset, .unset, .unset, .unset] [])) _
        refine XT.iconstV X87.here hx rfl (0 : Int32) (hb hby at_207) rfl ?_
        exact k)
    have pre105 : ∀ t, Steps p.tables e below (T87.setTop (mkF m 232 #[.val (.int p0), .val (.int p1), .val (.int p2), .val (.int p3), .val (.int (2 : Int32)), .val (.int ra0), .val (.int rb0), .val (.int ra1), .val (.int rb1), .val (.int ra2), .val (.int rb2), .val (.ref a68), .val (.ref a71), .val (.int v91), .val (.int v95), .val (.int (1 : Int32)), .val (.int v99), .val (.int v103), .val (.int (0 : Int32)), .unset, .unset] [(.int v91)])) t → Steps p.tables e below (s₁.setTop (entryFrame m #[(.int p0), (.int p1), (.int p2), (.int p3)] maxLocals)) t := fun t k => pre104 _ (by
      show Steps p.tables e below (T87.setTop (mkF m 208 #[.val (.int p0), .val (.int p1), .val (.int p2), .val (.int p3), .val (.int (2 : Int32)), .val (.int ra0), .val (.int rb0), .val (.int ra1), .val (.int rb1), .val (.int ra2), .val (.int rb2), .val (.ref a68), .val (.ref a71), .val (.int v91), .val (.int v95), .val (.int (1 : Int32)), .val (.int v99), .unset, .unset, .unset, .unset] [(.int v103)])) _
      refine XS.istore X87.here hx rfl (hb hby at_208) rfl (l' := #[.val (.int p0), .val (.int p1), .val (.int p2), .val (.int p3), .val (.int (2 : Int32)), .val (.int ra0), .val (.int rb0), .val (.int ra1), .val (.int rb1), .val (.int ra2), .val (.int rb2), .val (.ref a68), .val (.ref a71), .val (.int v91), .val (.int v95), .val (.int (1 : Int32)), .val (.int v99), .val (.int v103), .unset, .unset, .unset]) rfl ?_
      show Steps p.tables e below (T87.setTop (mkF m 210 #[.val (.int p0), .val (.int p1), .val (.int p2), .val (.int p3), .val (.int (2 : Int32)), .val (.int ra0), .val (.int rb0), .val (.int ra1), .val (.int rb1), .val (.int ra2), .val (.int rb2), .val (.ref a68), .val (.ref a71), .val (.int v91), .val (.int v95), .val (.int (1 : Int32)), .val (.int v99), .val (.int v103), .unset, .unset, .unset] [])) _
      refine XS.iload X87.here hx rfl (hb hby at_210) rfl ?_
      show Steps p.tables e below (T87.setTop (mkF m 212 #[.val (.int p0), .val (.int p1), .val (.int p2), .val (.int p3), .val (.int (2 : Int32)), .val (.int ra0), .val (.int rb0), .val (.int ra1), .val (.int rb1), .val (.int ra2), .val (.int rb2), .val (.ref a68), .val (.ref a71), .val (.int v91), .val (.int v95), .val (.int (1 : Int32)), .val (.int v99), .val (.int v103), .unset, .unset, .unset] [(.int (2 : Int32))])) _
      refine XT.iconstV X87.here hx rfl (2 : Int32) (hb hby at_212) rfl ?_
      show Steps p.tables e below (T87.setTop (mkF m 213 #[.val (.int p0), .val (.int p1), .val (.int p2), .val (.int p3), .val (.int (2 : Int32)), .val (.int ra0), .val (.int rb0), .val (.int ra1), .val (.int rb1), .val (.int ra2), .val (.int rb2), .val (.ref a68), .val (.ref a71), .val (.int v91), .val (.int v95), .val (.int (1 : Int32)), .val (.int v99), .val (.int v103), .unset, .unset, .unset] [(.int (2 : Int32)), (.int (2 : Int32))])) _
      refine XS.icmpYes X87.here hx rfl (pc0 := 213) (pc' := 227) rfl (hb hby at_213) rfl (XT.ii_le_t (by decide)) (by decide) (by decide) ?_
      show Steps p.tables e below (T87.setTop (mkF m 227 #[.val (.int p0), .val (.int p1), .val (.int p2), .val (.int p3), .val (.int (2 : Int32)), .val (.int ra0), .val (.int rb0), .val (.int ra1), .val (.int rb1), .val (.int ra2), .val (.int rb2), .val (.ref a68), .val (.ref a71), .val (.int v91), .val (.int v95), .val (.int (1 : Int32)), .val (.int v99), .val (.int v103), .unset, .unset, .unset] [])) _
      refine XT.iconstV X87.here hx rfl (0 : Int32) (hb hby at_227) rfl ?_
      show Steps p.tables e below (T87.setTop (mkF m 228 #[.val (.int p0), .val (.int p1), .val (.int p2), .val (.int p3), .val (.int (2 : Int32)), .val (.int ra0), .val (.int rb0), .val (.int ra1), .val (.int rb1), .val (.int ra2), .val (.int rb2), .val (.ref a68), .val (.ref a71), .val (.int v91), .val (.int v95), .val (.int (1 : Int32)), .val (.int v99), .val (.int v103), .unset, .unset, .unset] [(.int (0 : Int32))])) _
      refine XS.istore X87.here hx rfl (hb hby at_228) rfl (l' := #[.val (.int p0), .val (.int p1), .val (.int p2), .val (.int p3), .val (.int (2 : Int32)), .val (.int ra0), .val (.int rb0), .val (.int ra1), .val (.int rb1), .val (.int ra2), .val (.int rb2), .val (.ref a68), .val (.ref a71), .val (.int v91), .val (.int v95), .val (.int (1 : Int32)), .val (.int v99), .val (.int v103), .val (.int (0 : Int32)), .unset, .unset]) rfl ?_
      show Steps p.tables e below (T87.setTop (mkF m 230 #[.val (.int p0), .val (.int p1), .val (.int p2), .val (.int p3), .val (.int (2 : Int32)), .val (.int ra0), .val (.int rb0), .val (.int ra1), .val (.int rb1), .val (.int ra2), .val (.int rb2), .val (.ref a68), .val (.ref a71), .val (.int v91), .val (.int v95), .val (.int (1 : Int32)), .val (.int v99), .val (.int v103), .val (.int (0 : Int32)), .unset, .unset] [])) _
      refine XS.iload X87.here hx rfl (hb hby at_230) rfl ?_
      exact k)
    obtain ⟨v110, hv110⟩ : ∃ z : Int32, z = (if v103 = 0 then (0 : Int32) else (1 : Int32)) := ⟨_, rfl⟩
    obtain ⟨v112, hv112⟩ : ∃ z : Int32, z = (if v99 = 0 then v110 else (1 : Int32)) := ⟨_, rfl⟩
    obtain ⟨v114, hv114⟩ : ∃ z : Int32, z = (if v95 = 0 then (0 : Int32) else v112) := ⟨_, rfl⟩
    obtain ⟨v116, hv116⟩ : ∃ z : Int32, z = (if v91 = 0 then (0 : Int32) else v114) := ⟨_, rfl⟩
    have pre117 : ∀ t, Steps p.tables e below (T87.setTop (mkF m 265 #[.val (.int p0), .val (.int p1), .val (.int p2), .val (.int p3), .val (.int (2 : Int32)), .val (.int ra0), .val (.int rb0), .val (.int ra1), .val (.int rb1), .val (.int ra2), .val (.int rb2), .val (.ref a68), .val (.ref a71), .val (.int v91), .val (.int v95), .val (.int (1 : Int32)), .val (.int v99), .val (.int v103), .val (.int (0 : Int32)), .unset, .unset] [(.int v116)])) t → Steps p.tables e below (s₁.setTop (entryFrame m #[(.int p0), (.int p1), (.int p2), (.int p3)] maxLocals)) t := fun t k => pre105 _ (by
      by_cases c232_106 : v91 = 0
      · rw [show v116 = _ from hv116.trans (if_pos c232_106)] at k
        show Steps p.tables e below (T87.setTop (mkF m 232 #[.val (.int p0), .val (.int p1), .val (.int p2), .val (.int p3), .val (.int (2 : Int32)), .val (.int ra0), .val (.int rb0), .val (.int ra1), .val (.int rb1), .val (.int ra2), .val (.int rb2), .val (.ref a68), .val (.ref a71), .val (.int v91), .val (.int v95), .val (.int (1 : Int32)), .val (.int v99), .val (.int v103), .val (.int (0 : Int32)), .unset, .unset] [(.int v91)])) _
        refine XS.ifYes X87.here hx rfl (pc0 := 232) (pc' := 264) rfl (hb hby at_232) rfl (XT.i0_eq_t c232_106) (by decide) (by decide) ?_
        show Steps p.tables e below (T87.setTop (mkF m 264 #[.val (.int p0), .val (.int p1), .val (.int p2), .val (.int p3), .val (.int (2 : Int32)), .val (.int ra0), .val (.int rb0), .val (.int ra1), .val (.int rb1), .val (.int ra2), .val (.int rb2), .val (.ref a68), .val (.ref a71), .val (.int v91), .val (.int v95), .val (.int (1 : Int32)), .val (.int v99), .val (.int v103), .val (.int (0 : Int32)), .unset, .unset] [])) _
        refine XT.iconstV X87.here hx rfl (0 : Int32) (hb hby at_264) rfl ?_
        exact k
      · rw [show v116 = _ from hv116.trans (if_neg c232_106)] at k
        show Steps p.tables e below (T87.setTop (mkF m 232 #[.val (.int p0), .val (.int p1), .val (.int p2), .val (.int p3), .val (.int (2 : Int32)), .val (.int ra0), .val (.int rb0), .val (.int ra1), .val (.int rb1), .val (.int ra2), .val (.int rb2), .val (.ref a68), .val (.ref a71), .val (.int v91), .val (.int v95), .val (.int (1 : Int32)), .val (.int v99), .val (.int v103), .val (.int (0 : Int32)), .unset, .unset] [(.int v91)])) _
        refine XS.ifNo X87.here hx rfl (hb hby at_232) rfl (XT.i0_eq_f c232_106) ?_
        show Steps p.tables e below (T87.setTop (mkF m 235 #[.val (.int p0), .val (.int p1), .val (.int p2), .val (.int p3), .val (.int (2 : Int32)), .val (.int ra0), .val (.int rb0), .val (.int ra1), .val (.int rb1), .val (.int ra2), .val (.int rb2), .val (.ref a68), .val (.ref a71), .val (.int v91), .val (.int v95), .val (.int (1 : Int32)), .val (.int v99), .val (.int v103), .val (.int (0 : Int32)), .unset, .unset] [])) _
        refine XS.iload X87.here hx rfl (hb hby at_235) rfl ?_
        have m115 : ∀ t, Steps p.tables e below (T87.setTop (mkF m 265 #[.val (.int p0), .val (.int p1), .val (.int p2), .val (.int p3), .val (.int (2 : Int32)), .val (.int ra0), .val (.int rb0), .val (.int ra1), .val (.int rb1), .val (.int ra2), .val (.int rb2), .val (.ref a68), .val (.ref a71), .val (.int v91), .val (.int v95), .val (.int (1 : Int32)), .val (.int v99), .val (.int v103), .val (.int (0 : Int32)), .unset, .unset] [(.int v114)])) t → Steps p.tables e below (T87.setTop (mkF m 237 #[.val (.int p0), .val (.int p1), .val (.int p2), .val (.int p3), .val (.int (2 : Int32)), .val (.int ra0), .val (.int rb0), .val (.int ra1), .val (.int rb1), .val (.int ra2), .val (.int rb2), .val (.ref a68), .val (.ref a71), .val (.int v91), .val (.int v95), .val (.int (1 : Int32)), .val (.int v99), .val (.int v103), .val (.int (0 : Int32)), .unset, .unset] [(.int v95)])) t := fun t k => by
          by_cases c237_107 : v95 = 0
          · rw [show v114 = _ from hv114.trans (if_pos c237_107)] at k
            show Steps p.tables e below (T87.setTop (mkF m 237 #[.val (.int p0), .val (.int p1), .val (.int p2), .val (.int p3), .val (.int (2 : Int32)), .val (.int ra0), .val (.int rb0), .val (.int ra1), .val (.int rb1), .val (.int ra2), .val (.int rb2), .val (.ref a68), .val (.ref a71), .val (.int v91), .val (.int v95), .val (.int (1 : Int32)), .val (.int v99), .val (.int v103), .val (.int (0 : Int32)), .unset, .unset] [(.int v95)])) _
            refine XS.ifYes X87.here hx rfl (pc0 := 237) (pc' := 264) rfl (hb hby at_237) rfl (XT.i0_eq_t c237_107) (by decide) (by decide) ?_
            show Steps p.tables e below (T87.setTop (mkF m 264 #[.val (.int p0), .val (.int p1), .val (.int p2), .val (.int p3), .val (.int (2 : Int32)), .val (.int ra0), .val (.int rb0), .val (.int ra1), .val (.int rb1), .val (.int ra2), .val (.int rb2), .val (.ref a68), .val (.ref a71), .val (.int v91), .val (.int v95), .val (.int (1 : Int32)), .val (.int v99), .val (.int v103), .val (.int (0 : Int32)), .unset, .unset] [])) _
            refine XT.iconstV X87.here hx rfl (0 : Int32) (hb hby at_264) rfl ?_
            exact k
          · rw [show v114 = _ from hv114.trans (if_neg c237_107)] at k
            show Steps p.tables e below (T87.setTop (mkF m 237 #[.val (.int p0), .val (.int p1), .val (.int p2), .val (.int p3), .val (.int (2 : Int32)), .val (.int ra0), .val (.int rb0), .val (.int ra1), .val (.int rb1), .val (.int ra2), .val (.int rb2), .val (.ref a68), .val (.ref a71), .val (.int v91), .val (.int v95), .val (.int (1 : Int32)), .val (.int v99), .val (.int v103), .val (.int (0 : Int32)), .unset, .unset] [(.int v95)])) _
            refine XS.ifNo X87.here hx rfl (hb hby at_237) rfl (XT.i0_eq_f c237_107) ?_
            show Steps p.tables e below (T87.setTop (mkF m 240 #[.val (.int p0), .val (.int p1), .val (.int p2), .val (.int p3), .val (.int (2 : Int32)), .val (.int ra0), .val (.int rb0), .val (.int ra1), .val (.int rb1), .val (.int ra2), .val (.int rb2), .val (.ref a68), .val (.ref a71), .val (.int v91), .val (.int v95), .val (.int (1 : Int32)), .val (.int v99), .val (.int v103), .val (.int (0 : Int32)), .unset, .unset] [])) _
            refine XS.iload X87.here hx rfl (hb hby at_240) rfl ?_
            show Steps p.tables e below (T87.setTop (mkF m 242 #[.val (.int p0), .val (.int p1), .val (.int p2), .val (.int p3), .val (.int (2 : Int32)), .val (.int ra0), .val (.int rb0), .val (.int ra1), .val (.int rb1), .val (.int ra2), .val (.int rb2), .val (.ref a68), .val (.ref a71), .val (.int v91), .val (.int v95), .val (.int (1 : Int32)), .val (.int v99), .val (.int v103), .val (.int (0 : Int32)), .unset, .unset] [(.int (1 : Int32))])) _
            refine XS.ifNo X87.here hx rfl (hb hby at_242) rfl (XT.i0_eq_f (by decide)) ?_
            show Steps p.tables e below (T87.setTop (mkF m 245 #[.val (.int p0), .val (.int p1), .val (.int p2), .val (.int p3), .val (.int (2 : Int32)), .val (.int ra0), .val (.int rb0), .val (.int ra1), .val (.int rb1), .val (.int ra2), .val (.int rb2), .val (.ref a68), .val (.ref a71), .val (.int v91), .val (.int v95), .val (.int (1 : Int32)), .val (.int v99), .val (.int v103), .val (.int (0 : Int32)), .unset, .unset] [])) _
            refine XS.iload X87.here hx rfl (hb hby at_245) rfl ?_
            have m113 : ∀ t, Steps p.tables e below (T87.setTop (mkF m 265 #[.val (.int p0), .val (.int p1), .val (.int p2), .val (.int p3), .val (.int (2 : Int32)), .val (.int ra0), .val (.int rb0), .val (.int ra1), .val (.int rb1), .val (.int ra2), .val (.int rb2), .val (.ref a68), .val (.ref a71), .val (.int v91), .val (.int v95), .val (.int (1 : Int32)), .val (.int v99), .val (.int v103), .val (.int (0 : Int32)), .unset, .unset] [(.int v112)])) t → Steps p.tables e below (T87.setTop (mkF m 247 #[.val (.int p0), .val (.int p1), .val (.int p2), .val (.int p3), .val (.int (2 : Int32)), .val (.int ra0), .val (.int rb0), .val (.int ra1), .val (.int rb1), .val (.int ra2), .val (.int rb2), .val (.ref a68), .val (.ref a71), .val (.int v91), .val (.int v95), .val (.int (1 : Int32)), .val (.int v99), .val (.int v103), .val (.int (0 : Int32)), .unset, .unset] [(.int v99)])) t := fun t k => by
              by_cases c247_108 : v99 = 0
              · rw [show v112 = _ from hv112.trans (if_pos c247_108)] at k
                show Steps p.tables e below (T87.setTop (mkF m 247 #[.val (.int p0), .val (.int p1), .val (.int p2), .val (.int p3), .val (.int (2 : Int32)), .val (.int ra0), .val (.int rb0), .val (.int ra1), .val (.int rb1), .val (.int ra2), .val (.int rb2), .val (.ref a68), .val (.ref a71), .val (.int v91), .val (.int v95), .val (.int (1 : Int32)), .val (.int v99), .val (.int v103), .val (.int (0 : Int32)), .unset, .unset] [(.int v99)])) _
                refine XS.ifNo X87.here hx rfl (hb hby at_247) rfl (XT.i0_ne_f c247_108) ?_
                show Steps p.tables e below (T87.setTop (mkF m 250 #[.val (.int p0), .val (.int p1), .val (.int p2), .val (.int p3), .val (.int (2 : Int32)), .val (.int ra0), .val (.int rb0), .val (.int ra1), .val (.int rb1), .val (.int ra2), .val (.int rb2), .val (.ref a68), .val (.ref a71), .val (.int v91), .val (.int v95), .val (.int (1 : Int32)), .val (.int v99), .val (.int v103), .val (.int (0 : Int32)), .unset, .unset] [])) _
                refine XS.iload X87.here hx rfl (hb hby at_250) rfl ?_
                have m111 : ∀ t, Steps p.tables e below (T87.setTop (mkF m 265 #[.val (.int p0), .val (.int p1), .val (.int p2), .val (.int p3), .val (.int (2 : Int32)), .val (.int ra0), .val (.int rb0), .val (.int ra1), .val (.int rb1), .val (.int ra2), .val (.int rb2), .val (.ref a68), .val (.ref a71), .val (.int v91), .val (.int v95), .val (.int (1 : Int32)), .val (.int v99), .val (.int v103), .val (.int (0 : Int32)), .unset, .unset] [(.int v110)])) t → Steps p.tables e below (T87.setTop (mkF m 252 #[.val (.int p0), .val (.int p1), .val (.int p2), .val (.int p3), .val (.int (2 : Int32)), .val (.int ra0), .val (.int rb0), .val (.int ra1), .val (.int rb1), .val (.int ra2), .val (.int rb2), .val (.ref a68), .val (.ref a71), .val (.int v91), .val (.int v95), .val (.int (1 : Int32)), .val (.int v99), .val (.int v103), .val (.int (0 : Int32)), .unset, .unset] [(.int v103)])) t := fun t k => by
                  by_cases c252_109 : v103 = 0
                  · rw [show v110 = _ from hv110.trans (if_pos c252_109)] at k
                    show Steps p.tables e below (T87.setTop (mkF m 252 #[.val (.int p0), .val (.int p1), .val (.int p2), .val (.int p3), .val (.int (2 : Int32)), .val (.int ra0), .val (.int rb0), .val (.int ra1), .val (.int rb1), .val (.int ra2), .val (.int rb2), .val (.ref a68), .val (.ref a71), .val (.int v91), .val (.int v95), .val (.int (1 : Int32)), .val (.int v99), .val (.int v103), .val (.int (0 : Int32)), .unset, .unset] [(.int v103)])) _
                    refine XS.ifNo X87.here hx rfl (hb hby at_252) rfl (XT.i0_ne_f c252_109) ?_
                    show Steps p.tables e below (T87.setTop (mkF m 255 #[.val (.int p0), .val (.int p1), .val (.int p2), .val (.int p3), .val (.int (2 : Int32)), .val (.int ra0), .val (.int rb0), .val (.int ra1), .val (.int rb1), .val (.int ra2), .val (.int rb2), .val (.ref a68), .val (.ref a71), .val (.int v91), .val (.int v95), .val (.int (1 : Int32)), .val (.int v99), .val (.int v103), .val (.int (0 : Int32)), .unset, .unset] [])) _
                    refine XS.iload X87.here hx rfl (hb hby at_255) rfl ?_
                    show Steps p.tables e below (T87.setTop (mkF m 257 #[.val (.int p0), .val (.int p1), .val (.int p2), .val (.int p3), .val (.int (2 : Int32)), .val (.int ra0), .val (.int rb0), .val (.int ra1), .val (.int rb1), .val (.int ra2), .val (.int rb2), .val (.ref a68), .val (.ref a71), .val (.int v91), .val (.int v95), .val (.int (1 : Int32)), .val (.int v99), .val (.int v103), .val (.int (0 : Int32)), .unset, .unset] [(.int (0 : Int32))])) _
                    refine XS.ifYes X87.here hx rfl (pc0 := 257) (pc' := 264) rfl (hb hby at_257) rfl (XT.i0_eq_t (by decide)) (by decide) (by decide) ?_
                    show Steps p.tables e below (T87.setTop (mkF m 264 #[.val (.int p0), .val (.int p1), .val (.int p2), .val (.int p3), .val (.int (2 : Int32)), .val (.int ra0), .val (.int rb0), .val (.int ra1), .val (.int rb1), .val (.int ra2), .val (.int rb2), .val (.ref a68), .val (.ref a71), .val (.int v91), .val (.int v95), .val (.int (1 : Int32)), .val (.int v99), .val (.int v103), .val (.int (0 : Int32)), .unset, .unset] [])) _
                    refine XT.iconstV X87.here hx rfl (0 : Int32) (hb hby at_264) rfl ?_
                    exact k
                  · rw [show v110 = _ from hv110.trans (if_neg c252_109)] at k
                    show Steps p.tables e below (T87.setTop (mkF m 252 #[.val (.int p0), .val (.int p1), .val (.int p2), .val (.int p3), .val (.int (2 : Int32)), .val (.int ra0), .val (.int rb0), .val (.int ra1), .val (.int rb1), .val (.int ra2), .val (.int rb2), .val (.ref a68), .val (.ref a71), .val (.int v91), .val (.int v95), .val (.int (1 : Int32)), .val (.int v99), .val (.int v103), .val (.int (0 : Int32)), .unset, .unset] [(.int v103)])) _
                    refine XS.ifYes X87.here hx rfl (pc0 := 252) (pc' := 260) rfl (hb hby at_252) rfl (XT.i0_ne_t c252_109) (by decide) (by decide) ?_
                    show Steps p.tables e below (T87.setTop (mkF m 260 #[.val (.int p0), .val (.int p1), .val (.int p2), .val (.int p3), .val (.int (2 : Int32)), .val (.int ra0), .val (.int rb0), .val (.int ra1), .val (.int rb1), .val (.int ra2), .val (.int rb2), .val (.ref a68), .val (.ref a71), .val (.int v91), .val (.int v95), .val (.int (1 : Int32)), .val (.int v99), .val (.int v103), .val (.int (0 : Int32)), .unset, .unset] [])) _
                    refine XT.iconstV X87.here hx rfl (1 : Int32) (hb hby at_260) rfl ?_
                    show Steps p.tables e below (T87.setTop (mkF m 261 #[.val (.int p0), .val (.int p1), .val (.int p2), .val (.int p3), .val (.int (2 : Int32)), .val (.int ra0), .val (.int rb0), .val (.int ra1), .val (.int rb1), .val (.int ra2), .val (.int rb2), .val (.ref a68), .val (.ref a71), .val (.int v91), .val (.int v95), .val (.int (1 : Int32)), .val (.int v99), .val (.int v103), .val (.int (0 : Int32)), .unset, .unset] [(.int (1 : Int32))])) _
                    refine XS.goto X87.here hx rfl (pc0 := 261) (pc' := 265) rfl (hb hby at_261) (by decide) (by decide) ?_
                    exact k
                refine m111 _ ?_
                exact k
              · rw [show v112 = _ from hv112.trans (if_neg c247_108)] at k
                show Steps p.tables e below (T87.setTop (mkF m 247 #[.val (.int p0), .val (.int p1), .val (.int p2), .val (.int p3), .val (.int (2 : Int32)), .val (.int ra0), .val (.int rb0), .val (.int ra1), .val (.int rb1), .val (.int ra2), .val (.int rb2), .val (.ref a68), .val (.ref a71), .val (.int v91), .val (.int v95), .val (.int (1 : Int32)), .val (.int v99), .val (.int v103), .val (.int (0 : Int32)), .unset, .unset] [(.int v99)])) _
                refine XS.ifYes X87.here hx rfl (pc0 := 247) (pc' := 260) rfl (hb hby at_247) rfl (XT.i0_ne_t c247_108) (by decide) (by decide) ?_
                show Steps p.tables e below (T87.setTop (mkF m 260 #[.val (.int p0), .val (.int p1), .val (.int p2), .val (.int p3), .val (.int (2 : Int32)), .val (.int ra0), .val (.int rb0), .val (.int ra1), .val (.int rb1), .val (.int ra2), .val (.int rb2), .val (.ref a68), .val (.ref a71), .val (.int v91), .val (.int v95), .val (.int (1 : Int32)), .val (.int v99), .val (.int v103), .val (.int (0 : Int32)), .unset, .unset] [])) _
                refine XT.iconstV X87.here hx rfl (1 : Int32) (hb hby at_260) rfl ?_
                show Steps p.tables e below (T87.setTop (mkF m 261 #[.val (.int p0), .val (.int p1), .val (.int p2), .val (.int p3), .val (.int (2 : Int32)), .val (.int ra0), .val (.int rb0), .val (.int ra1), .val (.int rb1), .val (.int ra2), .val (.int rb2), .val (.ref a68), .val (.ref a71), .val (.int v91), .val (.int v95), .val (.int (1 : Int32)), .val (.int v99), .val (.int v103), .val (.int (0 : Int32)), .unset, .unset] [(.int (1 : Int32))])) _
                refine XS.goto X87.here hx rfl (pc0 := 261) (pc' := 265) rfl (hb hby at_261) (by decide) (by decide) ?_
                exact k
            refine m113 _ ?_
            exact k
        refine m115 _ ?_
        exact k)
    have pre118 : ∀ t, Steps p.tables e below (T87.setTop (mkF m 271 #[.val (.int p0), .val (.int p1), .val (.int p2), .val (.int p3), .val (.int (2 : Int32)), .val (.int ra0), .val (.int rb0), .val (.int ra1), .val (.int rb1), .val (.int ra2), .val (.int rb2), .val (.ref a68), .val (.ref a71), .val (.int v91), .val (.int v95), .val (.int (1 : Int32)), .val (.int v99), .val (.int v103), .val (.int (0 : Int32)), .val (.int v116), .unset] [(.ref a71), (.ref a68)])) t → Steps p.tables e below (s₁.setTop (entryFrame m #[(.int p0), (.int p1), (.int p2), (.int p3)] maxLocals)) t := fun t k => pre117 _ (by
      show Steps p.tables e below (T87.setTop (mkF m 265 #[.val (.int p0), .val (.int p1), .val (.int p2), .val (.int p3), .val (.int (2 : Int32)), .val (.int ra0), .val (.int rb0), .val (.int ra1), .val (.int rb1), .val (.int ra2), .val (.int rb2), .val (.ref a68), .val (.ref a71), .val (.int v91), .val (.int v95), .val (.int (1 : Int32)), .val (.int v99), .val (.int v103), .val (.int (0 : Int32)), .unset, .unset] [(.int v116)])) _
      refine XS.istore X87.here hx rfl (hb hby at_265) rfl (l' := #[.val (.int p0), .val (.int p1), .val (.int p2), .val (.int p3), .val (.int (2 : Int32)), .val (.int ra0), .val (.int rb0), .val (.int ra1), .val (.int rb1), .val (.int ra2), .val (.int rb2), .val (.ref a68), .val (.ref a71), .val (.int v91), .val (.int v95), .val (.int (1 : Int32)), .val (.int v99), .val (.int v103), .val (.int (0 : Int32)), .val (.int v116), .unset]) rfl ?_
      show Steps p.tables e below (T87.setTop (mkF m 267 #[.val (.int p0), .val (.int p1), .val (.int p2), .val (.int p3), .val (.int (2 : Int32)), .val (.int ra0), .val (.int rb0), .val (.int ra1), .val (.int rb1), .val (.int ra2), .val (.int rb2), .val (.ref a68), .val (.ref a71), .val (.int v91), .val (.int v95), .val (.int (1 : Int32)), .val (.int v99), .val (.int v103), .val (.int (0 : Int32)), .val (.int v116), .unset] [])) _
      refine XS.aload X87.here hx rfl (hb hby at_267) rfl rfl ?_
      show Steps p.tables e below (T87.setTop (mkF m 269 #[.val (.int p0), .val (.int p1), .val (.int p2), .val (.int p3), .val (.int (2 : Int32)), .val (.int ra0), .val (.int rb0), .val (.int ra1), .val (.int rb1), .val (.int ra2), .val (.int rb2), .val (.ref a68), .val (.ref a71), .val (.int v91), .val (.int v95), .val (.int (1 : Int32)), .val (.int v99), .val (.int v103), .val (.int (0 : Int32)), .val (.int v116), .unset] [(.ref a68)])) _
      refine XS.aload X87.here hx rfl (hb hby at_269) rfl rfl ?_
      exact k)
    obtain ⟨_, _, ⟨T119, L119, k119, n119⟩, -, X119, ⟨Lc119, hQ119, l119, y119, z119⟩, st119⟩ := Jvm.LawKit.callS X87 hx (y := (⟨"com/example/cultivar/cultivar/Pareto", "dominates", "([D[D)Z"⟩ : MethodName)) hown (mvT hZ (hw _ (List.mem_of_getElem? (i := 8) rfl))) (mvT hZ (hw _ (List.mem_of_getElem? (i := 9) rfl))) (mvT hZ (hw _ (List.mem_of_getElem? (i := 10) rfl))) (mvT hZ (hw _ (List.mem_of_getElem? (i := 11) rfl))) (by decide) (backOf (W := 0) (own_dom2 l Z a0 hw [] a68 a71 cA68 cA71 ra0 ra1 rb0 rb1 h87 n0 Z87 (V83.other W87 ne_a68_a71) V87) hZ (hw _ (List.mem_of_getElem? (i := 11) rfl)) (hw _ (List.mem_of_getElem? (i := 10) rfl)) (by decide) (by decide)) (g := (mkF m 271 #[.val (.int p0), .val (.int p1), .val (.int p2), .val (.int p3), .val (.int (2 : Int32)), .val (.int ra0), .val (.int rb0), .val (.int ra1), .val (.int rb1), .val (.int ra2), .val (.int rb2), .val (.ref a68), .val (.ref a71), .val (.int v91), .val (.int v95), .val (.int (1 : Int32)), .val (.int v99), .val (.int v103), .val (.int (0 : Int32)), .val (.int v116), .unset] [(.ref a71), (.ref a68)])) rfl (by rw [hml]; rfl) (argsL := [(.ref a68), (.ref a71)]) (rest := []) (lenOf own_pd___D_D_Z rfl) rfl (by show 2 * 0 + _ ≤ _; exact Nat.le_of_eq rfl) (hb hby at_271) (fun _ _ => ⟨rfl, e87, (by decide : 2 + 0 ≤ _), (by decide : 4 + 0 ≤ _)⟩)
    dsimp only [Pt.U, Pt.locs, Pt.cells, Pt.slots] at X119 l119 y119 z119 st119 hQ119
    subst l119 y119 z119
    obtain ⟨rfl, N119q, e119⟩ := hQ119
    have N119 := Fr.app N87 N119q
    have pre120 : ∀ t, Steps p.tables e below (T119.setTop (mkF m 274 #[.val (.int p0), .val (.int p1), .val (.int p2), .val (.int p3), .val (.int (2 : Int32)), .val (.int ra0), .val (.int rb0), .val (.int ra1), .val (.int rb1), .val (.int ra2), .val (.int rb2), .val (.ref a68), .val (.ref a71), .val (.int v91), .val (.int v95), .val (.int (1 : Int32)), .val (.int v99), .val (.int v103), .val (.int (0 : Int32)), .val (.int v116), .unset] [(.int (own_dom [(ra0, rb0), (ra1, rb1)] [(rb0, ra0), (rb1, ra1)]))])) t → Steps p.tables e below (s₁.setTop (entryFrame m #[(.int p0), (.int p1), (.int p2), (.int p3)] maxLocals)) t := fun t k => pre118 _ (st119 _ k)
    have pre121 : ∀ t, Steps p.tables e below (T119.setTop (mkF m 288 #[.val (.int p0), .val (.int p1), .val (.int p2), .val (.int p3), .val (.int (2 : Int32)), .val (.int ra0), .val (.int rb0), .val (.int ra1), .val (.int rb1), .val (.int ra2), .val (.int rb2), .val (.ref a68), .val (.ref a71), .val (.int v91), .val (.int v95), .val (.int (1 : Int32)), .val (.int v99), .val (.int v103), .val (.int (0 : Int32)), .val (.int v116), .val (.int (own_dom [(ra0, rb0), (ra1, rb1)] [(rb0, ra0), (rb1, ra1)]))] [(.int (1 : Int32))])) t → Steps p.tables e below (s₁.setTop (entryFrame m #[(.int p0), (.int p1), (.int p2), (.int p3)] maxLocals)) t := fun t k => pre120 _ (by
      show Steps p.tables e below (T119.setTop (mkF m 274 #[.val (.int p0), .val (.int p1), .val (.int p2), .val (.int p3), .val (.int (2 : Int32)), .val (.int ra0), .val (.int rb0), .val (.int ra1), .val (.int rb1), .val (.int ra2), .val (.int rb2), .val (.ref a68), .val (.ref a71), .val (.int v91), .val (.int v95), .val (.int (1 : Int32)), .val (.int v99), .val (.int v103), .val (.int (0 : Int32)), .val (.int v116), .unset] [(.int (own_dom [(ra0, rb0), (ra1, rb1)] [(rb0, ra0), (rb1, ra1)]))])) _
      refine XS.istore X119.here hx rfl (hb hby at_274) rfl (l' := #[.val (.int p0), .val (.int p1), .val (.int p2), .val (.int p3), .val (.int (2 : Int32)), .val (.int ra0), .val (.int rb0), .val (.int ra1), .val (.int rb1), .val (.int ra2), .val (.int rb2), .val (.ref a68), .val (.ref a71), .val (.int v91), .val (.int v95), .val (.int (1 : Int32)), .val (.int v99), .val (.int v103), .val (.int (0 : Int32)), .val (.int v116), .val (.int (own_dom [(ra0, rb0), (ra1, rb1)] [(rb0, ra0), (rb1, ra1)]))]) rfl ?_
      show Steps p.tables e below (T119.setTop (mkF m 276 #[.val (.int p0), .val (.int p1), .val (.int p2), .val (.int p3), .val (.int (2 : Int32)), .val (.int ra0), .val (.int rb0), .val (.int ra1), .val (.int rb1), .val (.int ra2), .val (.int rb2), .val (.ref a68), .val (.ref a71), .val (.int v91), .val (.int v95), .val (.int (1 : Int32)), .val (.int v99), .val (.int v103), .val (.int (0 : Int32)), .val (.int v116), .val (.int (own_dom [(ra0, rb0), (ra1, rb1)] [(rb0, ra0), (rb1, ra1)]))] [])) _
      refine XS.iload X119.here hx rfl (hb hby at_276) rfl ?_
      show Steps p.tables e below (T119.setTop (mkF m 278 #[.val (.int p0), .val (.int p1), .val (.int p2), .val (.int p3), .val (.int (2 : Int32)), .val (.int ra0), .val (.int rb0), .val (.int ra1), .val (.int rb1), .val (.int ra2), .val (.int rb2), .val (.ref a68), .val (.ref a71), .val (.int v91), .val (.int v95), .val (.int (1 : Int32)), .val (.int v99), .val (.int v103), .val (.int (0 : Int32)), .val (.int v116), .val (.int (own_dom [(ra0, rb0), (ra1, rb1)] [(rb0, ra0), (rb1, ra1)]))] [(.int (own_dom [(ra0, rb0), (ra1, rb1)] [(rb0, ra0), (rb1, ra1)]))])) _
      refine XS.iload X119.here hx rfl (hb hby at_278) rfl ?_
      show Steps p.tables e below (T119.setTop (mkF m 280 #[.val (.int p0), .val (.int p1), .val (.int p2), .val (.int p3), .val (.int (2 : Int32)), .val (.int ra0), .val (.int rb0), .val (.int ra1), .val (.int rb1), .val (.int ra2), .val (.int rb2), .val (.ref a68), .val (.ref a71), .val (.int v91), .val (.int v95), .val (.int (1 : Int32)), .val (.int v99), .val (.int v103), .val (.int (0 : Int32)), .val (.int v116), .val (.int (own_dom [(ra0, rb0), (ra1, rb1)] [(rb0, ra0), (rb1, ra1)]))] [(.int v116), (.int (own_dom [(ra0, rb0), (ra1, rb1)] [(rb0, ra0), (rb1, ra1)]))])) _
      refine XS.icmpNo X119.here hx rfl (hb hby at_280) rfl (XT.ii_ne_f (own_fin2 ra0 ra1 rb0 rb1 _ _ _ _ _ _ _ _ hv91 hv95 hv99 hv103 hv110 hv112 hv114 hv116)) ?_
      show Steps p.tables e below (T119.setTop (mkF m 283 #[.val (.int p0), .val (.int p1), .val (.int p2), .val (.int p3), .val (.int (2 : Int32)), .val (.int ra0), .val (.int rb0), .val (.int ra1), .val (.int rb1), .val (.int ra2), .val (.int rb2), .val (.ref a68), .val (.ref a71), .val (.int v91), .val (.int v95), .val (.int (1 : Int32)), .val (.int v99), .val (.int v103), .val (.int (0 : Int32)), .val (.int v116), .val (.int (own_dom [(ra0, rb0), (ra1, rb1)] [(rb0, ra0), (rb1, ra1)]))] [])) _
      refine XT.iconstV X119.here hx rfl (1 : Int32) (hb hby at_283) rfl ?_
      show Steps p.tables e below (T119.setTop (mkF m 284 #[.val (.int p0), .val (.int p1), .val (.int p2), .val (.int p3), .val (.int (2 : Int32)), .val (.int ra0), .val (.int rb0), .val (.int ra1), .val (.int rb1), .val (.int ra2), .val (.int rb2), .val (.ref a68), .val (.ref a71), .val (.int v91), .val (.int v95), .val (.int (1 : Int32)), .val (.int v99), .val (.int v103), .val (.int (0 : Int32)), .val (.int v116), .val (.int (own_dom [(ra0, rb0), (ra1, rb1)] [(rb0, ra0), (rb1, ra1)]))] [(.int (1 : Int32))])) _
      refine XS.goto X119.here hx rfl (pc0 := 284) (pc' := 288) rfl (hb hby at_284) (by decide) (by decide) ?_
      exact k)
    obtain ⟨fs, hr, hrun, hended, hW, hsame⟩ := X119.leave (v := some (.int (1 : Int32))) (fun h => by rw [Bd.returns] at h; cases h)
    refine ⟨_, _, pre121 _ ?_, hrun, hended, _, _, rfl, ?_, ⟨_, rfl⟩, hW, hsame.mono (by decide) (by decide)⟩
    · show Steps p.tables e below (T119.setTop (mkF m 288 #[.val (.int p0), .val (.int p1), .val (.int p2), .val (.int p3), .val (.int (2 : Int32)), .val (.int ra0), .val (.int rb0), .val (.int ra1), .val (.int rb1), .val (.int ra2), .val (.int rb2), .val (.ref a68), .val (.ref a71), .val (.int v91), .val (.int v95), .val (.int (1 : Int32)), .val (.int v99), .val (.int v103), .val (.int (0 : Int32)), .val (.int v116), .val (.int (own_dom [(ra0, rb0), (ra1, rb1)] [(rb0, ra0), (rb1, ra1)]))] [(.int (1 : Int32))])) _
      exact retN X119 hx (t := .boolean) Bd.returns (by simp) (hb hby at_288) hr
    · show Q_own_law Z p0 p1 p2 p3 h0 n0 _ T119.heap _
      rw [e119]
      exact ⟨rfl, N119⟩
  · subst hcs
    obtain ⟨T122, h122, cA122, X122, e122, E122, A122, st122⟩ := newP X22 hx hZ (aty := .double) (hw _ (List.mem_of_getElem? (i := 7) rfl)) e22 (g := (mkF m 43 #[.val (.int p0), .val (.int p1), .val (.int p2), .val (.int p3), .val (.int (3 : Int32)), .val (.int ra0), .val (.int rb0), .val (.int ra1), .val (.int rb1), .val (.int ra2), .val (.int rb2), .unset, .unset, .unset, .unset, .unset, .unset, .unset, .unset, .unset, .unset] [(.int (3 : Int32))])) rfl (hb hby at_43) rfl (by decide) (cap := 3) (by decide) (by decide) (by decide) (by decide)
    obtain ⟨a122, ga122⟩ : ∃ z, z = h0.size := ⟨_, rfl⟩
    rw [← ga122] at A122 st122
    have ge_a122 : n0 ≤ a122 := Nat.le_trans Z0 (Nat.le_of_eq ga122.symm)
    have Z122 : n0 ≤ h122.size := Nat.le_trans Z0 E122.1
    have pre123 : ∀ t, Steps p.tables e below (T122.setTop (mkF m 45 #[.val (.int p0), .val (.int p1), .val (.int p2), .val (.int p3), .val (.int (3 : Int32)), .val (.int ra0), .val (.int rb0), .val (.int ra1), .val (.int rb1), .val (.int ra2), .val (.int rb2), .unset, .unset, .unset, .unset, .unset, .unset, .unset, .unset, .unset, .unset] [(.ref a122)])) t → Steps p.tables e below (s₁.setTop (entryFrame m #[(.int p0), (.int p1), (.int p2), (.int p3)] maxLocals)) t := fun t k => pre26 _ (st122 _ k)
    have V122 : Arv Z h122 a122 cA122 .double (3 : Int32) [(.double (FP.l2d 0)), (.double (FP.l2d 0)), (.double (FP.l2d 0))] (.double (FP.l2d 0)) := (Arv.newD A122 (by decide)).pad (pad_rep [] (.double (FP.l2d 0)) 3)
    have pre124 : ∀ t, Steps p.tables e below (T122.setTop (mkF m 49 #[.val (.int p0), .val (.int p1), .val (.int p2), .val (.int p3), .val (.int (3 : Int32)), .val (.int ra0), .val (.int rb0), .val (.int ra1), .val (.int rb1), .val (.int ra2), .val (.int rb2), .val (.ref a122), .unset, .unset, .unset, .unset, .unset, .unset, .unset, .unset, .unset] [(.int (3 : Int32))])) t → Steps p.tables e below (s₁.setTop (entryFrame m #[(.int p0), (.int p1), (.int p2), (.int p3)] maxLocals)) t := fun t k => pre123 _ (by
      show Steps p.tables e below (T122.setTop (mkF m 45 #[.val (.int p0), .val (.int p1), .val (.int p2), .val (.int p3), .val (.int (3 : Int32)), .val (.int ra0), .val (.int rb0), .val (.int ra1), .val (.int rb1), .val (.int ra2), .val (.int rb2), .unset, .unset, .unset, .unset, .unset, .unset, .unset, .unset, .unset, .unset] [(.ref a122)])) _
      refine XS.astore X122.here hx rfl (hb hby at_45) rfl rfl (l' := #[.val (.int p0), .val (.int p1), .val (.int p2), .val (.int p3), .val (.int (3 : Int32)), .val (.int ra0), .val (.int rb0), .val (.int ra1), .val (.int rb1), .val (.int ra2), .val (.int rb2), .val (.ref a122), .unset, .unset, .unset, .unset, .unset, .unset, .unset, .unset, .unset]) rfl ?_
      show Steps p.tables e below (T122.setTop (mkF m 47 #[.val (.int p0), .val (.int p1), .val (.int p2), .val (.int p3), .val (.int (3 : Int32)), .val (.int ra0), .val (.int rb0), .val (.int ra1), .val (.int rb1), .val (.int ra2), .val (.int rb2), .val (.ref a122), .unset, .unset, .unset, .unset, .unset, .unset, .unset, .unset, .unset] [])) _
      refine XS.iload X122.here hx rfl (hb hby at_47) rfl ?_
      exact k)
    obtain ⟨T125, h125, cA125, X125, e125, E125, A125, st125⟩ := newP X122 hx hZ (aty := .double) (hw _ (List.mem_of_getElem? (i := 7) rfl)) e122 (g := (mkF m 49 #[.val (.int p0), .val (.int p1), .val (.int p2), .val (.int p3), .val (.int (3 : Int32)), .val (.int ra0), .val (.int rb0), .val (.int ra1), .val (.int rb1), .val (.int ra2), .val (.int rb2), .val (.ref a122), .unset, .unset, .unset, .unset, .unset, .unset, .unset, .unset, .unset] [(.int (3 : Int32))])) rfl (hb hby at_49) rfl (by decide) (cap := 3) (by decide) (by decide) (by decide) (by decide)
    obtain ⟨a125, ga125⟩ : ∃ z, z = h122.size := ⟨_, rfl⟩
    rw [← ga125] at A125 st125
    have lt_a122_a125 : a122 < a125 := Nat.lt_of_lt_of_eq V122.lt ga125.symm
    have ne_a122_a125 : a122 ≠ a125 := Nat.ne_of_lt lt_a122_a125
    have ge_a125 : n0 ≤ a125 := Nat.le_trans Z122 (Nat.le_of_eq ga125.symm)
    have Z125 : n0 ≤ h125.size := Nat.le_trans Z122 E125.1
    have pre126 : ∀ t, Steps p.tables e below (T125.setTop (mkF m 51 #[.val (.int p0), .val (.int p1), .val (.int p2), .val (.int p3), .val (.int (3 : Int32)), .val (.int ra0), .val (.int rb0), .val (.int ra1), .val (.int rb1), .val (.int ra2), .val (.int rb2), .val (.ref a122), .unset, .unset, .unset, .unset, .unset, .unset, .unset, .unset, .unset] [(.ref a125)])) t → Steps p.tables e below (s₁.setTop (entryFrame m #[(.int p0), (.int p1), (.int p2), (.int p3)] maxLocals)) t := fun t k => pre124 _ (st125 _ k)
    have V125 : Arv Z h125 a125 cA125 .double (3 : Int32) [(.double (FP.l2d 0)), (.double (FP.l2d 0)), (.double (FP.l2d 0))] (.double (FP.l2d 0)) := (Arv.newD A125 (by decide)).pad (pad_rep [] (.double (FP.l2d 0)) 3)
    have pre127 : ∀ t, Steps p.tables e below (T125.setTop (mkF m 64 #[.val (.int p0), .val (.int p1), .val (.int p2), .val (.int p3), .val (.int (3 : Int32)), .val (.int ra0), .val (.int rb0), .val (.int ra1), .val (.int rb1), .val (.int ra2), .val (.int rb2), .val (.ref a122), .val (.ref a125), .unset, .unset, .unset, .unset, .unset, .unset, .unset, .unset] [(.double (FP.l2d (ra0.toInt64))), (.int (0 : Int32)), (.ref a122)])) t → Steps p.tables e below (s₁.setTop (entryFrame m #[(.int p0), (.int p1), (.int p2), (.int p3)] maxLocals)) t := fun t k => pre126 _ (by
      show Steps p.tables e below (T125.setTop (mkF m 51 #[.val (.int p0), .val (.int p1), .val (.int p2), .val (.int p3), .val (.int (3 : Int32)), .val (.int ra0), .val (.int rb0), .val (.int ra1), .val (.int rb1), .val (.int ra2), .val (.int rb2), .val (.ref a122), .unset, .unset, .unset, .unset, .unset, .unset, .unset, .unset, .unset] [(.ref a125)])) _
      refine XS.astore X125.here hx rfl (hb hby at_51) rfl rfl (l' := #[.val (.int p0), .val (.int p1), .val (.int p2), .val (.int p3), .val (.int (3 : Int32)), .val (.int ra0), .val (.int rb0), .val (.int ra1), .val (.int rb1), .val (.int ra2), .val (.int rb2), .val (.ref a122), .val (.ref a125), .unset, .unset, .unset, .unset, .unset, .unset, .unset, .unset]) rfl ?_
      show Steps p.tables e below (T125.setTop (mkF m 53 #[.val (.int p0), .val (.int p1), .val (.int p2), .val (.int p3), .val (.int (3 : Int32)), .val (.int ra0), .val (.int rb0), .val (.int ra1), .val (.int rb1), .val (.int ra2), .val (.int rb2), .val (.ref a122), .val (.ref a125), .unset, .unset, .unset, .unset, .unset, .unset, .unset, .unset] [])) _
      refine XS.iload X125.here hx rfl (hb hby at_53) rfl ?_
      show Steps p.tables e below (T125.setTop (mkF m 55 #[.val (.int p0), .val (.int p1), .val (.int p2), .val (.int p3), .val (.int (3 : Int32)), .val (.int ra0), .val (.int rb0), .val (.int ra1), .val (.int rb1), .val (.int ra2), .val (.int rb2), .val (.ref a122), .val (.ref a125), .unset, .unset, .unset, .unset, .unset, .unset, .unset, .unset] [(.int (3 : Int32))])) _
      refine XS.ifNo X125.here hx rfl (hb hby at_55) rfl (XT.i0_le_f (by decide)) ?_
      show Steps p.tables e below (T125.setTop (mkF m 58 #[.val (.int p0), .val (.int p1), .val (.int p2), .val (.int p3), .val (.int (3 : Int32)), .val (.int ra0), .val (.int rb0), .val (.int ra1), .val (.int rb1), .val (.int ra2), .val (.int rb2), .val (.ref a122), .val (.ref a125), .unset, .unset, .unset, .unset, .unset, .unset, .unset, .unset] [])) _
      refine XS.aload X125.here hx rfl (hb hby at_58) rfl rfl ?_
      show Steps p.tables e below (T125.setTop (mkF m 60 #[.val (.int p0), .val (.int p1), .val (.int p2), .val (.int p3), .val (.int (3 : Int32)), .val (.int ra0), .val (.int rb0), .val (.int ra1), .val (.int rb1), .val (.int ra2), .val (.int rb2), .val (.ref a122), .val (.ref a125), .unset, .unset, .unset, .unset, .unset, .unset, .unset, .unset] [(.ref a122)])) _
      refine XT.iconstV X125.here hx rfl (0 : Int32) (hb hby at_60) rfl ?_
      show Steps p.tables e below (T125.setTop (mkF m 61 #[.val (.int p0), .val (.int p1), .val (.int p2), .val (.int p3), .val (.int (3 : Int32)), .val (.int ra0), .val (.int rb0), .val (.int ra1), .val (.int rb1), .val (.int ra2), .val (.int rb2), .val (.ref a122), .val (.ref a125), .unset, .unset, .unset, .unset, .unset, .unset, .unset, .unset] [(.int (0 : Int32)), (.ref a122)])) _
      refine XS.iload X125.here hx rfl (hb hby at_61) rfl ?_
      show Steps p.tables e below (T125.setTop (mkF m 63 #[.val (.int p0), .val (.int p1), .val (.int p2), .val (.int p3), .val (.int (3 : Int32)), .val (.int ra0), .val (.int rb0), .val (.int ra1), .val (.int rb1), .val (.int ra2), .val (.int rb2), .val (.ref a122), .val (.ref a125), .unset, .unset, .unset, .unset, .unset, .unset, .unset, .unset] [(.int ra0), (.int (0 : Int32)), (.ref a122)])) _
      refine XS.i2dS X125.here hx rfl (hb hby at_63) rfl (i2d_w ra0) ?_
      exact k)
    obtain ⟨cl128, Ar128, qc128, Sz128, Mz128, Hs128, Uf128⟩ := (show Arv Z h125 a122 cA122 .double (3 : Int32) [(.double (FP.l2d 0)), (.double (FP.l2d 0)), (.double (FP.l2d 0))] (.double (FP.l2d 0)) from (V122.ext E125))
    have in129 : ¬ ((0 : Int32) < 0 ∨ cl128.slots.size ≤ ((0 : Int32)).toNatClampNeg) := inb_of Sz128 (by decide)
    obtain ⟨T129, h129, X129, e129, W129, st129⟩ := stD X125 hx hZ e125 Ar128 (j := (0 : Int32)) in129 (g := (mkF m 64 #[.val (.int p0), .val (.int p1), .val (.int p2), .val (.int p3), .val (.int (3 : Int32)), .val (.int ra0), .val (.int rb0), .val (.int ra1), .val (.int rb1), .val (.int ra2), .val (.int rb2), .val (.ref a122), .val (.ref a125), .unset, .unset, .unset, .unset, .unset, .unset, .unset, .unset] [(.double (FP.l2d (ra0.toInt64))), (.int (0 : Int32)), (.ref a122)])) rfl rfl (hb hby at_64)
    have N129 := Fr.snoc X129 N22 ge_a122
    have Z129 : n0 ≤ h129.size := Nat.le_trans Z125 (Keep.of_wr W129).1
    have V129 : Arv Z h129 a122 cA122 .double (3 : Int32) [(.double (FP.l2d (ra0.toInt64))), (.double (FP.l2d 0)), (.double (FP.l2d 0))] (.double (FP.l2d 0)) := Arv.set Ar128 qc128 Sz128 Mz128 Hs128 Uf128 rfl W129 0 (by decide) (by show 0 < 3; decide)
    have pre130 : ∀ t, Steps p.tables e below (T129.setTop (mkF m 65 #[.val (.int p0), .val (.int p1), .val (.int p2), .val (.int p3), .val (.int (3 : Int32)), .val (.int ra0), .val (.int rb0), .val (.int ra1), .val (.int rb1), .val (.int ra2), .val (.int rb2), .val (.ref a122), .val (.ref a125), .unset, .unset, .unset, .unset, .unset, .unset, .unset, .unset] [])) t → Steps p.tables e below (s₁.setTop (entryFrame m #[(.int p0), (.int p1), (.int p2), (.int p3)] maxLocals)) t := fun t k => pre127 _ (st129 _ k)
    have pre131 : ∀ t, Steps p.tables e below (T129.setTop (mkF m 71 #[.val (.int p0), .val (.int p1), .val (.int p2), .val (.int p3), .val (.int (3 : Int32)), .val (.int ra0), .val (.int rb0), .val (.int ra1), .val (.int rb1), .val (.int ra2), .val (.int rb2), .val (.ref a122), .val (.ref a125), .unset, .unset, .unset, .unset, .unset, .unset, .unset, .unset] [(.double (FP.l2d (rb0.toInt64))), (.int (0 : Int32)), (.ref a125)])) t → Steps p.tables e below (s₁.setTop (entryFrame m #[(.int p0), (.int p1), (.int p2), (.int p3)] maxLocals)) t := fun t k => pre130 _ (by
      show Steps p.tables e below (T129.setTop (mkF m 65 #[.val (.int p0), .val (.int p1), .val (.int p2), .val (.int p3), .val (.int (3 : Int32)), .val (.int ra0), .val (.int rb0), .val (.int ra1), .val (.int rb1), .val (.int ra2), .val (.int rb2), .val (.ref a122), .val (.ref a125), .unset, .unset, .unset, .unset, .unset, .unset, .unset, .unset] [])) _
      refine XS.aload X129.here hx rfl (hb hby at_65) rfl rfl ?_
      show Steps p.tables e below (T129.setTop (mkF m 67 #[.val (.int p0), .val (.int p1), .val (.int p2), .val (.int p3), .val (.int (3 : Int32)), .val (.int ra0), .val (.int rb0), .val (.int ra1), .val (.int rb1), .val (.int ra2), .val (.int rb2), .val (.ref a122), .val (.ref a125), .unset, .unset, .unset, .unset, .unset, .unset, .unset, .unset] [(.ref a125)])) _
      refine XT.iconstV X129.here hx rfl (0 : Int32) (hb hby at_67) rfl ?_
      show Steps p.tables e below (T129.setTop (mkF m 68 #[.val (.int p0), .val (.int p1), .val (.int p2), .val (.int p3), .val (.int (3 : Int32)), .val (.int ra0), .val (.int rb0), .val (.int ra1), .val (.int rb1), .val (.int ra2), .val (.int rb2), .val (.ref a122), .val (.ref a125), .unset, .unset, .unset, .unset, .unset, .unset, .unset, .unset] [(.int (0 : Int32)), (.ref a125)])) _
      refine XS.iload X129.here hx rfl (hb hby at_68) rfl ?_
      show Steps p.tables e below (T129.setTop (mkF m 70 #[.val (.int p0), .val (.int p1), .val (.int p2), .val (.int p3), .val (.int (3 : Int32)), .val (.int ra0), .val (.int rb0), .val (.int ra1), .val (.int rb1), .val (.int ra2), .val (.int rb2), .val (.ref a122), .val (.ref a125), .unset, .unset, .unset, .unset, .unset, .unset, .unset, .unset] [(.int rb0), (.int (0 : Int32)), (.ref a125)])) _
      refine XS.i2dS X129.here hx rfl (hb hby at_70) rfl (i2d_w rb0) ?_
      exact k)
    obtain ⟨cl132, Ar132, qc132, Sz132, Mz132, Hs132, Uf132⟩ := (show Arv Z h129 a125 cA125 .double (3 : Int32) [(.double (FP.l2d 0)), (.double (FP.l2d 0)), (.double (FP.l2d 0))] (.double (FP.l2d 0)) from (V125.other W129 ne_a122_a125.symm))
    have in133 : ¬ ((0 : Int32) < 0 ∨ cl132.slots.size ≤ ((0 : Int32)).toNatClampNeg) := inb_of Sz132 (by decide)
    obtain ⟨T133, h133, X133, e133, W133, st133⟩ := stD X129 hx hZ e129 Ar132 (j := (0 : Int32)) in133 (g := (mkF m 71 #[.val (.int p0), .val (.int p1), .val (.int p2), .val (.int p3), .val (.int (3 : Int32)), .val (.int ra0), .val (.int rb0), .val (.int ra1), .val (.int rb1), .val (.int ra2), .val (.int rb2), .val (.ref a122), .val (.ref a125), .unset, .unset, .unset, .unset, .unset, .unset, .unset, .unset] [(.double (FP.l2d (rb0.toInt64))), (.int (0 : Int32)), (.ref a125)])) rfl rfl (hb hby at_71)
    have N133 := Fr.snoc X133 N129 ge_a125
    have Z133 : n0 ≤ h133.size := Nat.le_trans Z129 (Keep.of_wr W133).1
    have V133 : Arv Z h133 a125 cA125 .double (3 : Int32) [(.double (FP.l2d (rb0.toInt64))), (.double (FP.l2d 0)), (.double (FP.l2d 0))] (.double (FP.l2d 0)) := Arv.set Ar132 qc132 Sz132 Mz132 Hs132 Uf132 rfl W133 0 (by decide) (by show 0 < 3; decide)
    have pre134 : ∀ t, Steps p.tables e below (T133.setTop (mkF m 72 #[.val (.int p0), .val (.int p1), .val (.int p2), .val (.int p3), .val (.int (3 : Int32)), .val (.int ra0), .val (.int rb0), .val (.int ra1), .val (.int rb1), .val (.int ra2), .val (.int rb2), .val (.ref a122), .val (.ref a125), .unset, .unset, .unset, .unset, .unset, .unset, .unset, .unset] [])) t → Steps p.tables e below (s₁.setTop (entryFrame m #[(.int p0), (.int p1), (.int p2), (.int p3)] maxLocals)) t := fun t k => pre131 _ (st133 _ k)
    have pre135 : ∀ t, Steps p.tables e below (T133.setTop (mkF m 84 #[.val (.int p0), .val (.int p1), .val (.int p2), .val (.int p3), .val (.int (3 : Int32)), .val (.int ra0), .val (.int rb0), .val (.int ra1), .val (.int rb1), .val (.int ra2), .val (.int rb2), .val (.ref a122), .val (.ref a125), .unset, .unset, .unset, .unset, .unset, .unset, .unset, .unset] [(.double (FP.l2d (ra1.toInt64))), (.int (1 : Int32)), (.ref a122)])) t → Steps p.tables e below (s₁.setTop (entryFrame m #[(.int p0), (.int p1), (.int p2), (.int p3)] maxLocals)) t := fun t k => pre134 _ (by
      show Steps p.tables e below (T133.setTop (mkF m 72 #[.val (.int p0), .val (.int p1), .val (.int p2), .val (.int p3), .val (.int (3 : Int32)), .val (.int ra0), .val (.int rb0), .val (.int ra1), .val (.int rb1), .val (.int ra2), .val (.int rb2), .val (.ref a122), .val (.ref a125), .unset, .unset, .unset, .unset, .unset, .unset, .unset, .unset] [])) _
      refine XS.iload X133.here hx rfl (hb hby at_72) rfl ?_
      show Steps p.tables e below (T133.setTop (mkF m 74 #[.val (.int p0), .val (.int p1), .val (.int p2), .val (.int p3), .val (.int (3 : Int32)), .val (.int ra0), .val (.int rb0), .val (.int ra1), .val (.int rb1), .val (.int ra2), .val (.int rb2), .val (.ref a122), .val (.ref a125), .unset, .unset, .unset, .unset, .unset, .unset, .unset, .unset] [(.int (3 : Int32))])) _
      refine XT.iconstV X133.here hx rfl (1 : Int32) (hb hby at_74) rfl ?_
      show Steps p.tables e below (T133.setTop (mkF m 75 #[.val (.int p0), .val (.int p1), .val (.int p2), .val (.int p3), .val (.int (3 : Int32)), .val (.int ra0), .val (.int rb0), .val (.int ra1), .val (.int rb1), .val (.int ra2), .val (.int rb2), .val (.ref a122), .val (.ref a125), .unset, .unset, .unset, .unset, .unset, .unset, .unset, .unset] [(.int (1 : Int32)), (.int (3 : Int32))])) _
      refine XS.icmpNo X133.here hx rfl (hb hby at_75) rfl (XT.ii_le_f (by decide)) ?_
      show Steps p.tables e below (T133.setTop (mkF m 78 #[.val (.int p0), .val (.int p1), .val (.int p2), .val (.int p3), .val (.int (3 : Int32)), .val (.int ra0), .val (.int rb0), .val (.int ra1), .val (.int rb1), .val (.int ra2), .val (.int rb2), .val (.ref a122), .val (.ref a125), .unset, .unset, .unset, .unset, .unset, .unset, .unset, .unset] [])) _
      refine XS.aload X133.here hx rfl (hb hby at_78) rfl rfl ?_
      show Steps p.tables e below (T133.setTop (mkF m 80 #[.val (.int p0), .val (.int p1), .val (.int p2), .val (.int p3), .val (.int (3 : Int32)), .val (.int ra0), .val (.int rb0), .val (.int ra1), .val (.int rb1), .val (.int ra2), .val (.int rb2), .val (.ref a122), .val (.ref a125), .unset, .unset, .unset, .unset, .unset, .unset, .unset, .unset] [(.ref a122)])) _
      refine XT.iconstV X133.here hx rfl (1 : Int32) (hb hby at_80) rfl ?_
      show Steps p.tables e below (T133.setTop (mkF m 81 #[.val (.int p0), .val (.int p1), .val (.int p2), .val (.int p3), .val (.int (3 : Int32)), .val (.int ra0), .val (.int rb0), .val (.int ra1), .val (.int rb1), .val (.int ra2), .val (.int rb2), .val (.ref a122), .val (.ref a125), .unset, .unset, .unset, .unset, .unset, .unset, .unset, .unset] [(.int (1 : Int32)), (.ref a122)])) _
      refine XS.iload X133.here hx rfl (hb hby at_81) rfl ?_
      show Steps p.tables e below (T133.setTop (mkF m 83 #[.val (.int p0), .val (.int p1), .val (.int p2), .val (.int p3), .val (.int (3 : Int32)), .val (.int ra0), .val (.int rb0), .val (.int ra1), .val (.int rb1), .val (.int ra2), .val (.int rb2), .val (.ref a122), .val (.ref a125), .unset, .unset, .unset, .unset, .unset, .unset, .unset, .unset] [(.int ra1), (.int (1 : Int32)), (.ref a122)])) _
      refine XS.i2dS X133.here hx rfl (hb hby at_83) rfl (i2d_w ra1) ?_
      exact k)
    obtain ⟨cl136, Ar136, qc136, Sz136, Mz136, Hs136, Uf136⟩ := (show Arv Z h133 a122 cA122 .double (3 : Int32) [(.double (FP.l2d (ra0.toInt64))), (.double (FP.l2d 0)), (.double (FP.l2d 0))] (.double (FP.l2d 0)) from (V129.other W133 ne_a122_a125))
    have in137 : ¬ ((1 : Int32) < 0 ∨ cl136.slots.size ≤ ((1 : Int32)).toNatClampNeg) := inb_of Sz136 (by decide)
    obtain ⟨T137, h137, X137, e137, W137, st137⟩ := stD X133 hx hZ e133 Ar136 (j := (1 : Int32)) in137 (g := (mkF m 84 #[.val (.int p0), .val (.int p1), .val (.int p2), .val (.int p3), .val (.int (3 : Int32)), .val (.int ra0), .val (.int rb0), .val (.int ra1), .val (.int rb1), .val (.int ra2), .val (.int rb2), .val (.ref a122), .val (.ref a125), .unset, .unset, .unset, .unset, .unset, .unset, .unset, .unset] [(.double (FP.l2d (ra1.toInt64))), (.int (1 : Int32)), (.ref a122)])) rfl rfl (hb hby at_84)
    have N137 := Fr.snoc X137 N133 ge_a122
    have Z137 : n0 ≤ h137.size := Nat.le_trans Z133 (Keep.of_wr W137).1
    have V137 : Arv Z h137 a122 cA122 .double (3 : Int32) [(.double (FP.l2d (ra0.toInt64))), (.double (FP.l2d (ra1.toInt64))), (.double (FP.l2d 0))] (.double (FP.l2d 0)) := Arv.set Ar136 qc136 Sz136 Mz136 Hs136 Uf136 rfl W137 1 (by decide) (by show 1 < 3; decide)
    have pre138 : ∀ t, Steps p.tables e below (T137.setTop (mkF m 85 #[.val (.int p0), .val (.int p1), .val (.int p2), .val (.int p3), .val (.int (3 : Int32)), .val (.int ra0), .val (.int rb0), .val (.int ra1), .val (.int rb1), .val (.int ra2), .val (.int rb2), .val (.ref a122), .val (.ref a125), .unset, .unset, .unset, .unset, .unset, .unset, .unset, .unset] [])) t → Steps p.tables e below (s₁.setTop (entryFrame m #[(.int p0), (.int p1), (.int p2), (.int p3)] maxLocals)) t := fun t k => pre135 _ (st137 _ k)
    have pre139 : ∀ t, Steps p.tables e below (T137.setTop (mkF m 91 #[.val (.int p0), .val (.int p1), .val (.int p2), .val (.int p3), .val (.int (3 : Int32)), .val (.int ra0), .val (.int rb0), .val (.int ra1), .val (.int rb1), .val (.int ra2), .val (.int rb2), .val (.ref a122), .val (.ref a125), .unset, .unset, .unset, .unset, .unset, .unset, .unset, .unset] [(.double (FP.l2d (rb1.toInt64))), (.int (1 : Int32)), (.ref a125)])) t → Steps p.tables e below (s₁.setTop (entryFrame m #[(.int p0), (.int p1), (.int p2), (.int p3)] maxLocals)) t := fun t k => pre138 _ (by
      show Steps p.tables e below (T137.setTop (mkF m 85 #[.val (.int p0), .val (.int p1), .val (.int p2), .val (.int p3), .val (.int (3 : Int32)), .val (.int ra0), .val (.int rb0), .val (.int ra1), .val (.int rb1), .val (.int ra2), .val (.int rb2), .val (.ref a122), .val (.ref a125), .unset, .unset, .unset, .unset, .unset, .unset, .unset, .unset] [])) _
      refine XS.aload X137.here hx rfl (hb hby at_85) rfl rfl ?_
      show Steps p.tables e below (T137.setTop (mkF m 87 #[.val (.int p0), .val (.int p1), .val (.int p2), .val (.int p3), .val (.int (3 : Int32)), .val (.int ra0), .val (.int rb0), .val (.int ra1), .val (.int rb1), .val (.int ra2), .val (.int rb2), .val (.ref a122), .val (.ref a125), .unset, .unset, .unset, .unset, .unset, .unset, .unset, .unset] [(.ref a125)])) _
      refine XT.iconstV X137.here hx rfl (1 : Int32) (hb hby at_87) rfl ?_
      show Steps p.tables e below (T137.setTop (mkF m 88 #[.val (.int p0), .val (.int p1), .val (.int p2), .val (.int p3), .val (.int (3 : Int32)), .val (.int ra0), .val (.int rb0), .val (.int ra1), .val (.int rb1), .val (.int ra2), .val (.int rb2), .val (.ref a122), .val (.ref a125), .unset, .unset, .unset, .unset, .unset, .unset, .unset, .unset] [(.int (1 : Int32)), (.ref a125)])) _
      refine XS.iload X137.here hx rfl (hb hby at_88) rfl ?_
      show Steps p.tables e below (T137.setTop (mkF m 90 #[.val (.int p0), .val (.int p1), .val (.int p2), .val (.int p3), .val (.int (3 : Int32)), .val (.int ra0), .val (.int rb0), .val (.int ra1), .val (.int rb1), .val (.int ra2), .val (.int rb2), .val (.ref a122), .val (.ref a125), .unset, .unset, .unset, .unset, .unset, .unset, .unset, .unset] [(.int rb1), (.int (1 : Int32)), (.ref a125)])) _
      refine XS.i2dS X137.here hx rfl (hb hby at_90) rfl (i2d_w rb1) ?_
      exact k)
    obtain ⟨cl140, Ar140, qc140, Sz140, Mz140, Hs140, Uf140⟩ := (show Arv Z h137 a125 cA125 .double (3 : Int32) [(.double (FP.l2d (rb0.toInt64))), (.double (FP.l2d 0)), (.double (FP.l2d 0))] (.double (FP.l2d 0)) from (V133.other W137 ne_a122_a125.symm))
    have in141 : ¬ ((1 : Int32) < 0 ∨ cl140.slots.size ≤ ((1 : Int32)).toNatClampNeg) := inb_of Sz140 (by decide)
    obtain ⟨T141, h141, X141, e141, W141, st141⟩ := stD X137 hx hZ e137 Ar140 (j := (1 : Int32)) in141 (g := (mkF m 91 #[.val (.int p0), .val (.int p1), .val (.int p2), .val (.int p3), .val (.int (3 : Int32)), .val (.int ra0), .val (.int rb0), .val (.int ra1), .val (.int rb1), .val (.int ra2), .val (.int rb2), .val (.ref a122), .val (.ref a125), .unset, .unset, .unset, .unset, .unset, .unset, .unset, .unset] [(.double (FP.l2d (rb1.toInt64))), (.int (1 : Int32)), (.ref a125)])) rfl rfl (hb hby at_91)
    have N141 := Fr.snoc X141 N137 ge_a125
    have Z141 : n0 ≤ h141.size := Nat.le_trans Z137 (Keep.of_wr W141).1
    have V141 : Arv Z h141 a125 cA125 .double (3 : Int32) [(.double (FP.l2d (rb0.toInt64))), (.double (FP.l2d (rb1.toInt64))), (.double (FP.l2d 0))] (.double (FP.l2d 0)) := Arv.set Ar140 qc140 Sz140 Mz140 Hs140 Uf140 rfl W141 1 (by decide) (by show 1 < 3; decide)
    have pre142 : ∀ t, Steps p.tables e below (T141.setTop (mkF m 92 #[.val (.int p0), .val (.int p1), .val (.int p2), .val (.int p3), .val (.int (3 : Int32)), .val (.int ra0), .val (.int rb0), .val (.int ra1), .val (.int rb1), .val (.int ra2), .val (.int rb2), .val (.ref a122), .val (.ref a125), .unset, .unset, .unset, .unset, .unset, .unset, .unset, .unset] [])) t → Steps p.tables e below (s₁.setTop (entryFrame m #[(.int p0), (.int p1), (.int p2), (.int p3)] maxLocals)) t := fun t k => pre139 _ (st141 _ k)
    have pre143 : ∀ t, Steps p.tables e below (T141.setTop (mkF m 104 #[.val (.int p0), .val (.int p1), .val (.int p2), .val (.int p3), .val (.int (3 : Int32)), .val (.int ra0), .val (.int rb0), .val (.int ra1), .val (.int rb1), .val (.int ra2), .val (.int rb2), .val (.ref a122), .val (.ref a125), .unset, .unset, .unset, .unset, .unset, .unset, .unset, .unset] [(.double (FP.l2d (ra2.toInt64))), (.int (2 : Int32)), (.ref a122)])) t → Steps p.tables e below (s₁.setTop (entryFrame m #[(.int p0), (.int p1), (.int p2), (.int p3)] maxLocals)) t := fun t k => pre142 _ (by
      show Steps p.tables e below (T141.setTop (mkF m 92 #[.val (.int p0), .val (.int p1), .val (.int p2), .val (.int p3), .val (.int (3 : Int32)), .val (.int ra0), .val (.int rb0), .val (.int ra1), .val (.int rb1), .val (.int ra2), .val (.int rb2), .val (.ref a122), .val (.ref a125), .unset, .unset, .unset, .unset, .unset, .unset, .unset, .unset] [])) _
      refine XS.iload X141.here hx rfl (hb hby at_92) rfl ?_
      show Steps p.tables e below (T141.setTop (mkF m 94 #[.val (.int p0), .val (.int p1), .val (.int p2), .val (.int p3), .val (.int (3 : Int32)), .val (.int ra0), .val (.int rb0), .val (.int ra1), .val (.int rb1), .val (.int ra2), .val (.int rb2), .val (.ref a122), .val (.ref a125), .unset, .unset, .unset, .unset, .unset, .unset, .unset, .unset] [(.int (3 : Int32))])) _
      refine XT.iconstV X141.here hx rfl (2 : Int32) (hb hby at_94) rfl ?_
      show Steps p.tables e below (T141.setTop (mkF m 95 #[.val (.int p0), .val (.int p1), .val (.int p2), .val (.int p3), .val (.int (3 : Int32)), .val (.int ra0), .val (.int rb0), .val (.int ra1), .val (.int rb1), .val (.int ra2), .val (.int rb2), .val (.ref a122), .val (.ref a125), .unset, .unset, .unset, .unset, .unset, .unset, .unset, .unset] [(.int (2 : Int32)), (.int (3 : Int32))])) _
      refine XS.icmpNo X141.here hx rfl (hb hby at_95) rfl (XT.ii_le_f (by decide)) ?_
      show Steps p.tables e below (T141.setTop (mkF m 98 #[.val (.int p0), .val (.int p1), .val (.int p2), .val (.int p3), .val (.int (3 : Int32)), .val (.int ra0), .val (.int rb0), .val (.int ra1), .val (.int rb1), .val (.int ra2), .val (.int rb2), .val (.ref a122), .val (.ref a125), .unset, .unset, .unset, .unset, .unset, .unset, .unset, .unset] [])) _
      refine XS.aload X141.here hx rfl (hb hby at_98) rfl rfl ?_
      show Steps p.tables e below (T141.setTop (mkF m 100 #[.val (.int p0), .val (.int p1), .val (.int p2), .val (.int p3), .val (.int (3 : Int32)), .val (.int ra0), .val (.int rb0), .val (.int ra1), .val (.int rb1), .val (.int ra2), .val (.int rb2), .val (.ref a122), .val (.ref a125), .unset, .unset, .unset, .unset, .unset, .unset, .unset, .unset] [(.ref a122)])) _
      refine XT.iconstV X141.here hx rfl (2 : Int32) (hb hby at_100) rfl ?_
      show Steps p.tables e below (T141.setTop (mkF m 101 #[.val (.int p0), .val (.int p1), .val (.int p2), .val (.int p3), .val (.int (3 : Int32)), .val (.int ra0), .val (.int rb0), .val (.int ra1), .val (.int rb1), .val (.int ra2), .val (.int rb2), .val (.ref a122), .val (.ref a125), .unset, .unset, .unset, .unset, .unset, .unset, .unset, .unset] [(.int (2 : Int32)), (.ref a122)])) _
      refine XS.iload X141.here hx rfl (hb hby at_101) rfl ?_
      show Steps p.tables e below (T141.setTop (mkF m 103 #[.val (.int p0), .val (.int p1), .val (.int p2), .val (.int p3), .val (.int (3 : Int32)), .val (.int ra0), .val (.int rb0), .val (.int ra1), .val (.int rb1), .val (.int ra2), .val (.int rb2), .val (.ref a122), .val (.ref a125), .unset, .unset, .unset, .unset, .unset, .unset, .unset, .unset] [(.int ra2), (.int (2 : Int32)), (.ref a122)])) _
      refine XS.i2dS X141.here hx rfl (hb hby at_103) rfl (i2d_w ra2) ?_
      exact k)
    obtain ⟨cl144, Ar144, qc144, Sz144, Mz144, Hs144, Uf144⟩ := (show Arv Z h141 a122 cA122 .double (3 : Int32) [(.double (FP.l2d (ra0.toInt64))), (.double (FP.l2d (ra1.toInt64))), (.double (FP.l2d 0))] (.double (FP.l2d 0)) from (V137.other W141 ne_a122_a125))
    have in145 : ¬ ((2 : Int32) < 0 ∨ cl144.slots.size ≤ ((2 : Int32)).toNatClampNeg) := inb_of Sz144 (by decide)
    obtain ⟨T145, h145, X145, e145, W145, st145⟩ := stD X141 hx hZ e141 Ar144 (j := (2 : Int32)) in145 (g := (mkF m 104 #[.val (.int p0), .val (.int p1), .val (.int p2), .val (.int p3), .val (.int (3 : Int32)), .val (.int ra0), .val (.int rb0), .val (.int ra1), .val (.int rb1), .val (.int ra2), .val (.int rb2), .val (.ref a122), .val (.ref a125), .unset, .unset, .unset, .unset, .unset, .unset, .unset, .unset] [(.double (FP.l2d (ra2.toInt64))), (.int (2 : Int32)), (.ref a122)])) rfl rfl (hb hby at_104)
    have N145 := Fr.snoc X145 N141 ge_a122
    have Z145 : n0 ≤ h145.size := Nat.le_trans Z141 (Keep.of_wr W145).1
    have V145 : Arv Z h145 a122 cA122 .double (3 : Int32) [(.double (FP.l2d (ra0.toInt64))), (.double (FP.l2d (ra1.toInt64))), (.double (FP.l2d (ra2.toInt64)))] (.double (FP.l2d 0)) := Arv.set Ar144 qc144 Sz144 Mz144 Hs144 Uf144 rfl W145 2 (by decide) (by show 2 < 3; decide)
    have pre146 : ∀ t, Steps p.tables e below (T145.setTop (mkF m 105 #[.val (.int p0), .val (.int p1), .val (.int p2), .val (.int p3), .val (.int (3 : Int32)), .val (.int ra0), .val (.int rb0), .val (.int ra1), .val (.int rb1), .val (.int ra2), .val (.int rb2), .val (.ref a122), .val (.ref a125), .unset, .unset, .unset, .unset, .unset, .unset, .unset, .unset] [])) t → Steps p.tables e below (s₁.setTop (entryFrame m #[(.int p0), (.int p1), (.int p2), (.int p3)] maxLocals)) t := fun t k => pre143 _ (st145 _ k)
    have pre147 : ∀ t, Steps p.tables e below (T145.setTop (mkF m 111 #[.val (.int p0), .val (.int p1), .val (.int p2), .val (.int p3), .val (.int (3 : Int32)), .val (.int ra0), .val (.int rb0), .val (.int ra1), .val (.int rb1), .val (.int ra2), .val (.int rb2), .val (.ref a122), .val (.ref a125), .unset, .unset, .unset, .unset, .unset, .unset, .unset, .unset] [(.double (FP.l2d (rb2.toInt64))), (.int (2 : Int32)), (.ref a125)])) t → Steps p.tables e below (s₁.setTop (entryFrame m #[(.int p0), (.int p1), (.int p2), (.int p3)] maxLocals)) t := fun t k => pre146 _ (by
      show Steps p.tables e below (T145.setTop (mkF m 105 #[.val (.int p0), .val (.int p1), .val (.int p2), .val (.int p3), .val (.int (3 : Int32)), .val (.int ra0), .val (.int rb0), .val (.int ra1), .val (.int rb1), .val (.int ra2), .val (.int rb2), .val (.ref a122), .val (.ref a125), .unset, .unset, .unset, .unset, .unset, .unset, .unset, .unset] [])) _
      refine XS.aload X145.here hx rfl (hb hby at_105) rfl rfl ?_
      show Steps p.tables e below (T145.setTop (mkF m 107 #[.val (.int p0), .val (.int p1), .val (.int p2), .val (.int p3), .val (.int (3 : Int32)), .val (.int ra0), .val (.int rb0), .val (.int ra1), .val (.int rb1), .val (.int ra2), .val (.int rb2), .val (.ref a122), .val (.ref a125), .unset, .unset, .unset, .unset, .unset, .unset, .unset, .unset] [(.ref a125)])) _
      refine XT.iconstV X145.here hx rfl (2 : Int32) (hb hby at_107) rfl ?_
      show Steps p.tables e below (T145.setTop (mkF m 108 #[.val (.int p0), .val (.int p1), .val (.int p2), .val (.int p3), .val (.int (3 : Int32)), .val (.int ra0), .val (.int rb0), .val (.int ra1), .val (.int rb1), .val (.int ra2), .val (.int rb2), .val (.ref a122), .val (.ref a125), .unset, .unset, .unset, .unset, .unset, .unset, .unset, .unset] [(.int (2 : Int32)), (.ref a125)])) _
      refine XS.iload X145.here hx rfl (hb hby at_108) rfl ?_
      show Steps p.tables e below (T145.setTop (mkF m 110 #[.val (.int p0), .val (.int p1), .val (.int p2), .val (.int p3), .val (.int (3 : Int32)), .val (.int ra0), .val (.int rb0), .val (.int ra1), .val (.int rb1), .val (.int ra2), .val (.int rb2), .val (.ref a122), .val (.ref a125), .unset, .unset, .unset, .unset, .unset, .unset, .unset, .unset] [(.int rb2), (.int (2 : Int32)), (.ref a125)])) _
      refine XS.i2dS X145.here hx rfl (hb hby at_110) rfl (i2d_w rb2) ?_
      exact k)
    obtain ⟨cl148, Ar148, qc148, Sz148, Mz148, Hs148, Uf148⟩ := (show Arv Z h145 a125 cA125 .double (3 : Int32) [(.double (FP.l2d (rb0.toInt64))), (.double (FP.l2d (rb1.toInt64))), (.double (FP.l2d 0))] (.double (FP.l2d 0)) from (V141.other W145 ne_a122_a125.symm))
    have in149 : ¬ ((2 : Int32) < 0 ∨ cl148.slots.size ≤ ((2 : Int32)).toNatClampNeg) := inb_of Sz148 (by decide)
    obtain ⟨T149, h149, X149, e149, W149, st149⟩ := stD X145 hx hZ e145 Ar148 (j := (2 : Int32)) in149 (g := (mkF m 111 #[.val (.int p0), .val (.int p1), .val (.int p2), .val (.int p3), .val (.int (3 : Int32)), .val (.int ra0), .val (.int rb0), .val (.int ra1), .val (.int rb1), .val (.int ra2), .val (.int rb2), .val (.ref a122), .val (.ref a125), .unset, .unset, .unset, .unset, .unset, .unset, .unset, .unset] [(.double (FP.l2d (rb2.toInt64))), (.int (2 : Int32)), (.ref a125)])) rfl rfl (hb hby at_111)
    have N149 := Fr.snoc X149 N145 ge_a125
    have Z149 : n0 ≤ h149.size := Nat.le_trans Z145 (Keep.of_wr W149).1
    have V149 : Arv Z h149 a125 cA125 .double (3 : Int32) [(.double (FP.l2d (rb0.toInt64))), (.double (FP.l2d (rb1.toInt64))), (.double (FP.l2d (rb2.toInt64)))] (.double (FP.l2d 0)) := Arv.set Ar148 qc148 Sz148 Mz148 Hs148 Uf148 rfl W149 2 (by decide) (by show 2 < 3; decide)
    have pre150 : ∀ t, Steps p.tables e below (T149.setTop (mkF m 112 #[.val (.int p0), .val (.int p1), .val (.int p2), .val (.int p3), .val (.int (3 : Int32)), .val (.int ra0), .val (.int rb0), .val (.int ra1), .val (.int rb1), .val (.int ra2), .val (.int rb2), .val (.ref a122), .val (.ref a125), .unset, .unset, .unset, .unset, .unset, .unset, .unset, .unset] [])) t → Steps p.tables e below (s₁.setTop (entryFrame m #[(.int p0), (.int p1), (.int p2), (.int p3)] maxLocals)) t := fun t k => pre147 _ (st149 _ k)
    have pre151 : ∀ t, Steps p.tables e below (T149.setTop (mkF m 121 #[.val (.int p0), .val (.int p1), .val (.int p2), .val (.int p3), .val (.int (3 : Int32)), .val (.int ra0), .val (.int rb0), .val (.int ra1), .val (.int rb1), .val (.int ra2), .val (.int rb2), .val (.ref a122), .val (.ref a125), .unset, .unset, .unset, .unset, .unset, .unset, .unset, .unset] [(.int rb0), (.int ra0)])) t → Steps p.tables e below (s₁.setTop (entryFrame m #[(.int p0), (.int p1), (.int p2), (.int p3)] maxLocals)) t := fun t k => pre150 _ (by
      show Steps p.tables e below (T149.setTop (mkF m 112 #[.val (.int p0), .val (.int p1), .val (.int p2), .val (.int p3), .val (.int (3 : Int32)), .val (.int ra0), .val (.int rb0), .val (.int ra1), .val (.int rb1), .val (.int ra2), .val (.int rb2), .val (.ref a122), .val (.ref a125), .unset, .unset, .unset, .unset, .unset, .unset, .unset, .unset] [])) _
      refine XS.iload X149.here hx rfl (hb hby at_112) rfl ?_
      show Steps p.tables e below (T149.setTop (mkF m 114 #[.val (.int p0), .val (.int p1), .val (.int p2), .val (.int p3), .val (.int (3 : Int32)), .val (.int ra0), .val (.int rb0), .val (.int ra1), .val (.int rb1), .val (.int ra2), .val (.int rb2), .val (.ref a122), .val (.ref a125), .unset, .unset, .unset, .unset, .unset, .unset, .unset, .unset] [(.int (3 : Int32))])) _
      refine XS.ifNo X149.here hx rfl (hb hby at_114) rfl (XT.i0_le_f (by decide)) ?_
      show Steps p.tables e below (T149.setTop (mkF m 117 #[.val (.int p0), .val (.int p1), .val (.int p2), .val (.int p3), .val (.int (3 : Int32)), .val (.int ra0), .val (.int rb0), .val (.int ra1), .val (.int rb1), .val (.int ra2), .val (.int rb2), .val (.ref a122), .val (.ref a125), .unset, .unset, .unset, .unset, .unset, .unset, .unset, .unset] [])) _
      refine XS.iload X149.here hx rfl (hb hby at_117) rfl ?_
      show Steps p.tables e below (T149.setTop (mkF m 119 #[.val (.int p0), .val (.int p1), .val (.int p2), .val (.int p3), .val (.int (3 : Int32)), .val (.int ra0), .val (.int rb0), .val (.int ra1), .val (.int rb1), .val (.int ra2), .val (.int rb2), .val (.ref a122), .val (.ref a125), .unset, .unset, .unset, .unset, .unset, .unset, .unset, .unset] [(.int ra0)])) _
      refine XS.iload X149.here hx rfl (hb hby at_119) rfl ?_
      exact k)
    obtain ⟨v153, hv153⟩ : ∃ z : Int32, z = (if rb0 < ra0 then (0 : Int32) else (1 : Int32)) := ⟨_, rfl⟩
    have pre154 : ∀ t, Steps p.tables e below (T149.setTop (mkF m 129 #[.val (.int p0), .val (.int p1), .val (.int p2), .val (.int p3), .val (.int (3 : Int32)), .val (.int ra0), .val (.int rb0), .val (.int ra1), .val (.int rb1), .val (.int ra2), .val (.int rb2), .val (.ref a122), .val (.ref a125), .unset, .unset, .unset, .unset, .unset, .unset, .unset, .unset] [(.int v153)])) t → Steps p.tables e below (s₁.setTop (entryFrame m #[(.int p0), (.int p1), (.int p2), (.int p3)] maxLocals)) t := fun t k => pre151 _ (by
      by_cases c121_152 : rb0 < ra0
      · rw [show v153 = _ from hv153.trans (if_pos c121_152)] at k
        show Steps p.tables e below (T149.setTop (mkF m 121 #[.val (.int p0), .val (.int p1), .val (.int p2), .val (.int p3), .val (.int (3 : Int32)), .val (.int ra0), .val (.int rb0), .val (.int ra1), .val (.int rb1), .val (.int ra2), .val (.int rb2), .val (.ref a122), .val (.ref a125), .unset, .unset, .unset, .unset, .unset, .unset, .unset, .unset] [(.int rb0), (.int ra0)])) _
        refine XS.icmpYes X149.here hx rfl (pc0 := 121) (pc' := 128) rfl (hb hby at_121) rfl (XT.ii_gt_t c121_152) (by decide) (by decide) ?_
        show Steps p.tables e below (T149.setTop (mkF m 128 #[.val (.int p0), .val (.int p1), .val (.int p2), .val (.int p3), .val (.int (3 : Int32)), .val (.int ra0), .val (.int rb0), .val (.int ra1), .val (.int rb1), .val (.int ra2), .val (.int rb2), .val (.ref a122), .val (.ref a125), .unset, .unset, .unset, .unset, .unset, .unset, .unset, .unset] [])) _
        refine XT.iconstV X149.here hx rfl (0 : Int32) (hb hby at_128) rfl ?_
        exact k
      · rw [show v153 = _ from hv153.trans (if_neg c121_152)] at k
        show Steps p.tables e below (T149.setTop (mkF m 121 #[.val (.int p0), .val (.int p1), .val (.int p2), .val (.int p3), .val (.int (3 : Int32)), .val (.int ra0), .val (.int rb0), .val (.int ra1), .val (.int rb1), .val (.int ra2), .val (.int rb2), .val (.ref a122), .val (.ref a125), .unset, .unset, .unset, .unset, .unset, .unset, .unset, .unset] [(.int rb0), (.int ra0)])) _
        refine XS.icmpNo X149.here hx rfl (hb hby at_121) rfl (XT.ii_gt_f c121_152) ?_
        show Steps p.tables e below (T149.setTop (mkF m 124 #[.val (.int p0), .val (.int p1), .val (.int p2), .val (.int p3), .val (.int (3 : Int32)), .val (.int ra0), .val (.int rb0), .val (.int ra1), .val (.int rb1), .val (.int ra2), .val (.int rb2), .val (.ref a122), .val (.ref a125), .unset, .unset, .unset, .unset, .unset, .unset, .unset, .unset] [])) _
        refine XT.iconstV X149.here hx rfl (1 : Int32) (hb hby at_124) rfl ?_
        show Steps p.tables e below (T149.setTop (mkF m 125 #[.val (.int p0), .val (.int p1), .val (.int p2), .val (.int p3), .val (.int (3 : Int32)), .val (.int ra0), .val (.int rb0), .val (.int ra1), .val (.int rb1), .val (.int ra2), .val (.int rb2), .val (.ref a122), .val (.ref a125), .unset, .unset, .unset, .unset, .unset, .unset, .unset, .unset] [(.int (1 : Int32))])) _
        refine XS.goto X149.here hx rfl (pc0 := 125) (pc' := 129) rfl (hb hby at_125) (by decide) (by decide) ?_
        exact k)
    have pre155 : ∀ t, Steps p.tables e below (T149.setTop (mkF m 141 #[.val (.int p0), .val (.int p1), .val (.int p2), .val (.int p3), .val (.int (3 : Int32)), .val (.int ra0), .val (.int rb0), .val (.int ra1), .val (.int rb1), .val (.int ra2), .val (.int rb2), .val (.ref a122), .val (.ref a125), .val (.int v153), .unset, .unset, .unset, .unset, .unset, .unset, .unset] [(.int rb1), (.int ra1)])) t → Steps p.tables e below (s₁.setTop (entryFrame m #[(.int p0), (.int p1), (.int p2), (.int p3)] maxLocals)) t := fun t k => pre154 _ (by
      show Steps p.tables e below (T149.setTop (mkF m 129 #[.val (.int p0), .val (.int p1), .val (.int p2), .val (.int p3), .val (.int (3 : Int32)), .val (.int ra0), .val (.int rb0), .val (.int ra1), .val (.int rb1), .val (.int ra2), .val (.int rb2), .val (.ref a122), .val (.ref a125), .unset, .unset, .unset, .unset, .unset, .unset, .unset, .unset] [(.int v153)])) _
      refine XS.istore X149.here hx rfl (hb hby at_129) rfl (l' := #[.val (.int p0), .val (.int p1), .val (.int p2), .val (.int p3), .val (.int (3 : Int32)), .val (.int ra0), .val (.int rb0), .val (.int ra1), .val (.int rb1), .val (.int ra2), .val (.int rb2), .val (.ref a122), .val (.ref a125), .val (.int v153), .unset, .unset, .unset, .unset, .unset, .unset, .unset]) rfl ?_
      show Steps p.tables e below (T149.setTop (mkF m 131 #[.val (.int p0), .val (.int p1), .val (.int p2), .val (.int p3), .val (.int (3 : Int32)), .val (.int ra0), .val (.int rb0), .val (.int ra1), .val (.int rb1), .val (.int ra2), .val (.int rb2), .val (.ref a122), .val (.ref a125), .val (.int v153), .unset, .unset, .unset, .unset, .unset, .unset, .unset] [])) _
      refine XS.iload X149.here hx rfl (hb hby at_131) rfl ?_
      show Steps p.tables e below (T149.setTop (mkF m 133 #[.val (.int p0), .val (.int p1), .val (.int p2), .val (.int p3), .val (.int (3 : Int32)), .val (.int ra0), .val (.int rb0), .val (.int ra1), .val (.int rb1), .val (.int ra2), .val (.int rb2), .val (.ref a122), .val (.ref a125), .val (.int v153), .unset, .unset, .unset, .unset, .unset, .unset, .unset] [(.int (3 : Int32))])) _
      refine XT.iconstV X149.here hx rfl (1 : Int32) (hb hby at_133) rfl ?_
      show Steps p.tables e below (T149.setTop (mkF m 134 #[.val (.int p0), .val (.int p1), .val (.int p2), .val (.int p3), .val (.int (3 : Int32)), .val (.int ra0), .val (.int rb0), .val (.int ra1), .val (.int rb1), .val (.int ra2), .val (.int rb2), .val (.ref a122), .val (.ref a125), .val (.int v153), .unset, .unset, .unset, .unset, .unset, .unset, .unset] [(.int (1 : Int32)), (.int (3 : Int32))])) _
      refine XS.icmpNo X149.here hx rfl (hb hby at_134) rfl (XT.ii_le_f (by decide)) ?_
      show Steps p.tables e below (T149.setTop (mkF m 137 #[.val (.int p0), .val (.int p1), .val (.int p2), .val (.int p3), .val (.int (3 : Int32)), .val (.int ra0), .val (.int rb0), .val (.int ra1), .val (.int rb1), .val (.int ra2), .val (.int rb2), .val (.ref a122), .val (.ref a125), .val (.int v153), .unset, .unset, .unset, .unset, .unset, .unset, .unset] [])) _
      refine XS.iload X149.here hx rfl (hb hby at_137) rfl ?_
      show Steps p.tables e below (T149.setTop (mkF m 139 #[.val (.int p0), .val (.int p1), .val (.int p2), .val (.int p3), .val (.int (3 : Int32)), .val (.int ra0), .val (.int rb0), .val (.int ra1), .val (.int rb1), .val (.int ra2), .val (.int rb2), .val (.ref a122), .val (.ref a125), .val (.int v153), .unset, .unset, .unset, .unset, .unset, .unset, .unset] [(.int ra1)])) _
      refine XS.iload X149.here hx rfl (hb hby at_139) rfl ?_
      exact k)
    obtain ⟨v157, hv157⟩ : ∃ z : Int32, z = (if rb1 < ra1 then (0 : Int32) else (1 : Int32)) := ⟨_, rfl⟩
    have pre158 : ∀ t, Steps p.tables e below (T149.setTop (mkF m 149 #[.val (.int p0), .val (.int p1), .val (.int p2), .val (.int p3), .val (.int (3 : Int32)), .val (.int ra0), .val (.int rb0), .val (.int ra1), .val (.int rb1), .val (.int ra2), .val (.int rb2), .val (.ref a122), .val (.ref a125), .val (.int v153), .unset, .unset, .unset, .unset, .unset, .unset, .unset] [(.int v157)])) t → Steps p.tables e below (s₁.setTop (entryFrame m #[(.int p0), (.int p1), (.int p2), (.int p3)] maxLocals)) t := fun t k => pre155 _ (by
      by_cases c141_156 : rb1 < ra1
      · rw [show v157 = _ from hv157.trans (if_pos c141_156)] at k
        show Steps p.tables e below (T149.setTop (mkF m 141 #[.val (.int p0), .val (.int p1), .val (.int p2), .val (.int p3), .val (.int (3 : Int32)), .val (.int ra0), .val (.int rb0), .val (.int ra1), .val (.int rb1), .val (.int ra2), .val (.int rb2), .val (.ref a122), .val (.ref a125), .val (.int v153), .unset, .unset, .unset, .unset, .unset, .unset, .unset] [(.int rb1), (.int ra1)])) _
        refine XS.icmpYes X149.here hx rfl (pc0 := 141) (pc' := 148) rfl (hb hby at_141) rfl (XT.ii_gt_t c141_156) (by decide) (by decide) ?_
        show Steps p.tables e below (T149.setTop (mkF m 148 #[.val (.int p0), .val (.int p1), .val (.int p2), .val (.int p3), .val (.int (3 : Int32)), .val (.int ra0), .val (.int rb0), .val (.int ra1), .val (.int rb1), .val (.int ra2), .val (.int rb2), .val (.ref a122), .val (.ref a125), .val (.int v153), .unset, .unset, .unset, .unset, .unset, .unset, .unset] [])) _
        refine XT.iconstV X149.here hx rfl (0 : Int32) (hb hby at_148) rfl ?_
        exact k
      · rw [show v157 = _ from hv157.trans (if_neg c141_156)] at k
        show Steps p.tables e below (T149.setTop (mkF m 141 #[.val (.int p0), .val (.int p1), .val (.int p2), .val (.int p3), .val (.int (3 : Int32)), .val (.int ra0), .val (.int rb0), .val (.int ra1), .val (.int rb1), .val (.int ra2), .val (.int rb2), .val (.ref a122), .val (.ref a125), .val (.int v153), .unset, .unset, .unset, .unset, .unset, .unset, .unset] [(.int rb1), (.int ra1)])) _
        refine XS.icmpNo X149.here hx rfl (hb hby at_141) rfl (XT.ii_gt_f c141_156) ?_
        show Steps p.tables e below (T149.setTop (mkF m 144 #[.val (.int p0), .val (.int p1), .val (.int p2), .val (.int p3), .val (.int (3 : Int32)), .val (.int ra0), .val (.int rb0), .val (.int ra1), .val (.int rb1), .val (.int ra2), .val (.int rb2), .val (.ref a122), .val (.ref a125), .val (.int v153), .unset, .unset, .unset, .unset, .unset, .unset, .unset] [])) _
        refine XT.iconstV X149.here hx rfl (1 : Int32) (hb hby at_144) rfl ?_
        show Steps p.tables e below (T149.setTop (mkF m 145 #[.val (.int p0), .val (.int p1), .val (.int p2), .val (.int p3), .val (.int (3 : Int32)), .val (.int ra0), .val (.int rb0), .val (.int ra1), .val (.int rb1), .val (.int ra2), .val (.int rb2), .val (.ref a122), .val (.ref a125), .val (.int v153), .unset, .unset, .unset, .unset, .unset, .unset, .unset] [(.int (1 : Int32))])) _
        refine XS.goto X149.here hx rfl (pc0 := 145) (pc' := 149) rfl (hb hby at_145) (by decide) (by decide) ?_
        exact k)
    have pre159 : ∀ t, Steps p.tables e below (T149.setTop (mkF m 161 #[.val (.int p0), .val (.int p1), .val (.int p2), .val (.int p3), .val (.int (3 : Int32)), .val (.int ra0), .val (.int rb0), .val (.int ra1), .val (.int rb1), .val (.int ra2), .val (.int rb2), .val (.ref a122), .val (.ref a125), .val (.int v153), .val (.int v157), .unset, .unset, .unset, .unset, .unset, .unset] [(.int rb2), (.int ra2)])) t → Steps p.tables e below (s₁.setTop (entryFrame m #[(.int p0), (.int p1), (.int p2), (.int p3)] maxLocals)) t := fun t k => pre158 _ (by
      show Steps p.tables e below (T149.setTop (mkF m 149 #[.val (.int p0), .val (.int p1), .val (.int p2), .val (.int p3), .val (.int (3 : Int32)), .val (.int ra0), .val (.int rb0), .val (.int ra1), .val (.int rb1), .val (.int ra2), .val (.int rb2), .val (.ref a122), .val (.ref a125), .val (.int v153), .unset, .unset, .unset, .unset, .unset, .unset, .unset] [(.int v157)])) _
      refine XS.istore X149.here hx rfl (hb hby at_149) rfl (l' := #[.val (.int p0), .val (.int p1), .val (.int p2), .val (.int p3), .val (.int (3 : Int32)), .val (.int ra0), .val (.int rb0), .val (.int ra1), .val (.int rb1), .val (.int ra2), .val (.int rb2), .val (.ref a122), .val (.ref a125), .val (.int v153), .val (.int v157), .unset, .unset, .unset, .unset, .unset, .unset]) rfl ?_
      show Steps p.tables e below (T149.setTop (mkF m 151 #[.val (.int p0), .val (.int p1), .val (.int p2), .val (.int p3), .val (.int (3 : Int32)), .val (.int ra0), .val (.int rb0), .val (.int ra1), .val (.int rb1), .val (.int ra2), .val (.int rb2), .val (.ref a122), .val (.ref a125), .val (.int v153), .val (.int v157), .unset, .unset, .unset, .unset, .unset, .unset] [])) _
      refine XS.iload X149.here hx rfl (hb hby at_151) rfl ?_
      show Steps p.tables e below (T149.setTop (mkF m 153 #[.val (.int p0), .val (.int p1), .val (.int p2), .val (.int p3), .val (.int (3 : Int32)), .val (.int ra0), .val (.int rb0), .val (.int ra1), .val (.int rb1), .val (.int ra2), .val (.int rb2), .val (.ref a122), .val (.ref a125), .val (.int v153), .val (.int v157), .unset, .unset, .unset, .unset, .unset, .unset] [(.int (3 : Int32))])) _
      refine XT.iconstV X149.here hx rfl (2 : Int32) (hb hby at_153) rfl ?_
      show Steps p.tables e below (T149.setTop (mkF m 154 #[.val (.int p0), .val (.int p1), .val (.int p2), .val (.int p3), .val (.int (3 : Int32)), .val (.int ra0), .val (.int rb0), .val (.int ra1), .val (.int rb1), .val (.int ra2), .val (.int rb2), .val (.ref a122), .val (.ref a125), .val (.int v153), .val (.int v157), .unset, .unset, .unset, .unset, .unset, .unset] [(.int (2 : Int32)), (.int (3 : Int32))])) _
      refine XS.icmpNo X149.here hx rfl (hb hby at_154) rfl (XT.ii_le_f (by decide)) ?_
      show Steps p.tables e below (T149.setTop (mkF m 157 #[.val (.int p0), .val (.int p1), .val (.int p2), .val (.int p3), .val (.int (3 : Int32)), .val (.int ra0), .val (.int rb0), .val (.int ra1), .val (.int rb1), .val (.int ra2), .val (.int rb2), .val (.ref a122), .val (.ref a125), .val (.int v153), .val (.int v157), .unset, .unset, .unset, .unset, .unset, .unset] [])) _
      refine XS.iload X149.here hx rfl (hb hby at_157) rfl ?_
      show Steps p.tables e below (T149.setTop (mkF m 159 #[.val (.int p0), .val (.int p1), .val (.int p2), .val (.int p3), .val (.int (3 : Int32)), .val (.int ra0), .val (.int rb0), .val (.int ra1), .val (.int rb1), .val (.int ra2), .val (.int rb2), .val (.ref a122), .val (.ref a125), .val (.int v153), .val (.int v157), .unset, .unset, .unset, .unset, .unset, .unset] [(.int ra2)])) _
      refine XS.iload X149.here hx rfl (hb hby at_159) rfl ?_
      exact k)
    obtain ⟨v161, hv161⟩ : ∃ z : Int32, z = (if rb2 < ra2 then (0 : Int32) else (1 : Int32)) := ⟨_, rfl⟩
    have pre162 : ∀ t, Steps p.tables e below (T149.setTop (mkF m 169 #[.val (.int p0), .val (.int p1), .val (.int p2), .val (.int p3), .val (.int (3 : Int32)), .val (.int ra0), .val (.int rb0), .val (.int ra1), .val (.int rb1), .val (.int ra2), .val (.int rb2), .val (.ref a122), .val (.ref a125), .val (.int v153), .val (.int v157), .unset, .unset, .unset, .unset, .unset, .unset] [(.int v161)])) t → Steps p.tables e below (s₁.setTop (entryFrame m #[(.int p0), (.int p1), (.int p2), (.int p3)] maxLocals)) t := fun t k => pre159 _ (by
      by_cases c161_160 : rb2 < ra2
      · rw [show v161 = _ from hv161.trans (if_pos c161_160)] at k
        show Steps p.tables e below (T149.setTop (mkF m 161 #[.val (.int p0), .val (.int p1), .val (.int p2), .val (.int p3), .val (.int (3 : Int32)), .val (.int ra0), .val (.int rb0), .val (.int ra1), .val (.int rb1), .val (.int ra2), .val (.int rb2), .val (.ref a122), .val (.ref a125), .val (.int v153), .val (.int v157), .unset, .unset, .unset, .unset, .unset, .unset] [(.int rb2), (.int ra2)])) _
        refine XS.icmpYes X149.here hx rfl (pc0 := 161) (pc' := 168) rfl (hb hby at_161) rfl (XT.ii_gt_t c161_160) (by decide) (by decide) ?_
        show Steps p.tables e below (T149.setTop (mkF m 168 #[.val (.int p0), .val (.int p1), .val (.int p2), .val (.int p3), .val (.int (3 : Int32)), .val (.int ra0), .val (.int rb0), .val (.int ra1), .val (.int rb1), .val (.int ra2), .val (.int rb2), .val (.ref a122), .val (.ref a125), .val (.int v153), .val (.int v157), .unset, .unset, .unset, .unset, .unset, .unset] [])) _
        refine XT.iconstV X149.here hx rfl (0 : Int32) (hb hby at_168) rfl ?_
        exact k
      · rw [show v161 = _ from hv161.trans (if_neg c161_160)] at k
        show Steps p.tables e below (T149.setTop (mkF m 161 #[.val (.int p0), .val (.int p1), .val (.int p2), .val (.int p3), .val (.int (3 : Int32)), .val (.int ra0), .val (.int rb0), .val (.int ra1), .val (.int rb1), .val (.int ra2), .val (.int rb2), .val (.ref a122), .val (.ref a125), .val (.int v153), .val (.int v157), .unset, .unset, .unset, .unset, .unset, .unset] [(.int rb2), (.int ra2)])) _
        refine XS.icmpNo X149.here hx rfl (hb hby at_161) rfl (XT.ii_gt_f c161_160) ?_
        show Steps p.tables e below (T149.setTop (mkF m 164 #[.val (.int p0), .val (.int p1), .val (.int p2), .val (.int p3), .val (.int (3 : Int32)), .val (.int ra0), .val (.int rb0), .val (.int ra1), .val (.int rb1), .val (.int ra2), .val (.int rb2), .val (.ref a122), .val (.ref a125), .val (.int v153), .val (.int v157), .unset, .unset, .unset, .unset, .unset, .unset] [])) _
        refine XT.iconstV X149.here hx rfl (1 : Int32) (hb hby at_164) rfl ?_
        show Steps p.tables e below (T149.setTop (mkF m 165 #[.val (.int p0), .val (.int p1), .val (.int p2), .val (.int p3), .val (.int (3 : Int32)), .val (.int ra0), .val (.int rb0), .val (.int ra1), .val (.int rb1), .val (.int ra2), .val (.int rb2), .val (.ref a122), .val (.ref a125), .val (.int v153), .val (.int v157), .unset, .unset, .unset, .unset, .unset, .unset] [(.int (1 : Int32))])) _
        refine XS.goto X149.here hx rfl (pc0 := 165) (pc' := 169) rfl (hb hby at_165) (by decide) (by decide) ?_
        exact k)
    have pre163 : ∀ t, Steps p.tables e below (T149.setTop (mkF m 180 #[.val (.int p0), .val (.int p1), .val (.int p2), .val (.int p3), .val (.int (3 : Int32)), .val (.int ra0), .val (.int rb0), .val (.int ra1), .val (.int rb1), .val (.int ra2), .val (.int rb2), .val (.ref a122), .val (.ref a125), .val (.int v153), .val (.int v157), .val (.int v161), .unset, .unset, .unset, .unset, .unset] [(.int rb0), (.int ra0)])) t → Steps p.tables e below (s₁.setTop (entryFrame m #[(.int p0), (.int p1), (.int p2), (.int p3)] maxLocals)) t := fun t k => pre162 _ (by
      show Steps p.tables e below (T149.setTop (mkF m 169 #[.val (.int p0), .val (.int p1), .val (.int p2), .val (.int p3), .val (.int (3 : Int32)), .val (.int ra0), .val (.int rb0), .val (.int ra1), .val (.int rb1), .val (.int ra2), .val (.int rb2), .val (.ref a122), .val (.ref a125), .val (.int v153), .val (.int v157), .unset, .unset, .unset, .unset, .unset, .unset] [(.int v161)])) _
      refine XS.istore X149.here hx rfl (hb hby at_169) rfl (l' := #[.val (.int p0), .val (.int p1), .val (.int p2), .val (.int p3), .val (.int (3 : Int32)), .val (.int ra0), .val (.int rb0), .val (.int ra1), .val (.int rb1), .val (.int ra2), .val (.int rb2), .val (.ref a122), .val (.ref a125), .val (.int v153), .val (.int v157), .val (.int v161), .unset, .unset, .unset, .unset, .unset]) rfl ?_
      show Steps p.tables e below (T149.setTop (mkF m 171 #[.val (.int p0), .val (.int p1), .val (.int p2), .val (.int p3), .val (.int (3 : Int32)), .val (.int ra0), .val (.int rb0), .val (.int ra1), .val (.int rb1), .val (.int ra2), .val (.int rb2), .val (.ref a122), .val (.ref a125), .val (.int v153), .val (.int v157), .val (.int v161), .unset, .unset, .unset, .unset, .unset] [])) _
      refine XS.iload X149.here hx rfl (hb hby at_171) rfl ?_
      show Steps p.tables e below (T149.setTop (mkF m 173 #[.val (.int p0), .val (.int p1), .val (.int p2), .val (.int p3), .val (.int (3 : Int32)), .val (.int ra0), .val (.int rb0), .val (.int ra1), .val (.int rb1), .val (.int ra2), .val (.int rb2), .val (.ref a122), .val (.ref a125), .val (.int v153), .val (.int v157), .val (.int v161), .unset, .unset, .unset, .unset, .unset] [(.int (3 : Int32))])) _
      refine XS.ifNo X149.here hx rfl (hb hby at_173) rfl (XT.i0_le_f (by decide)) ?_
      show Steps p.tables e below (T149.setTop (mkF m 176 #[.val (.int p0), .val (.int p1), .val (.int p2), .val (.int p3), .val (.int (3 : Int32)), .val (.int ra0), .val (.int rb0), .val (.int ra1), .val (.int rb1), .val (.int ra2), .val (.int rb2), .val (.ref a122), .val (.ref a125), .val (.int v153), .val (.int v157), .val (.int v161), .unset, .unset, .unset, .unset, .unset] [])) _
      refine XS.iload X149.here hx rfl (hb hby at_176) rfl ?_
      show Steps p.tables e below (T149.setTop (mkF m 178 #[.val (.int p0), .val (.int p1), .val (.int p2), .val (.int p3), .val (.int (3 : Int32)), .val (.int ra0), .val (.int rb0), .val (.int ra1), .val (.int rb1), .val (.int ra2), .val (.int rb2), .val (.ref a122), .val (.ref a125), .val (.int v153), .val (.int v157), .val (.int v161), .unset, .unset, .unset, .unset, .unset] [(.int ra0)])) _
      refine XS.iload X149.here hx rfl (hb hby at_178) rfl ?_
      exact k)
    obtain ⟨v165, hv165⟩ : ∃ z : Int32, z = (if ra0 < rb0 then (1 : Int32) else (0 : Int32)) := ⟨_, rfl⟩
    have pre166 : ∀ t, Steps p.tables e below (T149.setTop (mkF m 188 #[.val (.int p0), .val (.int p1), .val (.int p2), .val (.int p3), .val (.int (3 : Int32)), .val (.int ra0), .val (.int rb0), .val (.int ra1), .val (.int rb1), .val (.int ra2), .val (.int rb2), .val (.ref a122), .val (.ref a125), .val (.int v153), .val (.int v157), .val (.int v161), .unset, .unset, .unset, .unset, .unset] [(.int v165)])) t → Steps p.tables e below (s₁.setTop (entryFrame m #[(.int p0), (.int p1), (.int p2), (.int p3)] maxLocals)) t := fun t k => pre163 _ (by
      by_cases c180_164 : ra0 < rb0
      · rw [show v165 = _ from hv165.trans (if_pos c180_164)] at k
        show Steps p.tables e below (T149.setTop (mkF m 180 #[.val (.int p0), .val (.int p1), .val (.int p2), .val (.int p3), .val (.int (3 : Int32)), .val (.int ra0), .val (.int rb0), .val (.int ra1), .val (.int rb1), .val (.int ra2), .val (.int rb2), .val (.ref a122), .val (.ref a125), .val (.int v153), .val (.int v157), .val (.int v161), .unset, .unset, .unset, .unset, .unset] [(.int rb0), (.int ra0)])) _
        refine XS.icmpNo X149.here hx rfl (hb hby at_180) rfl (XT.ii_ge_f c180_164) ?_
        show Steps p.tables e below (T149.setTop (mkF m 183 #[.val (.int p0), .val (.int p1), .val (.int p2), .val (.int p3), .val (.int (3 : Int32)), .val (.int ra0), .val (.int rb0), .val (.int ra1), .val (.int rb1), .val (.int ra2), .val (.int rb2), .val (.ref a122), .val (.ref a125), .val (.int v153), .val (.int v157), .val (.int v161), .unset, .unset, .unset, .unset, .unset] [])) _
        refine XT.iconstV X149.here hx rfl (1 : Int32) (hb hby at_183) rfl ?_
        show Steps p.tables e below (T149.setTop (mkF m 184 #[.val (.int p0), .val (.int p1), .val (.int p2), .val (.int p3), .val (.int (3 : Int32)), .val (.int ra0), .val (.int rb0), .val (.int ra1), .val (.int rb1), .val (.int ra2), .val (.int rb2), .val (.ref a122), .val (.ref a125), .val (.int v153), .val (.int v157), .val (.int v161), .unset, .unset, .unset, .unset, .unset] [(.int (1 : Int32))])) _
        refine XS.goto X149.here hx rfl (pc0 := 184) (pc' := 188) rfl (hb hby at_184) (by decide) (by decide) ?_
        exact k
      · rw [show v165 = _ from hv165.trans (if_neg c180_164)] at k
        show Steps p.tables e below (T149.setTop (mkF m 180 #[.val (.int p0), .val (.int p1), .val (.int p2), .val (.int p3), .val (.int (3 : Int32)), .val (.int ra0), .val (.int rb0), .val (.int ra1), .val (.int rb1), .val (.int ra2), .val (.int rb2), .val (.ref a122), .val (.ref a125), .val (.int v153), .val (.int v157), .val (.int v161), .unset, .unset, .unset, .unset, .unset] [(.int rb0), (.int ra0)])) _
        refine XS.icmpYes X149.here hx rfl (pc0 := 180) (pc' := 187) rfl (hb hby at_180) rfl (XT.ii_ge_t c180_164) (by decide) (by decide) ?_
        show Steps p.tables e below (T149.setTop (mkF m 187 #[.val (.int p0), .val (.int p1), .val (.int p2), .val (.int p3), .val (.int (3 : Int32)), .val (.int ra0), .val (.int rb0), .val (.int ra1), .val (.int rb1), .val (.int ra2), .val (.int rb2), .val (.ref a122), .val (.ref a125), .val (.int v153), .val (.int v157), .val (.int v161), .unset, .unset, .unset, .unset, .unset] [])) _
        refine XT.iconstV X149.here hx rfl (0 : Int32) (hb hby at_187) rfl ?_
        exact k)
    have pre167 : ∀ t, Steps p.tables e below (T149.setTop (mkF m 200 #[.val (.int p0), .val (.int p1), .val (.int p2), .val (.int p3), .val (.int (3 : Int32)), .val (.int ra0), .val (.int rb0), .val (.int ra1), .val (.int rb1), .val (.int ra2), .val (.int rb2), .val (.ref a122), .val (.ref a125), .val (.int v153), .val (.int v157), .val (.int v161), .val (.int v165), .unset, .unset, .unset, .unset] [(.int rb1), (.int ra1)])) t → Steps p.tables e below (s₁.setTop (entryFrame m #[(.int p0), (.int p1), (.int p2), (.int p3)] maxLocals)) t := fun t k => pre166 _ (by
      show Steps p.tables e below (T149.setTop (mkF m 188 #[.val (.int p0), .val (.int p1), .val (.int p2), .val (.int p3), .val (.int (3 : Int32)), .val (.int ra0), .val (.int rb0), .val (.int ra1), .val (.int rb1), .val (.int ra2), .val (.int rb2), .val (.ref a122), .val (.ref a125), .val (.int v153), .val (.int v157), .val (.int v161), .unset, .unset, .unset, .unset, .unset] [(.int v165)])) _
      refine XS.istore X149.here hx rfl (hb hby at_188) rfl (l' := #[.val (.int p0), .val (.int p1), .val (.int p2), .val (.int p3), .val (.int (3 : Int32)), .val (.int ra0), .val (.int rb0), .val (.int ra1), .val (.int rb1), .val (.int ra2), .val (.int rb2), .val (.ref a122), .val (.ref a125), .val (.int v153), .val (.int v157), .val (.int v161), .val (.int v165), .unset, .unset, .unset, .unset]) rfl ?_
      show Steps p.tables e below (T149.setTop (mkF m 190 #[.val (.int p0), .val (.int p1), .val (.int p2), .val (.int p3), .val (.int (3 : Int32)), .val (.int ra0), .val (.int rb0), .val (.int ra1), .val (.int rb1), .val (.int ra2), .val (.int rb2), .val (.ref a122), .val (.ref a125), .val (.int v153), .val (.int v157), .val (.int v161), .val (.int v165), .unset, .unset, .unset, .unset] [])) _
      refine XS.iload X149.here hx rfl (hb hby at_190) rfl ?_
      show Steps p.tables e below (T149.setTop (mkF m 192 #[.val (.int p0), .val (.int p1), .val (.int p2), .val (.int p3), .val (.int (3 : Int32)), .val (.int ra0), .val (.int rb0), .val (.int ra1), .val (.int rb1), .val (.int ra2), .val (.int rb2), .val (.ref a122), .val (.ref a125), .val (.int v153), .val (.int v157), .val (.int v161), .val (.int v165), .unset, .unset, .unset, .unset] [(.int (3 : Int32))])) _
      refine XT.iconstV X149.here hx rfl (1 : Int32) (hb hby at_192) rfl ?_
      show Steps p.tables e below (T149.setTop (mkF m 193 #[.val (.int p0), .val (.int p1), .val (.int p2), .val (.int p3), .val (.int (3 : Int32)), .val (.int ra0), .val (.int rb0), .val (.int ra1), .val (.int rb1), .val (.int ra2), .val (.int rb2), .val (.ref a122), .val (.ref a125), .val (.int v153), .val (.int v157), .val (.int v161), .val (.int v165), .unset, .unset, .unset, .unset] [(.int (1 : Int32)), (.int (3 : Int32))])) _
      refine XS.icmpNo X149.here hx rfl (hb hby at_193) rfl (XT.ii_le_f (by decide)) ?_
      show Steps p.tables e below (T149.setTop (mkF m 196 #[.val (.int p0), .val (.int p1), .val (.int p2), .val (.int p3), .val (.int (3 : Int32)), .val (.int ra0), .val (.int rb0), .val (.int ra1), .val (.int rb1), .val (.int ra2), .val (.int rb2), .val (.ref a122), .val (.ref a125), .val (.int v153), .val (.int v157), .val (.int v161), .val (.int v165), .unset, .unset, .unset, .unset] [])) _
      refine XS.iload X149.here hx rfl (hb hby at_196) rfl ?_
      show Steps p.tables e below (T149.setTop (mkF m 198 #[.val (.int p0), .val (.int p1), .val (.int p2), .val (.int p3), .val (.int (3 : Int32)), .val (.int ra0), .val (.int rb0), .val (.int ra1), .val (.int rb1), .val (.int ra2), .val (.int rb2), .val (.ref a122), .val (.ref a125), .val (.int v153), .val (.int v157), .val (.int v161), .val (.int v165), .unset, .unset, .unset, .unset] [(.int ra1)])) _
      refine XS.iload X149.here hx rfl (hb hby at_198) rfl ?_
      exact k)
    obtain ⟨v169, hv169⟩ : ∃ z : Int32, z = (if ra1 < rb1 then (1 : Int32) else (0 : Int32)) := ⟨_, rfl⟩
    have pre170 : ∀ t, Steps p.tables e below (T149.setTop (mkF m 208 #[.val (.int p0), .val (.int p1), .val (.int p2), .val (.int p3), .val (.int (3 : Int32)), .val (.int ra0), .val (.int rb0), .val (.int ra1), .val (.int rb1), .val (.int ra2), .val (.int rb2), .val (.ref a122), .val (.ref a125), .val (.int v153), .val (.int v157), .val (.int v161), .val (.int v165), .unset, .unset, .unset, .unset] [(.int v169)])) t → Steps p.tables e below (s₁.setTop (entryFrame m #[(.int p0), (.int p1), (.int p2), (.int p3)] maxLocals)) t := fun t k => pre167 _ (by
      by_cases c200_168 : ra1 < rb1
      · rw [show v169 = _ from hv169.trans (if_pos c200_168)] at k
        show Steps p.tables e below (T149.setTop (mkF m 200 #[.val (.int p0), .val (.int p1), .val (.int p2), .val (.int p3), .val (.int (3 : Int32)), .val (.int ra0), .val (.int rb0), .val (.int ra1), .val (.int rb1), .val (.int ra2), .val (.int rb2), .val (.ref a122), .val (.ref a125), .val (.int v153), .val (.int v157), .val (.int v161), .val (.int v165), .unset, .unset, .unset, .unset] [(.int rb1), (.int ra1)])) _
        refine XS.icmpNo X149.here hx rfl (hb hby at_200) rfl (XT.ii_ge_f c200_168) ?_
        show Steps p.tables e below (T149.setTop (mkF m 203 #[.val (.int p0), .val (.int p1), .val (.int p2), .val (.int p3), .val (.int (3 : Int32)), .val (.int ra0), .val (.int rb0), .val (.int ra1), .val (.int rb1), .val (.int ra2), .val (.int rb2), .val (.ref a122), .val (.ref a125), .val (.int v153), .val (.int v157), .val (.int v161), .val (.int v165), .unset, .unset, .unset, .unset] [])) _
        refine XT.iconstV X149.here hx rfl (1 : Int32) (hb hby at_203) rfl ?_
        show Steps p.tables e below (T149.setTop (mkF m 204 #[.val (.int p0), .val (.int p1), .val (.int p2), .val (.int p3), .val (.int (3 : Int32)), .val (.int ra0), .val (.int rb0), .val (.int ra1), .val (.int rb1), .val (.int ra2), .val (.int rb2), .val (.ref a122), .val (.ref a125), .val (.int v153), .val (.int v157), .val (.int v161), .val (.int v165), .unset, .unset, .unset, .unset] [(.int (1 : Int32))])) _
        refine XS.goto X149.here hx rfl (pc0 := 204) (pc' := 208) rfl (hb hby at_204) (by decide) (by decide) ?_
        exact k
      · rw [show v169 = _ from hv169.trans (if_neg c200_168)] at k
        show Steps p.tables e below (T149.setTop (mkF m 200 #[.val (.int p0), .val (.int p1), .val (.int p2), .val (.int p3), .val (.int (3 : Int32)), .val (.int ra0), .val (.int rb0), .val (.int ra1), .val (.int rb1), .val (.int ra2), .val (.int rb2), .val (.ref a122), .val (.ref a125), .val (.int v153), .val (.int v157), .val (.int v161), .val (.int v165), .unset, .unset, .unset, .unset] [(.int rb1), (.int ra1)])) _
        refine XS.icmpYes X149.here hx rfl (pc0 := 200) (pc' := 207) rfl (hb hby at_200) rfl (XT.ii_ge_t c200_168) (by decide) (by decide) ?_
        show Steps p.tables e below (T149.setTop (mkF m 207 #[.val (.int p0), .val (.int p1), .val (.int p2), .val (.int p3), .val (.int (3 : Int32)), .val (.int ra0), .val (.int rb0), .val (.int ra1), .val (.int rb1), .val (.int ra2), .val (.int rb2), .val (.ref a122), .val (.ref a125), .val (.int v153), .val (.int v157), .val (.int v161), .val (.int v165), .unset, .unset, .unset, .unset] [])) _
        refine XT.iconstV X149.here hx rfl (0 : Int32) (hb hby at_207) rfl ?_
        exact k)
    have pre171 : ∀ t, Steps p.tables e below (T149.setTop (mkF m 220 #[.val (.int p0), .val (.int p1), .val (.int p2), .val (.int p3), .val (.int (3 : Int32)), .val (.int ra0), .val (.int rb0), .val (.int ra1), .val (.int rb1), .val (.int ra2), .val (.int rb2), .val (.ref a122), .val (.ref a125), .val (.int v153), .val (.int v157), .val (.int v161), .val (.int v165), .val (.int v169), .unset, .unset, .unset] [(.int rb2), (.int ra2)])) t → Steps p.tables e below (s₁.setTop (entryFrame m #[(.int p0), (.int p1), (.int p2), (.int p3)] maxLocals)) t := fun t k => pre170 _ (by
      show Steps p.tables e below (T149.setTop (mkF m 208 #[.val (.int p0), .val (.int p1), .val (.int p2), .val (.int p3), .val (.int (3 : Int32)), .val (.int ra0), .val (.int rb0), .val (.int ra1), .val (.int rb1), .val (.int ra2), .val (.int rb2), .val (.ref a122), .val (.ref a125), .val (.int v153), .val (.int v157), .val (.int v161), .val (.int v165), .unset, .unset, .unset, .unset] [(.int v169)])) _
      refine XS.istore X149.here hx rfl (hb hby at_208) rfl (l' := #[.val (.int p0), .val (.int p1), .val (.int p2), .val (.int p3), .val (.int (3 : Int32)), .val (.int ra0), .val (.int rb0), .val (.int ra1), .val (.int rb1), .val (.int ra2), .val (.int rb2), .val (.ref a122), .val (.ref a125), .val (.int v153), .val (.int v157), .val (.int v161), .val (.int v165), .val (.int v169), .unset, .unset, .unset]) rfl ?_
      show Steps p.tables e below (T149.setTop (mkF m 210 #[.val (.int p0), .val (.int p1), .val (.int p2), .val (.int p3), .val (.int (3 : Int32)), .val (.int ra0), .val (.int rb0), .val (.int ra1), .val (.int rb1), .val (.int ra2), .val (.int rb2), .val (.ref a122), .val (.ref a125), .val (.int v153), .val (.int v157), .val (.int v161), .val (.int v165), .val (.int v169), .unset, .unset, .unset] [])) _
      refine XS.iload X149.here hx rfl (hb hby at_210) rfl ?_
      show Steps p.tables e below (T149.setTop (mkF m 212 #[.val (.int p0), .val (.int p1), .val (.int p2), .val (.int p3), .val (.int (3 : Int32)), .val (.int ra0), .val (.int rb0), .val (.int ra1), .val (.int rb1), .val (.int ra2), .val (.int rb2), .val (.ref a122), .val (.ref a125), .val (.int v153), .val (.int v157), .val (.int v161), .val (.int v165), .val (.int v169), .unset, .unset, .unset] [(.int (3 : Int32))])) _
      refine XT.iconstV X149.here hx rfl (2 : Int32) (hb hby at_212) rfl ?_
      show Steps p.tables e below (T149.setTop (mkF m 213 #[.val (.int p0), .val (.int p1), .val (.int p2), .val (.int p3), .val (.int (3 : Int32)), .val (.int ra0), .val (.int rb0), .val (.int ra1), .val (.int rb1), .val (.int ra2), .val (.int rb2), .val (.ref a122), .val (.ref a125), .val (.int v153), .val (.int v157), .val (.int v161), .val (.int v165), .val (.int v169), .unset, .unset, .unset] [(.int (2 : Int32)), (.int (3 : Int32))])) _
      refine XS.icmpNo X149.here hx rfl (hb hby at_213) rfl (XT.ii_le_f (by decide)) ?_
      show Steps p.tables e below (T149.setTop (mkF m 216 #[.val (.int p0), .val (.int p1), .val (.int p2), .val (.int p3), .val (.int (3 : Int32)), .val (.int ra0), .val (.int rb0), .val (.int ra1), .val (.int rb1), .val (.int ra2), .val (.int rb2), .val (.ref a122), .val (.ref a125), .val (.int v153), .val (.int v157), .val (.int v161), .val (.int v165), .val (.int v169), .unset, .unset, .unset] [])) _
      refine XS.iload X149.here hx rfl (hb hby at_216) rfl ?_
      show Steps p.tables e below (T149.setTop (mkF m 218 #[.val (.int p0), .val (.int p1), .val (.int p2), .val (.int p3), .val (.int (3 : Int32)), .val (.int ra0), .val (.int rb0), .val (.int ra1), .val (.int rb1), .val (.int ra2), .val (.int rb2), .val (.ref a122), .val (.ref a125), .val (.int v153), .val (.int v157), .val (.int v161), .val (.int v165), .val (.int v169), .unset, .unset, .unset] [(.int ra2)])) _
      refine XS.iload X149.here hx rfl (hb hby at_218) rfl ?_
      exact k)
    obtain ⟨v173, hv173⟩ : ∃ z : Int32, z = (if ra2 < rb2 then (1 : Int32) else (0 : Int32)) := ⟨_, rfl⟩
    have pre174 : ∀ t, Steps p.tables e below (T149.setTop (mkF m 228 #[.val (.int p0), .val (.int p1), .val (.int p2), .val (.int p3), .val (.int (3 : Int32)), .val (.int ra0), .val (.int rb0), .val (.int ra1), .val (.int rb1), .val (.int ra2), .val (.int rb2), .val (.ref a122), .val (.ref a125), .val (.int v153), .val (.int v157), .val (.int v161), .val (.int v165), .val (.int v169), .unset, .unset, .unset] [(.int v173)])) t → Steps p.tables e below (s₁.setTop (entryFrame m #[(.int p0), (.int p1), (.int p2), (.int p3)] maxLocals)) t := fun t k => pre171 _ (by
      by_cases c220_172 : ra2 < rb2
      · rw [show v173 = _ from hv173.trans (if_pos c220_172)] at k
        show Steps p.tables e below (T149.setTop (mkF m 220 #[.val (.int p0), .val (.int p1), .val (.int p2), .val (.int p3), .val (.int (3 : Int32)), .val (.int ra0), .val (.int rb0), .val (.int ra1), .val (.int rb1), .val (.int ra2), .val (.int rb2), .val (.ref a122), .val (.ref a125), .val (.int v153), .val (.int v157), .val (.int v161), .val (.int v165), .val (.int v169), .unset, .unset, .unset] [(.int rb2), (.int ra2)])) _
        refine XS.icmpNo X149.here hx rfl (hb hby at_220) rfl (XT.ii_ge_f c220_172) ?_
        show Steps p.tables e below (T149.setTop (mkF m 223 #[.val (.int p0), .val (.int p1), .val (.int p2), .val (.int p3), .val (.int (3 : Int32)), .val (.int ra0), .val (.int rb0), .val (.int ra1), .val (.int rb1), .val (.int ra2), .val (.int rb2), .val (.ref a122), .val (.ref a125), .val (.int v153), .val (.int v157), .val (.int v161), .val (.int v165), .val (.int v169), .unset, .unset, .unset] [])) _
        refine XT.iconstV X149.here hx rfl (1 : Int32) (hb hby at_223) rfl ?_
        show Steps p.tables e below (T149.setTop (mkF m 224 #[.val (.int p0), .val (.int p1), .val (.int p2), .val (.int p3), .val (.int (3 : Int32)), .val (.int ra0), .val (.int rb0), .val (.int ra1), .val (.int rb1), .val (.int ra2), .val (.int rb2), .val (.ref a122), .val (.ref a125), .val (.int v153), .val (.int v157), .val (.int v161), .val (.int v165), .val (.int v169), .unset, .unset, .unset] [(.int (1 : Int32))])) _
        refine XS.goto X149.here hx rfl (pc0 := 224) (pc' := 228) rfl (hb hby at_224) (by decide) (by decide) ?_
        exact k
      · rw [show v173 = _ from hv173.trans (if_neg c220_172)] at k
        show Steps p.tables e below (T149.setTop (mkF m 220 #[.val (.int p0), .val (.int p1), .val (.int p2), .val (.int p3), .val (.int (3 : Int32)), .val (.int ra0), .val (.int rb0), .val (.int ra1), .val (.int rb1), .val (.int ra2), .val (.int rb2), .val (.ref a122), .val (.ref a125), .val (.int v153), .val (.int v157), .val (.int v161), .val (.int v165), .val (.int v169), .unset, .unset, .unset] [(.int rb2), (.int ra2)])) _
        refine XS.icmpYes X149.here hx rfl (pc0 := 220) (pc' := 227) rfl (hb hby at_220) rfl (XT.ii_ge_t c220_172) (by decide) (by decide) ?_
        show Steps p.tables e below (T149.setTop (mkF m 227 #[.val (.int p0), .val (.int p1), .val (.int p2), .val (.int p3), .val (.int (3 : Int32)), .val (.int ra0), .val (.int rb0), .val (.int ra1), .val (.int rb1), .val (.int ra2), .val (.int rb2), .val (.ref a122), .val (.ref a125), .val (.int v153), .val (.int v157), .val (.int v161), .val (.int v165), .val (.int v169), .unset, .unset, .unset] [])) _
        refine XT.iconstV X149.here hx rfl (0 : Int32) (hb hby at_227) rfl ?_
        exact k)
    have pre175 : ∀ t, Steps p.tables e below (T149.setTop (mkF m 232 #[.val (.int p0), .val (.int p1), .val (.int p2), .val (.int p3), .val (.int (3 : Int32)), .val (.int ra0), .val (.int rb0), .val (.int ra1), .val (.int rb1), .val (.int ra2), .val (.int rb2), .val (.ref a122), .val (.ref a125), .val (.int v153), .val (.int v157), .val (.int v161), .val (.int v165), .val (.int v169), .val (.int v173), .unset, .unset] [(.int v153)])) t → Steps p.tables e below (s₁.setTop (entryFrame m #[(.int p0), (.int p1), (.int p2), (.int p3)] maxLocals)) t := fun t k => pre174 _ (by
      show Steps p.tables e below (T149.setTop (mkF m 228 #[.val (.int p0), .val (.int p1), .val (.int p2), .val (.int p3), .val (.int (3 : Int32)), .val (.int ra0), .val (.int rb0), .val (.int ra1), .val (.int rb1), .val (.int ra2), .val (.int rb2), .val (.ref a122), .val (.ref a125), .val (.int v153), .val (.int v157), .val (.int v161), .val (.int v165), .val (.int v169), .unset, .unset, .unset] [(.int v173)])) _
      refine XS.istore X149.here hx rfl (hb hby at_228) rfl (l' := #[.val (.int p0), .val (.int p1), .val (.int p2), .val (.int p3), .val (.int (3 : Int32)), .val (.int ra0), .val (.int rb0), .val (.int ra1), .val (.int rb1), .val (.int ra2), .val (.int rb2), .val (.ref a122), .val (.ref a125), .val (.int v153), .val (.int v157), .val (.int v161), .val (.int v165), .val (.int v169), .val (.int v173), .unset, .unset]) rfl ?_
      show Steps p.tables e below (T149.setTop (mkF m 230 #[.val (.int p0), .val (.int p1), .val (.int p2), .val (.int p3), .val (.int (3 : Int32)), .val (.int ra0), .val (.int rb0), .val (.int ra1), .val (.int rb1), .val (.int ra2), .val (.int rb2), .val (.ref a122), .val (.ref a125), .val (.int v153), .val (.int v157), .val (.int v161), .val (.int v165), .val (.int v169), .val (.int v173), .unset, .unset] [])) _
      refine XS.iload X149.here hx rfl (hb hby at_230) rfl ?_
      exact k)
    obtain ⟨v182, hv182⟩ : ∃ z : Int32, z = (if v173 = 0 then (0 : Int32) else (1 : Int32)) := ⟨_, rfl⟩
    obtain ⟨v184, hv184⟩ : ∃ z : Int32, z = (if v169 = 0 then v182 else (1 : Int32)) := ⟨_, rfl⟩
    obtain ⟨v186, hv186⟩ : ∃ z : Int32, z = (if v165 = 0 then v184 else (1 : Int32)) := ⟨_, rfl⟩
    obtain ⟨v188, hv188⟩ : ∃ z : Int32, z = (if v161 = 0 then (0 : Int32) else v186) := ⟨_, rfl⟩
    obtain ⟨v190, hv190⟩ : ∃ z : Int32, z = (if v157 = 0 then (0 : Int32) else v188) := ⟨_, rfl⟩
    obtain ⟨v192, hv192⟩ : ∃ z : Int32, z = (if v153 = 0 then (0 : Int32) else v190) := ⟨_, rfl⟩
    have pre193 : ∀ t, Steps p.tables e below (T149.setTop (mkF m 265 #[.val (.int p0), .val (.int p1), .val (.int p2), .val (.int p3), .val (.int (3 : Int32)), .val (.int ra0), .val (.int rb0), .val (.int ra1), .val (.int rb1), .val (.int ra2), .val (.int rb2), .val (.ref a122), .val (.ref a125), .val (.int v153), .val (.int v157), .val (.int v161), .val (.int v165), .val (.int v169), .val (.int v173), .unset, .unset] [(.int v192)])) t → Steps p.tables e below (s₁.setTop (entryFrame m #[(.int p0), (.int p1), (.int p2), (.int p3)] maxLocals)) t := fun t k => pre175 _ (by
      by_cases c232_176 : v153 = 0
      · rw [show v192 = _ from hv192.trans (if_pos c232_176)] at k
        show Steps p.tables e below (T149.setTop (mkF m 232 #[.val (.int p0), .val (.int p1), .val (.int p2), .val (.int p3), .val (.int (3 : Int32)), .val (.int ra0), .val (.int rb0), .val (.int ra1), .val (.int rb1), .val (.int ra2), .val (.int rb2), .val (.ref a122), .val (.ref a125), .val (.int v153), .val (.int v157), .val (.int v161), .val (.int v165), .val (.int v169), .val (.int v173), .unset, .unset] [(.int v153)])) _
        refine XS.ifYes X149.here hx rfl (pc0 := 232) (pc' := 264) rfl (hb hby at_232) rfl (XT.i0_eq_t c232_176) (by decide) (by decide) ?_
        show Steps p.tables e below (T149.setTop (mkF m 264 #[.val (.int p0), .val (.int p1), .val (.int p2), .val (.int p3), .val (.int (3 : Int32)), .val (.int ra0), .val (.int rb0), .val (.int ra1), .val (.int rb1), .val (.int ra2), .val (.int rb2), .val (.ref a122), .val (.ref a125), .val (.int v153), .val (.int v157), .val (.int v161), .val (.int v165), .val (.int v169), .val (.int v173), .unset, .unset] [])) _
        refine XT.iconstV X149.here hx rfl (0 : Int32) (hb hby at_264) rfl ?_
        exact k
      · rw [show v192 = _ from hv192.trans (if_neg c232_176)] at k
        show Steps p.tables e below (T149.setTop (mkF m 232 #[.val (.int p0), .val (.int p1), .val (.int p2), .val (.int p3), .val (.int (3 : Int32)), .val (.int ra0), .val (.int rb0), .val (.int ra1), .val (.int rb1), .val (.int ra2), .val (.int rb2), .val (.ref a122), .val (.ref a125), .val (.int v153), .val (.int v157), .val (.int v161), .val (.int v165), .val (.int v169), .val (.int v173), .unset, .unset] [(.int v153)])) _
        refine XS.ifNo X149.here hx rfl (hb hby at_232) rfl (XT.i0_eq_f c232_176) ?_
        show Steps p.tables e below (T149.setTop (mkF m 235 #[.val (.int p0), .val (.int p1), .val (.int p2), .val (.int p3), .val (.int (3 : Int32)), .val (.int ra0), .val (.int rb0), .val (.int ra1), .val (.int rb1), .val (.int ra2), .val (.int rb2), .val (.ref a122), .val (.ref a125), .val (.int v153), .val (.int v157), .val (.int v161), .val (.int v165), .val (.int v169), .val (.int v173), .unset, .unset] [])) _
        refine XS.iload X149.here hx rfl (hb hby at_235) rfl ?_
        have m191 : ∀ t, Steps p.tables e below (T149.setTop (mkF m 265 #[.val (.int p0), .val (.int p1), .val (.int p2), .val (.int p3), .val (.int (3 : Int32)), .val (.int ra0), .val (.int rb0), .val (.int ra1), .val (.int rb1), .val (.int ra2), .val (.int rb2), .val (.ref a122), .val (.ref a125), .val (.int v153), .val (.int v157), .val (.int v161), .val (.int v165), .val (.int v169), .val (.int v173), .unset, .unset] [(.int v190)])) t → Steps p.tables e below (T149.setTop (mkF m 237 #[.val (.int p0), .val (.int p1), .val (.int p2), .val (.int p3), .val (.int (3 : Int32)), .val (.int ra0), .val (.int rb0), .val (.int ra1), .val (.int rb1), .val (.int ra2), .val (.int rb2), .val (.ref a122), .val (.ref a125), .val (.int v153), .val (.int v157), .val (.int v161), .val (.int v165), .val (.int v169), .val (.int v173), .unset, .unset] [(.int v157)])) t := fun t k => by
          by_cases c237_177 : v157 = 0
          · rw [show v190 = _ from hv190.trans (if_pos c237_177)] at k
            show Steps p.tables e below (T149.setTop (mkF m 237 #[.val (.int p0), .val (.int p1), .val (.int p2), .val (.int p3), .val (.int (3 : Int32)), .val (.int ra0), .val (.int rb0), .val (.int ra1), .val (.int rb1), .val (.int ra2), .val (.int rb2), .val (.ref a122), .val (.ref a125), .val (.int v153), .val (.int v157), .val (.int v161), .val (.int v165), .val (.int v169), .val (.int v173), .unset, .unset] [(.int v157)])) _
            refine XS.ifYes X149.here hx rfl (pc0 := 237) (pc' := 264) rfl (hb hby at_237) rfl (XT.i0_eq_t c237_177) (by decide) (by decide) ?_
            show Steps p.tables e below (T149.setTop (mkF m 264 #[.val (.int p0), .val (.int p1), .val (.int p2), .val (.int p3), .val (.int (3 : Int32)), .val (.int ra0), .val (.int rb0), .val (.int ra1), .val (.int rb1), .val (.int ra2), .val (.int rb2), .val (.ref a122), .val (.ref a125), .val (.int v153), .val (.int v157), .val (.int v161), .val (.int v165), .val (.int v169), .val (.int v173), .unset, .unset] [])) _
            refine XT.iconstV X149.here hx rfl (0 : Int32) (hb hby at_264) rfl ?_
            exact k
          · rw [show v190 = _ from hv190.trans (if_neg c237_177)] at k
            show Steps p.tables e below (T149.setTop (mkF m 237 #[.val (.int p0), .val (.int p1), .val (.int p2), .val (.int p3), .val (.int (3 : Int32)), .val (.int ra0), .val (.int rb0), .val (.int ra1), .val (.int rb1), .val (.int ra2), .val (.int rb2), .val (.ref a122), .val (.ref a125), .val (.int v153), .val (.int v157), .val (.int v161), .val (.int v165), .val (.int v169), .val (.int v173), .unset, .unset] [(.int v157)])) _
            refine XS.ifNo X149.here hx rfl (hb hby at_237) rfl (XT.i0_eq_f c237_177) ?_
            show Steps p.tables e below (T149.setTop (mkF m 240 #[.val (.int p0), .val (.int p1), .val (.int p2), .val (.int p3), .val (.int (3 : Int32)), .val (.int ra0), .val (.int rb0), .val (.int ra1), .val (.int rb1), .val (.int ra2), .val (.int rb2), .val (.ref a122), .val (.ref a125), .val (.int v153), .val (.int v157), .val (.int v161), .val (.int v165), .val (.int v169), .val (.int v173), .unset, .unset] [])) _
            refine XS.iload X149.here hx rfl (hb hby at_240) rfl ?_
            have m189 : ∀ t, Steps p.tables e below (T149.setTop (mkF m 265 #[.val (.int p0), .val (.int p1), .val (.int p2), .val (.int p3), .val (.int (3 : Int32)), .val (.int ra0), .val (.int rb0), .val (.int ra1), .val (.int rb1), .val (.int ra2), .val (.int rb2), .val (.ref a122), .val (.ref a125), .val (.int v153), .val (.int v157), .val (.int v161), .val (.int v165), .val (.int v169), .val (.int v173), .unset, .unset] [(.int v188)])) t → Steps p.tables e below (T149.setTop (mkF m 242 #[.val (.int p0), .val (.int p1), .val (.int p2), .val (.int p3), .val (.int (3 : Int32)), .val (.int ra0), .val (.int rb0), .val (.int ra1), .val (.int rb1), .val (.int ra2), .val (.int rb2), .val (.ref a122), .val (.ref a125), .val (.int v153), .val (.int v157), .val (.int v161), .val (.int v165), .val (.int v169), .val (.int v173), .unset, .unset] [(.int v161)])) t := fun t k => by
              by_cases c242_178 : v161 = 0
              · rw [show v188 = _ from hv188.trans (if_pos c242_178)] at k
                show Steps p.tables e below (T149.setTop (mkF m 242 #[.val (.int p0), .val (.int p1), .val (.int p2), .val (.int p3), .val (.int (3 : Int32)), .val (.int ra0), .val (.int rb0), .val (.int ra1), .val (.int rb1), .val (.int ra2), .val (.int rb2), .val (.ref a122), .val (.ref a125), .val (.int v153), .val (.int v157), .val (.int v161), .val (.int v165), .val (.int v169), .val (.int v173), .unset, .unset] [(.int v161)])) _
                refine XS.ifYes X149.here hx rfl (pc0 := 242) (pc' := 264) rfl (hb hby at_242) rfl (XT.i0_eq_t c242_178) (by decide) (by decide) ?_
                show Steps p.tables e below (T149.setTop (mkF m 264 #[.val (.int p0), .val (.int p1), .val (.int p2), .val (.int p3), .val (.int (3 : Int32)), .val (.int ra0), .val (.int rb0), .val (.int ra1), .val (.int rb1), .val (.int ra2), .val (.int rb2), .val (.ref a122), .val (.ref a125), .val (.int v153), .val (.int v157), .val (.int v161), .val (.int v165), .val (.int v169), .val (.int v173), .unset, .unset] [])) _
                refine XT.iconstV X149.here hx rfl (0 : Int32) (hb hby at_264) rfl ?_
                exact k
              · rw [show v188 = _ from hv188.trans (if_neg c242_178)] at k
                show Steps p.tables e below (T149.setTop (mkF m 242 #[.val (.int p0), .val (.int p1), .val (.int p2), .val (.int p3), .val (.int (3 : Int32)), .val (.int ra0), .val (.int rb0), .val (.int ra1), .val (.int rb1), .val (.int ra2), .val (.int rb2), .val (.ref a122), .val (.ref a125), .val (.int v153), .val (.int v157), .val (.int v161), .val (.int v165), .val (.int v169), .val (.int v173), .unset, .unset] [(.int v161)])) _
                refine XS.ifNo X149.here hx rfl (hb hby at_242) rfl (XT.i0_eq_f c242_178) ?_
                show Steps p.tables e below (T149.setTop (mkF m 245 #[.val (.int p0), .val (.int p1), .val (.int p2), .val (.int p3), .val (.int (3 : Int32)), .val (.int ra0), .val (.int rb0), .val (.int ra1), .val (.int rb1), .val (.int ra2), .val (.int rb2), .val (.ref a122), .val (.ref a125), .val (.int v153), .val (.int v157), .val (.int v161), .val (.int v165), .val (.int v169), .val (.int v173), .unset, .unset] [])) _
                refine XS.iload X149.here hx rfl (hb hby at_245) rfl ?_
                have m187 : ∀ t, Steps p.tables e below (T149.setTop (mkF m 265 #[.val (.int p0), .val (.int p1), .val (.int p2), .val (.int p3), .val (.int (3 : Int32)), .val (.int ra0), .val (.int rb0), .val (.int ra1), .val (.int rb1), .val (.int ra2), .val (.int rb2), .val (.ref a122), .val (.ref a125), .val (.int v153), .val (.int v157), .val (.int v161), .val (.int v165), .val (.int v169), .val (.int v173), .unset, .unset] [(.int v186)])) t → Steps p.tables e below (T149.setTop (mkF m 247 #[.val (.int p0), .val (.int p1), .val (.int p2), .val (.int p3), .val (.int (3 : Int32)), .val (.int ra0), .val (.int rb0), .val (.int ra1), .val (.int rb1), .val (.int ra2), .val (.int rb2), .val (.ref a122), .val (.ref a125), .val (.int v153), .val (.int v157), .val (.int v161), .val (.int v165), .val (.int v169), .val (.int v173), .unset, .unset] [(.int v165)])) t := fun t k => by
                  by_cases c247_179 : v165 = 0
                  · rw [show v186 = _ from hv186.trans (if_pos c247_179)] at k
                    show Steps p.tables e below (T149.setTop (mkF m 247 #[.val (.int p0), .val (.int p1), .val (.int p2), .val (.int p3), .val (.int (3 : Int32)), .val (.int ra0), .val (.int rb0), .val (.int ra1), .val (.int rb1), .val (.int ra2), .val (.int rb2), .val (.ref a122), .val (.ref a125), .val (.int v153), .val (.int v157), .val (.int v161), .val (.int v165), .val (.int v169), .val (.int v173), .unset, .unset] [(.int v165)])) _
                    refine XS.ifNo X149.here hx rfl (hb hby at_247) rfl (XT.i0_ne_f c247_179) ?_
                    show Steps p.tables e below (T149.setTop (mkF m 250 #[.val (.int p0), .val (.int p1), .val (.int p2), .val (.int p3), .val (.int (3 : Int32)), .val (.int ra0), .val (.int rb0), .val (.int ra1), .val (.int rb1), .val (.int ra2), .val (.int rb2), .val (.ref a122), .val (.ref a125), .val (.int v153), .val (.int v157), .val (.int v161), .val (.int v165), .val (.int v169), .val (.int v173), .unset, .unset] [])) _
                    refine XS.iload X149.here hx rfl (hb hby at_250) rfl ?_
                    have m185 : ∀ t, Steps p.tables e below (T149.setTop (mkF m 265 #[.val (.int p0), .val (.int p1), .val (.int p2), .val (.int p3), .val (.int (3 : Int32)), .val (.int ra0), .val (.int rb0), .val (.int ra1), .val (.int rb1), .val (.int ra2), .val (.int rb2), .val (.ref a122), .val (.ref a125), .val (.int v153), .val (.int v157), .val (.int v161), .val (.int v165), .val (.int v169), .val (.int v173), .unset, .unset] [(.int v184)])) t → Steps p.tables e below (T149.setTop (mkF m 252 #[.val (.int p0), .val (.int p1), .val (.int p2), .val (.int p3), .val (.int (3 : Int32)), .val (.int ra0), .val (.int rb0), .val (.int ra1), .val (.int rb1), .val (.int ra2), .val (.int rb2), .val (.ref a122), .val (.ref a125), .val (.int v153), .val (.int v157), .val (.int v161), .val (.int v165), .val (.int v169), .val (.int v173), .unset, .unset] [(.int v169)])) t := fun t k => by
                      by_cases c252_180 : v169 = 0
                      · rw [show v184 = _ from hv184.trans (if_pos c252_180)] at k
                        show Steps p.tables e below (T149.setTop (mkF m 252 #[.val (.int p0), .val (.int p1), .val (.int p2), .val (.int p3), .val (.int (3 : Int32)), .val (.int ra0), .val (.int rb0), .val (.int ra1), .val (.int rb1), .val (.int ra2), .val (.int rb2), .val (.ref a122), .val (.ref a125), .val (.int v153), .val (.int v157), .val (.int v161), .val (.int v165), .val (.int v169), .val (.int v173), .unset, .unset] [(.int v169)])) _
                        refine XS.ifNo X149.here hx rfl (hb hby at_252) rfl (XT.i0_ne_f c252_180) ?_
                        show Steps p.tables e below (T149.setTop (mkF m 255 #[.val (.int p0), .val (.int p1), .val (.int p2), .val (.int p3), .val (.int (3 : Int32)), .val (.int ra0), .val (.int rb0), .val (.int ra1), .val (.int rb1), .val (.int ra2), .val (.int rb2), .val (.ref a122), .val (.ref a125), .val (.int v153), .val (.int v157), .val (.int v161), .val (.int v165), .val (.int v169), .val (.int v173), .unset, .unset] [])) _
                        refine XS.iload X149.here hx rfl (hb hby at_255) rfl ?_
                        have m183 : ∀ t, Steps p.tables e below (T149.setTop (mkF m 265 #[.val (.int p0), .val (.int p1), .val (.int p2), .val (.int p3), .val (.int (3 : Int32)), .val (.int ra0), .val (.int rb0), .val (.int ra1), .val (.int rb1), .val (.int ra2), .val (.int rb2), .val (.ref a122), .val (.ref a125), .val (.int v153), .val (.int v157), .val (.int v161), .val (.int v165), .val (.int v169), .val (.int v173), .unset, .unset] [(.int v182)])) t → Steps p.tables e below (T149.setTop (mkF m 257 #[.val (.int p0), .val (.int p1), .val (.int p2), .val (.int p3), .val (.int (3 : Int32)), .val (.int ra0), .val (.int rb0), .val (.int ra1), .val (.int rb1), .val (.int ra2), .val (.int rb2), .val (.ref a122), .val (.ref a125), .val (.int v153), .val (.int v157), .val (.int v161), .val (.int v165), .val (.int v169), .val (.int v173), .unset, .unset] [(.int v173)])) t := fun t k => by
                          by_cases c257_181 : v173 = 0
                          · rw [show v182 = _ from hv182.trans (if_pos c257_181)] at k
                            show Steps p.tables e below (T149.setTop (mkF m 257 #[.val (.int p0), .val (.int p1), .val (.int p2), .val (.int p3), .val (.int (3 : Int32)), .val (.int ra0), .val (.int rb0), .val (.int ra1), .val (.int rb1), .val (.int ra2), .val (.int rb2), .val (.ref a122), .val (.ref a125), .val (.int v153), .val (.int v157), .val (.int v161), .val (.int v165), .val (.int v169), .val (.int v173), .unset, .unset] [(.int v173)])) _
                            refine XS.ifYes X149.here hx rfl (pc0 := 257) (pc' := 264) rfl (hb hby at_257) rfl (XT.i0_eq_t c257_181) (by decide) (by decide) ?_
                            show Steps p.tables e below (T149.setTop (mkF m 264 #[.val (.int p0), .val (.int p1), .val (.int p2), .val (.int p3), .val (.int (3 : Int32)), .val (.int ra0), .val (.int rb0), .val (.int ra1), .val (.int rb1), .val (.int ra2), .val (.int rb2), .val (.ref a122), .val (.ref a125), .val (.int v153), .val (.int v157), .val (.int v161), .val (.int v165), .val (.int v169), .val (.int v173), .unset, .unset] [])) _
                            refine XT.iconstV X149.here hx rfl (0 : Int32) (hb hby at_264) rfl ?_
                            exact k
                          · rw [show v182 = _ from hv182.trans (if_neg c257_181)] at k
                            show Steps p.tables e below (T149.setTop (mkF m 257 #[.val (.int p0), .val (.int p1), .val (.int p2), .val (.int p3), .val (.int (3 : Int32)), .val (.int ra0), .val (.int rb0), .val (.int ra1), .val (.int rb1), .val (.int ra2), .val (.int rb2), .val (.ref a122), .val (.ref a125), .val (.int v153), .val (.int v157), .val (.int v161), .val (.int v165), .val (.int v169), .val (.int v173), .unset, .unset] [(.int v173)])) _
                            refine XS.ifNo X149.here hx rfl (hb hby at_257) rfl (XT.i0_eq_f c257_181) ?_
                            show Steps p.tables e below (T149.setTop (mkF m 260 #[.val (.int p0), .val (.int p1), .val (.int p2), .val (.int p3), .val (.int (3 : Int32)), .val (.int ra0), .val (.int rb0), .val (.int ra1), .val (.int rb1), .val (.int ra2), .val (.int rb2), .val (.ref a122), .val (.ref a125), .val (.int v153), .val (.int v157), .val (.int v161), .val (.int v165), .val (.int v169), .val (.int v173), .unset, .unset] [])) _
                            refine XT.iconstV X149.here hx rfl (1 : Int32) (hb hby at_260) rfl ?_
                            show Steps p.tables e below (T149.setTop (mkF m 261 #[.val (.int p0), .val (.int p1), .val (.int p2), .val (.int p3), .val (.int (3 : Int32)), .val (.int ra0), .val (.int rb0), .val (.int ra1), .val (.int rb1), .val (.int ra2), .val (.int rb2), .val (.ref a122), .val (.ref a125), .val (.int v153), .val (.int v157), .val (.int v161), .val (.int v165), .val (.int v169), .val (.int v173), .unset, .unset] [(.int (1 : Int32))])) _
                            refine XS.goto X149.here hx rfl (pc0 := 261) (pc' := 265) rfl (hb hby at_261) (by decide) (by decide) ?_
                            exact k
                        refine m183 _ ?_
                        exact k
                      · rw [show v184 = _ from hv184.trans (if_neg c252_180)] at k
                        show Steps p.tables e below (T149.setTop (mkF m 252 #[.val (.int p0), .val (.int p1), .val (.int p2), .val (.int p3), .val (.int (3 : Int32)), .val (.int ra0), .val (.int rb0), .val (.int ra1), .val (.int rb1), .val (.int ra2), .val (.int rb2), .val (.ref a122), .val (.ref a125), .val (.int v153), .val (.int v157), .val (.int v161), .val (.int v165), .val (.int v169), .val (.int v173), .unset, .unset] [(.int v169)])) _
                        refine XS.ifYes X149.here hx rfl (pc0 := 252) (pc' := 260) rfl (hb hby at_252) rfl (XT.i0_ne_t c252_180) (by decide) (by decide) ?_
                        show Steps p.tables e below (T149.setTop (mkF m 260 #[.val (.int p0), .val (.int p1), .val (.int p2), .val (.int p3), .val (.int (3 : Int32)), .val (.int ra0), .val (.int rb0), .val (.int ra1), .val (.int rb1), .val (.int ra2), .val (.int rb2), .val (.ref a122), .val (.ref a125), .val (.int v153), .val (.int v157), .val (.int v161), .val (.int v165), .val (.int v169), .val (.int v173), .unset, .unset] [])) _
                        refine XT.iconstV X149.here hx rfl (1 : Int32) (hb hby at_260) rfl ?_
                        show Steps p.tables e below (T149.setTop (mkF m 261 #[.val (.int p0), .val (.int p1), .val (.int p2), .val (.int p3), .val (.int (3 : Int32)), .val (.int ra0), .val (.int rb0), .val (.int ra1), .val (.int rb1), .val (.int ra2), .val (.int rb2), .val (.ref a122), .val (.ref a125), .val (.int v153), .val (.int v157), .val (.int v161), .val (.int v165), .val (.int v169), .val (.int v173), .unset, .unset] [(.int (1 : Int32))])) _
                        refine XS.goto X149.here hx rfl (pc0 := 261) (pc' := 265) rfl (hb hby at_261) (by decide) (by decide) ?_
                        exact k
                    refine m185 _ ?_
                    exact k
                  · rw [show v186 = _ from hv186.trans (if_neg c247_179)] at k
                    show Steps p.tables e below (T149.setTop (mkF m 247 #[.val (.int p0), .val (.int p1), .val (.int p2), .val (.int p3), .val (.int (3 : Int32)), .val (.int ra0), .val (.int rb0), .val (.int ra1), .val (.int rb1), .val (.int ra2), .val (.int rb2), .val (.ref a122), .val (.ref a125), .val (.int v153), .val (.int v157), .val (.int v161), .val (.int v165), .val (.int v169), .val (.int v173), .unset, .unset] [(.int v165)])) _
                    refine XS.ifYes X149.here hx rfl (pc0 := 247) (pc' := 260) rfl (hb hby at_247) rfl (XT.i0_ne_t c247_179) (by decide) (by decide) ?_
                    show Steps p.tables e below (T149.setTop (mkF m 260 #[.val (.int p0), .val (.int p1), .val (.int p2), .val (.int p3), .val (.int (3 : Int32)), .val (.int ra0), .val (.int rb0), .val (.int ra1), .val (.int rb1), .val (.int ra2), .val (.int rb2), .val (.ref a122), .val (.ref a125), .val (.int v153), .val (.int v157), .val (.int v161), .val (.int v165), .val (.int v169), .val (.int v173), .unset, .unset] [])) _
                    refine XT.iconstV X149.here hx rfl (1 : Int32) (hb hby at_260) rfl ?_
                    show Steps p.tables e below (T149.setTop (mkF m 261 #[.val (.int p0), .val (.int p1), .val (.int p2), .val (.int p3), .val (.int (3 : Int32)), .val (.int ra0), .val (.int rb0), .val (.int ra1), .val (.int rb1), .val (.int ra2), .val (.int rb2), .val (.ref a122), .val (.ref a125), .val (.int v153), .val (.int v157), .val (.int v161), .val (.int v165), .val (.int v169), .val (.int v173), .unset, .unset] [(.int (1 : Int32))])) _
                    refine XS.goto X149.here hx rfl (pc0 := 261) (pc' := 265) rfl (hb hby at_261) (by decide) (by decide) ?_
                    exact k
                refine m187 _ ?_
                exact k
            refine m189 _ ?_
            exact k
        refine m191 _ ?_
        exact k)
    have pre194 : ∀ t, Steps p.tables e below (T149.setTop (mkF m 271 #[.val (.int p0), .val (.int p1), .val (.int p2), .val (.int p3), .val (.int (3 : Int32)), .val (.int ra0), .val (.int rb0), .val (.int ra1), .val (.int rb1), .val (.int ra2), .val (.int rb2), .val (.ref a122), .val (.ref a125), .val (.int v153), .val (.int v157), .val (.int v161), .val (.int v165), .val (.int v169), .val (.int v173), .val (.int v192), .unset] [(.ref a125), (.ref a122)])) t → Steps p.tables e below (s₁.setTop (entryFrame m #[(.int p0), (.int p1), (.int p2), (.int p3)] maxLocals)) t := fun t k => pre193 _ (by
      show Steps p.tables e below (T149.setTop (mkF m 265 #[.val (.int p0), .val (.int p1), .val (.int p2), .val (.int p3), .val (.int (3 : Int32)), .val (.int ra0), .val (.int rb0), .val (.int ra1), .val (.int rb1), .val (.int ra2), .val (.int rb2), .val (.ref a122), .val (.ref a125), .val (.int v153), .val (.int v157), .val (.int v161), .val (.int v165), .val (.int v169), .val (.int v173), .unset, .unset] [(.int v192)])) _
      refine XS.istore X149.here hx rfl (hb hby at_265) rfl (l' := #[.val (.int p0), .val (.int p1), .val (.int p2), .val (.int p3), .val (.int (3 : Int32)), .val (.int ra0), .val (.int rb0), .val (.int ra1), .val (.int rb1), .val (.int ra2), .val (.int rb2), .val (.ref a122), .val (.ref a125), .val (.int v153), .val (.int v157), .val (.int v161), .val (.int v165), .val (.int v169), .val (.int v173), .val (.int v192), .unset]) rfl ?_
      show Steps p.tables e below (T149.setTop (mkF m 267 #[.val (.int p0), .val (.int p1), .val (.int p2), .val (.int p3), .val (.int (3 : Int32)), .val (.int ra0), .val (.int rb0), .val (.int ra1), .val (.int rb1), .val (.int ra2), .val (.int rb2), .val (.ref a122), .val (.ref a125), .val (.int v153), .val (.int v157), .val (.int v161), .val (.int v165), .val (.int v169), .val (.int v173), .val (.int v192), .unset] [])) _
      refine XS.aload X149.here hx rfl (hb hby at_267) rfl rfl ?_
      show Steps p.tables e below (T149.setTop (mkF m 269 #[.val (.int p0), .val (.int p1), .val (.int p2), .val (.int p3), .val (.int (3 : Int32)), .val (.int ra0), .val (.int rb0), .val (.int ra1), .val (.int rb1), .val (.int ra2), .val (.int rb2), .val (.ref a122), .val (.ref a125), .val (.int v153), .val (.int v157), .val (.int v161), .val (.int v165), .val (.int v169), .val (.int v173), .val (.int v192), .unset] [(.ref a122)])) _
      refine XS.aload X149.here hx rfl (hb hby at_269) rfl rfl ?_
      exact k)
    obtain ⟨_, _, ⟨T195, L195, k195, n195⟩, -, X195, ⟨Lc195, hQ195, l195, y195, z195⟩, st195⟩ := Jvm.LawKit.callS X149 hx (y := (⟨"com/example/cultivar/cultivar/Pareto", "dominates", "([D[D)Z"⟩ : MethodName)) hown (mvT hZ (hw _ (List.mem_of_getElem? (i := 8) rfl))) (mvT hZ (hw _ (List.mem_of_getElem? (i := 9) rfl))) (mvT hZ (hw _ (List.mem_of_getElem? (i := 10) rfl))) (mvT hZ (hw _ (List.mem_of_getElem? (i := 11) rfl))) (by decide) (backOf (W := 0) (own_dom3 l Z a0 hw [] a122 a125 cA122 cA125 ra0 ra1 ra2 rb0 rb1 rb2 h149 n0 Z149 (V145.other W149 ne_a122_a125) V149) hZ (hw _ (List.mem_of_getElem? (i := 11) rfl)) (hw _ (List.mem_of_getElem? (i := 10) rfl)) (by decide) (by decide)) (g := (mkF m 271 #[.val (.int p0), .val (.int p1), .val (.int p2), .val (.int p3), .val (.int (3 : Int32)), .val (.int ra0), .val (.int rb0), .val (.int ra1), .val (.int rb1), .val (.int ra2), .val (.int rb2), .val (.ref a122), .val (.ref a125), .val (.int v153), .val (.int v157), .val (.int v161), .val (.int v165), .val (.int v169), .val (.int v173), .val (.int v192), .unset] [(.ref a125), (.ref a122)])) rfl (by rw [hml]; rfl) (argsL := [(.ref a122), (.ref a125)]) (rest := []) (lenOf own_pd___D_D_Z rfl) rfl (by show 2 * 0 + _ ≤ _; exact Nat.le_of_eq rfl) (hb hby at_271) (fun _ _ => ⟨rfl, e149, (by decide : 2 + 0 ≤ _), (by decide : 6 + 0 ≤ _)⟩)
    dsimp only [Pt.U, Pt.locs, Pt.cells, Pt.slots] at X195 l195 y195 z195 st195 hQ195
    subst l195 y195 z195
    obtain ⟨rfl, N195q, e195⟩ := hQ195
    have N195 := Fr.app N149 N195q
    have pre196 : ∀ t, Steps p.tables e below (T195.setTop (mkF m 274 #[.val (.int p0), .val (.int p1), .val (.int p2), .val (.int p3), .val (.int (3 : Int32)), .val (.int ra0), .val (.int rb0), .val (.int ra1), .val (.int rb1), .val (.int ra2), .val (.int rb2), .val (.ref a122), .val (.ref a125), .val (.int v153), .val (.int v157), .val (.int v161), .val (.int v165), .val (.int v169), .val (.int v173), .val (.int v192), .unset] [(.int (own_dom [(ra0, rb0), (ra1, rb1), (ra2, rb2)] [(rb0, ra0), (rb1, ra1), (rb2, ra2)]))])) t → Steps p.tables e below (s₁.setTop (entryFrame m #[(.int p0), (.int p1), (.int p2), (.int p3)] maxLocals)) t := fun t k => pre194 _ (st195 _ k)
    have pre197 : ∀ t, Steps p.tables e below (T195.setTop (mkF m 288 #[.val (.int p0), .val (.int p1), .val (.int p2), .val (.int p3), .val (.int (3 : Int32)), .val (.int ra0), .val (.int rb0), .val (.int ra1), .val (.int rb1), .val (.int ra2), .val (.int rb2), .val (.ref a122), .val (.ref a125), .val (.int v153), .val (.int v157), .val (.int v161), .val (.int v165), .val (.int v169), .val (.int v173), .val (.int v192), .val (.int (own_dom [(ra0, rb0), (ra1, rb1), (ra2, rb2)] [(rb0, ra0), (rb1, ra1), (rb2, ra2)]))] [(.int (1 : Int32))])) t → Steps p.tables e below (s₁.setTop (entryFrame m #[(.int p0), (.int p1), (.int p2), (.int p3)] maxLocals)) t := fun t k => pre196 _ (by
      show Steps p.tables e below (T195.setTop (mkF m 274 #[.val (.int p0), .val (.int p1), .val (.int p2), .val (.int p3), .val (.int (3 : Int32)), .val (.int ra0), .val (.int rb0), .val (.int ra1), .val (.int rb1), .val (.int ra2), .val (.int rb2), .val (.ref a122), .val (.ref a125), .val (.int v153), .val (.int v157), .val (.int v161), .val (.int v165), .val (.int v169), .val (.int v173), .val (.int v192), .unset] [(.int (own_dom [(ra0, rb0), (ra1, rb1), (ra2, rb2)] [(rb0, ra0), (rb1, ra1), (rb2, ra2)]))])) _
      refine XS.istore X195.here hx rfl (hb hby at_274) rfl (l' := #[.val (.int p0), .val (.int p1), .val (.int p2), .val (.int p3), .val (.int (3 : Int32)), .val (.int ra0), .val (.int rb0), .val (.int ra1), .val (.int rb1), .val (.int ra2), .val (.int rb2), .val (.ref a122), .val (.ref a125), .val (.int v153), .val (.int v157), .val (.int v161), .val (.int v165), .val (.int v169), .val (.int v173), .val (.int v192), .val (.int (own_dom [(ra0, rb0), (ra1, rb1), (ra2, rb2)] [(rb0, ra0), (rb1, ra1), (rb2, ra2)]))]) rfl ?_
      show Steps p.tables e below (T195.setTop (mkF m 276 #[.val (.int p0), .val (.int p1), .val (.int p2), .val (.int p3), .val (.int (3 : Int32)), .val (.int ra0), .val (.int rb0), .val (.int ra1), .val (.int rb1), .val (.int ra2), .val (.int rb2), .val (.ref a122), .val (.ref a125), .val (.int v153), .val (.int v157), .val (.int v161), .val (.int v165), .val (.int v169), .val (.int v173), .val (.int v192), .val (.int (own_dom [(ra0, rb0), (ra1, rb1), (ra2, rb2)] [(rb0, ra0), (rb1, ra1), (rb2, ra2)]))] [])) _
      refine XS.iload X195.here hx rfl (hb hby at_276) rfl ?_
      show Steps p.tables e below (T195.setTop (mkF m 278 #[.val (.int p0), .val (.int p1), .val (.int p2), .val (.int p3), .val (.int (3 : Int32)), .val (.int ra0), .val (.int rb0), .val (.int ra1), .val (.int rb1), .val (.int ra2), .val (.int rb2), .val (.ref a122), .val (.ref a125), .val (.int v153), .val (.int v157), .val (.int v161), .val (.int v165), .val (.int v169), .val (.int v173), .val (.int v192), .val (.int (own_dom [(ra0, rb0), (ra1, rb1), (ra2, rb2)] [(rb0, ra0), (rb1, ra1), (rb2, ra2)]))] [(.int (own_dom [(ra0, rb0), (ra1, rb1), (ra2, rb2)] [(rb0, ra0), (rb1, ra1), (rb2, ra2)]))])) _
      refine XS.iload X195.here hx rfl (hb hby at_278) rfl ?_
      show Steps p.tables e below (T195.setTop (mkF m 280 #[.val (.int p0), .val (.int p1), .val (.int p2), .val (.int p3), .val (.int (3 : Int32)), .val (.int ra0), .val (.int rb0), .val (.int ra1), .val (.int rb1), .val (.int ra2), .val (.int rb2), .val (.ref a122), .val (.ref a125), .val (.int v153), .val (.int v157), .val (.int v161), .val (.int v165), .val (.int v169), .val (.int v173), .val (.int v192), .val (.int (own_dom [(ra0, rb0), (ra1, rb1), (ra2, rb2)] [(rb0, ra0), (rb1, ra1), (rb2, ra2)]))] [(.int v192), (.int (own_dom [(ra0, rb0), (ra1, rb1), (ra2, rb2)] [(rb0, ra0), (rb1, ra1), (rb2, ra2)]))])) _
      refine XS.icmpNo X195.here hx rfl (hb hby at_280) rfl (XT.ii_ne_f (own_fin3 ra0 ra1 ra2 rb0 rb1 rb2 _ _ _ _ _ _ _ _ _ _ _ _ hv153 hv157 hv161 hv165 hv169 hv173 hv182 hv184 hv186 hv188 hv190 hv192)) ?_
      show Steps p.tables e below (T195.setTop (mkF m 283 #[.val (.int p0), .val (.int p1), .val (.int p2), .val (.int p3), .val (.int (3 : Int32)), .val (.int ra0), .val (.int rb0), .val (.int ra1), .val (.int rb1), .val (.int ra2), .val (.int rb2), .val (.ref a122), .val (.ref a125), .val (.int v153), .val (.int v157), .val (.int v161), .val (.int v165), .val (.int v169), .val (.int v173), .val (.int v192), .val (.int (own_dom [(ra0, rb0), (ra1, rb1), (ra2, rb2)] [(rb0, ra0), (rb1, ra1), (rb2, ra2)]))] [])) _
      refine XT.iconstV X195.here hx rfl (1 : Int32) (hb hby at_283) rfl ?_
      show Steps p.tables e below (T195.setTop (mkF m 284 #[.val (.int p0), .val (.int p1), .val (.int p2), .val (.int p3), .val (.int (3 : Int32)), .val (.int ra0), .val (.int rb0), .val (.int ra1), .val (.int rb1), .val (.int ra2), .val (.int rb2), .val (.ref a122), .val (.ref a125), .val (.int v153), .val (.int v157), .val (.int v161), .val (.int v165), .val (.int v169), .val (.int v173), .val (.int v192), .val (.int (own_dom [(ra0, rb0), (ra1, rb1), (ra2, rb2)] [(rb0, ra0), (rb1, ra1), (rb2, ra2)]))] [(.int (1 : Int32))])) _
      refine XS.goto X195.here hx rfl (pc0 := 284) (pc' := 288) rfl (hb hby at_284) (by decide) (by decide) ?_
      exact k)
    obtain ⟨fs, hr, hrun, hended, hW, hsame⟩ := X195.leave (v := some (.int (1 : Int32))) (fun h => by rw [Bd.returns] at h; cases h)
    refine ⟨_, _, pre197 _ ?_, hrun, hended, _, _, rfl, ?_, ⟨_, rfl⟩, hW, hsame.mono (by decide) (by decide)⟩
    · show Steps p.tables e below (T195.setTop (mkF m 288 #[.val (.int p0), .val (.int p1), .val (.int p2), .val (.int p3), .val (.int (3 : Int32)), .val (.int ra0), .val (.int rb0), .val (.int ra1), .val (.int rb1), .val (.int ra2), .val (.int rb2), .val (.ref a122), .val (.ref a125), .val (.int v153), .val (.int v157), .val (.int v161), .val (.int v165), .val (.int v169), .val (.int v173), .val (.int v192), .val (.int (own_dom [(ra0, rb0), (ra1, rb1), (ra2, rb2)] [(rb0, ra0), (rb1, ra1), (rb2, ra2)]))] [(.int (1 : Int32))])) _
      exact retN X195 hx (t := .boolean) Bd.returns (by simp) (hb hby at_288) hr
    · show Q_own_law Z p0 p1 p2 p3 h0 n0 _ T195.heap _
      rw [e195]
      exact ⟨rfl, N195⟩
set_option maxRecDepth 65536 in
set_option maxHeartbeats 40000000 in
theorem comes_1 {Post : Tables → Env → Array Value → State → Outcome → State → Prop} (hpost : ∀ tb e args s v u, (limb_1_1.after args s (.returned v) u = true ∧ limb_1_2.after args s (.returned v) u = true ∧ True) → FrameEnd s (.returned v) u (Jvm.fieldLocs frame_1_writes args s ++ Jvm.arrayLocs frame_1_arrays args s ++ Jvm.staticLocs frame_1_statics s) 16 128 → Post tb e args s (.returned v) u) :
    ArmFor flags0 classFile x code maxLocals ret World_1 tables_1 room_1 Calls_1 rest_1 Pre_1 Post := by
  intro l hfl _ _ p e ha hc hk s m args below hf hA hF happ hP
  obtain ⟨hcalls, hrest, hpre⟩ := hP
  obtain ⟨-, -, -, hnamed, -, -, -, hat⟩ := (Spec.applies_iff hf).mp happ
  obtain ⟨hg, hn⟩ := and_e (Cond.before_iff.mp (show (Jvm.Cond.and given_1 narrow_1).before args s = true from hpre))
  obtain ⟨h1, g0⟩ := and_e hg
  obtain ⟨w0, w1, w2, w3, rfl⟩ : ∃ w0 w1 w2 w3 : Value, args = #[w0, w1, w2, w3] := by
    have hs : args.size = 4 := by simpa [Cond.value, given_1] using h1
    obtain ⟨L⟩ := args
    match L, hs with
    | [w0, w1, w2, w3], _ => exact ⟨w0, w1, w2, w3, rfl⟩
  have hw := fun d (hd : d ∈ tables_1) => atoms_spec (ws := Jvm.Cond.code x code maxLocals ret :: tables_1) hat d (List.mem_cons_of_mem _ hd)
  have hfit : Fit s := fun {y c} hc i hi => by
    obtain ⟨ha, rfl⟩ := Array.getElem?_eq_some_iff.mp hc
    have q := List.all_eq_true.mp ((Array.all_eq_true_iff_forall_mem.mp hF) _ (Array.getElem_mem ha)) i (List.mem_range.mpr hi)
    simpa [Array.getElem?_eq_getElem hi] using q
  obtain ⟨t0, g1⟩ := and_e g0
  obtain ⟨i0, q0⟩ := is_v t0
  obtain rfl : w0 = (.int i0) := Option.some.inj q0
  obtain ⟨t1, g2⟩ := and_e g1
  obtain ⟨i1, q1⟩ := is_v t1
  obtain rfl : w1 = (.int i1) := Option.some.inj q1
  obtain ⟨t2, g3⟩ := and_e g2
  obtain ⟨i2, q2⟩ := is_v t2
  obtain rfl : w2 = (.int i2) := Option.some.inj q2
  have t3 := g3
  obtain ⟨i3, q3⟩ := is_v t3
  obtain rfl : w3 = (.int i3) := Option.some.inj q3
  obtain ⟨n, o, h1, h2, h3, _, L, rfl, ⟨rfl, N⟩, hq⟩ := own_law l s _ hw tables_1 i0 i1 i2 i3 s.heap s.heap.size (Nat.le_refl _)  p e ha hc hk s m _ below hf ((Spec.applies_iff_loose hf).mp happ).1 ⟨rfl, State.Warmed39.refl s, rfl⟩ trivial
  refine ⟨n, _, h1, h2, h3, hpost _ _ _ _ _ _ ⟨Cond.after_iff.mpr rfl, Cond.after_iff.mpr (eq_i res_at (Term.int_eval (1)) rfl), trivial⟩ ⟨hq.1, hq.2.1, (hq.2.2.sift fun y hy => Or.inr (N y hy)).mono (by decide) (by decide)⟩⟩
theorem main_1_1 : Claimed_1_1 := comes_1 fun _ _ _ _ _ _ h hF => ⟨h.1, hF⟩
theorem main_1_2 : Claimed_1_2 := comes_1 fun _ _ _ _ _ _ h hF => ⟨h.2.1, hF⟩
end Jvm.Pilot.@@N@@
namespace Jvm.Pilot.@@N@@
open Jvm Jvm.ClassFile Sem Op Lib Jvm.Free Jvm.Stand Jvm.Pilot.@@N@@.Jvm.D
/-! MADE BY PROGRAM (witnessworld.py) out of the Statement's table words and the real class files: 9 classes; the members and pool entries that the words name. The judged class is class 1, her method 3. -/
namespace start1
open Jvm.ClassFile
def u (s : String) : CpInfo := .utf8 (stringToUtf16 s)
/-- a pool by its gaps: so many unusable entries, then the entry; so many at the end -/
def gap : Nat → List CpInfo → List CpInfo
  | 0, r => r
  | n + 1, r => .unusable :: gap n r
def poolList (es : List (Nat × CpInfo)) (last : Nat) : List CpInfo := es.foldr (fun e r => gap e.1 (e.2 :: r)) (gap last [])
def pool (es : List (Nat × CpInfo)) (last : Nat) : Array CpInfo := ⟨poolList es last⟩
def fileOf (pool : Array CpInfo) (this : Nat) (attrs : Array Attribute := #[]) (ms : Array MethodInfo := #[]) (fl : Nat := 33) (sup : Nat := 0) (ifs : Array Nat := #[]) (fds : Array FieldInfo := #[]) : ClassFile where
  minorVersion := 0
  majorVersion := 65
  constantPool := pool
  accessFlags := fl
  thisClass := this
  superClass := sup
  interfaces := ifs
  fields := fds
  methods := ms
  attributes := attrs
def plain (name : String) (sup : Option ClassId) : Class where
  name := name
  kind := .ordinary
  loader := none
  accessFlags := 33
  super := sup
  interfaces := #[]
  cf := none
  fields := #[]
  methods := #[]
  instanceTypes := #[]
  staticTypes := #[]
  resolved := #[]
  callSites := []
  init := .initialized
  statics := none
  mirror := none

def pool0 : Array CpInfo := pool [(5, u "<init>"), (0, u "()V"), (1, .class_ 10), (1, u "java/lang/Object")] 113

def k0m0 : Method := { name := "<init>", desc := "()V", sig := { parameters := [], returnType := none }, accessFlags := 1, code := none }
/-- java/lang/Object -/
def k0 : Class := { plain "java/lang/Object" none with
  accessFlags := 33
  interfaces := #[]
  cf := some (fileOf pool0 8 #[] #[{ accessFlags := 1, nameIndex := 5, descriptorIndex := 6, attributes := #[] }] 33 0 #[] #[])
  fields := #[]
  methods := #[k0m0]
  instanceTypes := #[]
  staticTypes := #[]
  resolved := Array.replicate 124 none
  statics := none }

def pool1 : Array CpInfo := pool [(2, .class_ 4), (1, u "java/lang/Object"), (0, u "<init>"), (0, u "()V"), (0, .methodref 8 9), (0, .class_ 10), (0, .nameAndType 11 12), (0, u "com/example/cultivar/cultivar/ParetoDominatesPinLaw"), (0, u "lo"), (0, u "(I)I"), (0, .methodref 8 14), (0, .nameAndType 15 12), (0, u "hi"), (0, .methodref 17 18), (0, .class_ 19), (0, .nameAndType 20 21), (0, u "com/example/cultivar/cultivar/Pareto"), (0, u "dominates"), (0, u "([D[D)Z"), (2, u "law"), (0, u "(IIII)Z")] 5

def k1m0 : Method := { name := "<init>", desc := "()V", sig := { parameters := [], returnType := none }, accessFlags := 2, code := none }
def k1c1 : Code := { maxStack := 1, maxLocals := 1, code := method_2_code, exceptionTable := #[], attributes := #[] }
def k1m1 : Method := { name := "lo", desc := "(I)I", sig := { parameters := [.int], returnType := some .int }, accessFlags := 10, code := some k1c1 }
def k1c2 : Code := { maxStack := 2, maxLocals := 1, code := method_3_code, exceptionTable := #[], attributes := #[] }
def k1m2 : Method := { name := "hi", desc := "(I)I", sig := { parameters := [.int], returnType := some .int }, accessFlags := 10, code := some k1c2 }
def k1c3 : Code := { maxStack := 4, maxLocals := 21, code := code, exceptionTable := #[], attributes := #[] }
def k1m3 : Method := { name := "law", desc := "(IIII)Z", sig := { parameters := [.int, .int, .int, .int], returnType := some .boolean }, accessFlags := 9, code := some k1c3 }
/-- com/example/cultivar/cultivar/ParetoDominatesPinLaw -/
def k1 : Class := { plain "com/example/cultivar/cultivar/ParetoDominatesPinLaw" (some 0) with
  accessFlags := 49
  interfaces := #[]
  cf := some (fileOf pool1 8 #[] #[{ accessFlags := 2, nameIndex := 5, descriptorIndex := 6, attributes := #[] }, { accessFlags := 10, nameIndex := 11, descriptorIndex := 12, attributes := #[] }, { accessFlags := 10, nameIndex := 15, descriptorIndex := 12, attributes := #[] }, { accessFlags := 9, nameIndex := 24, descriptorIndex := 25, attributes := #[] }] 49 2 #[] #[])
  fields := #[]
  methods := #[k1m0, k1m1, k1m2, k1m3]
  instanceTypes := #[]
  staticTypes := #[]
  resolved := Array.replicate 31 none
  statics := none }

def pool2 : Array CpInfo := pool [(2, .class_ 4), (1, u "java/lang/Object"), (0, u "<init>"), (0, u "()V"), (33, .class_ 42), (1, u "com/example/cultivar/cultivar/Pareto"), (6, .methodref 40 50), (0, .nameAndType 51 52), (0, u "noWorse"), (0, u "([D[D)Z"), (7, u "dominates")] 26

def k2m0 : Method := { name := "<init>", desc := "()V", sig := { parameters := [], returnType := none }, accessFlags := 2, code := none }
def k2c1 : Code := { maxStack := 2, maxLocals := 2, code := prog_18_method_3_code, exceptionTable := #[], attributes := #[] }
def k2m1 : Method := { name := "dominates", desc := "([D[D)Z", sig := { parameters := [(.array .double), (.array .double)], returnType := some .boolean }, accessFlags := 8, code := some k2c1 }
def k2c2 : Code := { maxStack := 4, maxLocals := 3, code := prog_18_method_5_code, exceptionTable := #[], attributes := #[] }
def k2m2 : Method := { name := "noWorse", desc := "([D[D)Z", sig := { parameters := [(.array .double), (.array .double)], returnType := some .boolean }, accessFlags := 10, code := some k2c2 }
/-- com/example/cultivar/cultivar/Pareto -/
def k2 : Class := { plain "com/example/cultivar/cultivar/Pareto" (some 0) with
  accessFlags := 48
  interfaces := #[]
  cf := some (fileOf pool2 40 #[] #[{ accessFlags := 2, nameIndex := 5, descriptorIndex := 6, attributes := #[] }, { accessFlags := 8, nameIndex := 60, descriptorIndex := 52, attributes := #[] }, { accessFlags := 10, nameIndex := 51, descriptorIndex := 52, attributes := #[] }] 48 2 #[] #[])
  fields := #[]
  methods := #[k2m0, k2m1, k2m2]
  instanceTypes := #[]
  staticTypes := #[]
  resolved := Array.replicate 87 none
  statics := none }

def pool3 : Array CpInfo := pool [(1, u "java/lang/Cloneable"), (0, .class_ 1), (0, u "java/lang/Object"), (0, .class_ 3)] 3

/-- java/lang/Cloneable -/
def k3 : Class := { plain "java/lang/Cloneable" (some 0) with
  accessFlags := 1537
  interfaces := #[]
  cf := some (fileOf pool3 2 #[] #[] 1537 4 #[] #[])
  fields := #[]
  methods := #[]
  instanceTypes := #[]
  staticTypes := #[]
  resolved := Array.replicate 8 none
  statics := none }

def pool4 : Array CpInfo := pool [(1, u "java/io/Serializable"), (0, .class_ 1), (0, u "java/lang/Object"), (0, .class_ 3)] 3

/-- java/io/Serializable -/
def k4 : Class := { plain "java/io/Serializable" (some 0) with
  accessFlags := 1537
  interfaces := #[]
  cf := some (fileOf pool4 2 #[] #[] 1537 4 #[] #[])
  fields := #[]
  methods := #[]
  instanceTypes := #[]
  staticTypes := #[]
  resolved := Array.replicate 8 none
  statics := none }

/-- the primitive byte -/
def k5 : Class := { plain "byte" none with kind := .primitive 'B', accessFlags := 0x411 }
/-- [B -/
def k6 : Class := { plain "[B" (some 0) with kind := .array 5 .byte, interfaces := #[3, 4], accessFlags := 1041 }

/-- the primitive int -/
def k7 : Class := { plain "int" none with kind := .primitive 'I', accessFlags := 0x411 }
/-- [I -/
def k8 : Class := { plain "[I" (some 0) with kind := .array 7 .int, interfaces := #[3, 4], accessFlags := 1041 }

/-- the primitive double -/
def k9 : Class := { plain "double" none with kind := .primitive 'D', accessFlags := 0x411 }
/-- [D -/
def k10 : Class := { plain "[D" (some 0) with kind := .array 9 .double, interfaces := #[3, 4], accessFlags := 1041 }

def heap : Heap := #[]
def classes : Array Class := #[k0, k1, k2, k3, k4, k5, k6, k7, k8, k9, k10]
def interned : List (Array UInt16 × Addr) := []
def slotsUsed : Nat := 0
def theMethod : MethodId := ⟨1, 3⟩
def args0 : Array Value := #[.int 3, .int 5, .int 7, .int 9]
def aboutOver (below : List Frame) : State where
  vm := { classes := classes, interned := interned.toArray }
  heap := heap
  slotsUsed := slotsUsed
  threads := #[{ frames := .invoking theMethod args0 :: below }]
def below0 : List Frame := [.native { method := ⟨0, 0⟩, args := #[] }]
def about1 : State := aboutOver below0
def p0 : Program := .bare "" "" ""
def e0 : Env := launch0.env 0 0 0
theorem w_frames : about1.frames = Frame.invoking theMethod args0 :: below0 := rfl
set_option maxRecDepth 65536 in
theorem w_args : argsFit about1.vm theMethod args0 = true := by decide +kernel
set_option maxRecDepth 65536 in
theorem w_heap : heapFits about1 = true := by decide +kernel
set_option maxRecDepth 65536 in
theorem w_runnable : about1.curStatus? = some .runnable := by decide +kernel
set_option maxRecDepth 65536 in
theorem w_alone : about1.alone = true := by decide +kernel
set_option maxRecDepth 65536 in
theorem w_named : about1.methodNamed? x = some theMethod := by decide +kernel
set_option maxRecDepth 65536 in
theorem w_hears : about1.hears theMethod below0 = true := by decide +kernel
set_option maxRecDepth 65536 in
theorem w_ripe : about1.ripe theMethod args0 below0 = true := by decide +kernel
theorem w_running : about1.status = .running := rfl
set_option maxRecDepth 65536 in
theorem w_room : about1.hasRoom e0.platform room_1 = true :=
  launch0.hasRoom_least _ room_1 (by decide +kernel) (by decide +kernel) (by decide +kernel) (by decide +kernel) (by decide +kernel) (by decide +kernel)
theorem allAtoms_all (ts : List Jvm.Cond) (a : Array Jvm.Value) (st : Jvm.State) : (allAtoms ts).before a st = ts.all (fun c => c.before a st) := by
  induction ts with
  | nil => rfl
  | cons c t ih =>
    show (Jvm.Cond.and c (allAtoms t)).before a st = _
    rw [Jvm.Cond.before_and, ih, List.all_cons]
def words1 : List Jvm.Cond := Jvm.Cond.code x code maxLocals ret :: tables_1
/-- a 'code' word, met by the world's own term for the bytes: nothing is compared byte by byte -/
theorem code_word {y : MethodName} {bytes : ByteArray} {mx : Nat} {rt : Option FieldType} {a : Array Value} {s : State} {m : MethodId} {meth : Method} {c : Code} (h1 : s.methodNamed? y = some m) (h2 : s.vm.method? m = some meth) (h3 : meth.code = some c) (h4 : c.code = bytes)
    (h5 : (c.maxLocals == mx && c.exceptionTable.isEmpty && decide (c.maxStack ≤ mostOperands) && decide (meth.sig.returnType = rt) && !meth.locks && decide (parseMethodDescriptor y.desc = some meth.sig)) = true) : (Jvm.Cond.code y bytes mx rt).before a s = true := by
  simp only [Bool.and_eq_true, beq_iff_eq, Bool.not_eq_true', decide_eq_true_eq] at h5
  obtain ⟨⟨⟨⟨⟨g1, g2⟩, g3⟩, g4⟩, g5⟩, g6⟩ := h5
  simp [Cond.before, Cond.holds, Cond.value, h1, h2, h3, h4, g1, g2, g3, g4, g5, g6]
def isCode : Jvm.Cond → Bool
  | .code _ _ _ _ => true
  | _ => false
theorem all_split {L : List Jvm.Cond} {P : Jvm.Cond → Bool} (h1 : L.all (fun c => isCode c || P c) = true) (h2 : ∀ c ∈ L.filter isCode, P c = true) : L.all P = true := by
  refine List.all_eq_true.mpr fun c hc => ?_
  have h := List.all_eq_true.mp h1 c hc
  rcases Bool.eq_false_or_eq_true (isCode c) with hi | hi
  · exact h2 c (List.mem_filter.mpr ⟨hc, hi⟩)
  · simpa [hi] using h
set_option maxRecDepth 65536 in
theorem w_c0 : (Jvm.Cond.code x code maxLocals ret).before args0 about1 = true := code_word (m := ⟨1, 3⟩) (meth := k1m3) (c := k1c3) (by decide +kernel) rfl rfl rfl (by decide +kernel)
set_option maxRecDepth 65536 in
theorem w_c1 : (Jvm.Cond.code ({ cls := "com/example/cultivar/cultivar/ParetoDominatesPinLaw", name := "lo", desc := "(I)I" } : Jvm.MethodName) method_2_code (1 : Nat) (Option.some Jvm.ClassFile.FieldType.int)).before args0 about1 = true := code_word (m := ⟨1, 1⟩) (meth := k1m1) (c := k1c1) (by decide +kernel) rfl rfl rfl (by decide +kernel)
set_option maxRecDepth 65536 in
theorem w_c2 : (Jvm.Cond.code ({ cls := "com/example/cultivar/cultivar/ParetoDominatesPinLaw", name := "hi", desc := "(I)I" } : Jvm.MethodName) method_3_code (1 : Nat) (Option.some Jvm.ClassFile.FieldType.int)).before args0 about1 = true := code_word (m := ⟨1, 2⟩) (meth := k1m2) (c := k1c2) (by decide +kernel) rfl rfl rfl (by decide +kernel)
set_option maxRecDepth 65536 in
theorem w_c3 : (Jvm.Cond.code ({ cls := "com/example/cultivar/cultivar/Pareto", name := "dominates", desc := "([D[D)Z" } : Jvm.MethodName) prog_18_method_3_code (2 : Nat) (Option.some Jvm.ClassFile.FieldType.boolean)).before args0 about1 = true := code_word (m := ⟨2, 1⟩) (meth := k2m1) (c := k2c1) (by decide +kernel) rfl rfl rfl (by decide +kernel)
set_option maxRecDepth 65536 in
theorem w_c4 : (Jvm.Cond.code ({ cls := "com/example/cultivar/cultivar/Pareto", name := "noWorse", desc := "([D[D)Z" } : Jvm.MethodName) prog_18_method_5_code (3 : Nat) (Option.some Jvm.ClassFile.FieldType.boolean)).before args0 about1 = true := code_word (m := ⟨2, 2⟩) (meth := k2m2) (c := k2c2) (by decide +kernel) rfl rfl rfl (by decide +kernel)
def codes1 : List Jvm.Cond := [Jvm.Cond.code x code maxLocals ret, Jvm.Cond.code ({ cls := "com/example/cultivar/cultivar/ParetoDominatesPinLaw", name := "lo", desc := "(I)I" } : Jvm.MethodName) method_2_code (1 : Nat) (Option.some Jvm.ClassFile.FieldType.int), Jvm.Cond.code ({ cls := "com/example/cultivar/cultivar/ParetoDominatesPinLaw", name := "hi", desc := "(I)I" } : Jvm.MethodName) method_3_code (1 : Nat) (Option.some Jvm.ClassFile.FieldType.int), Jvm.Cond.code ({ cls := "com/example/cultivar/cultivar/Pareto", name := "dominates", desc := "([D[D)Z" } : Jvm.MethodName) prog_18_method_3_code (2 : Nat) (Option.some Jvm.ClassFile.FieldType.boolean), Jvm.Cond.code ({ cls := "com/example/cultivar/cultivar/Pareto", name := "noWorse", desc := "([D[D)Z" } : Jvm.MethodName) prog_18_method_5_code (3 : Nat) (Option.some Jvm.ClassFile.FieldType.boolean)]
set_option maxRecDepth 65536 in
theorem codes_eq : words1.filter isCode = codes1 := rfl
theorem w_codes : ∀ c ∈ words1.filter isCode, c.before args0 about1 = true := by
  rw [codes_eq]
  intro c hc
  simp only [codes1, List.mem_cons, List.not_mem_nil, or_false] at hc
  rcases hc with rfl | rfl | rfl | rfl | rfl
  · exact w_c0
  · exact w_c1
  · exact w_c2
  · exact w_c3
  · exact w_c4
set_option maxRecDepth 65536 in
theorem w_t1 : words1.all (fun c => isCode c || c.before args0 about1) = true := by decide +kernel
theorem w_tables : (allAtoms (Jvm.Cond.code x code maxLocals ret :: tables_1)).before args0 about1 = true := by
  rw [allAtoms_all]
  show words1.all (fun c => c.before args0 about1) = true
  refine all_split ?_ w_codes
  rw [w_t1]
set_option maxRecDepth 65536 in
theorem w_case : (Jvm.Cond.and given_1 narrow_1).before args0 about1 = true := by decide +kernel
theorem w_applies : (headSpec (Jvm.Cond.code x code maxLocals ret :: tables_1) room_1).applies x e0.platform about1 = true :=
  (Spec.applies_iff w_frames).mpr ⟨w_running, w_runnable, w_alone, w_named, w_hears, w_ripe, w_room, w_tables⟩
theorem atStart : AtStart classFile x code maxLocals ret World_1 tables_1 room_1 Calls_1 rest_1 Pre_1 launch0 p0 e0 about1 theMethod args0 below0 :=
  ⟨lists_1, trivial, launch0.admits_env _ _ _, launch0.least_env, fairChoices_fair.cas, fairChoices_fair.clock, w_frames, w_args, w_heap, w_applies, trivial, trivial, w_case⟩
end start1
theorem witness_1 : WitnessClaimed_1 := ⟨start1.p0, start1.e0, start1.about1, start1.theMethod, start1.args0, start1.below0, start1.atStart⟩
end Jvm.Pilot.@@N@@
