import JvmDerived
import JvmDerived.Pilot.@@N@@Statement
import JvmDerived.Pilot.@@N@@Code
set_option linter.unusedVariables false
set_option linter.unusedSimpArgs false
namespace Jvm.RoadKit
open Sem ClassFile Op Lib Jvm.Stand Jvm.Free Jvm.LawKit
section New
variable {p : Program} {l : Launch} {e : Env} {R : Room} {s : State} {m : MethodId} {args : Array Value} {below : List Frame} {meth : Method} {c : Code} {T : State} {locs : List Loc} {cells slots : Nat}
theorem retI (X : Stand p l e R s m args below meth c T locs cells slots) (hx : p.tables.exec = Jvm.exec) {pc : Nat} {Ls : Array Slot} {z : Int32} {rest : List Value} (hret : meth.sig.returnType = some .int) (hd : decode c.code pc = .ok (.ireturn, 1)) {fs : List Frame}
    (hl : ∀ (f : JFrame) (acts : List Action), f.method = m → f.locked = none → f.entered = [] → (doReturn e (T.setTop f) acts (some (.int z))).1 = T.setFrames fs) : Steps p.tables e below (T.setTop (mkF m pc Ls (.int z :: rest))) (T.setFrames fs) := by
  have hm' : T.vm.method? m = some meth := X.method'
  have hn : narrow .int (.int z) = .int z := rfl
  show Steps p.tables e below (T.setTop { method := m, pc := pc, locals := Ls, stack := _ :: rest, locked := none }) _
  jvm_step X.here [X.here.top, hx, hd, hm', hret, hn]
  first | (intro acts; rw [hl _ acts rfl rfl rfl]) | rw [hl _ _ rfl rfl rfl]
  exact Steps.refl _
end New
end Jvm.RoadKit
namespace Jvm.Pilot.@@N@@
open Jvm Jvm.ClassFile Sem Op Lib Jvm.Free Jvm.Stand Jvm.LawKit Jvm.RoadKit Bundle Jvm.Pilot.@@N@@.Jvm.D
def own_max (a b : Int32) : Int32 := if a < b then b else a
def own_abs (a : Int32) : Int32 := if a < 0 then (-a) else a
def own_code (a : Int32) : Int32 := ((own_abs a <<< ((1 : Int32) &&& 31)) ||| (if a < 0 then (1 : Int32) else (0 : Int32)))
def own_half (a : Int32) : Int32 := ((a.toUInt32 >>> ((1 : Int32) &&& 31).toUInt32).toInt32)
theorem own_pos (x : Int32) : 0 < (own_max (1 : Int32) (x &&& (2147483647 : Int32))).toInt := by
  unfold own_max
  split
  · next h => rw [Int32.lt_iff_toInt_lt] at h; have e1 : (1 : Int32).toInt = 1 := by decide
              omega
  · decide
theorem own_neg {f : Int32} (h : 0 < f.toInt) : -f < 0 ∧ ¬ f < 0 ∧ -(-f) = f := by
  have q := c_ineg f
  have r := rng32 (-f)
  have r2 := rng32 f
  have z : (0 : Int32).toInt = 0 := by decide
  refine ⟨?_, ?_, Int32.neg_neg⟩
  · rw [Int32.lt_iff_toInt_lt]; omega
  · rw [Int32.lt_iff_toInt_lt]; omega
theorem own_cp {f : Int32} (h : 0 < f.toInt) : own_code f = ((f <<< ((1 : Int32) &&& 31)) ||| (0 : Int32)) := by
  unfold own_code own_abs
  rw [if_neg (own_neg h).2.1, if_neg (own_neg h).2.1]
theorem own_cn {f : Int32} (h : 0 < f.toInt) : own_code (-f) = ((f <<< ((1 : Int32) &&& 31)) ||| (1 : Int32)) := by
  unfold own_code own_abs
  rw [if_pos (own_neg h).1, if_pos (own_neg h).1, (own_neg h).2.2]
theorem own_shl (f : Int32) : (f <<< ((1 : Int32) &&& 31)).toBitVec = f.toBitVec <<< 1 := by
  have h : ((1 : Int32) &&& 31) = 1 := by decide
  rw [h]; rfl
theorem own_shr (a : Int32) : (own_half a).toBitVec = a.toBitVec >>> 1 := by
  unfold own_half
  have h : ((1 : Int32) &&& 31).toUInt32 = 1 := by decide
  rw [h]; rfl
theorem own_or (a b : Int32) : (a ||| b).toBitVec = a.toBitVec ||| b.toBitVec := rfl
theorem own_xor (a b : Int32) : (a ^^^ b).toBitVec = a.toBitVec ^^^ b.toBitVec := rfl
theorem own_and (a b : Int32) : (a &&& b).toBitVec = a.toBitVec &&& b.toBitVec := rfl
theorem own_msb {f : Int32} (h : 0 < f.toInt) : f.toBitVec.getLsbD 31 = false := by
  have r : ¬ f.toBitVec.toInt < 0 := by show ¬ f.toInt < 0; omega
  have q : f.toBitVec.msb = false := by
    cases hb : f.toBitVec.msb with
    | false => rfl
    | true => exact absurd (BitVec.toInt_neg_of_msb_true hb) r
  simpa [BitVec.msb_eq_getLsbD_last] using q
theorem own_back {f : Int32} (h : 0 < f.toInt) {d : Int32} (hd : d = 0 ∨ d = 1) : own_half ((f <<< ((1 : Int32) &&& 31)) ||| d) = f := by
  apply Int32.toBitVec_inj.mp
  rw [own_shr, own_or, own_shl]
  have m := own_msb h
  generalize f.toBitVec = b at m ⊢
  have hd' : d.toBitVec >>> 1 = 0 := by rcases hd with rfl | rfl <;> decide
  apply BitVec.eq_of_getLsbD_eq
  intro i hi
  have z : d.toBitVec.getLsbD (1 + i) = false := by
    have := congrArg (fun v : BitVec 32 => v.getLsbD i) hd'
    simpa [BitVec.getLsbD_ushiftRight] using this
  simp only [BitVec.getLsbD_ushiftRight, BitVec.getLsbD_or, BitVec.getLsbD_shiftLeft, z, Bool.or_false]
  by_cases q : i = 31
  · subst q; rw [m]; simp
  · have : 1 + i < 32 := by omega
    simp [this]
theorem own_low {f d : Int32} (hd : d = 0 ∨ d = 1) : (((f <<< ((1 : Int32) &&& 31)) ||| d) &&& (1 : Int32)) = d := by
  apply Int32.toBitVec_inj.mp
  rw [own_and, own_or, own_shl]
  generalize f.toBitVec = b
  apply BitVec.eq_of_getLsbD_eq
  intro i hi
  have e1 : (1 : Int32).toBitVec = 1#32 := rfl
  have e0 : (0 : Int32).toBitVec = 0#32 := rfl
  rcases hd with rfl | rfl
  · simp only [e0, e1, BitVec.getLsbD_and, BitVec.getLsbD_or, BitVec.getLsbD_shiftLeft]
    by_cases q : i = 0
    · subst q; simp
    · simp [BitVec.getLsbD_one, q]
  · simp only [e0, e1, BitVec.getLsbD_and, BitVec.getLsbD_or, BitVec.getLsbD_shiftLeft]
    by_cases q : i = 0
    · subst q; simp
    · simp [BitVec.getLsbD_one, q]
theorem own_flip (f : Int32) : ((f <<< ((1 : Int32) &&& 31)) ||| (1 : Int32)) = (((f <<< ((1 : Int32) &&& 31)) ||| (0 : Int32)) ^^^ (1 : Int32)) := by
  apply Int32.toBitVec_inj.mp
  rw [own_xor, own_or, own_or, own_shl]
  generalize f.toBitVec = b
  apply BitVec.eq_of_getLsbD_eq
  intro i hi
  have e1 : (1 : Int32).toBitVec = 1#32 := rfl
  have e0 : (0 : Int32).toBitVec = 0#32 := rfl
  simp only [e0, e1, BitVec.getLsbD_xor, BitVec.getLsbD_or, BitVec.getLsbD_shiftLeft]
  by_cases q : i = 0
  · subst q; simp
  · simp [BitVec.getLsbD_one, q]
theorem own_flip2 (f : Int32) : ((f <<< ((1 : Int32) &&& 31)) ||| (0 : Int32)) = (((f <<< ((1 : Int32) &&& 31)) ||| (1 : Int32)) ^^^ (1 : Int32)) := by
  rw [own_flip]
  apply Int32.toBitVec_inj.mp
  rw [own_xor, own_xor]
  rw [BitVec.xor_assoc, BitVec.xor_self, BitVec.xor_zero]
theorem own_ef_own_maxC (m : MethodId) (q0 : Int32) (q1 : Int32) : entryFrame m #[(.int q0), (.int q1)] 2 = mkF m 0 #[.val (.int q0), .val (.int q1)] [] := by first | (simp [entryFrame, mkF, argsToLocals, Value.category]; done) | rfl
def Q_own_maxC (Z : State) (q0 : Int32) (q1 : Int32)  (h0 : Heap) (n0 : Nat) (v : Option Value) (h : Heap) (L : List Loc) : Prop := v = some (.int (own_max q0 q1)) ∧ Fr n0 L ∧ h = h0
theorem own_d_jdk_29_method_65_0 : decode jdk_29_method_65_code 0 = .ok (.iload_n 0, 1) := by decide +kernel
theorem own_d_jdk_29_method_65_1 : decode jdk_29_method_65_code 1 = .ok (.iload_n 1, 1) := by decide +kernel
theorem own_d_jdk_29_method_65_2 : decode jdk_29_method_65_code 2 = .ok (.if_icmp .lt 7, 3) := by decide +kernel
theorem own_d_jdk_29_method_65_9 : decode jdk_29_method_65_code 9 = .ok (.iload_n 1, 1) := by decide +kernel
theorem own_d_jdk_29_method_65_5 : decode jdk_29_method_65_code 5 = .ok (.iload_n 0, 1) := by decide +kernel
theorem own_d_jdk_29_method_65_6 : decode jdk_29_method_65_code 6 = .ok (.goto 4, 3) := by decide +kernel
theorem own_d_jdk_29_method_65_10 : decode jdk_29_method_65_code 10 = .ok (.ireturn, 1) := by decide +kernel
set_option maxRecDepth 65536 in
set_option maxHeartbeats 40000000 in
theorem own_maxC (l : Launch) (Z : State) (a0 : Array Value) (hw : ∀ d ∈ tables_1, d.before a0 Z = true) (ws : List Jvm.Cond) (q0 : Int32) (q1 : Int32)  (h0 : Heap) (n0 : Nat) (Z0 : n0 ≤ h0.size)  :
    MetFree l (⟨"java/lang/Math", "max", "(II)I"⟩ : MethodName) (head1 (Jvm.Cond.code (⟨"java/lang/Math", "max", "(II)I"⟩ : MethodName) jdk_29_method_65_code 2 (some .int) :: ws) ({ frames := 0, cells := 0, slots := 0, locals := 0 } : Room)) (fun a U => a = #[(.int q0), (.int q1)] ∧ Z.Warmed39 U.vm ∧ U.heap = h0) (fun _ _ _ _ _ => True) (fun _ U o U' => ∃ v L, o = .returned v ∧ Q_own_maxC Z q0 q1 h0 n0 v U'.heap L ∧ FrameEnd U o U' L ({ frames := 0, cells := 0, slots := 0, locals := 0 } : Room).cells ({ frames := 0, cells := 0, slots := 0, locals := 0 } : Room).slots) := by
  refine MetFree.of_bodySF (Jvm.Free.JP.mathPlain rfl (by decide +kernel)) hisR ?_
  intro p e s m args below meth c s₁ Bd hml0 hP hK
  obtain ⟨rfl, hZ, hh⟩ := hP
  have hx := Bd.exec
  have hby := Bd.bytes
  have hml : c.maxLocals = 2 := hml0
  have hown : s.vm.findClass "java/lang/Math" = some m.cls := findClass_of_methodNamed Bd.named
  have hnm := (name_of_methodNamed Bd.named Bd.method).1
  have X0 : Stand p l e ({ frames := 0, cells := 0, slots := 0, locals := 0 } : Room) s m #[(.int q0), (.int q1)] below meth c s₁ [] 0 0 := Stand.of_body Bd
  have e0 : s₁.heap = h0 := by rw [← hh, Bd.state]; rfl
  have N0 := Fr.nil n0
  have pre0 : ∀ t, Steps p.tables e below (s₁.setTop (mkF m 0 #[.val (.int q0), .val (.int q1)] [])) t → Steps p.tables e below (s₁.setTop (entryFrame m #[(.int q0), (.int q1)] 2)) t := fun t k => castTop (own_ef_own_maxC m q0 q1) k
  have pre1 : ∀ t, Steps p.tables e below (s₁.setTop (mkF m 2 #[.val (.int q0), .val (.int q1)] [(.int q1), (.int q0)])) t → Steps p.tables e below (s₁.setTop (entryFrame m #[(.int q0), (.int q1)] 2)) t := fun t k => pre0 _ (by
    show Steps p.tables e below (s₁.setTop (mkF m 0 #[.val (.int q0), .val (.int q1)] [])) _
    refine XS.iloadN X0.here hx rfl (hb hby own_d_jdk_29_method_65_0) rfl ?_
    show Steps p.tables e below (s₁.setTop (mkF m 1 #[.val (.int q0), .val (.int q1)] [(.int q0)])) _
    refine XS.iloadN X0.here hx rfl (hb hby own_d_jdk_29_method_65_1) rfl ?_
    exact k)
  obtain ⟨v3, hv3⟩ : ∃ z : Int32, z = (if q0 < q1 then q1 else q0) := ⟨_, rfl⟩
  have pre4 : ∀ t, Steps p.tables e below (s₁.setTop (mkF m 10 #[.val (.int q0), .val (.int q1)] [(.int v3)])) t → Steps p.tables e below (s₁.setTop (entryFrame m #[(.int q0), (.int q1)] 2)) t := fun t k => pre1 _ (by
    by_cases c2_2 : q0 < q1
    · rw [show v3 = _ from hv3.trans (if_pos c2_2)] at k
      show Steps p.tables e below (s₁.setTop (mkF m 2 #[.val (.int q0), .val (.int q1)] [(.int q1), (.int q0)])) _
      refine XS.icmpYes X0.here hx rfl (pc0 := 2) (pc' := 9) rfl (hb hby own_d_jdk_29_method_65_2) rfl (XT.ii_lt_t c2_2) (by decide) (by decide) ?_
      show Steps p.tables e below (s₁.setTop (mkF m 9 #[.val (.int q0), .val (.int q1)] [])) _
      refine XS.iloadN X0.here hx rfl (hb hby own_d_jdk_29_method_65_9) rfl ?_
      exact k
    · rw [show v3 = _ from hv3.trans (if_neg c2_2)] at k
      show Steps p.tables e below (s₁.setTop (mkF m 2 #[.val (.int q0), .val (.int q1)] [(.int q1), (.int q0)])) _
      refine XS.icmpNo X0.here hx rfl (hb hby own_d_jdk_29_method_65_2) rfl (XT.ii_lt_f c2_2) ?_
      show Steps p.tables e below (s₁.setTop (mkF m 5 #[.val (.int q0), .val (.int q1)] [])) _
      refine XS.iloadN X0.here hx rfl (hb hby own_d_jdk_29_method_65_5) rfl ?_
      show Steps p.tables e below (s₁.setTop (mkF m 6 #[.val (.int q0), .val (.int q1)] [(.int q0)])) _
      refine XS.goto X0.here hx rfl (pc0 := 6) (pc' := 10) rfl (hb hby own_d_jdk_29_method_65_6) (by decide) (by decide) ?_
      exact k)
  obtain ⟨fs, hr, hrun, hended, hW, hsame⟩ := X0.leave (v := some (.int v3)) (fun h => by rw [Bd.returns] at h; cases h)
  refine ⟨_, _, pre4 _ ?_, hrun, hended, _, _, rfl, ?_, ⟨_, rfl⟩, hW, hsame.mono (by decide) (by decide)⟩
  · show Steps p.tables e below (s₁.setTop (mkF m 10 #[.val (.int q0), .val (.int q1)] [(.int v3)])) _
    exact retI X0 hx Bd.returns (hb hby own_d_jdk_29_method_65_10) hr
  · show Q_own_maxC Z q0 q1 h0 n0 _ s₁.heap _
    rw [e0]
    exact ⟨by rw [hv3]; rfl, N0, rfl⟩
theorem own_ef_own_absC (m : MethodId) (q0 : Int32) : entryFrame m #[(.int q0)] 1 = mkF m 0 #[.val (.int q0)] [] := by first | (simp [entryFrame, mkF, argsToLocals, Value.category]; done) | rfl
def Q_own_absC (Z : State) (q0 : Int32)  (h0 : Heap) (n0 : Nat) (v : Option Value) (h : Heap) (L : List Loc) : Prop := v = some (.int (own_abs q0)) ∧ Fr n0 L ∧ h = h0
theorem own_d_jdk_29_method_59_0 : decode jdk_29_method_59_code 0 = .ok (.iload_n 0, 1) := by decide +kernel
theorem own_d_jdk_29_method_59_1 : decode jdk_29_method_59_code 1 = .ok (.ifCond .ge 8, 3) := by decide +kernel
theorem own_d_jdk_29_method_59_4 : decode jdk_29_method_59_code 4 = .ok (.iload_n 0, 1) := by decide +kernel
theorem own_d_jdk_29_method_59_5 : decode jdk_29_method_59_code 5 = .ok (.ineg, 1) := by decide +kernel
theorem own_d_jdk_29_method_59_6 : decode jdk_29_method_59_code 6 = .ok (.goto 4, 3) := by decide +kernel
theorem own_d_jdk_29_method_59_9 : decode jdk_29_method_59_code 9 = .ok (.iload_n 0, 1) := by decide +kernel
theorem own_d_jdk_29_method_59_10 : decode jdk_29_method_59_code 10 = .ok (.ireturn, 1) := by decide +kernel
set_option maxRecDepth 65536 in
set_option maxHeartbeats 40000000 in
theorem own_absC (l : Launch) (Z : State) (a0 : Array Value) (hw : ∀ d ∈ tables_1, d.before a0 Z = true) (ws : List Jvm.Cond) (q0 : Int32)  (h0 : Heap) (n0 : Nat) (Z0 : n0 ≤ h0.size)  :
    MetFree l (⟨"java/lang/Math", "abs", "(I)I"⟩ : MethodName) (head1 (Jvm.Cond.code (⟨"java/lang/Math", "abs", "(I)I"⟩ : MethodName) jdk_29_method_59_code 1 (some .int) :: ws) ({ frames := 0, cells := 0, slots := 0, locals := 0 } : Room)) (fun a U => a = #[(.int q0)] ∧ Z.Warmed39 U.vm ∧ U.heap = h0) (fun _ _ _ _ _ => True) (fun _ U o U' => ∃ v L, o = .returned v ∧ Q_own_absC Z q0 h0 n0 v U'.heap L ∧ FrameEnd U o U' L ({ frames := 0, cells := 0, slots := 0, locals := 0 } : Room).cells ({ frames := 0, cells := 0, slots := 0, locals := 0 } : Room).slots) := by
  refine MetFree.of_bodySF (Jvm.Free.JP.mathPlain rfl (by decide +kernel)) hisR ?_
  intro p e s m args below meth c s₁ Bd hml0 hP hK
  obtain ⟨rfl, hZ, hh⟩ := hP
  have hx := Bd.exec
  have hby := Bd.bytes
  have hml : c.maxLocals = 1 := hml0
  have hown : s.vm.findClass "java/lang/Math" = some m.cls := findClass_of_methodNamed Bd.named
  have hnm := (name_of_methodNamed Bd.named Bd.method).1
  have X0 : Stand p l e ({ frames := 0, cells := 0, slots := 0, locals := 0 } : Room) s m #[(.int q0)] below meth c s₁ [] 0 0 := Stand.of_body Bd
  have e0 : s₁.heap = h0 := by rw [← hh, Bd.state]; rfl
  have N0 := Fr.nil n0
  have pre0 : ∀ t, Steps p.tables e below (s₁.setTop (mkF m 0 #[.val (.int q0)] [])) t → Steps p.tables e below (s₁.setTop (entryFrame m #[(.int q0)] 1)) t := fun t k => castTop (own_ef_own_absC m q0) k
  have pre1 : ∀ t, Steps p.tables e below (s₁.setTop (mkF m 1 #[.val (.int q0)] [(.int q0)])) t → Steps p.tables e below (s₁.setTop (entryFrame m #[(.int q0)] 1)) t := fun t k => pre0 _ (by
    show Steps p.tables e below (s₁.setTop (mkF m 0 #[.val (.int q0)] [])) _
    refine XS.iloadN X0.here hx rfl (hb hby own_d_jdk_29_method_59_0) rfl ?_
    exact k)
  obtain ⟨v3, hv3⟩ : ∃ z : Int32, z = (if q0 < 0 then (-q0) else q0) := ⟨_, rfl⟩
  have pre4 : ∀ t, Steps p.tables e below (s₁.setTop (mkF m 10 #[.val (.int q0)] [(.int v3)])) t → Steps p.tables e below (s₁.setTop (entryFrame m #[(.int q0)] 1)) t := fun t k => pre1 _ (by
    by_cases c1_2 : q0 < 0
    · rw [show v3 = _ from hv3.trans (if_pos c1_2)] at k
      show Steps p.tables e below (s₁.setTop (mkF m 1 #[.val (.int q0)] [(.int q0)])) _
      refine XS.ifNo X0.here hx rfl (hb hby own_d_jdk_29_method_59_1) rfl (XT.i0_ge_f c1_2) ?_
      show Steps p.tables e below (s₁.setTop (mkF m 4 #[.val (.int q0)] [])) _
      refine XS.iloadN X0.here hx rfl (hb hby own_d_jdk_29_method_59_4) rfl ?_
      show Steps p.tables e below (s₁.setTop (mkF m 5 #[.val (.int q0)] [(.int q0)])) _
      refine XS.ineg X0.here hx rfl (hb hby own_d_jdk_29_method_59_5) rfl ?_
      show Steps p.tables e below (s₁.setTop (mkF m 6 #[.val (.int q0)] [(.int (-q0))])) _
      refine XS.goto X0.here hx rfl (pc0 := 6) (pc' := 10) rfl (hb hby own_d_jdk_29_method_59_6) (by decide) (by decide) ?_
      exact k
    · rw [show v3 = _ from hv3.trans (if_neg c1_2)] at k
      show Steps p.tables e below (s₁.setTop (mkF m 1 #[.val (.int q0)] [(.int q0)])) _
      refine XS.ifYes X0.here hx rfl (pc0 := 1) (pc' := 9) rfl (hb hby own_d_jdk_29_method_59_1) rfl (XT.i0_ge_t c1_2) (by decide) (by decide) ?_
      show Steps p.tables e below (s₁.setTop (mkF m 9 #[.val (.int q0)] [])) _
      refine XS.iloadN X0.here hx rfl (hb hby own_d_jdk_29_method_59_9) rfl ?_
      exact k)
  obtain ⟨fs, hr, hrun, hended, hW, hsame⟩ := X0.leave (v := some (.int v3)) (fun h => by rw [Bd.returns] at h; cases h)
  refine ⟨_, _, pre4 _ ?_, hrun, hended, _, _, rfl, ?_, ⟨_, rfl⟩, hW, hsame.mono (by decide) (by decide)⟩
  · show Steps p.tables e below (s₁.setTop (mkF m 10 #[.val (.int q0)] [(.int v3)])) _
    exact retI X0 hx Bd.returns (hb hby own_d_jdk_29_method_59_10) hr
  · show Q_own_absC Z q0 h0 n0 _ s₁.heap _
    rw [e0]
    exact ⟨by rw [hv3]; rfl, N0, rfl⟩
theorem own_ef_own_codeC (m : MethodId) (q0 : Int32) : entryFrame m #[(.int q0)] 1 = mkF m 0 #[.val (.int q0)] [] := by first | (simp [entryFrame, mkF, argsToLocals, Value.category]; done) | rfl
def Q_own_codeC (Z : State) (q0 : Int32)  (h0 : Heap) (n0 : Nat) (v : Option Value) (h : Heap) (L : List Loc) : Prop := v = some (.int (own_code q0)) ∧ Fr n0 L ∧ h = h0
theorem own_pn_com_example_cultivar_cultivar_FeatureModel : plainName "com/example/cultivar/cultivar/FeatureModel" = true := by first | (simp [plainName, overriddenIn]; done) | decide +kernel
theorem own_d_prog_6_method_12_0 : decode prog_6_method_12_code 0 = .ok (.iload_n 0, 1) := by decide +kernel
theorem own_pd__I_I : parseMethodDescriptor "(I)I" = some ⟨[.int], some .int⟩ := by decide +kernel
theorem own_d_prog_6_method_12_1 : decode prog_6_method_12_code 1 = .ok (.invokestatic 150, 3) := by decide +kernel
theorem own_d_prog_6_method_12_4 : decode prog_6_method_12_code 4 = .ok (.iconst 1, 1) := by decide +kernel
theorem own_d_prog_6_method_12_5 : decode prog_6_method_12_code 5 = .ok (.ishl, 1) := by decide +kernel
theorem own_d_prog_6_method_12_6 : decode prog_6_method_12_code 6 = .ok (.iload_n 0, 1) := by decide +kernel
theorem own_d_prog_6_method_12_7 : decode prog_6_method_12_code 7 = .ok (.ifCond .ge 7, 3) := by decide +kernel
theorem own_d_prog_6_method_12_10 : decode prog_6_method_12_code 10 = .ok (.iconst 1, 1) := by decide +kernel
theorem own_d_prog_6_method_12_11 : decode prog_6_method_12_code 11 = .ok (.goto 4, 3) := by decide +kernel
theorem own_d_prog_6_method_12_14 : decode prog_6_method_12_code 14 = .ok (.iconst 0, 1) := by decide +kernel
theorem own_d_prog_6_method_12_15 : decode prog_6_method_12_code 15 = .ok (.ior, 1) := by decide +kernel
theorem own_d_prog_6_method_12_16 : decode prog_6_method_12_code 16 = .ok (.ireturn, 1) := by decide +kernel
set_option maxRecDepth 65536 in
set_option maxHeartbeats 40000000 in
theorem own_codeC (l : Launch) (Z : State) (a0 : Array Value) (hw : ∀ d ∈ tables_1, d.before a0 Z = true) (ws : List Jvm.Cond) (q0 : Int32)  (h0 : Heap) (n0 : Nat) (Z0 : n0 ≤ h0.size)  :
    MetFree l (⟨"com/example/cultivar/cultivar/FeatureModel", "code", "(I)I"⟩ : MethodName) (head1 (Jvm.Cond.code (⟨"com/example/cultivar/cultivar/FeatureModel", "code", "(I)I"⟩ : MethodName) prog_6_method_12_code 1 (some .int) :: ws) ({ frames := 1, cells := 0, slots := 0, locals := 12 } : Room)) (fun a U => a = #[(.int q0)] ∧ Z.Warmed39 U.vm ∧ U.heap = h0) (fun _ _ _ _ _ => True) (fun _ U o U' => ∃ v L, o = .returned v ∧ Q_own_codeC Z q0 h0 n0 v U'.heap L ∧ FrameEnd U o U' L ({ frames := 1, cells := 0, slots := 0, locals := 12 } : Room).cells ({ frames := 1, cells := 0, slots := 0, locals := 12 } : Room).slots) := by
  refine MetFree.of_bodySF (plainFor_of_name own_pn_com_example_cultivar_cultivar_FeatureModel) hisR ?_
  intro p e s m args below meth c s₁ Bd hml0 hP hK
  obtain ⟨rfl, hZ, hh⟩ := hP
  have hx := Bd.exec
  have hby := Bd.bytes
  have hml : c.maxLocals = 1 := hml0
  have hown : s.vm.findClass "com/example/cultivar/cultivar/FeatureModel" = some m.cls := findClass_of_methodNamed Bd.named
  have hnm := (name_of_methodNamed Bd.named Bd.method).1
  have X0 : Stand p l e ({ frames := 1, cells := 0, slots := 0, locals := 12 } : Room) s m #[(.int q0)] below meth c s₁ [] 0 0 := Stand.of_body Bd
  have e0 : s₁.heap = h0 := by rw [← hh, Bd.state]; rfl
  have N0 := Fr.nil n0
  have pre0 : ∀ t, Steps p.tables e below (s₁.setTop (mkF m 0 #[.val (.int q0)] [])) t → Steps p.tables e below (s₁.setTop (entryFrame m #[(.int q0)] 1)) t := fun t k => castTop (own_ef_own_codeC m q0) k
  have pre1 : ∀ t, Steps p.tables e below (s₁.setTop (mkF m 1 #[.val (.int q0)] [(.int q0)])) t → Steps p.tables e below (s₁.setTop (entryFrame m #[(.int q0)] 1)) t := fun t k => pre0 _ (by
    show Steps p.tables e below (s₁.setTop (mkF m 0 #[.val (.int q0)] [])) _
    refine XS.iloadN X0.here hx rfl (hb hby own_d_prog_6_method_12_0) rfl ?_
    exact k)
  obtain ⟨_, _, ⟨T2, L2, k2, n2⟩, -, X2, ⟨Lc2, hQ2, l2, y2, z2⟩, st2⟩ := Jvm.LawKit.callS X0 hx (y := (⟨"java/lang/Math", "abs", "(I)I"⟩ : MethodName)) hown (mvT hZ (hw _ (List.mem_of_getElem? (i := 9) rfl))) (mvT hZ (hw _ (List.mem_of_getElem? (i := 10) rfl))) (mvT hZ (hw _ (List.mem_of_getElem? (i := 3) rfl))) (mvT hZ (hw _ (List.mem_of_getElem? (i := 11) rfl))) (by decide) (backOf (W := 0) (own_absC l Z a0 hw [] q0 h0 n0 Z0) hZ (hw _ (List.mem_of_getElem? (i := 11) rfl)) (hw _ (List.mem_of_getElem? (i := 3) rfl)) (by decide) (by decide)) (g := (mkF m 1 #[.val (.int q0)] [(.int q0)])) rfl (by rw [hml]; rfl) (argsL := [(.int q0)]) (rest := []) (lenOf own_pd__I_I rfl) rfl (by show 2 * 0 + _ ≤ _; exact Nat.le_of_eq rfl) (hb hby own_d_prog_6_method_12_1) (fun _ _ => ⟨rfl, e0, (by decide : 0 + 0 ≤ _), (by decide : 0 + 0 ≤ _)⟩)
  dsimp only [Pt.U, Pt.locs, Pt.cells, Pt.slots] at X2 l2 y2 z2 st2 hQ2
  subst l2 y2 z2
  obtain ⟨rfl, N2q, e2⟩ := hQ2
  have N2 := Fr.app N0 N2q
  have pre3 : ∀ t, Steps p.tables e below (T2.setTop (mkF m 4 #[.val (.int q0)] [(.int (own_abs q0))])) t → Steps p.tables e below (s₁.setTop (entryFrame m #[(.int q0)] 1)) t := fun t k => pre1 _ (st2 _ k)
  have pre4 : ∀ t, Steps p.tables e below (T2.setTop (mkF m 7 #[.val (.int q0)] [(.int q0), (.int ((own_abs q0) <<< ((1 : Int32) &&& 31)))])) t → Steps p.tables e below (s₁.setTop (entryFrame m #[(.int q0)] 1)) t := fun t k => pre3 _ (by
    show Steps p.tables e below (T2.setTop (mkF m 4 #[.val (.int q0)] [(.int (own_abs q0))])) _
    refine XT.iconstV X2.here hx rfl (1 : Int32) (hb hby own_d_prog_6_method_12_4) rfl ?_
    show Steps p.tables e below (T2.setTop (mkF m 5 #[.val (.int q0)] [(.int (1 : Int32)), (.int (own_abs q0))])) _
    refine XS.ishl X2.here hx rfl (hb hby own_d_prog_6_method_12_5) rfl ?_
    show Steps p.tables e below (T2.setTop (mkF m 6 #[.val (.int q0)] [(.int ((own_abs q0) <<< ((1 : Int32) &&& 31)))])) _
    refine XS.iloadN X2.here hx rfl (hb hby own_d_prog_6_method_12_6) rfl ?_
    exact k)
  obtain ⟨v6, hv6⟩ : ∃ z : Int32, z = (if q0 < 0 then (1 : Int32) else (0 : Int32)) := ⟨_, rfl⟩
  have pre7 : ∀ t, Steps p.tables e below (T2.setTop (mkF m 15 #[.val (.int q0)] [(.int v6), (.int ((own_abs q0) <<< ((1 : Int32) &&& 31)))])) t → Steps p.tables e below (s₁.setTop (entryFrame m #[(.int q0)] 1)) t := fun t k => pre4 _ (by
    by_cases c7_5 : q0 < 0
    · rw [show v6 = _ from hv6.trans (if_pos c7_5)] at k
      show Steps p.tables e below (T2.setTop (mkF m 7 #[.val (.int q0)] [(.int q0), (.int ((own_abs q0) <<< ((1 : Int32) &&& 31)))])) _
      refine XS.ifNo X2.here hx rfl (hb hby own_d_prog_6_method_12_7) rfl (XT.i0_ge_f c7_5) ?_
      show Steps p.tables e below (T2.setTop (mkF m 10 #[.val (.int q0)] [(.int ((own_abs q0) <<< ((1 : Int32) &&& 31)))])) _
      refine XT.iconstV X2.here hx rfl (1 : Int32) (hb hby own_d_prog_6_method_12_10) rfl ?_
      show Steps p.tables e below (T2.setTop (mkF m 11 #[.val (.int q0)] [(.int (1 : Int32)), (.int ((own_abs q0) <<< ((1 : Int32) &&& 31)))])) _
      refine XS.goto X2.here hx rfl (pc0 := 11) (pc' := 15) rfl (hb hby own_d_prog_6_method_12_11) (by decide) (by decide) ?_
      exact k
    · rw [show v6 = _ from hv6.trans (if_neg c7_5)] at k
      show Steps p.tables e below (T2.setTop (mkF m 7 #[.val (.int q0)] [(.int q0), (.int ((own_abs q0) <<< ((1 : Int32) &&& 31)))])) _
      refine XS.ifYes X2.here hx rfl (pc0 := 7) (pc' := 14) rfl (hb hby own_d_prog_6_method_12_7) rfl (XT.i0_ge_t c7_5) (by decide) (by decide) ?_
      show Steps p.tables e below (T2.setTop (mkF m 14 #[.val (.int q0)] [(.int ((own_abs q0) <<< ((1 : Int32) &&& 31)))])) _
      refine XT.iconstV X2.here hx rfl (0 : Int32) (hb hby own_d_prog_6_method_12_14) rfl ?_
      exact k)
  have pre8 : ∀ t, Steps p.tables e below (T2.setTop (mkF m 16 #[.val (.int q0)] [(.int (((own_abs q0) <<< ((1 : Int32) &&& 31)) ||| v6))])) t → Steps p.tables e below (s₁.setTop (entryFrame m #[(.int q0)] 1)) t := fun t k => pre7 _ (by
    show Steps p.tables e below (T2.setTop (mkF m 15 #[.val (.int q0)] [(.int v6), (.int ((own_abs q0) <<< ((1 : Int32) &&& 31)))])) _
    refine XS.ior X2.here hx rfl (hb hby own_d_prog_6_method_12_15) rfl ?_
    exact k)
  obtain ⟨fs, hr, hrun, hended, hW, hsame⟩ := X2.leave (v := some (.int (((own_abs q0) <<< ((1 : Int32) &&& 31)) ||| v6))) (fun h => by rw [Bd.returns] at h; cases h)
  refine ⟨_, _, pre8 _ ?_, hrun, hended, _, _, rfl, ?_, ⟨_, rfl⟩, hW, hsame.mono (by decide) (by decide)⟩
  · show Steps p.tables e below (T2.setTop (mkF m 16 #[.val (.int q0)] [(.int (((own_abs q0) <<< ((1 : Int32) &&& 31)) ||| v6))])) _
    exact retI X2 hx Bd.returns (hb hby own_d_prog_6_method_12_16) hr
  · show Q_own_codeC Z q0 h0 n0 _ T2.heap _
    rw [e2]
    exact ⟨by rw [hv6]; rfl, N2, rfl⟩
theorem own_ef_own_law (m : MethodId) (p0 : Int32) (p1 : Int32) : entryFrame m #[(.int p0), (.int p1)] maxLocals = mkF m 0 #[.val (.int p0), .val (.int p1), .unset, .unset, .unset, .unset, .unset, .unset, .unset, .unset] [] := by first | (simp [entryFrame, mkF, argsToLocals, Value.category, maxLocals]; done) | rfl
def Q_own_law (Z : State) (p0 : Int32) (p1 : Int32)  (h0 : Heap) (n0 : Nat) (v : Option Value) (h : Heap) (L : List Loc) : Prop := v = some (.int 1) ∧ Fr n0 L
theorem own_pn_com_example_cultivar_cultivar_FeatureModelCodePinLaw : plainName "com/example/cultivar/cultivar/FeatureModelCodePinLaw" = true := by first | (simp [plainName, overriddenIn]; done) | decide +kernel
theorem own_pd__II_I : parseMethodDescriptor "(II)I" = some ⟨[.int, .int], some .int⟩ := by decide +kernel
set_option maxRecDepth 65536 in
set_option maxHeartbeats 40000000 in
theorem own_law (l : Launch) (Z : State) (a0 : Array Value) (hw : ∀ d ∈ tables_1, d.before a0 Z = true) (ws : List Jvm.Cond) (p0 : Int32) (p1 : Int32)  (h0 : Heap) (n0 : Nat) (Z0 : n0 ≤ h0.size)  :
    MetFree l x (head1 (Jvm.Cond.code x code maxLocals ret :: ws) room_1) (fun a U => a = #[(.int p0), (.int p1)] ∧ Z.Warmed39 U.vm ∧ U.heap = h0) (fun _ _ _ _ _ => True) (fun _ U o U' => ∃ v L, o = .returned v ∧ Q_own_law Z p0 p1 h0 n0 v U'.heap L ∧ FrameEnd U o U' L room_1.cells room_1.slots) := by
  refine MetFree.of_bodySF (plainFor_of_name own_pn_com_example_cultivar_cultivar_FeatureModelCodePinLaw) hisR ?_
  intro p e s m args below meth c s₁ Bd hml0 hP hK
  obtain ⟨rfl, hZ, hh⟩ := hP
  have hx := Bd.exec
  have hby := Bd.bytes
  have hml : c.maxLocals = 10 := hml0
  have hown : s.vm.findClass "com/example/cultivar/cultivar/FeatureModelCodePinLaw" = some m.cls := findClass_of_methodNamed Bd.named
  have hnm := (name_of_methodNamed Bd.named Bd.method).1
  have X0 : Stand p l e room_1 s m #[(.int p0), (.int p1)] below meth c s₁ [] 0 0 := Stand.of_body Bd
  have e0 : s₁.heap = h0 := by rw [← hh, Bd.state]; rfl
  have N0 := Fr.nil n0
  have pre0 : ∀ t, Steps p.tables e below (s₁.setTop (mkF m 0 #[.val (.int p0), .val (.int p1), .unset, .unset, .unset, .unset, .unset, .unset, .unset, .unset] [])) t → Steps p.tables e below (s₁.setTop (entryFrame m #[(.int p0), (.int p1)] maxLocals)) t := fun t k => castTop (own_ef_own_law m p0 p1) k
  have pre1 : ∀ t, Steps p.tables e below (s₁.setTop (mkF m 5 #[.val (.int p0), .val (.int p1), .unset, .unset, .unset, .unset, .unset, .unset, .unset, .unset] [(.int (p0 &&& (2147483647 : Int32))), (.int (1 : Int32))])) t → Steps p.tables e below (s₁.setTop (entryFrame m #[(.int p0), (.int p1)] maxLocals)) t := fun t k => pre0 _ (by
    show Steps p.tables e below (s₁.setTop (mkF m 0 #[.val (.int p0), .val (.int p1), .unset, .unset, .unset, .unset, .unset, .unset, .unset, .unset] [])) _
    refine XT.iconstV X0.here hx rfl (1 : Int32) (hb hby at_0) rfl ?_
    show Steps p.tables e below (s₁.setTop (mkF m 1 #[.val (.int p0), .val (.int p1), .unset, .unset, .unset, .unset, .unset, .unset, .unset, .unset] [(.int (1 : Int32))])) _
    refine XS.iloadN X0.here hx rfl (hb hby at_1) rfl ?_
    show Steps p.tables e below (s₁.setTop (mkF m 2 #[.val (.int p0), .val (.int p1), .unset, .unset, .unset, .unset, .unset, .unset, .unset, .unset] [(.int p0), (.int (1 : Int32))])) _
    refine X0.ldcI hx hown (mvT hZ (hw _ (List.mem_of_getElem? (i := 0) rfl))) rfl (hb hby at_2) ?_
    show Steps p.tables e below (s₁.setTop (mkF m 4 #[.val (.int p0), .val (.int p1), .unset, .unset, .unset, .unset, .unset, .unset, .unset, .unset] [(.int (2147483647 : Int32)), (.int p0), (.int (1 : Int32))])) _
    refine XS.iand X0.here hx rfl (hb hby at_4) rfl ?_
    exact k)
  obtain ⟨_, _, ⟨T2, L2, k2, n2⟩, -, X2, ⟨Lc2, hQ2, l2, y2, z2⟩, st2⟩ := Jvm.LawKit.callS X0 hx (y := (⟨"java/lang/Math", "max", "(II)I"⟩ : MethodName)) hown (mvT hZ (hw _ (List.mem_of_getElem? (i := 1) rfl))) (mvT hZ (hw _ (List.mem_of_getElem? (i := 2) rfl))) (mvT hZ (hw _ (List.mem_of_getElem? (i := 3) rfl))) (mvT hZ (hw _ (List.mem_of_getElem? (i := 4) rfl))) (by decide) (backOf (W := 0) (own_maxC l Z a0 hw [] (1 : Int32) (p0 &&& (2147483647 : Int32)) h0 n0 Z0) hZ (hw _ (List.mem_of_getElem? (i := 4) rfl)) (hw _ (List.mem_of_getElem? (i := 3) rfl)) (by decide) (by decide)) (g := (mkF m 5 #[.val (.int p0), .val (.int p1), .unset, .unset, .unset, .unset, .unset, .unset, .unset, .unset] [(.int (p0 &&& (2147483647 : Int32))), (.int (1 : Int32))])) rfl (by rw [hml]; rfl) (argsL := [(.int (1 : Int32)), (.int (p0 &&& (2147483647 : Int32)))]) (rest := []) (lenOf own_pd__II_I rfl) rfl (by show 2 * 0 + _ ≤ _; exact Nat.le_of_eq rfl) (hb hby at_5) (fun _ _ => ⟨rfl, e0, (by decide : 0 + 0 ≤ _), (by decide : 0 + 0 ≤ _)⟩)
  dsimp only [Pt.U, Pt.locs, Pt.cells, Pt.slots] at X2 l2 y2 z2 st2 hQ2
  subst l2 y2 z2
  obtain ⟨rfl, N2q, e2⟩ := hQ2
  have N2 := Fr.app N0 N2q
  have pre3 : ∀ t, Steps p.tables e below (T2.setTop (mkF m 8 #[.val (.int p0), .val (.int p1), .unset, .unset, .unset, .unset, .unset, .unset, .unset, .unset] [(.int (own_max (1 : Int32) (p0 &&& (2147483647 : Int32))))])) t → Steps p.tables e below (s₁.setTop (entryFrame m #[(.int p0), (.int p1)] maxLocals)) t := fun t k => pre1 _ (st2 _ k)
  obtain ⟨f, hf⟩ : ∃ z : Int32, z = (own_max (1 : Int32) (p0 &&& (2147483647 : Int32))) := ⟨_, rfl⟩
  have pre4 : ∀ t, Steps p.tables e below (T2.setTop (mkF m 8 #[.val (.int p0), .val (.int p1), .unset, .unset, .unset, .unset, .unset, .unset, .unset, .unset] [(.int f)])) t → Steps p.tables e below (s₁.setTop (entryFrame m #[(.int p0), (.int p1)] maxLocals)) t := fun t k => pre3 _ (by rw [hf] at k; exact k)
  have hp := own_pos p0
  rw [← hf] at hp
  have pre5 : ∀ t, Steps p.tables e below (T2.setTop (mkF m 12 #[.val (.int p0), .val (.int p1), .val (.int f), .unset, .unset, .unset, .unset, .unset, .unset, .unset] [(.int (p1 &&& (1 : Int32)))])) t → Steps p.tables e below (s₁.setTop (entryFrame m #[(.int p0), (.int p1)] maxLocals)) t := fun t k => pre4 _ (by
    show Steps p.tables e below (T2.setTop (mkF m 8 #[.val (.int p0), .val (.int p1), .unset, .unset, .unset, .unset, .unset, .unset, .unset, .unset] [(.int f)])) _
    refine XS.istoreN X2.here hx rfl (hb hby at_8) rfl (l' := #[.val (.int p0), .val (.int p1), .val (.int f), .unset, .unset, .unset, .unset, .unset, .unset, .unset]) rfl ?_
    show Steps p.tables e below (T2.setTop (mkF m 9 #[.val (.int p0), .val (.int p1), .val (.int f), .unset, .unset, .unset, .unset, .unset, .unset, .unset] [])) _
    refine XS.iloadN X2.here hx rfl (hb hby at_9) rfl ?_
    show Steps p.tables e below (T2.setTop (mkF m 10 #[.val (.int p0), .val (.int p1), .val (.int f), .unset, .unset, .unset, .unset, .unset, .unset, .unset] [(.int p1)])) _
    refine XT.iconstV X2.here hx rfl (1 : Int32) (hb hby at_10) rfl ?_
    show Steps p.tables e below (T2.setTop (mkF m 11 #[.val (.int p0), .val (.int p1), .val (.int f), .unset, .unset, .unset, .unset, .unset, .unset, .unset] [(.int (1 : Int32)), (.int p1)])) _
    refine XS.iand X2.here hx rfl (hb hby at_11) rfl ?_
    exact k)
  by_cases c12 : (p1 &&& (1 : Int32)) = 0
  · have pre6 : ∀ t, Steps p.tables e below (T2.setTop (mkF m 35 #[.val (.int p0), .val (.int p1), .val (.int f), .val (.int (0 : Int32)), .val (.int f), .unset, .unset, .unset, .unset, .unset] [(.int f)])) t → Steps p.tables e below (s₁.setTop (entryFrame m #[(.int p0), (.int p1)] maxLocals)) t := fun t k => pre5 _ (by
      show Steps p.tables e below (T2.setTop (mkF m 12 #[.val (.int p0), .val (.int p1), .val (.int f), .unset, .unset, .unset, .unset, .unset, .unset, .unset] [(.int (p1 &&& (1 : Int32)))])) _
      refine XS.ifYes X2.here hx rfl (pc0 := 12) (pc' := 19) rfl (hb hby at_12) rfl (XT.i0_eq_t c12) (by decide) (by decide) ?_
      show Steps p.tables e below (T2.setTop (mkF m 19 #[.val (.int p0), .val (.int p1), .val (.int f), .unset, .unset, .unset, .unset, .unset, .unset, .unset] [])) _
      refine XT.iconstV X2.here hx rfl (0 : Int32) (hb hby at_19) rfl ?_
      show Steps p.tables e below (T2.setTop (mkF m 20 #[.val (.int p0), .val (.int p1), .val (.int f), .unset, .unset, .unset, .unset, .unset, .unset, .unset] [(.int (0 : Int32))])) _
      refine XS.istoreN X2.here hx rfl (hb hby at_20) rfl (l' := #[.val (.int p0), .val (.int p1), .val (.int f), .val (.int (0 : Int32)), .unset, .unset, .unset, .unset, .unset, .unset]) rfl ?_
      show Steps p.tables e below (T2.setTop (mkF m 21 #[.val (.int p0), .val (.int p1), .val (.int f), .val (.int (0 : Int32)), .unset, .unset, .unset, .unset, .unset, .unset] [])) _
      refine XS.iloadN X2.here hx rfl (hb hby at_21) rfl ?_
      show Steps p.tables e below (T2.setTop (mkF m 22 #[.val (.int p0), .val (.int p1), .val (.int f), .val (.int (0 : Int32)), .unset, .unset, .unset, .unset, .unset, .unset] [(.int (0 : Int32))])) _
      refine XS.ifYes X2.here hx rfl (pc0 := 22) (pc' := 30) rfl (hb hby at_22) rfl (XT.i0_eq_t rfl) (by decide) (by decide) ?_
      show Steps p.tables e below (T2.setTop (mkF m 30 #[.val (.int p0), .val (.int p1), .val (.int f), .val (.int (0 : Int32)), .unset, .unset, .unset, .unset, .unset, .unset] [])) _
      refine XS.iloadN X2.here hx rfl (hb hby at_30) rfl ?_
      show Steps p.tables e below (T2.setTop (mkF m 31 #[.val (.int p0), .val (.int p1), .val (.int f), .val (.int (0 : Int32)), .unset, .unset, .unset, .unset, .unset, .unset] [(.int f)])) _
      refine XS.istore X2.here hx rfl (hb hby at_31) rfl (l' := #[.val (.int p0), .val (.int p1), .val (.int f), .val (.int (0 : Int32)), .val (.int f), .unset, .unset, .unset, .unset, .unset]) rfl ?_
      show Steps p.tables e below (T2.setTop (mkF m 33 #[.val (.int p0), .val (.int p1), .val (.int f), .val (.int (0 : Int32)), .val (.int f), .unset, .unset, .unset, .unset, .unset] [])) _
      refine XS.iload X2.here hx rfl (hb hby at_33) rfl ?_
      exact k)
    obtain ⟨_, _, ⟨T7, L7, k7, n7⟩, -, X7, ⟨Lc7, hQ7, l7, y7, z7⟩, st7⟩ := Jvm.LawKit.callS X2 hx (y := (⟨"com/example/cultivar/cultivar/FeatureModel", "code", "(I)I"⟩ : MethodName)) hown (mvT hZ (hw _ (List.mem_of_getElem? (i := 5) rfl))) (mvT hZ (hw _ (List.mem_of_getElem? (i := 6) rfl))) (mvT hZ (hw _ (List.mem_of_getElem? (i := 7) rfl))) (mvT hZ (hw _ (List.mem_of_getElem? (i := 8) rfl))) (by decide) (backOf (W := 0) (own_codeC l Z a0 hw [] f h0 n0 Z0) hZ (hw _ (List.mem_of_getElem? (i := 8) rfl)) (hw _ (List.mem_of_getElem? (i := 7) rfl)) (by decide) (by decide)) (g := (mkF m 35 #[.val (.int p0), .val (.int p1), .val (.int f), .val (.int (0 : Int32)), .val (.int f), .unset, .unset, .unset, .unset, .unset] [(.int f)])) rfl (by rw [hml]; rfl) (argsL := [(.int f)]) (rest := []) (lenOf own_pd__I_I rfl) rfl (by show 2 * 0 + _ ≤ _; exact Nat.le_of_eq rfl) (hb hby at_35) (fun _ _ => ⟨rfl, e2, (by decide : 0 + 0 ≤ _), (by decide : 0 + 0 ≤ _)⟩)
    dsimp only [Pt.U, Pt.locs, Pt.cells, Pt.slots] at X7 l7 y7 z7 st7 hQ7
    subst l7 y7 z7
    obtain ⟨rfl, N7q, e7⟩ := hQ7
    have N7 := Fr.app N2 N7q
    have pre8 : ∀ t, Steps p.tables e below (T7.setTop (mkF m 38 #[.val (.int p0), .val (.int p1), .val (.int f), .val (.int (0 : Int32)), .val (.int f), .unset, .unset, .unset, .unset, .unset] [(.int (own_code f))])) t → Steps p.tables e below (s₁.setTop (entryFrame m #[(.int p0), (.int p1)] maxLocals)) t := fun t k => pre6 _ (st7 _ k)
    have pre9 : ∀ t, Steps p.tables e below (T7.setTop (mkF m 43 #[.val (.int p0), .val (.int p1), .val (.int f), .val (.int (0 : Int32)), .val (.int f), .val (.int (own_code f)), .unset, .unset, .unset, .unset] [(.int (-f))])) t → Steps p.tables e below (s₁.setTop (entryFrame m #[(.int p0), (.int p1)] maxLocals)) t := fun t k => pre8 _ (by
      show Steps p.tables e below (T7.setTop (mkF m 38 #[.val (.int p0), .val (.int p1), .val (.int f), .val (.int (0 : Int32)), .val (.int f), .unset, .unset, .unset, .unset, .unset] [(.int (own_code f))])) _
      refine XS.istore X7.here hx rfl (hb hby at_38) rfl (l' := #[.val (.int p0), .val (.int p1), .val (.int f), .val (.int (0 : Int32)), .val (.int f), .val (.int (own_code f)), .unset, .unset, .unset, .unset]) rfl ?_
      show Steps p.tables e below (T7.setTop (mkF m 40 #[.val (.int p0), .val (.int p1), .val (.int f), .val (.int (0 : Int32)), .val (.int f), .val (.int (own_code f)), .unset, .unset, .unset, .unset] [])) _
      refine XS.iload X7.here hx rfl (hb hby at_40) rfl ?_
      show Steps p.tables e below (T7.setTop (mkF m 42 #[.val (.int p0), .val (.int p1), .val (.int f), .val (.int (0 : Int32)), .val (.int f), .val (.int (own_code f)), .unset, .unset, .unset, .unset] [(.int f)])) _
      refine XS.ineg X7.here hx rfl (hb hby at_42) rfl ?_
      exact k)
    obtain ⟨_, _, ⟨T10, L10, k10, n10⟩, -, X10, ⟨Lc10, hQ10, l10, y10, z10⟩, st10⟩ := Jvm.LawKit.callS X7 hx (y := (⟨"com/example/cultivar/cultivar/FeatureModel", "code", "(I)I"⟩ : MethodName)) hown (mvT hZ (hw _ (List.mem_of_getElem? (i := 5) rfl))) (mvT hZ (hw _ (List.mem_of_getElem? (i := 6) rfl))) (mvT hZ (hw _ (List.mem_of_getElem? (i := 7) rfl))) (mvT hZ (hw _ (List.mem_of_getElem? (i := 8) rfl))) (by decide) (backOf (W := 0) (own_codeC l Z a0 hw [] (-f) h0 n0 Z0) hZ (hw _ (List.mem_of_getElem? (i := 8) rfl)) (hw _ (List.mem_of_getElem? (i := 7) rfl)) (by decide) (by decide)) (g := (mkF m 43 #[.val (.int p0), .val (.int p1), .val (.int f), .val (.int (0 : Int32)), .val (.int f), .val (.int (own_code f)), .unset, .unset, .unset, .unset] [(.int (-f))])) rfl (by rw [hml]; rfl) (argsL := [(.int (-f))]) (rest := []) (lenOf own_pd__I_I rfl) rfl (by show 2 * 0 + _ ≤ _; exact Nat.le_of_eq rfl) (hb hby at_43) (fun _ _ => ⟨rfl, e7, (by decide : 0 + 0 ≤ _), (by decide : 0 + 0 ≤ _)⟩)
    dsimp only [Pt.U, Pt.locs, Pt.cells, Pt.slots] at X10 l10 y10 z10 st10 hQ10
    subst l10 y10 z10
    obtain ⟨rfl, N10q, e10⟩ := hQ10
    have N10 := Fr.app N7 N10q
    have pre11 : ∀ t, Steps p.tables e below (T10.setTop (mkF m 46 #[.val (.int p0), .val (.int p1), .val (.int f), .val (.int (0 : Int32)), .val (.int f), .val (.int (own_code f)), .unset, .unset, .unset, .unset] [(.int (own_code (-f)))])) t → Steps p.tables e below (s₁.setTop (entryFrame m #[(.int p0), (.int p1)] maxLocals)) t := fun t k => pre9 _ (st10 _ k)
    have pre12 : ∀ t, Steps p.tables e below (T10.setTop (mkF m 122 #[.val (.int p0), .val (.int p1), .val (.int f), .val (.int (0 : Int32)), .val (.int f), .val (.int (own_code f)), .val (.int (own_code (-f))), .val (.int (1 : Int32)), .val (.int (1 : Int32)), .val (.int (1 : Int32))] [(.int (1 : Int32))])) t → Steps p.tables e below (s₁.setTop (entryFrame m #[(.int p0), (.int p1)] maxLocals)) t := fun t k => pre11 _ (by
      show Steps p.tables e below (T10.setTop (mkF m 46 #[.val (.int p0), .val (.int p1), .val (.int f), .val (.int (0 : Int32)), .val (.int f), .val (.int (own_code f)), .unset, .unset, .unset, .unset] [(.int (own_code (-f)))])) _
      refine XS.istore X10.here hx rfl (hb hby at_46) rfl (l' := #[.val (.int p0), .val (.int p1), .val (.int f), .val (.int (0 : Int32)), .val (.int f), .val (.int (own_code f)), .val (.int (own_code (-f))), .unset, .unset, .unset]) rfl ?_
      show Steps p.tables e below (T10.setTop (mkF m 48 #[.val (.int p0), .val (.int p1), .val (.int f), .val (.int (0 : Int32)), .val (.int f), .val (.int (own_code f)), .val (.int (own_code (-f))), .unset, .unset, .unset] [])) _
      refine XS.iload X10.here hx rfl (hb hby at_48) rfl ?_
      show Steps p.tables e below (T10.setTop (mkF m 50 #[.val (.int p0), .val (.int p1), .val (.int f), .val (.int (0 : Int32)), .val (.int f), .val (.int (own_code f)), .val (.int (own_code (-f))), .unset, .unset, .unset] [(.int (own_code f))])) _
      refine XT.iconstV X10.here hx rfl (1 : Int32) (hb hby at_50) rfl ?_
      show Steps p.tables e below (T10.setTop (mkF m 51 #[.val (.int p0), .val (.int p1), .val (.int f), .val (.int (0 : Int32)), .val (.int f), .val (.int (own_code f)), .val (.int (own_code (-f))), .unset, .unset, .unset] [(.int (1 : Int32)), (.int (own_code f))])) _
      refine XS.iushr X10.here hx rfl (hb hby at_51) rfl ?_
      show Steps p.tables e below (T10.setTop (mkF m 52 #[.val (.int p0), .val (.int p1), .val (.int f), .val (.int (0 : Int32)), .val (.int f), .val (.int (own_code f)), .val (.int (own_code (-f))), .unset, .unset, .unset] [(.int (((own_code f).toUInt32 >>> ((1 : Int32) &&& 31).toUInt32).toInt32))])) _
      refine XS.iloadN X10.here hx rfl (hb hby at_52) rfl ?_
      show Steps p.tables e below (T10.setTop (mkF m 53 #[.val (.int p0), .val (.int p1), .val (.int f), .val (.int (0 : Int32)), .val (.int f), .val (.int (own_code f)), .val (.int (own_code (-f))), .unset, .unset, .unset] [(.int f), (.int (((own_code f).toUInt32 >>> ((1 : Int32) &&& 31).toUInt32).toInt32))])) _
      refine XS.icmpNo X10.here hx rfl (hb hby at_53) rfl (XT.ii_ne_f (by rw [(own_cp hp)]; exact own_back hp (Or.inl rfl))) ?_
      show Steps p.tables e below (T10.setTop (mkF m 56 #[.val (.int p0), .val (.int p1), .val (.int f), .val (.int (0 : Int32)), .val (.int f), .val (.int (own_code f)), .val (.int (own_code (-f))), .unset, .unset, .unset] [])) _
      refine XT.iconstV X10.here hx rfl (1 : Int32) (hb hby at_56) rfl ?_
      show Steps p.tables e below (T10.setTop (mkF m 57 #[.val (.int p0), .val (.int p1), .val (.int f), .val (.int (0 : Int32)), .val (.int f), .val (.int (own_code f)), .val (.int (own_code (-f))), .unset, .unset, .unset] [(.int (1 : Int32))])) _
      refine XS.goto X10.here hx rfl (pc0 := 57) (pc' := 61) rfl (hb hby at_57) (by decide) (by decide) ?_
      show Steps p.tables e below (T10.setTop (mkF m 61 #[.val (.int p0), .val (.int p1), .val (.int f), .val (.int (0 : Int32)), .val (.int f), .val (.int (own_code f)), .val (.int (own_code (-f))), .unset, .unset, .unset] [(.int (1 : Int32))])) _
      refine XS.istore X10.here hx rfl (hb hby at_61) rfl (l' := #[.val (.int p0), .val (.int p1), .val (.int f), .val (.int (0 : Int32)), .val (.int f), .val (.int (own_code f)), .val (.int (own_code (-f))), .val (.int (1 : Int32)), .unset, .unset]) rfl ?_
      show Steps p.tables e below (T10.setTop (mkF m 63 #[.val (.int p0), .val (.int p1), .val (.int f), .val (.int (0 : Int32)), .val (.int f), .val (.int (own_code f)), .val (.int (own_code (-f))), .val (.int (1 : Int32)), .unset, .unset] [])) _
      refine XS.iload X10.here hx rfl (hb hby at_63) rfl ?_
      show Steps p.tables e below (T10.setTop (mkF m 65 #[.val (.int p0), .val (.int p1), .val (.int f), .val (.int (0 : Int32)), .val (.int f), .val (.int (own_code f)), .val (.int (own_code (-f))), .val (.int (1 : Int32)), .unset, .unset] [(.int (own_code f))])) _
      refine XT.iconstV X10.here hx rfl (1 : Int32) (hb hby at_65) rfl ?_
      show Steps p.tables e below (T10.setTop (mkF m 66 #[.val (.int p0), .val (.int p1), .val (.int f), .val (.int (0 : Int32)), .val (.int f), .val (.int (own_code f)), .val (.int (own_code (-f))), .val (.int (1 : Int32)), .unset, .unset] [(.int (1 : Int32)), (.int (own_code f))])) _
      refine XS.iand X10.here hx rfl (hb hby at_66) rfl ?_
      show Steps p.tables e below (T10.setTop (mkF m 67 #[.val (.int p0), .val (.int p1), .val (.int f), .val (.int (0 : Int32)), .val (.int f), .val (.int (own_code f)), .val (.int (own_code (-f))), .val (.int (1 : Int32)), .unset, .unset] [(.int ((own_code f) &&& (1 : Int32)))])) _
      refine XS.iloadN X10.here hx rfl (hb hby at_67) rfl ?_
      show Steps p.tables e below (T10.setTop (mkF m 68 #[.val (.int p0), .val (.int p1), .val (.int f), .val (.int (0 : Int32)), .val (.int f), .val (.int (own_code f)), .val (.int (own_code (-f))), .val (.int (1 : Int32)), .unset, .unset] [(.int (0 : Int32)), (.int ((own_code f) &&& (1 : Int32)))])) _
      refine XS.ifYes X10.here hx rfl (pc0 := 68) (pc' := 75) rfl (hb hby at_68) rfl (XT.i0_eq_t rfl) (by decide) (by decide) ?_
      show Steps p.tables e below (T10.setTop (mkF m 75 #[.val (.int p0), .val (.int p1), .val (.int f), .val (.int (0 : Int32)), .val (.int f), .val (.int (own_code f)), .val (.int (own_code (-f))), .val (.int (1 : Int32)), .unset, .unset] [(.int ((own_code f) &&& (1 : Int32)))])) _
      refine XT.iconstV X10.here hx rfl (0 : Int32) (hb hby at_75) rfl ?_
      show Steps p.tables e below (T10.setTop (mkF m 76 #[.val (.int p0), .val (.int p1), .val (.int f), .val (.int (0 : Int32)), .val (.int f), .val (.int (own_code f)), .val (.int (own_code (-f))), .val (.int (1 : Int32)), .unset, .unset] [(.int (0 : Int32)), (.int ((own_code f) &&& (1 : Int32)))])) _
      refine XS.icmpNo X10.here hx rfl (hb hby at_76) rfl (XT.ii_ne_f (by rw [(own_cp hp)]; exact own_low (Or.inl rfl))) ?_
      show Steps p.tables e below (T10.setTop (mkF m 79 #[.val (.int p0), .val (.int p1), .val (.int f), .val (.int (0 : Int32)), .val (.int f), .val (.int (own_code f)), .val (.int (own_code (-f))), .val (.int (1 : Int32)), .unset, .unset] [])) _
      refine XT.iconstV X10.here hx rfl (1 : Int32) (hb hby at_79) rfl ?_
      show Steps p.tables e below (T10.setTop (mkF m 80 #[.val (.int p0), .val (.int p1), .val (.int f), .val (.int (0 : Int32)), .val (.int f), .val (.int (own_code f)), .val (.int (own_code (-f))), .val (.int (1 : Int32)), .unset, .unset] [(.int (1 : Int32))])) _
      refine XS.goto X10.here hx rfl (pc0 := 80) (pc' := 84) rfl (hb hby at_80) (by decide) (by decide) ?_
      show Steps p.tables e below (T10.setTop (mkF m 84 #[.val (.int p0), .val (.int p1), .val (.int f), .val (.int (0 : Int32)), .val (.int f), .val (.int (own_code f)), .val (.int (own_code (-f))), .val (.int (1 : Int32)), .unset, .unset] [(.int (1 : Int32))])) _
      refine XS.istore X10.here hx rfl (hb hby at_84) rfl (l' := #[.val (.int p0), .val (.int p1), .val (.int f), .val (.int (0 : Int32)), .val (.int f), .val (.int (own_code f)), .val (.int (own_code (-f))), .val (.int (1 : Int32)), .val (.int (1 : Int32)), .unset]) rfl ?_
      show Steps p.tables e below (T10.setTop (mkF m 86 #[.val (.int p0), .val (.int p1), .val (.int f), .val (.int (0 : Int32)), .val (.int f), .val (.int (own_code f)), .val (.int (own_code (-f))), .val (.int (1 : Int32)), .val (.int (1 : Int32)), .unset] [])) _
      refine XS.iload X10.here hx rfl (hb hby at_86) rfl ?_
      show Steps p.tables e below (T10.setTop (mkF m 88 #[.val (.int p0), .val (.int p1), .val (.int f), .val (.int (0 : Int32)), .val (.int f), .val (.int (own_code f)), .val (.int (own_code (-f))), .val (.int (1 : Int32)), .val (.int (1 : Int32)), .unset] [(.int (own_code (-f)))])) _
      refine XS.iload X10.here hx rfl (hb hby at_88) rfl ?_
      show Steps p.tables e below (T10.setTop (mkF m 90 #[.val (.int p0), .val (.int p1), .val (.int f), .val (.int (0 : Int32)), .val (.int f), .val (.int (own_code f)), .val (.int (own_code (-f))), .val (.int (1 : Int32)), .val (.int (1 : Int32)), .unset] [(.int (own_code f)), (.int (own_code (-f)))])) _
      refine XT.iconstV X10.here hx rfl (1 : Int32) (hb hby at_90) rfl ?_
      show Steps p.tables e below (T10.setTop (mkF m 91 #[.val (.int p0), .val (.int p1), .val (.int f), .val (.int (0 : Int32)), .val (.int f), .val (.int (own_code f)), .val (.int (own_code (-f))), .val (.int (1 : Int32)), .val (.int (1 : Int32)), .unset] [(.int (1 : Int32)), (.int (own_code f)), (.int (own_code (-f)))])) _
      refine XS.ixor X10.here hx rfl (hb hby at_91) rfl ?_
      show Steps p.tables e below (T10.setTop (mkF m 92 #[.val (.int p0), .val (.int p1), .val (.int f), .val (.int (0 : Int32)), .val (.int f), .val (.int (own_code f)), .val (.int (own_code (-f))), .val (.int (1 : Int32)), .val (.int (1 : Int32)), .unset] [(.int ((own_code f) ^^^ (1 : Int32))), (.int (own_code (-f)))])) _
      refine XS.icmpNo X10.here hx rfl (hb hby at_92) rfl (XT.ii_ne_f (by rw [own_cp hp, own_cn hp]; exact own_flip f)) ?_
      show Steps p.tables e below (T10.setTop (mkF m 95 #[.val (.int p0), .val (.int p1), .val (.int f), .val (.int (0 : Int32)), .val (.int f), .val (.int (own_code f)), .val (.int (own_code (-f))), .val (.int (1 : Int32)), .val (.int (1 : Int32)), .unset] [])) _
      refine XT.iconstV X10.here hx rfl (1 : Int32) (hb hby at_95) rfl ?_
      show Steps p.tables e below (T10.setTop (mkF m 96 #[.val (.int p0), .val (.int p1), .val (.int f), .val (.int (0 : Int32)), .val (.int f), .val (.int (own_code f)), .val (.int (own_code (-f))), .val (.int (1 : Int32)), .val (.int (1 : Int32)), .unset] [(.int (1 : Int32))])) _
      refine XS.goto X10.here hx rfl (pc0 := 96) (pc' := 100) rfl (hb hby at_96) (by decide) (by decide) ?_
      show Steps p.tables e below (T10.setTop (mkF m 100 #[.val (.int p0), .val (.int p1), .val (.int f), .val (.int (0 : Int32)), .val (.int f), .val (.int (own_code f)), .val (.int (own_code (-f))), .val (.int (1 : Int32)), .val (.int (1 : Int32)), .unset] [(.int (1 : Int32))])) _
      refine XS.istore X10.here hx rfl (hb hby at_100) rfl (l' := #[.val (.int p0), .val (.int p1), .val (.int f), .val (.int (0 : Int32)), .val (.int f), .val (.int (own_code f)), .val (.int (own_code (-f))), .val (.int (1 : Int32)), .val (.int (1 : Int32)), .val (.int (1 : Int32))]) rfl ?_
      show Steps p.tables e below (T10.setTop (mkF m 102 #[.val (.int p0), .val (.int p1), .val (.int f), .val (.int (0 : Int32)), .val (.int f), .val (.int (own_code f)), .val (.int (own_code (-f))), .val (.int (1 : Int32)), .val (.int (1 : Int32)), .val (.int (1 : Int32))] [])) _
      refine XS.iload X10.here hx rfl (hb hby at_102) rfl ?_
      show Steps p.tables e below (T10.setTop (mkF m 104 #[.val (.int p0), .val (.int p1), .val (.int f), .val (.int (0 : Int32)), .val (.int f), .val (.int (own_code f)), .val (.int (own_code (-f))), .val (.int (1 : Int32)), .val (.int (1 : Int32)), .val (.int (1 : Int32))] [(.int (1 : Int32))])) _
      refine XS.ifNo X10.here hx rfl (hb hby at_104) rfl (XT.i0_eq_f (by decide)) ?_
      show Steps p.tables e below (T10.setTop (mkF m 107 #[.val (.int p0), .val (.int p1), .val (.int f), .val (.int (0 : Int32)), .val (.int f), .val (.int (own_code f)), .val (.int (own_code (-f))), .val (.int (1 : Int32)), .val (.int (1 : Int32)), .val (.int (1 : Int32))] [])) _
      refine XS.iload X10.here hx rfl (hb hby at_107) rfl ?_
      show Steps p.tables e below (T10.setTop (mkF m 109 #[.val (.int p0), .val (.int p1), .val (.int f), .val (.int (0 : Int32)), .val (.int f), .val (.int (own_code f)), .val (.int (own_code (-f))), .val (.int (1 : Int32)), .val (.int (1 : Int32)), .val (.int (1 : Int32))] [(.int (1 : Int32))])) _
      refine XS.ifNo X10.here hx rfl (hb hby at_109) rfl (XT.i0_eq_f (by decide)) ?_
      show Steps p.tables e below (T10.setTop (mkF m 112 #[.val (.int p0), .val (.int p1), .val (.int f), .val (.int (0 : Int32)), .val (.int f), .val (.int (own_code f)), .val (.int (own_code (-f))), .val (.int (1 : Int32)), .val (.int (1 : Int32)), .val (.int (1 : Int32))] [])) _
      refine XS.iload X10.here hx rfl (hb hby at_112) rfl ?_
      show Steps p.tables e below (T10.setTop (mkF m 114 #[.val (.int p0), .val (.int p1), .val (.int f), .val (.int (0 : Int32)), .val (.int f), .val (.int (own_code f)), .val (.int (own_code (-f))), .val (.int (1 : Int32)), .val (.int (1 : Int32)), .val (.int (1 : Int32))] [(.int (1 : Int32))])) _
      refine XS.ifNo X10.here hx rfl (hb hby at_114) rfl (XT.i0_eq_f (by decide)) ?_
      show Steps p.tables e below (T10.setTop (mkF m 117 #[.val (.int p0), .val (.int p1), .val (.int f), .val (.int (0 : Int32)), .val (.int f), .val (.int (own_code f)), .val (.int (own_code (-f))), .val (.int (1 : Int32)), .val (.int (1 : Int32)), .val (.int (1 : Int32))] [])) _
      refine XT.iconstV X10.here hx rfl (1 : Int32) (hb hby at_117) rfl ?_
      show Steps p.tables e below (T10.setTop (mkF m 118 #[.val (.int p0), .val (.int p1), .val (.int f), .val (.int (0 : Int32)), .val (.int f), .val (.int (own_code f)), .val (.int (own_code (-f))), .val (.int (1 : Int32)), .val (.int (1 : Int32)), .val (.int (1 : Int32))] [(.int (1 : Int32))])) _
      refine XS.goto X10.here hx rfl (pc0 := 118) (pc' := 122) rfl (hb hby at_118) (by decide) (by decide) ?_
      exact k)
    obtain ⟨fs, hr, hrun, hended, hW, hsame⟩ := X10.leave (v := some (.int (1 : Int32))) (fun h => by rw [Bd.returns] at h; cases h)
    refine ⟨_, _, pre12 _ ?_, hrun, hended, _, _, rfl, ?_, ⟨_, rfl⟩, hW, hsame.mono (by decide) (by decide)⟩
    · show Steps p.tables e below (T10.setTop (mkF m 122 #[.val (.int p0), .val (.int p1), .val (.int f), .val (.int (0 : Int32)), .val (.int f), .val (.int (own_code f)), .val (.int (own_code (-f))), .val (.int (1 : Int32)), .val (.int (1 : Int32)), .val (.int (1 : Int32))] [(.int (1 : Int32))])) _
      exact retN X10 hx (t := .boolean) Bd.returns (by simp) (hb hby at_122) hr
    · show Q_own_law Z p0 p1 h0 n0 _ T10.heap _
      rw [e10]
      exact ⟨rfl, N10⟩
  · have pre13 : ∀ t, Steps p.tables e below (T2.setTop (mkF m 35 #[.val (.int p0), .val (.int p1), .val (.int f), .val (.int (1 : Int32)), .val (.int (-f)), .unset, .unset, .unset, .unset, .unset] [(.int (-f))])) t → Steps p.tables e below (s₁.setTop (entryFrame m #[(.int p0), (.int p1)] maxLocals)) t := fun t k => pre5 _ (by
      show Steps p.tables e below (T2.setTop (mkF m 12 #[.val (.int p0), .val (.int p1), .val (.int f), .unset, .unset, .unset, .unset, .unset, .unset, .unset] [(.int (p1 &&& (1 : Int32)))])) _
      refine XS.ifNo X2.here hx rfl (hb hby at_12) rfl (XT.i0_eq_f c12) ?_
      show Steps p.tables e below (T2.setTop (mkF m 15 #[.val (.int p0), .val (.int p1), .val (.int f), .unset, .unset, .unset, .unset, .unset, .unset, .unset] [])) _
      refine XT.iconstV X2.here hx rfl (1 : Int32) (hb hby at_15) rfl ?_
      show Steps p.tables e below (T2.setTop (mkF m 16 #[.val (.int p0), .val (.int p1), .val (.int f), .unset, .unset, .unset, .unset, .unset, .unset, .unset] [(.int (1 : Int32))])) _
      refine XS.goto X2.here hx rfl (pc0 := 16) (pc' := 20) rfl (hb hby at_16) (by decide) (by decide) ?_
      show Steps p.tables e below (T2.setTop (mkF m 20 #[.val (.int p0), .val (.int p1), .val (.int f), .unset, .unset, .unset, .unset, .unset, .unset, .unset] [(.int (1 : Int32))])) _
      refine XS.istoreN X2.here hx rfl (hb hby at_20) rfl (l' := #[.val (.int p0), .val (.int p1), .val (.int f), .val (.int (1 : Int32)), .unset, .unset, .unset, .unset, .unset, .unset]) rfl ?_
      show Steps p.tables e below (T2.setTop (mkF m 21 #[.val (.int p0), .val (.int p1), .val (.int f), .val (.int (1 : Int32)), .unset, .unset, .unset, .unset, .unset, .unset] [])) _
      refine XS.iloadN X2.here hx rfl (hb hby at_21) rfl ?_
      show Steps p.tables e below (T2.setTop (mkF m 22 #[.val (.int p0), .val (.int p1), .val (.int f), .val (.int (1 : Int32)), .unset, .unset, .unset, .unset, .unset, .unset] [(.int (1 : Int32))])) _
      refine XS.ifNo X2.here hx rfl (hb hby at_22) rfl (XT.i0_eq_f (by decide)) ?_
      show Steps p.tables e below (T2.setTop (mkF m 25 #[.val (.int p0), .val (.int p1), .val (.int f), .val (.int (1 : Int32)), .unset, .unset, .unset, .unset, .unset, .unset] [])) _
      refine XS.iloadN X2.here hx rfl (hb hby at_25) rfl ?_
      show Steps p.tables e below (T2.setTop (mkF m 26 #[.val (.int p0), .val (.int p1), .val (.int f), .val (.int (1 : Int32)), .unset, .unset, .unset, .unset, .unset, .unset] [(.int f)])) _
      refine XS.ineg X2.here hx rfl (hb hby at_26) rfl ?_
      show Steps p.tables e below (T2.setTop (mkF m 27 #[.val (.int p0), .val (.int p1), .val (.int f), .val (.int (1 : Int32)), .unset, .unset, .unset, .unset, .unset, .unset] [(.int (-f))])) _
      refine XS.goto X2.here hx rfl (pc0 := 27) (pc' := 31) rfl (hb hby at_27) (by decide) (by decide) ?_
      show Steps p.tables e below (T2.setTop (mkF m 31 #[.val (.int p0), .val (.int p1), .val (.int f), .val (.int (1 : Int32)), .unset, .unset, .unset, .unset, .unset, .unset] [(.int (-f))])) _
      refine XS.istore X2.here hx rfl (hb hby at_31) rfl (l' := #[.val (.int p0), .val (.int p1), .val (.int f), .val (.int (1 : Int32)), .val (.int (-f)), .unset, .unset, .unset, .unset, .unset]) rfl ?_
      show Steps p.tables e below (T2.setTop (mkF m 33 #[.val (.int p0), .val (.int p1), .val (.int f), .val (.int (1 : Int32)), .val (.int (-f)), .unset, .unset, .unset, .unset, .unset] [])) _
      refine XS.iload X2.here hx rfl (hb hby at_33) rfl ?_
      exact k)
    obtain ⟨_, _, ⟨T14, L14, k14, n14⟩, -, X14, ⟨Lc14, hQ14, l14, y14, z14⟩, st14⟩ := Jvm.LawKit.callS X2 hx (y := (⟨"com/example/cultivar/cultivar/FeatureModel", "code", "(I)I"⟩ : MethodName)) hown (mvT hZ (hw _ (List.mem_of_getElem? (i := 5) rfl))) (mvT hZ (hw _ (List.mem_of_getElem? (i := 6) rfl))) (mvT hZ (hw _ (List.mem_of_getElem? (i := 7) rfl))) (mvT hZ (hw _ (List.mem_of_getElem? (i := 8) rfl))) (by decide) (backOf (W := 0) (own_codeC l Z a0 hw [] (-f) h0 n0 Z0) hZ (hw _ (List.mem_of_getElem? (i := 8) rfl)) (hw _ (List.mem_of_getElem? (i := 7) rfl)) (by decide) (by decide)) (g := (mkF m 35 #[.val (.int p0), .val (.int p1), .val (.int f), .val (.int (1 : Int32)), .val (.int (-f)), .unset, .unset, .unset, .unset, .unset] [(.int (-f))])) rfl (by rw [hml]; rfl) (argsL := [(.int (-f))]) (rest := []) (lenOf own_pd__I_I rfl) rfl (by show 2 * 0 + _ ≤ _; exact Nat.le_of_eq rfl) (hb hby at_35) (fun _ _ => ⟨rfl, e2, (by decide : 0 + 0 ≤ _), (by decide : 0 + 0 ≤ _)⟩)
    dsimp only [Pt.U, Pt.locs, Pt.cells, Pt.slots] at X14 l14 y14 z14 st14 hQ14
    subst l14 y14 z14
    obtain ⟨rfl, N14q, e14⟩ := hQ14
    have N14 := Fr.app N2 N14q
    have pre15 : ∀ t, Steps p.tables e below (T14.setTop (mkF m 38 #[.val (.int p0), .val (.int p1), .val (.int f), .val (.int (1 : Int32)), .val (.int (-f)), .unset, .unset, .unset, .unset, .unset] [(.int (own_code (-f)))])) t → Steps p.tables e below (s₁.setTop (entryFrame m #[(.int p0), (.int p1)] maxLocals)) t := fun t k => pre13 _ (st14 _ k)
    have pre16 : ∀ t, Steps p.tables e below (T14.setTop (mkF m 43 #[.val (.int p0), .val (.int p1), .val (.int f), .val (.int (1 : Int32)), .val (.int (-f)), .val (.int (own_code (-f))), .unset, .unset, .unset, .unset] [(.int (-(-f)))])) t → Steps p.tables e below (s₁.setTop (entryFrame m #[(.int p0), (.int p1)] maxLocals)) t := fun t k => pre15 _ (by
      show Steps p.tables e below (T14.setTop (mkF m 38 #[.val (.int p0), .val (.int p1), .val (.int f), .val (.int (1 : Int32)), .val (.int (-f)), .unset, .unset, .unset, .unset, .unset] [(.int (own_code (-f)))])) _
      refine XS.istore X14.here hx rfl (hb hby at_38) rfl (l' := #[.val (.int p0), .val (.int p1), .val (.int f), .val (.int (1 : Int32)), .val (.int (-f)), .val (.int (own_code (-f))), .unset, .unset, .unset, .unset]) rfl ?_
      show Steps p.tables e below (T14.setTop (mkF m 40 #[.val (.int p0), .val (.int p1), .val (.int f), .val (.int (1 : Int32)), .val (.int (-f)), .val (.int (own_code (-f))), .unset, .unset, .unset, .unset] [])) _
      refine XS.iload X14.here hx rfl (hb hby at_40) rfl ?_
      show Steps p.tables e below (T14.setTop (mkF m 42 #[.val (.int p0), .val (.int p1), .val (.int f), .val (.int (1 : Int32)), .val (.int (-f)), .val (.int (own_code (-f))), .unset, .unset, .unset, .unset] [(.int (-f))])) _
      refine XS.ineg X14.here hx rfl (hb hby at_42) rfl ?_
      exact k)
    obtain ⟨_, _, ⟨T17, L17, k17, n17⟩, -, X17, ⟨Lc17, hQ17, l17, y17, z17⟩, st17⟩ := Jvm.LawKit.callS X14 hx (y := (⟨"com/example/cultivar/cultivar/FeatureModel", "code", "(I)I"⟩ : MethodName)) hown (mvT hZ (hw _ (List.mem_of_getElem? (i := 5) rfl))) (mvT hZ (hw _ (List.mem_of_getElem? (i := 6) rfl))) (mvT hZ (hw _ (List.mem_of_getElem? (i := 7) rfl))) (mvT hZ (hw _ (List.mem_of_getElem? (i := 8) rfl))) (by decide) (backOf (W := 0) (own_codeC l Z a0 hw [] (-(-f)) h0 n0 Z0) hZ (hw _ (List.mem_of_getElem? (i := 8) rfl)) (hw _ (List.mem_of_getElem? (i := 7) rfl)) (by decide) (by decide)) (g := (mkF m 43 #[.val (.int p0), .val (.int p1), .val (.int f), .val (.int (1 : Int32)), .val (.int (-f)), .val (.int (own_code (-f))), .unset, .unset, .unset, .unset] [(.int (-(-f)))])) rfl (by rw [hml]; rfl) (argsL := [(.int (-(-f)))]) (rest := []) (lenOf own_pd__I_I rfl) rfl (by show 2 * 0 + _ ≤ _; exact Nat.le_of_eq rfl) (hb hby at_43) (fun _ _ => ⟨rfl, e14, (by decide : 0 + 0 ≤ _), (by decide : 0 + 0 ≤ _)⟩)
    dsimp only [Pt.U, Pt.locs, Pt.cells, Pt.slots] at X17 l17 y17 z17 st17 hQ17
    subst l17 y17 z17
    obtain ⟨rfl, N17q, e17⟩ := hQ17
    have N17 := Fr.app N14 N17q
    have pre18 : ∀ t, Steps p.tables e below (T17.setTop (mkF m 46 #[.val (.int p0), .val (.int p1), .val (.int f), .val (.int (1 : Int32)), .val (.int (-f)), .val (.int (own_code (-f))), .unset, .unset, .unset, .unset] [(.int (own_code (-(-f))))])) t → Steps p.tables e below (s₁.setTop (entryFrame m #[(.int p0), (.int p1)] maxLocals)) t := fun t k => pre16 _ (st17 _ k)
    have pre19 : ∀ t, Steps p.tables e below (T17.setTop (mkF m 122 #[.val (.int p0), .val (.int p1), .val (.int f), .val (.int (1 : Int32)), .val (.int (-f)), .val (.int (own_code (-f))), .val (.int (own_code (-(-f)))), .val (.int (1 : Int32)), .val (.int (1 : Int32)), .val (.int (1 : Int32))] [(.int (1 : Int32))])) t → Steps p.tables e below (s₁.setTop (entryFrame m #[(.int p0), (.int p1)] maxLocals)) t := fun t k => pre18 _ (by
      show Steps p.tables e below (T17.setTop (mkF m 46 #[.val (.int p0), .val (.int p1), .val (.int f), .val (.int (1 : Int32)), .val (.int (-f)), .val (.int (own_code (-f))), .unset, .unset, .unset, .unset] [(.int (own_code (-(-f))))])) _
      refine XS.istore X17.here hx rfl (hb hby at_46) rfl (l' := #[.val (.int p0), .val (.int p1), .val (.int f), .val (.int (1 : Int32)), .val (.int (-f)), .val (.int (own_code (-f))), .val (.int (own_code (-(-f)))), .unset, .unset, .unset]) rfl ?_
      show Steps p.tables e below (T17.setTop (mkF m 48 #[.val (.int p0), .val (.int p1), .val (.int f), .val (.int (1 : Int32)), .val (.int (-f)), .val (.int (own_code (-f))), .val (.int (own_code (-(-f)))), .unset, .unset, .unset] [])) _
      refine XS.iload X17.here hx rfl (hb hby at_48) rfl ?_
      show Steps p.tables e below (T17.setTop (mkF m 50 #[.val (.int p0), .val (.int p1), .val (.int f), .val (.int (1 : Int32)), .val (.int (-f)), .val (.int (own_code (-f))), .val (.int (own_code (-(-f)))), .unset, .unset, .unset] [(.int (own_code (-f)))])) _
      refine XT.iconstV X17.here hx rfl (1 : Int32) (hb hby at_50) rfl ?_
      show Steps p.tables e below (T17.setTop (mkF m 51 #[.val (.int p0), .val (.int p1), .val (.int f), .val (.int (1 : Int32)), .val (.int (-f)), .val (.int (own_code (-f))), .val (.int (own_code (-(-f)))), .unset, .unset, .unset] [(.int (1 : Int32)), (.int (own_code (-f)))])) _
      refine XS.iushr X17.here hx rfl (hb hby at_51) rfl ?_
      show Steps p.tables e below (T17.setTop (mkF m 52 #[.val (.int p0), .val (.int p1), .val (.int f), .val (.int (1 : Int32)), .val (.int (-f)), .val (.int (own_code (-f))), .val (.int (own_code (-(-f)))), .unset, .unset, .unset] [(.int (((own_code (-f)).toUInt32 >>> ((1 : Int32) &&& 31).toUInt32).toInt32))])) _
      refine XS.iloadN X17.here hx rfl (hb hby at_52) rfl ?_
      show Steps p.tables e below (T17.setTop (mkF m 53 #[.val (.int p0), .val (.int p1), .val (.int f), .val (.int (1 : Int32)), .val (.int (-f)), .val (.int (own_code (-f))), .val (.int (own_code (-(-f)))), .unset, .unset, .unset] [(.int f), (.int (((own_code (-f)).toUInt32 >>> ((1 : Int32) &&& 31).toUInt32).toInt32))])) _
      refine XS.icmpNo X17.here hx rfl (hb hby at_53) rfl (XT.ii_ne_f (by rw [(own_cn hp)]; exact own_back hp (Or.inr rfl))) ?_
      show Steps p.tables e below (T17.setTop (mkF m 56 #[.val (.int p0), .val (.int p1), .val (.int f), .val (.int (1 : Int32)), .val (.int (-f)), .val (.int (own_code (-f))), .val (.int (own_code (-(-f)))), .unset, .unset, .unset] [])) _
      refine XT.iconstV X17.here hx rfl (1 : Int32) (hb hby at_56) rfl ?_
      show Steps p.tables e below (T17.setTop (mkF m 57 #[.val (.int p0), .val (.int p1), .val (.int f), .val (.int (1 : Int32)), .val (.int (-f)), .val (.int (own_code (-f))), .val (.int (own_code (-(-f)))), .unset, .unset, .unset] [(.int (1 : Int32))])) _
      refine XS.goto X17.here hx rfl (pc0 := 57) (pc' := 61) rfl (hb hby at_57) (by decide) (by decide) ?_
      show Steps p.tables e below (T17.setTop (mkF m 61 #[.val (.int p0), .val (.int p1), .val (.int f), .val (.int (1 : Int32)), .val (.int (-f)), .val (.int (own_code (-f))), .val (.int (own_code (-(-f)))), .unset, .unset, .unset] [(.int (1 : Int32))])) _
      refine XS.istore X17.here hx rfl (hb hby at_61) rfl (l' := #[.val (.int p0), .val (.int p1), .val (.int f), .val (.int (1 : Int32)), .val (.int (-f)), .val (.int (own_code (-f))), .val (.int (own_code (-(-f)))), .val (.int (1 : Int32)), .unset, .unset]) rfl ?_
      show Steps p.tables e below (T17.setTop (mkF m 63 #[.val (.int p0), .val (.int p1), .val (.int f), .val (.int (1 : Int32)), .val (.int (-f)), .val (.int (own_code (-f))), .val (.int (own_code (-(-f)))), .val (.int (1 : Int32)), .unset, .unset] [])) _
      refine XS.iload X17.here hx rfl (hb hby at_63) rfl ?_
      show Steps p.tables e below (T17.setTop (mkF m 65 #[.val (.int p0), .val (.int p1), .val (.int f), .val (.int (1 : Int32)), .val (.int (-f)), .val (.int (own_code (-f))), .val (.int (own_code (-(-f)))), .val (.int (1 : Int32)), .unset, .unset] [(.int (own_code (-f)))])) _
      refine XT.iconstV X17.here hx rfl (1 : Int32) (hb hby at_65) rfl ?_
      show Steps p.tables e below (T17.setTop (mkF m 66 #[.val (.int p0), .val (.int p1), .val (.int f), .val (.int (1 : Int32)), .val (.int (-f)), .val (.int (own_code (-f))), .val (.int (own_code (-(-f)))), .val (.int (1 : Int32)), .unset, .unset] [(.int (1 : Int32)), (.int (own_code (-f)))])) _
      refine XS.iand X17.here hx rfl (hb hby at_66) rfl ?_
      show Steps p.tables e below (T17.setTop (mkF m 67 #[.val (.int p0), .val (.int p1), .val (.int f), .val (.int (1 : Int32)), .val (.int (-f)), .val (.int (own_code (-f))), .val (.int (own_code (-(-f)))), .val (.int (1 : Int32)), .unset, .unset] [(.int ((own_code (-f)) &&& (1 : Int32)))])) _
      refine XS.iloadN X17.here hx rfl (hb hby at_67) rfl ?_
      show Steps p.tables e below (T17.setTop (mkF m 68 #[.val (.int p0), .val (.int p1), .val (.int f), .val (.int (1 : Int32)), .val (.int (-f)), .val (.int (own_code (-f))), .val (.int (own_code (-(-f)))), .val (.int (1 : Int32)), .unset, .unset] [(.int (1 : Int32)), (.int ((own_code (-f)) &&& (1 : Int32)))])) _
      refine XS.ifNo X17.here hx rfl (hb hby at_68) rfl (XT.i0_eq_f (by decide)) ?_
      show Steps p.tables e below (T17.setTop (mkF m 71 #[.val (.int p0), .val (.int p1), .val (.int f), .val (.int (1 : Int32)), .val (.int (-f)), .val (.int (own_code (-f))), .val (.int (own_code (-(-f)))), .val (.int (1 : Int32)), .unset, .unset] [(.int ((own_code (-f)) &&& (1 : Int32)))])) _
      refine XT.iconstV X17.here hx rfl (1 : Int32) (hb hby at_71) rfl ?_
      show Steps p.tables e below (T17.setTop (mkF m 72 #[.val (.int p0), .val (.int p1), .val (.int f), .val (.int (1 : Int32)), .val (.int (-f)), .val (.int (own_code (-f))), .val (.int (own_code (-(-f)))), .val (.int (1 : Int32)), .unset, .unset] [(.int (1 : Int32)), (.int ((own_code (-f)) &&& (1 : Int32)))])) _
      refine XS.goto X17.here hx rfl (pc0 := 72) (pc' := 76) rfl (hb hby at_72) (by decide) (by decide) ?_
      show Steps p.tables e below (T17.setTop (mkF m 76 #[.val (.int p0), .val (.int p1), .val (.int f), .val (.int (1 : Int32)), .val (.int (-f)), .val (.int (own_code (-f))), .val (.int (own_code (-(-f)))), .val (.int (1 : Int32)), .unset, .unset] [(.int (1 : Int32)), (.int ((own_code (-f)) &&& (1 : Int32)))])) _
      refine XS.icmpNo X17.here hx rfl (hb hby at_76) rfl (XT.ii_ne_f (by rw [(own_cn hp)]; exact own_low (Or.inr rfl))) ?_
      show Steps p.tables e below (T17.setTop (mkF m 79 #[.val (.int p0), .val (.int p1), .val (.int f), .val (.int (1 : Int32)), .val (.int (-f)), .val (.int (own_code (-f))), .val (.int (own_code (-(-f)))), .val (.int (1 : Int32)), .unset, .unset] [])) _
      refine XT.iconstV X17.here hx rfl (1 : Int32) (hb hby at_79) rfl ?_
      show Steps p.tables e below (T17.setTop (mkF m 80 #[.val (.int p0), .val (.int p1), .val (.int f), .val (.int (1 : Int32)), .val (.int (-f)), .val (.int (own_code (-f))), .val (.int (own_code (-(-f)))), .val (.int (1 : Int32)), .unset, .unset] [(.int (1 : Int32))])) _
      refine XS.goto X17.here hx rfl (pc0 := 80) (pc' := 84) rfl (hb hby at_80) (by decide) (by decide) ?_
      show Steps p.tables e below (T17.setTop (mkF m 84 #[.val (.int p0), .val (.int p1), .val (.int f), .val (.int (1 : Int32)), .val (.int (-f)), .val (.int (own_code (-f))), .val (.int (own_code (-(-f)))), .val (.int (1 : Int32)), .unset, .unset] [(.int (1 : Int32))])) _
      refine XS.istore X17.here hx rfl (hb hby at_84) rfl (l' := #[.val (.int p0), .val (.int p1), .val (.int f), .val (.int (1 : Int32)), .val (.int (-f)), .val (.int (own_code (-f))), .val (.int (own_code (-(-f)))), .val (.int (1 : Int32)), .val (.int (1 : Int32)), .unset]) rfl ?_
      show Steps p.tables e below (T17.setTop (mkF m 86 #[.val (.int p0), .val (.int p1), .val (.int f), .val (.int (1 : Int32)), .val (.int (-f)), .val (.int (own_code (-f))), .val (.int (own_code (-(-f)))), .val (.int (1 : Int32)), .val (.int (1 : Int32)), .unset] [])) _
      refine XS.iload X17.here hx rfl (hb hby at_86) rfl ?_
      show Steps p.tables e below (T17.setTop (mkF m 88 #[.val (.int p0), .val (.int p1), .val (.int f), .val (.int (1 : Int32)), .val (.int (-f)), .val (.int (own_code (-f))), .val (.int (own_code (-(-f)))), .val (.int (1 : Int32)), .val (.int (1 : Int32)), .unset] [(.int (own_code (-(-f))))])) _
      refine XS.iload X17.here hx rfl (hb hby at_88) rfl ?_
      show Steps p.tables e below (T17.setTop (mkF m 90 #[.val (.int p0), .val (.int p1), .val (.int f), .val (.int (1 : Int32)), .val (.int (-f)), .val (.int (own_code (-f))), .val (.int (own_code (-(-f)))), .val (.int (1 : Int32)), .val (.int (1 : Int32)), .unset] [(.int (own_code (-f))), (.int (own_code (-(-f))))])) _
      refine XT.iconstV X17.here hx rfl (1 : Int32) (hb hby at_90) rfl ?_
      show Steps p.tables e below (T17.setTop (mkF m 91 #[.val (.int p0), .val (.int p1), .val (.int f), .val (.int (1 : Int32)), .val (.int (-f)), .val (.int (own_code (-f))), .val (.int (own_code (-(-f)))), .val (.int (1 : Int32)), .val (.int (1 : Int32)), .unset] [(.int (1 : Int32)), (.int (own_code (-f))), (.int (own_code (-(-f))))])) _
      refine XS.ixor X17.here hx rfl (hb hby at_91) rfl ?_
      show Steps p.tables e below (T17.setTop (mkF m 92 #[.val (.int p0), .val (.int p1), .val (.int f), .val (.int (1 : Int32)), .val (.int (-f)), .val (.int (own_code (-f))), .val (.int (own_code (-(-f)))), .val (.int (1 : Int32)), .val (.int (1 : Int32)), .unset] [(.int ((own_code (-f)) ^^^ (1 : Int32))), (.int (own_code (-(-f))))])) _
      refine XS.icmpNo X17.here hx rfl (hb hby at_92) rfl (XT.ii_ne_f (by rw [(own_neg hp).2.2, own_cp hp, own_cn hp]; exact own_flip2 f)) ?_
      show Steps p.tables e below (T17.setTop (mkF m 95 #[.val (.int p0), .val (.int p1), .val (.int f), .val (.int (1 : Int32)), .val (.int (-f)), .val (.int (own_code (-f))), .val (.int (own_code (-(-f)))), .val (.int (1 : Int32)), .val (.int (1 : Int32)), .unset] [])) _
      refine XT.iconstV X17.here hx rfl (1 : Int32) (hb hby at_95) rfl ?_
      show Steps p.tables e below (T17.setTop (mkF m 96 #[.val (.int p0), .val (.int p1), .val (.int f), .val (.int (1 : Int32)), .val (.int (-f)), .val (.int (own_code (-f))), .val (.int (own_code (-(-f)))), .val (.int (1 : Int32)), .val (.int (1 : Int32)), .unset] [(.int (1 : Int32))])) _
      refine XS.goto X17.here hx rfl (pc0 := 96) (pc' := 100) rfl (hb hby at_96) (by decide) (by decide) ?_
      show Steps p.tables e below (T17.setTop (mkF m 100 #[.val (.int p0), .val (.int p1), .val (.int f), .val (.int (1 : Int32)), .val (.int (-f)), .val (.int (own_code (-f))), .val (.int (own_code (-(-f)))), .val (.int (1 : Int32)), .val (.int (1 : Int32)), .unset] [(.int (1 : Int32))])) _
      refine XS.istore X17.here hx rfl (hb hby at_100) rfl (l' := #[.val (.int p0), .val (.int p1), .val (.int f), .val (.int (1 : Int32)), .val (.int (-f)), .val (.int (own_code (-f))), .val (.int (own_code (-(-f)))), .val (.int (1 : Int32)), .val (.int (1 : Int32)), .val (.int (1 : Int32))]) rfl ?_
      show Steps p.tables e below (T17.setTop (mkF m 102 #[.val (.int p0), .val (.int p1), .val (.int f), .val (.int (1 : Int32)), .val (.int (-f)), .val (.int (own_code (-f))), .val (.int (own_code (-(-f)))), .val (.int (1 : Int32)), .val (.int (1 : Int32)), .val (.int (1 : Int32))] [])) _
      refine XS.iload X17.here hx rfl (hb hby at_102) rfl ?_
      show Steps p.tables e below (T17.setTop (mkF m 104 #[.val (.int p0), .val (.int p1), .val (.int f), .val (.int (1 : Int32)), .val (.int (-f)), .val (.int (own_code (-f))), .val (.int (own_code (-(-f)))), .val (.int (1 : Int32)), .val (.int (1 : Int32)), .val (.int (1 : Int32))] [(.int (1 : Int32))])) _
      refine XS.ifNo X17.here hx rfl (hb hby at_104) rfl (XT.i0_eq_f (by decide)) ?_
      show Steps p.tables e below (T17.setTop (mkF m 107 #[.val (.int p0), .val (.int p1), .val (.int f), .val (.int (1 : Int32)), .val (.int (-f)), .val (.int (own_code (-f))), .val (.int (own_code (-(-f)))), .val (.int (1 : Int32)), .val (.int (1 : Int32)), .val (.int (1 : Int32))] [])) _
      refine XS.iload X17.here hx rfl (hb hby at_107) rfl ?_
      show Steps p.tables e below (T17.setTop (mkF m 109 #[.val (.int p0), .val (.int p1), .val (.int f), .val (.int (1 : Int32)), .val (.int (-f)), .val (.int (own_code (-f))), .val (.int (own_code (-(-f)))), .val (.int (1 : Int32)), .val (.int (1 : Int32)), .val (.int (1 : Int32))] [(.int (1 : Int32))])) _
      refine XS.ifNo X17.here hx rfl (hb hby at_109) rfl (XT.i0_eq_f (by decide)) ?_
      show Steps p.tables e below (T17.setTop (mkF m 112 #[.val (.int p0), .val (.int p1), .val (.int f), .val (.int (1 : Int32)), .val (.int (-f)), .val (.int (own_code (-f))), .val (.int (own_code (-(-f)))), .val (.int (1 : Int32)), .val (.int (1 : Int32)), .val (.int (1 : Int32))] [])) _
      refine XS.iload X17.here hx rfl (hb hby at_112) rfl ?_
      show Steps p.tables e below (T17.setTop (mkF m 114 #[.val (.int p0), .val (.int p1), .val (.int f), .val (.int (1 : Int32)), .val (.int (-f)), .val (.int (own_code (-f))), .val (.int (own_code (-(-f)))), .val (.int (1 : Int32)), .val (.int (1 : Int32)), .val (.int (1 : Int32))] [(.int (1 : Int32))])) _
      refine XS.ifNo X17.here hx rfl (hb hby at_114) rfl (XT.i0_eq_f (by decide)) ?_
      show Steps p.tables e below (T17.setTop (mkF m 117 #[.val (.int p0), .val (.int p1), .val (.int f), .val (.int (1 : Int32)), .val (.int (-f)), .val (.int (own_code (-f))), .val (.int (own_code (-(-f)))), .val (.int (1 : Int32)), .val (.int (1 : Int32)), .val (.int (1 : Int32))] [])) _
      refine XT.iconstV X17.here hx rfl (1 : Int32) (hb hby at_117) rfl ?_
      show Steps p.tables e below (T17.setTop (mkF m 118 #[.val (.int p0), .val (.int p1), .val (.int f), .val (.int (1 : Int32)), .val (.int (-f)), .val (.int (own_code (-f))), .val (.int (own_code (-(-f)))), .val (.int (1 : Int32)), .val (.int (1 : Int32)), .val (.int (1 : Int32))] [(.int (1 : Int32))])) _
      refine XS.goto X17.here hx rfl (pc0 := 118) (pc' := 122) rfl (hb hby at_118) (by decide) (by decide) ?_
      exact k)
    obtain ⟨fs, hr, hrun, hended, hW, hsame⟩ := X17.leave (v := some (.int (1 : Int32))) (fun h => by rw [Bd.returns] at h; cases h)
    refine ⟨_, _, pre19 _ ?_, hrun, hended, _, _, rfl, ?_, ⟨_, rfl⟩, hW, hsame.mono (by decide) (by decide)⟩
    · show Steps p.tables e below (T17.setTop (mkF m 122 #[.val (.int p0), .val (.int p1), .val (.int f), .val (.int (1 : Int32)), .val (.int (-f)), .val (.int (own_code (-f))), .val (.int (own_code (-(-f)))), .val (.int (1 : Int32)), .val (.int (1 : Int32)), .val (.int (1 : Int32))] [(.int (1 : Int32))])) _
      exact retN X17 hx (t := .boolean) Bd.returns (by simp) (hb hby at_122) hr
    · show Q_own_law Z p0 p1 h0 n0 _ T17.heap _
      rw [e17]
      exact ⟨rfl, N17⟩
set_option maxRecDepth 65536 in
set_option maxHeartbeats 40000000 in
theorem comes_1 {Post : Tables → Env → Array Value → State → Outcome → State → Prop} (hpost : ∀ tb e args s v u, (limb_1_1.after args s (.returned v) u = true ∧ limb_1_2.after args s (.returned v) u = true ∧ True) → FrameEnd s (.returned v) u (Jvm.fieldLocs frame_1_writes args s ++ Jvm.arrayLocs frame_1_arrays args s ++ Jvm.staticLocs frame_1_statics s) 0 0 → Post tb e args s (.returned v) u) :
    ArmFor flags0 classFile x code maxLocals ret World_1 tables_1 room_1 Calls_1 rest_1 Pre_1 Post := by
  intro l hfl _ _ p e ha hc hk s m args below hf hA hF happ hP
  obtain ⟨hcalls, hrest, hpre⟩ := hP
  obtain ⟨-, -, -, hnamed, -, -, -, hat⟩ := (Spec.applies_iff hf).mp happ
  obtain ⟨hg, hn⟩ := and_e (Cond.before_iff.mp (show (Jvm.Cond.and given_1 narrow_1).before args s = true from hpre))
  obtain ⟨h1, g0⟩ := and_e hg
  obtain ⟨w0, w1, rfl⟩ : ∃ w0 w1 : Value, args = #[w0, w1] := by
    have hs : args.size = 2 := by simpa [Cond.value, given_1] using h1
    obtain ⟨L⟩ := args
    match L, hs with
    | [w0, w1], _ => exact ⟨w0, w1, rfl⟩
  have hw := fun d (hd : d ∈ tables_1) => atoms_spec (ws := Jvm.Cond.code x code maxLocals ret :: tables_1) hat d (List.mem_cons_of_mem _ hd)
  have hfit : Fit s := fun {y c} hc i hi => by
    obtain ⟨ha, rfl⟩ := Array.getElem?_eq_some_iff.mp hc
    have q := List.all_eq_true.mp ((Array.all_eq_true_iff_forall_mem.mp hF) _ (Array.getElem_mem ha)) i (List.mem_range.mpr hi)
    simpa [Array.getElem?_eq_getElem hi] using q
  obtain ⟨t0, g1⟩ := and_e g0
  obtain ⟨i0, q0⟩ := is_v t0
  obtain rfl : w0 = (.int i0) := Option.some.inj q0
  have t1 := g1
  obtain ⟨i1, q1⟩ := is_v t1
  obtain rfl : w1 = (.int i1) := Option.some.inj q1
  obtain ⟨n, o, h1, h2, h3, _, L, rfl, ⟨rfl, N⟩, hq⟩ := own_law l s _ hw tables_1 i0 i1 s.heap s.heap.size (Nat.le_refl _)  p e ha hc hk s m _ below hf ((Spec.applies_iff_loose hf).mp happ).1 ⟨rfl, State.Warmed39.refl s, rfl⟩ trivial
  refine ⟨n, _, h1, h2, h3, hpost _ _ _ _ _ _ ⟨Cond.after_iff.mpr rfl, Cond.after_iff.mpr (eq_i res_at (Term.int_eval (1)) rfl), trivial⟩ ⟨hq.1, hq.2.1, (hq.2.2.sift fun y hy => Or.inr (N y hy)).mono (by decide) (by decide)⟩⟩
theorem main_1_1 : Claimed_1_1 := comes_1 fun _ _ _ _ _ _ h hF => ⟨h.1, hF⟩
theorem main_1_2 : Claimed_1_2 := comes_1 fun _ _ _ _ _ _ h hF => ⟨h.2.1, hF⟩
end Jvm.Pilot.@@N@@
namespace Jvm.Pilot.@@N@@
open Jvm Jvm.ClassFile Sem Op Lib Jvm.Free Jvm.Stand Jvm.Pilot.@@N@@.Jvm.D
/-! MADE BY PROGRAM (witnessworld.py) out of the Statement's table words and the real class files: 10 classes; the members and pool entries that the words name. The judged class is class 1, her method 1. -/
namespace start1
open Jvm.ClassFile
def u (s : String) : CpInfo := .utf8 (stringToUtf16 s)
/-- a pool by its gaps: so many unusable entries, then the entry; so many at the end -/
def gap : Nat → List CpInfo → List CpInfo
  | 0, r => r
  | n + 1, r => .unusable :: gap n r
def poolList (es : List (Nat × CpInfo)) (last : Nat) : List CpInfo := es.foldr (fun e r => gap e.1 (e.2 :: r)) (gap last [])
def pool (es : List (Nat × CpInfo)) (last : Nat) : Array CpInfo := ⟨poolList es last⟩
def fileOf (pool : Array CpInfo) (this : Nat) (attrs : Array Attribute := #[]) (ms : Array MethodInfo := #[]) (fl : Nat := 33) (sup : Nat := 0) (ifs : Array Nat := #[]) (fds : Array FieldInfo := #[]) : ClassFile where
  minorVersion := 0
  majorVersion := 65
  constantPool := pool
  accessFlags := fl
  thisClass := this
  superClass := sup
  interfaces := ifs
  fields := fds
  methods := ms
  attributes := attrs
def plain (name : String) (sup : Option ClassId) : Class where
  name := name
  kind := .ordinary
  loader := none
  accessFlags := 33
  super := sup
  interfaces := #[]
  cf := none
  fields := #[]
  methods := #[]
  instanceTypes := #[]
  staticTypes := #[]
  resolved := #[]
  callSites := []
  init := .initialized
  statics := none
  mirror := none

def pool0 : Array CpInfo := pool [(5, u "<init>"), (0, u "()V"), (1, .class_ 10), (1, u "java/lang/Object")] 113

def k0m0 : Method := { name := "<init>", desc := "()V", sig := { parameters := [], returnType := none }, accessFlags := 1, code := none }
/-- java/lang/Object -/
def k0 : Class := { plain "java/lang/Object" none with
  accessFlags := 33
  interfaces := #[]
  cf := some (fileOf pool0 8 #[] #[{ accessFlags := 1, nameIndex := 5, descriptorIndex := 6, attributes := #[] }] 33 0 #[] #[])
  fields := #[]
  methods := #[k0m0]
  instanceTypes := #[]
  staticTypes := #[]
  resolved := Array.replicate 124 none
  statics := none }

def pool1 : Array CpInfo := pool [(2, .class_ 4), (1, u "java/lang/Object"), (0, u "<init>"), (0, u "()V"), (0, .integer 2147483647), (0, .methodref 9 10), (0, .class_ 11), (0, .nameAndType 12 13), (0, u "java/lang/Math"), (0, u "max"), (0, u "(II)I"), (0, .methodref 15 16), (0, .class_ 17), (0, .nameAndType 18 19), (0, u "com/example/cultivar/cultivar/FeatureModel"), (0, u "code"), (0, u "(I)I"), (0, .class_ 21), (0, u "com/example/cultivar/cultivar/FeatureModelCodePinLaw"), (2, u "law"), (0, u "(II)Z")] 3

def k1m0 : Method := { name := "<init>", desc := "()V", sig := { parameters := [], returnType := none }, accessFlags := 1, code := none }
def k1c1 : Code := { maxStack := 3, maxLocals := 10, code := code, exceptionTable := #[], attributes := #[] }
def k1m1 : Method := { name := "law", desc := "(II)Z", sig := { parameters := [.int, .int], returnType := some .boolean }, accessFlags := 9, code := some k1c1 }
/-- com/example/cultivar/cultivar/FeatureModelCodePinLaw -/
def k1 : Class := { plain "com/example/cultivar/cultivar/FeatureModelCodePinLaw" (some 0) with
  accessFlags := 49
  interfaces := #[]
  cf := some (fileOf pool1 20 #[] #[{ accessFlags := 1, nameIndex := 5, descriptorIndex := 6, attributes := #[] }, { accessFlags := 9, nameIndex := 24, descriptorIndex := 25, attributes := #[] }] 49 2 #[] #[])
  fields := #[]
  methods := #[k1m0, k1m1]
  instanceTypes := #[]
  staticTypes := #[]
  resolved := Array.replicate 29 none
  statics := none }

def pool2 : Array CpInfo := pool [(1, .class_ 2), (0, u "java/lang/Math"), (1, .class_ 6), (1, u "java/lang/Object"), (0, u "<init>"), (0, u "()V"), (89, .class_ 100), (1, u "java/lang/Math$RandomNumberGeneratorHolder"), (23, u "abs"), (34, u "(I)I"), (12, u "negativeZeroFloatBits"), (0, u "J"), (2, u "negativeZeroDoubleBits"), (21, u "max"), (46, u "$assertionsDisabled"), (0, u "Z"), (88, u "(II)I"), (2, u "twoToTheDoubleScaleDown"), (0, u "D"), (4, u "twoToTheDoubleScaleUp"), (9, u "E"), (3, u "PI"), (2, u "TAU"), (2, u "DEGREES_TO_RADIANS"), (0, u "RADIANS_TO_DEGREES")] 94

def k2m0 : Method := { name := "<init>", desc := "()V", sig := { parameters := [], returnType := none }, accessFlags := 2, code := none }
def k2c1 : Code := { maxStack := 1, maxLocals := 1, code := jdk_29_method_59_code, exceptionTable := #[], attributes := #[] }
def k2m1 : Method := { name := "abs", desc := "(I)I", sig := { parameters := [.int], returnType := some .int }, accessFlags := 9, code := some k2c1 }
def k2c2 : Code := { maxStack := 2, maxLocals := 2, code := jdk_29_method_65_code, exceptionTable := #[], attributes := #[] }
def k2m2 : Method := { name := "max", desc := "(II)I", sig := { parameters := [.int, .int], returnType := some .int }, accessFlags := 9, code := some k2c2 }
/-- java/lang/Math -/
def k2 : Class := { plain "java/lang/Math" (some 0) with
  accessFlags := 49
  interfaces := #[]
  cf := some (fileOf pool2 1 #[.nestMembers #[98]] #[{ accessFlags := 2, nameIndex := 7, descriptorIndex := 8, attributes := #[] }, { accessFlags := 9, nameIndex := 124, descriptorIndex := 159, attributes := #[] }, { accessFlags := 9, nameIndex := 198, descriptorIndex := 335, attributes := #[] }] 49 4 #[] #[{ accessFlags := 25, nameIndex := 354, descriptorIndex := 339, attributes := #[] }, { accessFlags := 25, nameIndex := 358, descriptorIndex := 339, attributes := #[] }, { accessFlags := 25, nameIndex := 361, descriptorIndex := 339, attributes := #[] }, { accessFlags := 26, nameIndex := 364, descriptorIndex := 339, attributes := #[] }, { accessFlags := 26, nameIndex := 365, descriptorIndex := 339, attributes := #[] }, { accessFlags := 26, nameIndex := 172, descriptorIndex := 173, attributes := #[] }, { accessFlags := 26, nameIndex := 176, descriptorIndex := 173, attributes := #[] }, { accessFlags := 8, nameIndex := 344, descriptorIndex := 339, attributes := #[] }, { accessFlags := 8, nameIndex := 338, descriptorIndex := 339, attributes := #[] }, { accessFlags := 4120, nameIndex := 245, descriptorIndex := 246, attributes := #[] }])
  fields := #[{ name := "E", type := .double, accessFlags := 25, slot := 0, constantValue := 0 }, { name := "PI", type := .double, accessFlags := 25, slot := 1, constantValue := 0 }, { name := "TAU", type := .double, accessFlags := 25, slot := 2, constantValue := 0 }, { name := "DEGREES_TO_RADIANS", type := .double, accessFlags := 26, slot := 3, constantValue := 0 }, { name := "RADIANS_TO_DEGREES", type := .double, accessFlags := 26, slot := 4, constantValue := 0 }, { name := "negativeZeroFloatBits", type := .long, accessFlags := 26, slot := 5, constantValue := 0 }, { name := "negativeZeroDoubleBits", type := .long, accessFlags := 26, slot := 6, constantValue := 0 }, { name := "twoToTheDoubleScaleUp", type := .double, accessFlags := 8, slot := 7, constantValue := 0 }, { name := "twoToTheDoubleScaleDown", type := .double, accessFlags := 8, slot := 8, constantValue := 0 }, { name := "$assertionsDisabled", type := .boolean, accessFlags := 4120, slot := 9, constantValue := 0 }]
  methods := #[k2m0, k2m1, k2m2]
  instanceTypes := #[]
  staticTypes := #[.double, .double, .double, .double, .double, .long, .long, .double, .double, .boolean]
  resolved := Array.replicate 460 none
  statics := none }

def pool3 : Array CpInfo := pool [(2, .class_ 4), (1, u "com/example/cultivar/cultivar/FeatureModel"), (3, .class_ 10), (1, u "java/lang/Object"), (3, u "format"), (0, u "Ljava/lang/String;"), (2, u "features"), (0, u "I"), (8, u "clauses"), (0, u "Ljava/util/List;"), (18, u "[I"), (2, u "code"), (0, u "(I)I"), (36, u "pairs"), (2, u "rest"), (2, u "restEnds"), (2, u "constraints"), (2, u "names"), (0, u "Lcom/example/cultivar/cultivar/FeatureNames;"), (2, u "tree"), (0, u "Lcom/example/cultivar/cultivar/FeatureTree;"), (43, .methodref 151 152), (0, .class_ 153), (0, .nameAndType 154 52), (0, u "java/lang/Math"), (0, u "abs")] 76

def k3c0 : Code := { maxStack := 2, maxLocals := 1, code := prog_6_method_12_code, exceptionTable := #[], attributes := #[] }
def k3m0 : Method := { name := "code", desc := "(I)I", sig := { parameters := [.int], returnType := some .int }, accessFlags := 8, code := some k3c0 }
/-- com/example/cultivar/cultivar/FeatureModel -/
def k3 : Class := { plain "com/example/cultivar/cultivar/FeatureModel" (some 0) with
  accessFlags := 49
  interfaces := #[]
  cf := some (fileOf pool3 2 #[] #[{ accessFlags := 8, nameIndex := 51, descriptorIndex := 52, attributes := #[] }] 49 8 #[] #[{ accessFlags := 18, nameIndex := 14, descriptorIndex := 15, attributes := #[] }, { accessFlags := 18, nameIndex := 18, descriptorIndex := 19, attributes := #[] }, { accessFlags := 18, nameIndex := 28, descriptorIndex := 29, attributes := #[] }, { accessFlags := 18, nameIndex := 89, descriptorIndex := 48, attributes := #[] }, { accessFlags := 18, nameIndex := 92, descriptorIndex := 48, attributes := #[] }, { accessFlags := 18, nameIndex := 95, descriptorIndex := 48, attributes := #[] }, { accessFlags := 18, nameIndex := 98, descriptorIndex := 19, attributes := #[] }, { accessFlags := 18, nameIndex := 101, descriptorIndex := 102, attributes := #[] }, { accessFlags := 18, nameIndex := 105, descriptorIndex := 106, attributes := #[] }])
  fields := #[{ name := "format", type := (.object "java/lang/String"), accessFlags := 18, slot := 0, constantValue := 0 }, { name := "features", type := .int, accessFlags := 18, slot := 1, constantValue := 0 }, { name := "clauses", type := (.object "java/util/List"), accessFlags := 18, slot := 2, constantValue := 0 }, { name := "pairs", type := (.array .int), accessFlags := 18, slot := 3, constantValue := 0 }, { name := "rest", type := (.array .int), accessFlags := 18, slot := 4, constantValue := 0 }, { name := "restEnds", type := (.array .int), accessFlags := 18, slot := 5, constantValue := 0 }, { name := "constraints", type := .int, accessFlags := 18, slot := 6, constantValue := 0 }, { name := "names", type := (.object "com/example/cultivar/cultivar/FeatureNames"), accessFlags := 18, slot := 7, constantValue := 0 }, { name := "tree", type := (.object "com/example/cultivar/cultivar/FeatureTree"), accessFlags := 18, slot := 8, constantValue := 0 }]
  methods := #[k3m0]
  instanceTypes := #[(.object "java/lang/String"), .int, (.object "java/util/List"), (.array .int), (.array .int), (.array .int), .int, (.object "com/example/cultivar/cultivar/FeatureNames"), (.object "com/example/cultivar/cultivar/FeatureTree")]
  staticTypes := #[]
  resolved := Array.replicate 231 none
  statics := none }

def pool4 : Array CpInfo := pool [(1, u "java/lang/Cloneable"), (0, .class_ 1), (0, u "java/lang/Object"), (0, .class_ 3)] 3

/-- java/lang/Cloneable -/
def k4 : Class := { plain "java/lang/Cloneable" (some 0) with
  accessFlags := 1537
  interfaces := #[]
  cf := some (fileOf pool4 2 #[] #[] 1537 4 #[] #[])
  fields := #[]
  methods := #[]
  instanceTypes := #[]
  staticTypes := #[]
  resolved := Array.replicate 8 none
  statics := none }

def pool5 : Array CpInfo := pool [(1, u "java/io/Serializable"), (0, .class_ 1), (0, u "java/lang/Object"), (0, .class_ 3)] 3

/-- java/io/Serializable -/
def k5 : Class := { plain "java/io/Serializable" (some 0) with
  accessFlags := 1537
  interfaces := #[]
  cf := some (fileOf pool5 2 #[] #[] 1537 4 #[] #[])
  fields := #[]
  methods := #[]
  instanceTypes := #[]
  staticTypes := #[]
  resolved := Array.replicate 8 none
  statics := none }

/-- the primitive byte -/
def k6 : Class := { plain "byte" none with kind := .primitive 'B', accessFlags := 0x411 }
/-- [B -/
def k7 : Class := { plain "[B" (some 0) with kind := .array 6 .byte, interfaces := #[4, 5], accessFlags := 1041 }

/-- the primitive int -/
def k8 : Class := { plain "int" none with kind := .primitive 'I', accessFlags := 0x411 }
/-- [I -/
def k9 : Class := { plain "[I" (some 0) with kind := .array 8 .int, interfaces := #[4, 5], accessFlags := 1041 }

def heap : Heap := #[]
def classes : Array Class := #[k0, k1, k2, k3, k4, k5, k6, k7, k8, k9]
def interned : List (Array UInt16 × Addr) := []
def slotsUsed : Nat := 0
def theMethod : MethodId := ⟨1, 1⟩
def args0 : Array Value := #[.int 5, .int 3]
def aboutOver (below : List Frame) : State where
  vm := { classes := classes, interned := interned.toArray }
  heap := heap
  slotsUsed := slotsUsed
  threads := #[{ frames := .invoking theMethod args0 :: below }]
def below0 : List Frame := [.native { method := ⟨0, 0⟩, args := #[] }]
def about1 : State := aboutOver below0
def p0 : Program := .bare "" "" ""
def e0 : Env := launch0.env 0 0 0
theorem w_frames : about1.frames = Frame.invoking theMethod args0 :: below0 := rfl
set_option maxRecDepth 65536 in
theorem w_args : argsFit about1.vm theMethod args0 = true := by decide +kernel
set_option maxRecDepth 65536 in
theorem w_heap : heapFits about1 = true := by decide +kernel
set_option maxRecDepth 65536 in
theorem w_runnable : about1.curStatus? = some .runnable := by decide +kernel
set_option maxRecDepth 65536 in
theorem w_alone : about1.alone = true := by decide +kernel
set_option maxRecDepth 65536 in
theorem w_named : about1.methodNamed? x = some theMethod := by decide +kernel
set_option maxRecDepth 65536 in
theorem w_hears : about1.hears theMethod below0 = true := by decide +kernel
set_option maxRecDepth 65536 in
theorem w_ripe : about1.ripe theMethod args0 below0 = true := by decide +kernel
theorem w_running : about1.status = .running := rfl
set_option maxRecDepth 65536 in
theorem w_room : about1.hasRoom e0.platform room_1 = true :=
  launch0.hasRoom_least _ room_1 (by decide +kernel) (by decide +kernel) (by decide +kernel) (by decide +kernel) (by decide +kernel) (by decide +kernel)
theorem allAtoms_all (ts : List Jvm.Cond) (a : Array Jvm.Value) (st : Jvm.State) : (allAtoms ts).before a st = ts.all (fun c => c.before a st) := by
  induction ts with
  | nil => rfl
  | cons c t ih =>
    show (Jvm.Cond.and c (allAtoms t)).before a st = _
    rw [Jvm.Cond.before_and, ih, List.all_cons]
def words1 : List Jvm.Cond := Jvm.Cond.code x code maxLocals ret :: tables_1
/-- a 'code' word, met by the world's own term for the bytes: nothing is compared byte by byte -/
theorem code_word {y : MethodName} {bytes : ByteArray} {mx : Nat} {rt : Option FieldType} {a : Array Value} {s : State} {m : MethodId} {meth : Method} {c : Code} (h1 : s.methodNamed? y = some m) (h2 : s.vm.method? m = some meth) (h3 : meth.code = some c) (h4 : c.code = bytes)
    (h5 : (c.maxLocals == mx && c.exceptionTable.isEmpty && decide (c.maxStack ≤ mostOperands) && decide (meth.sig.returnType = rt) && !meth.locks && decide (parseMethodDescriptor y.desc = some meth.sig)) = true) : (Jvm.Cond.code y bytes mx rt).before a s = true := by
  simp only [Bool.and_eq_true, beq_iff_eq, Bool.not_eq_true', decide_eq_true_eq] at h5
  obtain ⟨⟨⟨⟨⟨g1, g2⟩, g3⟩, g4⟩, g5⟩, g6⟩ := h5
  simp [Cond.before, Cond.holds, Cond.value, h1, h2, h3, h4, g1, g2, g3, g4, g5, g6]
def isCode : Jvm.Cond → Bool
  | .code _ _ _ _ => true
  | _ => false
theorem all_split {L : List Jvm.Cond} {P : Jvm.Cond → Bool} (h1 : L.all (fun c => isCode c || P c) = true) (h2 : ∀ c ∈ L.filter isCode, P c = true) : L.all P = true := by
  refine List.all_eq_true.mpr fun c hc => ?_
  have h := List.all_eq_true.mp h1 c hc
  rcases Bool.eq_false_or_eq_true (isCode c) with hi | hi
  · exact h2 c (List.mem_filter.mpr ⟨hc, hi⟩)
  · simpa [hi] using h
set_option maxRecDepth 65536 in
theorem w_c0 : (Jvm.Cond.code x code maxLocals ret).before args0 about1 = true := code_word (m := ⟨1, 1⟩) (meth := k1m1) (c := k1c1) (by decide +kernel) rfl rfl rfl (by decide +kernel)
set_option maxRecDepth 65536 in
theorem w_c1 : (Jvm.Cond.code ({ cls := "java/lang/Math", name := "max", desc := "(II)I" } : Jvm.MethodName) jdk_29_method_65_code (2 : Nat) (Option.some Jvm.ClassFile.FieldType.int)).before args0 about1 = true := code_word (m := ⟨2, 2⟩) (meth := k2m2) (c := k2c2) (by decide +kernel) rfl rfl rfl (by decide +kernel)
set_option maxRecDepth 65536 in
theorem w_c2 : (Jvm.Cond.code ({ cls := "com/example/cultivar/cultivar/FeatureModel", name := "code", desc := "(I)I" } : Jvm.MethodName) prog_6_method_12_code (1 : Nat) (Option.some Jvm.ClassFile.FieldType.int)).before args0 about1 = true := code_word (m := ⟨3, 0⟩) (meth := k3m0) (c := k3c0) (by decide +kernel) rfl rfl rfl (by decide +kernel)
set_option maxRecDepth 65536 in
theorem w_c3 : (Jvm.Cond.code ({ cls := "java/lang/Math", name := "abs", desc := "(I)I" } : Jvm.MethodName) jdk_29_method_59_code (1 : Nat) (Option.some Jvm.ClassFile.FieldType.int)).before args0 about1 = true := code_word (m := ⟨2, 1⟩) (meth := k2m1) (c := k2c1) (by decide +kernel) rfl rfl rfl (by decide +kernel)
def codes1 : List Jvm.Cond := [Jvm.Cond.code x code maxLocals ret, Jvm.Cond.code ({ cls := "java/lang/Math", name := "max", desc := "(II)I" } : Jvm.MethodName) jdk_29_method_65_code (2 : Nat) (Option.some Jvm.ClassFile.FieldType.int), Jvm.Cond.code ({ cls := "com/example/cultivar/cultivar/FeatureModel", name := "code", desc := "(I)I" } : Jvm.MethodName) prog_6_method_12_code (1 : Nat) (Option.some Jvm.ClassFile.FieldType.int), Jvm.Cond.code ({ cls := "java/lang/Math", name := "abs", desc := "(I)I" } : Jvm.MethodName) jdk_29_method_59_code (1 : Nat) (Option.some Jvm.ClassFile.FieldType.int)]
set_option maxRecDepth 65536 in
theorem codes_eq : words1.filter isCode = codes1 := rfl
theorem w_codes : ∀ c ∈ words1.filter isCode, c.before args0 about1 = true := by
  rw [codes_eq]
  intro c hc
  simp only [codes1, List.mem_cons, List.not_mem_nil, or_false] at hc
  rcases hc with rfl | rfl | rfl | rfl
  · exact w_c0
  · exact w_c1
  · exact w_c2
  · exact w_c3
set_option maxRecDepth 65536 in
theorem w_t1 : words1.all (fun c => isCode c || c.before args0 about1) = true := by decide +kernel
theorem w_tables : (allAtoms (Jvm.Cond.code x code maxLocals ret :: tables_1)).before args0 about1 = true := by
  rw [allAtoms_all]
  show words1.all (fun c => c.before args0 about1) = true
  refine all_split ?_ w_codes
  rw [w_t1]
set_option maxRecDepth 65536 in
theorem w_case : (Jvm.Cond.and given_1 narrow_1).before args0 about1 = true := by decide +kernel
theorem w_applies : (headSpec (Jvm.Cond.code x code maxLocals ret :: tables_1) room_1).applies x e0.platform about1 = true :=
  (Spec.applies_iff w_frames).mpr ⟨w_running, w_runnable, w_alone, w_named, w_hears, w_ripe, w_room, w_tables⟩
theorem atStart : AtStart classFile x code maxLocals ret World_1 tables_1 room_1 Calls_1 rest_1 Pre_1 launch0 p0 e0 about1 theMethod args0 below0 :=
  ⟨lists_1, trivial, launch0.admits_env _ _ _, launch0.least_env, fairChoices_fair.cas, fairChoices_fair.clock, w_frames, w_args, w_heap, w_applies, trivial, trivial, w_case⟩
end start1
theorem witness_1 : WitnessClaimed_1 := ⟨start1.p0, start1.e0, start1.about1, start1.theMethod, start1.args0, start1.below0, start1.atStart⟩
end Jvm.Pilot.@@N@@
