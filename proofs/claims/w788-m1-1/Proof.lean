import JvmDerived
import JvmDerived.Pilot.@@N@@Statement
import JvmDerived.Pilot.@@N@@Code
set_option linter.unusedVariables false
set_option linter.unusedSimpArgs false
namespace Jvm.RoadKit
open Sem ClassFile Op Lib Jvm.Stand Jvm.Free Jvm.LawKit
section New
variable {p : Program} {l : Launch} {e : Env} {R : Room} {s : State} {m : MethodId} {args : Array Value} {below : List Frame} {meth : Method} {c : Code} {T : State} {locs : List Loc} {cells slots : Nat}
theorem retI (X : Stand p l e R s m args below meth c T locs cells slots) (hx : p.tables.exec = Jvm.exec) {pc : Nat} {Ls : Array Slot} {z : Int32} {rest : List Value} (hret : meth.sig.returnType = some .int) (hd : decode c.code pc = .ok (.ireturn, 1)) {fs : List Frame}
    (hl : ∀ (f : JFrame) (acts : List Action), f.method = m → f.locked = none → f.entered = [] → (doReturn e (T.setTop f) acts (some (.int z))).1 = T.setFrames fs) : Steps p.tables e below (T.setTop (mkF m pc Ls (.int z :: rest))) (T.setFrames fs) := by
  have hm' : T.vm.method? m = some meth := X.method'
  have hn : narrow .int (.int z) = .int z := rfl
  show Steps p.tables e below (T.setTop { method := m, pc := pc, locals := Ls, stack := _ :: rest, locked := none }) _
  jvm_step X.here [X.here.top, hx, hd, hm', hret, hn]
  first | (intro acts; rw [hl _ acts rfl rfl rfl]) | rw [hl _ _ rfl rfl rfl]
  exact Steps.refl _
end New
end Jvm.RoadKit
namespace Jvm.Pilot.@@N@@
open Jvm Jvm.ClassFile Sem Op Lib Jvm.Free Jvm.Stand Jvm.LawKit Jvm.RoadKit Bundle Jvm.Pilot.@@N@@.Jvm.D
def own_mn (a b : Int64) : Int64 := if b < a then b else a
def own_mx (a b : Int64) : Int64 := if a < b then b else a
def own_of : List Int64 → Int64 → Int32
  | [], _ => 0
  | x :: r, v => if v < x then 0 else own_of r v + 1
theorem own_mn_i (a b : Int64) : (own_mn a b).toInt = if b.toInt < a.toInt then b.toInt else a.toInt := by
  unfold own_mn
  by_cases h : b < a
  · rw [if_pos h, if_pos (Int64.lt_iff_toInt_lt.mp h)]
  · rw [if_neg h, if_neg (fun q => h (Int64.lt_iff_toInt_lt.mpr q))]
theorem own_mx_i (a b : Int64) : (own_mx a b).toInt = if a.toInt < b.toInt then b.toInt else a.toInt := by
  unfold own_mx
  by_cases h : a < b
  · rw [if_pos h, if_pos (Int64.lt_iff_toInt_lt.mp h)]
  · rw [if_neg h, if_neg (fun q => h (Int64.lt_iff_toInt_lt.mpr q))]
theorem own_s01 (a b d : Int64) : ¬ (own_mx (own_mn a b) (own_mn (own_mx a b) d)) < (own_mn (own_mn a b) d) := by
  rw [Int64.lt_iff_toInt_lt]
  have h1 := own_mn_i a b
  have h2 := own_mx_i a b
  have h3 := own_mn_i (own_mx a b) d
  have h4 := own_mx_i (own_mn a b) (own_mn (own_mx a b) d)
  have h5 := own_mn_i (own_mn a b) d
  split at h1 <;> split at h2 <;> split at h3 <;> split at h4 <;> split at h5 <;> omega
theorem own_s12 (a b d : Int64) : ¬ (own_mx (own_mx a b) d) < (own_mx (own_mn a b) (own_mn (own_mx a b) d)) := by
  rw [Int64.lt_iff_toInt_lt]
  have h1 := own_mn_i a b
  have h2 := own_mx_i a b
  have h3 := own_mn_i (own_mx a b) d
  have h4 := own_mx_i (own_mn a b) (own_mn (own_mx a b) d)
  have h5 := own_mx_i (own_mx a b) d
  split at h1 <;> split at h2 <;> split at h3 <;> split at h4 <;> split at h5 <;> omega
theorem own_tr {v x y : Int64} (h : ¬ y < x) (q : v < x) : v < y := by
  rw [Int64.lt_iff_toInt_lt] at *
  omega
theorem own_c1 {x0 v : Int64} {e1 : Int32} (h1 : e1 = if v < x0 then (0 : Int32) else (1 : Int32)) : own_of [x0] v = e1 := by
  subst h1
  by_cases a : v < x0 <;> simp [own_of, a]
theorem own_c2 {x0 x1 v : Int64} {e1 e2 : Int32} (h01 : ¬ x1 < x0) (h1 : e1 = if v < x0 then (0 : Int32) else (1 : Int32)) (h2 : e2 = if v < x1 then e1 else (e1 + (1 : Int32))) : own_of [x0, x1] v = e2 := by
  subst h1 h2
  by_cases a : v < x0
  · simp [own_of, a, own_tr h01 a]
  · by_cases b : v < x1 <;> simp [own_of, a, b]
theorem own_c3 {x0 x1 x2 v : Int64} {e1 e2 e3 : Int32} (h01 : ¬ x1 < x0) (h12 : ¬ x2 < x1) (h1 : e1 = if v < x0 then (0 : Int32) else (1 : Int32)) (h2 : e2 = if v < x1 then e1 else (e1 + (1 : Int32))) (h3 : e3 = if v < x2 then e2 else (e2 + (1 : Int32))) : own_of [x0, x1, x2] v = e3 := by
  subst h1 h2 h3
  by_cases a : v < x0
  · simp [own_of, a, own_tr h01 a, own_tr h12 (own_tr h01 a)]
  · by_cases b : v < x1
    · simp [own_of, a, b, own_tr h12 b]
    · by_cases d : v < x2 <;> simp [own_of, a, b, d]
theorem own_n3 {k n : Int32} (hn : n = (k &&& (3 : Int32))) (h0 : ¬ n = 0) (h1 : ¬ n = 1) (h2 : ¬ n = 2) : n = 3 := by
  have q := c_mask k 3 2 (by decide) (by decide)
  rw [← hn] at q
  have a0 : n.toInt ≠ 0 := fun z => h0 (Int32.toInt_inj.mp (z.trans (by decide)))
  have a1 : n.toInt ≠ 1 := fun z => h1 (Int32.toInt_inj.mp (z.trans (by decide)))
  have a2 : n.toInt ≠ 2 := fun z => h2 (Int32.toInt_inj.mp (z.trans (by decide)))
  have a3 : n.toInt = 3 := by omega
  exact Int32.toInt_inj.mp (a3.trans (by decide))

theorem own_newE {p : Program} {l : Launch} {e : Env} {R : Room} {s : State} {m : MethodId} {args : Array Value} {below : List Frame} {meth : Method} {c : Code} {T : State} {locs : List Loc} {cells slots : Nat} {Z : State} {a0 : Array Value} {h : Heap}
    (X : Stand p l e R s m args below meth c T locs cells slots) (hx : p.tables.exec = Jvm.exec) (hZ : Z.Warmed39 s.vm) {aty : ArrayType} (w : (Cond.arrayClass (newarray.typeOf aty)).before a0 Z = true) (eT : T.heap = h) {g : JFrame} (hg : g.method = m) (hd : decode c.code g.pc = .ok (.newarray aty, 2)) {n : Int32} {rest : List Value} (hs : g.stack = .int n :: rest)
    (hn : ¬ n < 0) {cap : Nat} (hcap : n.toNatClampNeg ≤ cap) (hb : cap * 8 ≤ 536870912) (hc : cells + 1 ≤ R.cells) (hl : slots + cap ≤ R.slots) {ad : String} (had : "[" ++ (newarray.typeOf aty).toString = ad) :
    ∃ T' h' cA, Stand p l e R s m args below meth c T' locs (cells + 1) (slots + cap) ∧ T'.heap = h' ∧ Ext h h' ∧ Arr Z h' h.size (newA cA (newarray.typeOf aty) n) (newarray.typeOf aty) ∧ Exa Z h' h.size ad ∧
      ∀ target, Steps p.tables e below (T'.setTop { g with pc := g.pc + 2, stack := .ref h.size :: rest }) target → Steps p.tables e below (T.setTop g) target := by
  have hcb : componentBytes (newarray.typeOf aty) ≤ 8 := by cases aty <;> decide
  obtain ⟨cA, kA, comp, f1, f2, f3, X1, st⟩ := X.newarrayPrim hx (mvA hZ w) hg hd hs hn (Nat.le_trans (Nat.mul_le_mul hcap hcb) hb) hc (by omega)
  rw [hZ.alike.findClass] at f1
  obtain ⟨kZ, z1, -⟩ := Vm.findClass_spec f1
  obtain ⟨kU, z2, z3⟩ := hZ.alike.2.2 _ _ z1
  obtain rfl : kA = kU := Option.some.inj (f2.symm.trans z2)
  have key : Arr Z (T.pushCell (newA cA (newarray.typeOf aty) n)).heap h.size (newA cA (newarray.typeOf aty) n) (newarray.typeOf aty) := by
    refine ⟨?_, ⟨by simp [newA], kZ, z1, comp, by rw [← f3, z3]⟩, by simp [newA]⟩
    rw [← eT]
    show (T.heap.push _)[T.heap.size]? = _
    simp
  rw [← eT] at key ⊢
  refine ⟨_, _, cA, X1.more (Nat.le_refl _) (by omega), rfl, ext_of fun b hb' => ?_, key, exa_arr key (had ▸ f1) rfl, st⟩
  show (T.heap.push _)[b]? = _
  rw [Array.getElem?_push_lt hb', Array.getElem?_eq_getElem hb']
theorem own_ef_own_mnC (m : MethodId) (q0 : Int64) (q1 : Int64) : entryFrame m #[(.long q0), (.long q1)] 4 = mkF m 0 #[.val (.long q0), .second, .val (.long q1), .second] [] := by first | (simp [entryFrame, mkF, argsToLocals, Value.category]; done) | rfl
def Q_own_mnC (Z : State) (q0 : Int64) (q1 : Int64)  (h0 : Heap) (n0 : Nat) (v : Option Value) (h : Heap) (L : List Loc) : Prop := v = some (.long (own_mn q0 q1)) ∧ Fr n0 L ∧ h = h0
theorem own_d_jdk_29_method_70_0 : decode jdk_29_method_70_code 0 = .ok (.lload_n 0, 1) := by decide +kernel
theorem own_d_jdk_29_method_70_1 : decode jdk_29_method_70_code 1 = .ok (.lload_n 2, 1) := by decide +kernel
theorem own_d_jdk_29_method_70_2 : decode jdk_29_method_70_code 2 = .ok (.lcmp, 1) := by decide +kernel
theorem own_d_jdk_29_method_70_3 : decode jdk_29_method_70_code 3 = .ok (.ifCond .gt 7, 3) := by decide +kernel
theorem own_d_jdk_29_method_70_10 : decode jdk_29_method_70_code 10 = .ok (.lload_n 2, 1) := by decide +kernel
theorem own_d_jdk_29_method_70_6 : decode jdk_29_method_70_code 6 = .ok (.lload_n 0, 1) := by decide +kernel
theorem own_d_jdk_29_method_70_7 : decode jdk_29_method_70_code 7 = .ok (.goto 4, 3) := by decide +kernel
theorem own_d_jdk_29_method_70_11 : decode jdk_29_method_70_code 11 = .ok (.lreturn, 1) := by decide +kernel
set_option maxRecDepth 65536 in
set_option maxHeartbeats 40000000 in
theorem own_mnC (l : Launch) (Z : State) (a0 : Array Value) (hw : ∀ d ∈ tables_1, d.before a0 Z = true) (ws : List Jvm.Cond) (q0 : Int64) (q1 : Int64)  (h0 : Heap) (n0 : Nat) (Z0 : n0 ≤ h0.size)  :
    MetFree l (⟨"java/lang/Math", "min", "(JJ)J"⟩ : MethodName) (head1 (Jvm.Cond.code (⟨"java/lang/Math", "min", "(JJ)J"⟩ : MethodName) jdk_29_method_70_code 4 (some .long) :: ws) ({ frames := 0, cells := 0, slots := 0, locals := 0 } : Room)) (fun a U => a = #[(.long q0), (.long q1)] ∧ Z.Warmed39 U.vm ∧ U.heap = h0) (fun _ _ _ _ _ => True) (fun _ U o U' => ∃ v L, o = .returned v ∧ Q_own_mnC Z q0 q1 h0 n0 v U'.heap L ∧ FrameEnd U o U' L ({ frames := 0, cells := 0, slots := 0, locals := 0 } : Room).cells ({ frames := 0, cells := 0, slots := 0, locals := 0 } : Room).slots) := by
  refine MetFree.of_bodySF (Jvm.Free.JP.mathPlain rfl (by decide +kernel)) hisR ?_
  intro p e s m args below meth c s₁ Bd hml0 hP hK
  obtain ⟨rfl, hZ, hh⟩ := hP
  have hx := Bd.exec
  have hby := Bd.bytes
  have hml : c.maxLocals = 4 := hml0
  have hown : s.vm.findClass "java/lang/Math" = some m.cls := findClass_of_methodNamed Bd.named
  have hnm := (name_of_methodNamed Bd.named Bd.method).1
  have X0 : Stand p l e ({ frames := 0, cells := 0, slots := 0, locals := 0 } : Room) s m #[(.long q0), (.long q1)] below meth c s₁ [] 0 0 := Stand.of_body Bd
  have e0 : s₁.heap = h0 := by rw [← hh, Bd.state]; rfl
  have N0 := Fr.nil n0
  have pre0 : ∀ t, Steps p.tables e below (s₁.setTop (mkF m 0 #[.val (.long q0), .second, .val (.long q1), .second] [])) t → Steps p.tables e below (s₁.setTop (entryFrame m #[(.long q0), (.long q1)] 4)) t := fun t k => castTop (own_ef_own_mnC m q0 q1) k
  have pre1 : ∀ t, Steps p.tables e below (s₁.setTop (mkF m 3 #[.val (.long q0), .second, .val (.long q1), .second] [(.int (XT.cmpL q0 q1))])) t → Steps p.tables e below (s₁.setTop (entryFrame m #[(.long q0), (.long q1)] 4)) t := fun t k => pre0 _ (by
    show Steps p.tables e below (s₁.setTop (mkF m 0 #[.val (.long q0), .second, .val (.long q1), .second] [])) _
    refine XS.lloadN X0.here hx rfl (hb hby own_d_jdk_29_method_70_0) rfl ?_
    show Steps p.tables e below (s₁.setTop (mkF m 1 #[.val (.long q0), .second, .val (.long q1), .second] [(.long q0)])) _
    refine XS.lloadN X0.here hx rfl (hb hby own_d_jdk_29_method_70_1) rfl ?_
    show Steps p.tables e below (s₁.setTop (mkF m 2 #[.val (.long q0), .second, .val (.long q1), .second] [(.long q1), (.long q0)])) _
    refine XT.lcmp X0.here hx rfl (hb hby own_d_jdk_29_method_70_2) rfl ?_
    exact k)
  obtain ⟨v3, hv3⟩ : ∃ z : Int64, z = (if q1 < q0 then q1 else q0) := ⟨_, rfl⟩
  have pre4 : ∀ t, Steps p.tables e below (s₁.setTop (mkF m 11 #[.val (.long q0), .second, .val (.long q1), .second] [(.long v3)])) t → Steps p.tables e below (s₁.setTop (entryFrame m #[(.long q0), (.long q1)] 4)) t := fun t k => pre1 _ (by
    by_cases c3_2 : q1 < q0
    · rw [show v3 = _ from hv3.trans (if_pos c3_2)] at k
      show Steps p.tables e below (s₁.setTop (mkF m 3 #[.val (.long q0), .second, .val (.long q1), .second] [(.int (XT.cmpL q0 q1))])) _
      refine XS.ifYes X0.here hx rfl (pc0 := 3) (pc' := 10) rfl (hb hby own_d_jdk_29_method_70_3) rfl (XT.ll_gt_t c3_2) (by decide) (by decide) ?_
      show Steps p.tables e below (s₁.setTop (mkF m 10 #[.val (.long q0), .second, .val (.long q1), .second] [])) _
      refine XS.lloadN X0.here hx rfl (hb hby own_d_jdk_29_method_70_10) rfl ?_
      exact k
    · rw [show v3 = _ from hv3.trans (if_neg c3_2)] at k
      show Steps p.tables e below (s₁.setTop (mkF m 3 #[.val (.long q0), .second, .val (.long q1), .second] [(.int (XT.cmpL q0 q1))])) _
      refine XS.ifNo X0.here hx rfl (hb hby own_d_jdk_29_method_70_3) rfl (XT.ll_gt_f c3_2) ?_
      show Steps p.tables e below (s₁.setTop (mkF m 6 #[.val (.long q0), .second, .val (.long q1), .second] [])) _
      refine XS.lloadN X0.here hx rfl (hb hby own_d_jdk_29_method_70_6) rfl ?_
      show Steps p.tables e below (s₁.setTop (mkF m 7 #[.val (.long q0), .second, .val (.long q1), .second] [(.long q0)])) _
      refine XS.goto X0.here hx rfl (pc0 := 7) (pc' := 11) rfl (hb hby own_d_jdk_29_method_70_7) (by decide) (by decide) ?_
      exact k)
  obtain ⟨fs, hr, hrun, hended, hW, hsame⟩ := X0.leave (v := some (.long v3)) (fun h => by rw [Bd.returns] at h; cases h)
  refine ⟨_, _, pre4 _ ?_, hrun, hended, _, _, rfl, ?_, ⟨_, rfl⟩, hW, hsame.mono (by decide) (by decide)⟩
  · show Steps p.tables e below (s₁.setTop (mkF m 11 #[.val (.long q0), .second, .val (.long q1), .second] [(.long v3)])) _
    exact retOut X0 hx Bd.returns rfl (Or.inr (Or.inl ⟨rfl, rfl, _, rfl⟩)) (hb hby own_d_jdk_29_method_70_11) hr
  · show Q_own_mnC Z q0 q1 h0 n0 _ s₁.heap _
    rw [e0]
    exact ⟨by rw [hv3]; rfl, N0, rfl⟩
theorem own_ef_own_mxC (m : MethodId) (q0 : Int64) (q1 : Int64) : entryFrame m #[(.long q0), (.long q1)] 4 = mkF m 0 #[.val (.long q0), .second, .val (.long q1), .second] [] := by first | (simp [entryFrame, mkF, argsToLocals, Value.category]; done) | rfl
def Q_own_mxC (Z : State) (q0 : Int64) (q1 : Int64)  (h0 : Heap) (n0 : Nat) (v : Option Value) (h : Heap) (L : List Loc) : Prop := v = some (.long (own_mx q0 q1)) ∧ Fr n0 L ∧ h = h0
theorem own_d_jdk_29_method_66_0 : decode jdk_29_method_66_code 0 = .ok (.lload_n 0, 1) := by decide +kernel
theorem own_d_jdk_29_method_66_1 : decode jdk_29_method_66_code 1 = .ok (.lload_n 2, 1) := by decide +kernel
theorem own_d_jdk_29_method_66_2 : decode jdk_29_method_66_code 2 = .ok (.lcmp, 1) := by decide +kernel
theorem own_d_jdk_29_method_66_3 : decode jdk_29_method_66_code 3 = .ok (.ifCond .lt 7, 3) := by decide +kernel
theorem own_d_jdk_29_method_66_10 : decode jdk_29_method_66_code 10 = .ok (.lload_n 2, 1) := by decide +kernel
theorem own_d_jdk_29_method_66_6 : decode jdk_29_method_66_code 6 = .ok (.lload_n 0, 1) := by decide +kernel
theorem own_d_jdk_29_method_66_7 : decode jdk_29_method_66_code 7 = .ok (.goto 4, 3) := by decide +kernel
theorem own_d_jdk_29_method_66_11 : decode jdk_29_method_66_code 11 = .ok (.lreturn, 1) := by decide +kernel
set_option maxRecDepth 65536 in
set_option maxHeartbeats 40000000 in
theorem own_mxC (l : Launch) (Z : State) (a0 : Array Value) (hw : ∀ d ∈ tables_1, d.before a0 Z = true) (ws : List Jvm.Cond) (q0 : Int64) (q1 : Int64)  (h0 : Heap) (n0 : Nat) (Z0 : n0 ≤ h0.size)  :
    MetFree l (⟨"java/lang/Math", "max", "(JJ)J"⟩ : MethodName) (head1 (Jvm.Cond.code (⟨"java/lang/Math", "max", "(JJ)J"⟩ : MethodName) jdk_29_method_66_code 4 (some .long) :: ws) ({ frames := 0, cells := 0, slots := 0, locals := 0 } : Room)) (fun a U => a = #[(.long q0), (.long q1)] ∧ Z.Warmed39 U.vm ∧ U.heap = h0) (fun _ _ _ _ _ => True) (fun _ U o U' => ∃ v L, o = .returned v ∧ Q_own_mxC Z q0 q1 h0 n0 v U'.heap L ∧ FrameEnd U o U' L ({ frames := 0, cells := 0, slots := 0, locals := 0 } : Room).cells ({ frames := 0, cells := 0, slots := 0, locals := 0 } : Room).slots) := by
  refine MetFree.of_bodySF (Jvm.Free.JP.mathPlain rfl (by decide +kernel)) hisR ?_
  intro p e s m args below meth c s₁ Bd hml0 hP hK
  obtain ⟨rfl, hZ, hh⟩ := hP
  have hx := Bd.exec
  have hby := Bd.bytes
  have hml : c.maxLocals = 4 := hml0
  have hown : s.vm.findClass "java/lang/Math" = some m.cls := findClass_of_methodNamed Bd.named
  have hnm := (name_of_methodNamed Bd.named Bd.method).1
  have X0 : Stand p l e ({ frames := 0, cells := 0, slots := 0, locals := 0 } : Room) s m #[(.long q0), (.long q1)] below meth c s₁ [] 0 0 := Stand.of_body Bd
  have e0 : s₁.heap = h0 := by rw [← hh, Bd.state]; rfl
  have N0 := Fr.nil n0
  have pre0 : ∀ t, Steps p.tables e below (s₁.setTop (mkF m 0 #[.val (.long q0), .second, .val (.long q1), .second] [])) t → Steps p.tables e below (s₁.setTop (entryFrame m #[(.long q0), (.long q1)] 4)) t := fun t k => castTop (own_ef_own_mxC m q0 q1) k
  have pre1 : ∀ t, Steps p.tables e below (s₁.setTop (mkF m 3 #[.val (.long q0), .second, .val (.long q1), .second] [(.int (XT.cmpL q0 q1))])) t → Steps p.tables e below (s₁.setTop (entryFrame m #[(.long q0), (.long q1)] 4)) t := fun t k => pre0 _ (by
    show Steps p.tables e below (s₁.setTop (mkF m 0 #[.val (.long q0), .second, .val (.long q1), .second] [])) _
    refine XS.lloadN X0.here hx rfl (hb hby own_d_jdk_29_method_66_0) rfl ?_
    show Steps p.tables e below (s₁.setTop (mkF m 1 #[.val (.long q0), .second, .val (.long q1), .second] [(.long q0)])) _
    refine XS.lloadN X0.here hx rfl (hb hby own_d_jdk_29_method_66_1) rfl ?_
    show Steps p.tables e below (s₁.setTop (mkF m 2 #[.val (.long q0), .second, .val (.long q1), .second] [(.long q1), (.long q0)])) _
    refine XT.lcmp X0.here hx rfl (hb hby own_d_jdk_29_method_66_2) rfl ?_
    exact k)
  obtain ⟨v3, hv3⟩ : ∃ z : Int64, z = (if q0 < q1 then q1 else q0) := ⟨_, rfl⟩
  have pre4 : ∀ t, Steps p.tables e below (s₁.setTop (mkF m 11 #[.val (.long q0), .second, .val (.long q1), .second] [(.long v3)])) t → Steps p.tables e below (s₁.setTop (entryFrame m #[(.long q0), (.long q1)] 4)) t := fun t k => pre1 _ (by
    by_cases c3_2 : q0 < q1
    · rw [show v3 = _ from hv3.trans (if_pos c3_2)] at k
      show Steps p.tables e below (s₁.setTop (mkF m 3 #[.val (.long q0), .second, .val (.long q1), .second] [(.int (XT.cmpL q0 q1))])) _
      refine XS.ifYes X0.here hx rfl (pc0 := 3) (pc' := 10) rfl (hb hby own_d_jdk_29_method_66_3) rfl (XT.ll_lt_t c3_2) (by decide) (by decide) ?_
      show Steps p.tables e below (s₁.setTop (mkF m 10 #[.val (.long q0), .second, .val (.long q1), .second] [])) _
      refine XS.lloadN X0.here hx rfl (hb hby own_d_jdk_29_method_66_10) rfl ?_
      exact k
    · rw [show v3 = _ from hv3.trans (if_neg c3_2)] at k
      show Steps p.tables e below (s₁.setTop (mkF m 3 #[.val (.long q0), .second, .val (.long q1), .second] [(.int (XT.cmpL q0 q1))])) _
      refine XS.ifNo X0.here hx rfl (hb hby own_d_jdk_29_method_66_3) rfl (XT.ll_lt_f c3_2) ?_
      show Steps p.tables e below (s₁.setTop (mkF m 6 #[.val (.long q0), .second, .val (.long q1), .second] [])) _
      refine XS.lloadN X0.here hx rfl (hb hby own_d_jdk_29_method_66_6) rfl ?_
      show Steps p.tables e below (s₁.setTop (mkF m 7 #[.val (.long q0), .second, .val (.long q1), .second] [(.long q0)])) _
      refine XS.goto X0.here hx rfl (pc0 := 7) (pc' := 11) rfl (hb hby own_d_jdk_29_method_66_7) (by decide) (by decide) ?_
      exact k)
  obtain ⟨fs, hr, hrun, hended, hW, hsame⟩ := X0.leave (v := some (.long v3)) (fun h => by rw [Bd.returns] at h; cases h)
  refine ⟨_, _, pre4 _ ?_, hrun, hended, _, _, rfl, ?_, ⟨_, rfl⟩, hW, hsame.mono (by decide) (by decide)⟩
  · show Steps p.tables e below (s₁.setTop (mkF m 11 #[.val (.long q0), .second, .val (.long q1), .second] [(.long v3)])) _
    exact retOut X0 hx Bd.returns rfl (Or.inr (Or.inl ⟨rfl, rfl, _, rfl⟩)) (hb hby own_d_jdk_29_method_66_11) hr
  · show Q_own_mxC Z q0 q1 h0 n0 _ s₁.heap _
    rw [e0]
    exact ⟨by rw [hv3]; rfl, N0, rfl⟩
theorem own_ef_own_ctor (m : MethodId) (oa : Addr) (ar : Addr) : entryFrame m #[(.ref oa), (.ref ar)] 2 = mkF m 0 #[.val (.ref oa), .val (.ref ar)] [] := by first | (simp [entryFrame, mkF, argsToLocals, Value.category]; done) | rfl
def Q_own_ctor (Z : State) (oa : Addr) (ar : Addr) (ka : ClassId) (zn : Int32) (vs : List Value) (h0 : Heap) (n0 : Nat) (v : Option Value) (h : Heap) (L : List Loc) : Prop := v = none ∧ Fr n0 L ∧ Keep h0 h [oa] ∧ Exa Z h oa "com/example/roundkeeper/roundkeeper/rules/Bands" ∧ ∃ t : Addr, Fld Z h oa "com/example/roundkeeper/roundkeeper/rules/Bands" "lowest" "[J" (.ref t) ∧ Arv Z h t ka .long zn vs (.long (0 : Int64))
theorem own_pn_com_example_roundkeeper_roundkeeper_rules_Bands : plainName "com/example/roundkeeper/roundkeeper/rules/Bands" = true := by first | (simp [plainName, overriddenIn]; done) | decide +kernel
theorem own_d_prog_31_method_1_0 : decode prog_31_method_1_code 0 = .ok (.aload_n 0, 1) := by decide +kernel
theorem own_d_prog_31_method_1_1 : decode prog_31_method_1_code 1 = .ok (.invokespecial 1, 3) := by decide +kernel
theorem own_d_prog_31_method_1_4 : decode prog_31_method_1_code 4 = .ok (.aload_n 0, 1) := by decide +kernel
theorem own_d_prog_31_method_1_5 : decode prog_31_method_1_code 5 = .ok (.aload_n 1, 1) := by decide +kernel
theorem own_d_prog_31_method_1_6 : decode prog_31_method_1_code 6 = .ok (.invokevirtual 7, 3) := by decide +kernel
theorem own_d_prog_31_method_1_9 : decode prog_31_method_1_code 9 = .ok (.checkcast 8, 3) := by decide +kernel
theorem own_d_prog_31_method_1_12 : decode prog_31_method_1_code 12 = .ok (.putfield 13, 3) := by decide +kernel
theorem own_d_prog_31_method_1_15 : decode prog_31_method_1_code 15 = .ok (.return_, 1) := by decide +kernel
set_option maxRecDepth 65536 in
set_option maxHeartbeats 40000000 in
theorem own_ctor (l : Launch) (Z : State) (a0 : Array Value) (hw : ∀ d ∈ tables_1, d.before a0 Z = true) (ws : List Jvm.Cond) (oa : Addr) (ar : Addr) (ka : ClassId) (zn : Int32) (vs : List Value) (h0 : Heap) (n0 : Nat) (Z0 : n0 ≤ h0.size) (F : Fld Z h0 oa "com/example/roundkeeper/roundkeeper/rules/Bands" "lowest" "[J" .null) (E : Exa Z h0 oa "com/example/roundkeeper/roundkeeper/rules/Bands") (VA : Arv Z h0 ar ka .long zn vs (.long (0 : Int64))) (EA : Exa Z h0 ar "[J") (ge_oa : n0 ≤ oa) (hcap : zn.toNatClampNeg ≤ 3) :
    MetFree l (⟨"com/example/roundkeeper/roundkeeper/rules/Bands", "<init>", "([J)V"⟩ : MethodName) (head1 (Jvm.Cond.code (⟨"com/example/roundkeeper/roundkeeper/rules/Bands", "<init>", "([J)V"⟩ : MethodName) prog_31_method_1_code 2 none :: ws) ({ frames := 1, cells := 1, slots := 3, locals := 15 } : Room)) (fun a U => a = #[(.ref oa), (.ref ar)] ∧ Z.Warmed39 U.vm ∧ U.heap = h0) (fun _ _ _ _ _ => True) (fun _ U o U' => ∃ v L, o = .returned v ∧ Q_own_ctor Z oa ar ka zn vs h0 n0 v U'.heap L ∧ FrameEnd U o U' L ({ frames := 1, cells := 1, slots := 3, locals := 15 } : Room).cells ({ frames := 1, cells := 1, slots := 3, locals := 15 } : Room).slots) := by
  refine MetFree.of_bodySF (plainFor_of_name own_pn_com_example_roundkeeper_roundkeeper_rules_Bands) hisR ?_
  intro p e s m args below meth c s₁ Bd hml0 hP hK
  obtain ⟨rfl, hZ, hh⟩ := hP
  have hx := Bd.exec
  have hby := Bd.bytes
  have hml : c.maxLocals = 2 := hml0
  have hown : s.vm.findClass "com/example/roundkeeper/roundkeeper/rules/Bands" = some m.cls := findClass_of_methodNamed Bd.named
  have hnm := (name_of_methodNamed Bd.named Bd.method).1
  have X0 : Stand p l e ({ frames := 1, cells := 1, slots := 3, locals := 15 } : Room) s m #[(.ref oa), (.ref ar)] below meth c s₁ [] 0 0 := Stand.of_body Bd
  have e0 : s₁.heap = h0 := by rw [← hh, Bd.state]; rfl
  have N0 := Fr.nil n0
  have pre0 : ∀ t, Steps p.tables e below (s₁.setTop (mkF m 0 #[.val (.ref oa), .val (.ref ar)] [])) t → Steps p.tables e below (s₁.setTop (entryFrame m #[(.ref oa), (.ref ar)] 2)) t := fun t k => castTop (own_ef_own_ctor m oa ar) k
  have pre1 : ∀ t, Steps p.tables e below (s₁.setTop (mkF m 1 #[.val (.ref oa), .val (.ref ar)] [(.ref oa)])) t → Steps p.tables e below (s₁.setTop (entryFrame m #[(.ref oa), (.ref ar)] 2)) t := fun t k => pre0 _ (by
    show Steps p.tables e below (s₁.setTop (mkF m 0 #[.val (.ref oa), .val (.ref ar)] [])) _
    refine XS.aloadN X0.here hx rfl (hb hby own_d_prog_31_method_1_0) rfl rfl ?_
    exact k)
  obtain ⟨T2, X2, e2, st2⟩ := initO X0 hx hZ hown (hw _ (List.mem_of_getElem? (i := 14) rfl)) (hw _ (List.mem_of_getElem? (i := 15) rfl)) (hw _ (List.mem_of_getElem? (i := 16) rfl)) e0 (g := (mkF m 1 #[.val (.ref oa), .val (.ref ar)] [(.ref oa)])) rfl (by rw [hml]; rfl) rfl (hb hby own_d_prog_31_method_1_1) (by decide) (W := 0) (by show 2 * 0 + _ ≤ _; exact Nat.le_of_eq rfl) (by decide)
  have pre3 : ∀ t, Steps p.tables e below (T2.setTop (mkF m 4 #[.val (.ref oa), .val (.ref ar)] [])) t → Steps p.tables e below (s₁.setTop (entryFrame m #[(.ref oa), (.ref ar)] 2)) t := fun t k => pre1 _ (st2 _ k)
  have pre4 : ∀ t, Steps p.tables e below (T2.setTop (mkF m 6 #[.val (.ref oa), .val (.ref ar)] [(.ref ar), (.ref oa)])) t → Steps p.tables e below (s₁.setTop (entryFrame m #[(.ref oa), (.ref ar)] 2)) t := fun t k => pre3 _ (by
    show Steps p.tables e below (T2.setTop (mkF m 4 #[.val (.ref oa), .val (.ref ar)] [])) _
    refine XS.aloadN X2.here hx rfl (hb hby own_d_prog_31_method_1_4) rfl rfl ?_
    show Steps p.tables e below (T2.setTop (mkF m 5 #[.val (.ref oa), .val (.ref ar)] [(.ref oa)])) _
    refine XS.aloadN X2.here hx rfl (hb hby own_d_prog_31_method_1_5) rfl rfl ?_
    exact k)
  obtain ⟨T5, h5, X5, e5, E5, V5, B5, st5⟩ := cloneH X2 hx hZ (ad := "[J") hown (hw _ (List.mem_of_getElem? (i := 17) rfl)) (hw _ (List.mem_of_getElem? (i := 18) rfl)) (hw _ (List.mem_of_getElem? (i := 22) rfl)) (hw _ (List.mem_of_getElem? (i := 20) rfl)) (hw _ (List.mem_of_getElem? (i := 21) rfl)) (hw _ (List.mem_of_getElem? (i := 23) rfl)) e2 VA.arh EA (g := (mkF m 6 #[.val (.ref oa), .val (.ref ar)] [(.ref ar), (.ref oa)])) rfl (by rw [hml]; rfl) rfl (hb hby own_d_prog_31_method_1_6) (by decide) (W := 1) (cap := 3) (by show 2 * 0 + _ ≤ _; exact Nat.le_of_eq rfl) (by decide) hcap (by decide) (by decide)
  obtain ⟨a5, ga5⟩ : ∃ z, z = h0.size := ⟨_, rfl⟩
  rw [← ga5] at V5 B5 st5
  have lt_oa_a5 : oa < a5 := Nat.lt_of_lt_of_eq F.lt ga5.symm
  have ne_oa_a5 : oa ≠ a5 := Nat.ne_of_lt lt_oa_a5
  have lt_ar_a5 : ar < a5 := Nat.lt_of_lt_of_eq VA.lt ga5.symm
  have ne_ar_a5 : ar ≠ a5 := Nat.ne_of_lt lt_ar_a5
  have ge_a5 : n0 ≤ a5 := Nat.le_trans Z0 (Nat.le_of_eq ga5.symm)
  have Z5 : n0 ≤ h5.size := Nat.le_trans Z0 E5.1
  have pre6 : ∀ t, Steps p.tables e below (T5.setTop (mkF m 9 #[.val (.ref oa), .val (.ref ar)] [(.ref a5), (.ref oa)])) t → Steps p.tables e below (s₁.setTop (entryFrame m #[(.ref oa), (.ref ar)] 2)) t := fun t k => pre4 _ (st5 _ k)
  have Vc5 : Arv Z h5 a5 ka .long zn vs (.long (0 : Int64)) := V5
  obtain ⟨T7, X7, e7, st7⟩ := castY X5 hx hZ hown (hw _ (List.mem_of_getElem? (i := 24) rfl)) e5 (Ins.self B5) (g := (mkF m 9 #[.val (.ref oa), .val (.ref ar)] [(.ref a5), (.ref oa)])) rfl rfl (hb hby own_d_prog_31_method_1_9)
  have pre8 : ∀ t, Steps p.tables e below (T7.setTop (mkF m 12 #[.val (.ref oa), .val (.ref ar)] [(.ref a5), (.ref oa)])) t → Steps p.tables e below (s₁.setTop (entryFrame m #[(.ref oa), (.ref ar)] 2)) t := fun t k => pre6 _ (st7 _ k)
  obtain ⟨T9, h9, X9, e9, W9, st9⟩ := putF X7 hx hZ hown (host := "") (Or.inl (hw _ (List.mem_of_getElem? (i := 26) rfl))) Via.refl e7 (F.ext E5) (E.ext E5) (Or.inr ⟨(hw _ (List.mem_of_getElem? (i := 27) rfl)), rfl, hnm⟩) (hw _ (List.mem_of_getElem? (i := 9) rfl)) (ty := (.array .long)) (by decide) rfl rfl (g := (mkF m 12 #[.val (.ref oa), .val (.ref ar)] [(.ref a5), (.ref oa)])) rfl rfl (hb hby own_d_prog_31_method_1_12)
  have N9 := Fr.snoc X9 N0 ge_oa
  have Z9 : n0 ≤ h9.size := Nat.le_trans Z5 (Keep.of_wr W9).1
  have F9 : Fld Z h9 oa "com/example/roundkeeper/roundkeeper/rules/Bands" "lowest" "[J" (.ref a5) := (F.ext E5).same W9
  have pre10 : ∀ t, Steps p.tables e below (T9.setTop (mkF m 15 #[.val (.ref oa), .val (.ref ar)] [])) t → Steps p.tables e below (s₁.setTop (entryFrame m #[(.ref oa), (.ref ar)] 2)) t := fun t k => pre8 _ (st9 _ k)
  obtain ⟨fs, hr, hrun, hended, hW, hsame⟩ := X9.leave (v := none) (fun _ => rfl)
  refine ⟨_, _, pre10 _ ?_, hrun, hended, _, _, rfl, ?_, ⟨_, rfl⟩, hW, hsame.mono (by decide) (by decide)⟩
  · show Steps p.tables e below (T9.setTop (mkF m 15 #[.val (.ref oa), .val (.ref ar)] [])) _
    exact X9.returnOut hx Bd.returns (hb hby own_d_prog_31_method_1_15) hr
  · show Q_own_ctor Z oa ar ka zn vs h0 n0 _ T9.heap _
    rw [e9]
    exact ⟨rfl, N9, ((Keep.refl _ _).ext E5).wr W9 (Or.inl (List.mem_of_getElem? (i := 0) rfl)), ((E.ext E5).wr W9), a5, F9, (Vc5.other W9 ne_oa_a5.symm)⟩
theorem own_ef_own_of0 (m : MethodId) (oa : Addr) (q1 : Int64) : entryFrame m #[(.ref oa), (.long q1)] 4 = mkF m 0 #[.val (.ref oa), .val (.long q1), .second, .unset] [] := by first | (simp [entryFrame, mkF, argsToLocals, Value.category]; done) | rfl
def Q_own_of0 (Z : State) (oa : Addr) (q1 : Int64) (ta : Addr) (ka : ClassId) (h0 : Heap) (n0 : Nat) (v : Option Value) (h : Heap) (L : List Loc) : Prop := v = some (.int (own_of [] q1)) ∧ Fr n0 L ∧ h = h0
theorem own_d_prog_31_method_3_0 : decode prog_31_method_3_code 0 = .ok (.iconst 0, 1) := by decide +kernel
theorem own_d_prog_31_method_3_1 : decode prog_31_method_3_code 1 = .ok (.istore_n 3, 1) := by decide +kernel
theorem own_d_prog_31_method_3_2 : decode prog_31_method_3_code 2 = .ok (.iload_n 3, 1) := by decide +kernel
theorem own_d_prog_31_method_3_3 : decode prog_31_method_3_code 3 = .ok (.aload_n 0, 1) := by decide +kernel
theorem own_d_prog_31_method_3_4 : decode prog_31_method_3_code 4 = .ok (.getfield 13, 3) := by decide +kernel
theorem own_d_prog_31_method_3_7 : decode prog_31_method_3_code 7 = .ok (.arraylength, 1) := by decide +kernel
theorem own_d_prog_31_method_3_8 : decode prog_31_method_3_code 8 = .ok (.if_icmp .ge 20, 3) := by decide +kernel
theorem own_d_prog_31_method_3_28 : decode prog_31_method_3_code 28 = .ok (.iload_n 3, 1) := by decide +kernel
theorem own_d_prog_31_method_3_29 : decode prog_31_method_3_code 29 = .ok (.ireturn, 1) := by decide +kernel
set_option maxRecDepth 65536 in
set_option maxHeartbeats 40000000 in
theorem own_of0 (l : Launch) (Z : State) (a0 : Array Value) (hw : ∀ d ∈ tables_1, d.before a0 Z = true) (ws : List Jvm.Cond) (oa : Addr) (q1 : Int64) (ta : Addr) (ka : ClassId) (h0 : Heap) (n0 : Nat) (Z0 : n0 ≤ h0.size) (F : Fld Z h0 oa "com/example/roundkeeper/roundkeeper/rules/Bands" "lowest" "[J" (.ref ta)) (VA : Arv Z h0 ta ka .long (0 : Int32) [] (.long (0 : Int64))) :
    MetFree l (⟨"com/example/roundkeeper/roundkeeper/rules/Bands", "of", "(J)I"⟩ : MethodName) (head1 (Jvm.Cond.code (⟨"com/example/roundkeeper/roundkeeper/rules/Bands", "of", "(J)I"⟩ : MethodName) prog_31_method_3_code 4 (some .int) :: ws) ({ frames := 0, cells := 0, slots := 0, locals := 0 } : Room)) (fun a U => a = #[(.ref oa), (.long q1)] ∧ Z.Warmed39 U.vm ∧ U.heap = h0) (fun _ _ _ _ _ => True) (fun _ U o U' => ∃ v L, o = .returned v ∧ Q_own_of0 Z oa q1 ta ka h0 n0 v U'.heap L ∧ FrameEnd U o U' L ({ frames := 0, cells := 0, slots := 0, locals := 0 } : Room).cells ({ frames := 0, cells := 0, slots := 0, locals := 0 } : Room).slots) := by
  refine MetFree.of_bodySF (plainFor_of_name own_pn_com_example_roundkeeper_roundkeeper_rules_Bands) hisR ?_
  intro p e s m args below meth c s₁ Bd hml0 hP hK
  obtain ⟨rfl, hZ, hh⟩ := hP
  have hx := Bd.exec
  have hby := Bd.bytes
  have hml : c.maxLocals = 4 := hml0
  have hown : s.vm.findClass "com/example/roundkeeper/roundkeeper/rules/Bands" = some m.cls := findClass_of_methodNamed Bd.named
  have hnm := (name_of_methodNamed Bd.named Bd.method).1
  have X0 : Stand p l e ({ frames := 0, cells := 0, slots := 0, locals := 0 } : Room) s m #[(.ref oa), (.long q1)] below meth c s₁ [] 0 0 := Stand.of_body Bd
  have e0 : s₁.heap = h0 := by rw [← hh, Bd.state]; rfl
  have N0 := Fr.nil n0
  have pre0 : ∀ t, Steps p.tables e below (s₁.setTop (mkF m 0 #[.val (.ref oa), .val (.long q1), .second, .unset] [])) t → Steps p.tables e below (s₁.setTop (entryFrame m #[(.ref oa), (.long q1)] 4)) t := fun t k => castTop (own_ef_own_of0 m oa q1) k
  have pre1 : ∀ t, Steps p.tables e below (s₁.setTop (mkF m 4 #[.val (.ref oa), .val (.long q1), .second, .val (.int (0 : Int32))] [(.ref oa), (.int (0 : Int32))])) t → Steps p.tables e below (s₁.setTop (entryFrame m #[(.ref oa), (.long q1)] 4)) t := fun t k => pre0 _ (by
    show Steps p.tables e below (s₁.setTop (mkF m 0 #[.val (.ref oa), .val (.long q1), .second, .unset] [])) _
    refine XT.iconstV X0.here hx rfl (0 : Int32) (hb hby own_d_prog_31_method_3_0) rfl ?_
    show Steps p.tables e below (s₁.setTop (mkF m 1 #[.val (.ref oa), .val (.long q1), .second, .unset] [(.int (0 : Int32))])) _
    refine XS.istoreN X0.here hx rfl (hb hby own_d_prog_31_method_3_1) rfl (l' := #[.val (.ref oa), .val (.long q1), .second, .val (.int (0 : Int32))]) rfl ?_
    show Steps p.tables e below (s₁.setTop (mkF m 2 #[.val (.ref oa), .val (.long q1), .second, .val (.int (0 : Int32))] [])) _
    refine XS.iloadN X0.here hx rfl (hb hby own_d_prog_31_method_3_2) rfl ?_
    show Steps p.tables e below (s₁.setTop (mkF m 3 #[.val (.ref oa), .val (.long q1), .second, .val (.int (0 : Int32))] [(.int (0 : Int32))])) _
    refine XS.aloadN X0.here hx rfl (hb hby own_d_prog_31_method_3_3) rfl rfl ?_
    exact k)
  obtain ⟨T2, X2, e2, st2⟩ := getF X0 hx hZ hown (host := "") (Or.inl (hw _ (List.mem_of_getElem? (i := 26) rfl))) Via.refl e0 F (g := (mkF m 4 #[.val (.ref oa), .val (.long q1), .second, .val (.int (0 : Int32))] [(.ref oa), (.int (0 : Int32))])) rfl rfl (hb hby own_d_prog_31_method_3_4)
  have pre3 : ∀ t, Steps p.tables e below (T2.setTop (mkF m 7 #[.val (.ref oa), .val (.long q1), .second, .val (.int (0 : Int32))] [(.ref ta), (.int (0 : Int32))])) t → Steps p.tables e below (s₁.setTop (entryFrame m #[(.ref oa), (.long q1)] 4)) t := fun t k => pre1 _ (st2 _ k)
  obtain ⟨cl4, Ar4, qc4, Sz4, Mz4, Hs4, Uf4⟩ := (show Arv Z h0 ta ka .long (0 : Int32) [] (.long (0 : Int64)) from VA)
  have pre5 : ∀ t, Steps p.tables e below (T2.setTop (mkF m 29 #[.val (.ref oa), .val (.long q1), .second, .val (.int (0 : Int32))] [(.int (0 : Int32))])) t → Steps p.tables e below (s₁.setTop (entryFrame m #[(.ref oa), (.long q1)] 4)) t := fun t k => pre3 _ (by
    show Steps p.tables e below (T2.setTop (mkF m 7 #[.val (.ref oa), .val (.long q1), .second, .val (.int (0 : Int32))] [(.ref ta), (.int (0 : Int32))])) _
    refine X2.arraylength hx (by rw [e2]; exact Ar4.1) (State.isArrayOf_alike hZ.alike Ar4.2.1) (g := (mkF m 7 #[.val (.ref oa), .val (.long q1), .second, .val (.int (0 : Int32))] [(.ref ta), (.int (0 : Int32))])) rfl rfl (hb hby own_d_prog_31_method_3_7) _ ?_
    rw [len_of Sz4 Mz4]
    show Steps p.tables e below (T2.setTop (mkF m 8 #[.val (.ref oa), .val (.long q1), .second, .val (.int (0 : Int32))] [(.int (0 : Int32)), (.int (0 : Int32))])) _
    refine XS.icmpYes X2.here hx rfl (pc0 := 8) (pc' := 28) rfl (hb hby own_d_prog_31_method_3_8) rfl (XT.ii_ge_t (by decide)) (by decide) (by decide) ?_
    show Steps p.tables e below (T2.setTop (mkF m 28 #[.val (.ref oa), .val (.long q1), .second, .val (.int (0 : Int32))] [])) _
    refine XS.iloadN X2.here hx rfl (hb hby own_d_prog_31_method_3_28) rfl ?_
    exact k)
  obtain ⟨fs, hr, hrun, hended, hW, hsame⟩ := X2.leave (v := some (.int (0 : Int32))) (fun h => by rw [Bd.returns] at h; cases h)
  refine ⟨_, _, pre5 _ ?_, hrun, hended, _, _, rfl, ?_, ⟨_, rfl⟩, hW, hsame.mono (by decide) (by decide)⟩
  · show Steps p.tables e below (T2.setTop (mkF m 29 #[.val (.ref oa), .val (.long q1), .second, .val (.int (0 : Int32))] [(.int (0 : Int32))])) _
    exact retI X2 hx Bd.returns (hb hby own_d_prog_31_method_3_29) hr
  · show Q_own_of0 Z oa q1 ta ka h0 n0 _ T2.heap _
    rw [e2]
    exact ⟨by simp [own_of], N0, rfl⟩
theorem own_ef_own_of1 (m : MethodId) (oa : Addr) (q1 : Int64) : entryFrame m #[(.ref oa), (.long q1)] 4 = mkF m 0 #[.val (.ref oa), .val (.long q1), .second, .unset] [] := by first | (simp [entryFrame, mkF, argsToLocals, Value.category]; done) | rfl
def Q_own_of1 (Z : State) (oa : Addr) (q1 : Int64) (ta : Addr) (ka : ClassId) (x0 : Int64) (h0 : Heap) (n0 : Nat) (v : Option Value) (h : Heap) (L : List Loc) : Prop := v = some (.int (own_of [x0] q1)) ∧ Fr n0 L ∧ h = h0
theorem own_d_prog_31_method_3_11 : decode prog_31_method_3_code 11 = .ok (.lload_n 1, 1) := by decide +kernel
theorem own_d_prog_31_method_3_12 : decode prog_31_method_3_code 12 = .ok (.aload_n 0, 1) := by decide +kernel
theorem own_d_prog_31_method_3_13 : decode prog_31_method_3_code 13 = .ok (.getfield 13, 3) := by decide +kernel
theorem own_d_prog_31_method_3_16 : decode prog_31_method_3_code 16 = .ok (.iload_n 3, 1) := by decide +kernel
theorem own_d_prog_31_method_3_17 : decode prog_31_method_3_code 17 = .ok (.laload, 1) := by decide +kernel
theorem own_d_prog_31_method_3_18 : decode prog_31_method_3_code 18 = .ok (.lcmp, 1) := by decide +kernel
theorem own_d_prog_31_method_3_19 : decode prog_31_method_3_code 19 = .ok (.ifCond .lt 9, 3) := by decide +kernel
theorem own_d_prog_31_method_3_22 : decode prog_31_method_3_code 22 = .ok (.iinc 3 1, 3) := by decide +kernel
theorem own_d_prog_31_method_3_25 : decode prog_31_method_3_code 25 = .ok (.goto (-23), 3) := by decide +kernel
set_option maxRecDepth 65536 in
set_option maxHeartbeats 40000000 in
theorem own_of1 (l : Launch) (Z : State) (a0 : Array Value) (hw : ∀ d ∈ tables_1, d.before a0 Z = true) (ws : List Jvm.Cond) (oa : Addr) (q1 : Int64) (ta : Addr) (ka : ClassId) (x0 : Int64) (h0 : Heap) (n0 : Nat) (Z0 : n0 ≤ h0.size) (F : Fld Z h0 oa "com/example/roundkeeper/roundkeeper/rules/Bands" "lowest" "[J" (.ref ta)) (VA : Arv Z h0 ta ka .long (1 : Int32) [(.long x0)] (.long (0 : Int64))) :
    MetFree l (⟨"com/example/roundkeeper/roundkeeper/rules/Bands", "of", "(J)I"⟩ : MethodName) (head1 (Jvm.Cond.code (⟨"com/example/roundkeeper/roundkeeper/rules/Bands", "of", "(J)I"⟩ : MethodName) prog_31_method_3_code 4 (some .int) :: ws) ({ frames := 0, cells := 0, slots := 0, locals := 0 } : Room)) (fun a U => a = #[(.ref oa), (.long q1)] ∧ Z.Warmed39 U.vm ∧ U.heap = h0) (fun _ _ _ _ _ => True) (fun _ U o U' => ∃ v L, o = .returned v ∧ Q_own_of1 Z oa q1 ta ka x0 h0 n0 v U'.heap L ∧ FrameEnd U o U' L ({ frames := 0, cells := 0, slots := 0, locals := 0 } : Room).cells ({ frames := 0, cells := 0, slots := 0, locals := 0 } : Room).slots) := by
  refine MetFree.of_bodySF (plainFor_of_name own_pn_com_example_roundkeeper_roundkeeper_rules_Bands) hisR ?_
  intro p e s m args below meth c s₁ Bd hml0 hP hK
  obtain ⟨rfl, hZ, hh⟩ := hP
  have hx := Bd.exec
  have hby := Bd.bytes
  have hml : c.maxLocals = 4 := hml0
  have hown : s.vm.findClass "com/example/roundkeeper/roundkeeper/rules/Bands" = some m.cls := findClass_of_methodNamed Bd.named
  have hnm := (name_of_methodNamed Bd.named Bd.method).1
  have X0 : Stand p l e ({ frames := 0, cells := 0, slots := 0, locals := 0 } : Room) s m #[(.ref oa), (.long q1)] below meth c s₁ [] 0 0 := Stand.of_body Bd
  have e0 : s₁.heap = h0 := by rw [← hh, Bd.state]; rfl
  have N0 := Fr.nil n0
  have pre0 : ∀ t, Steps p.tables e below (s₁.setTop (mkF m 0 #[.val (.ref oa), .val (.long q1), .second, .unset] [])) t → Steps p.tables e below (s₁.setTop (entryFrame m #[(.ref oa), (.long q1)] 4)) t := fun t k => castTop (own_ef_own_of1 m oa q1) k
  have pre1 : ∀ t, Steps p.tables e below (s₁.setTop (mkF m 4 #[.val (.ref oa), .val (.long q1), .second, .val (.int (0 : Int32))] [(.ref oa), (.int (0 : Int32))])) t → Steps p.tables e below (s₁.setTop (entryFrame m #[(.ref oa), (.long q1)] 4)) t := fun t k => pre0 _ (by
    show Steps p.tables e below (s₁.setTop (mkF m 0 #[.val (.ref oa), .val (.long q1), .second, .unset] [])) _
    refine XT.iconstV X0.here hx rfl (0 : Int32) (hb hby own_d_prog_31_method_3_0) rfl ?_
    show Steps p.tables e below (s₁.setTop (mkF m 1 #[.val (.ref oa), .val (.long q1), .second, .unset] [(.int (0 : Int32))])) _
    refine XS.istoreN X0.here hx rfl (hb hby own_d_prog_31_method_3_1) rfl (l' := #[.val (.ref oa), .val (.long q1), .second, .val (.int (0 : Int32))]) rfl ?_
    show Steps p.tables e below (s₁.setTop (mkF m 2 #[.val (.ref oa), .val (.long q1), .second, .val (.int (0 : Int32))] [])) _
    refine XS.iloadN X0.here hx rfl (hb hby own_d_prog_31_method_3_2) rfl ?_
    show Steps p.tables e below (s₁.setTop (mkF m 3 #[.val (.ref oa), .val (.long q1), .second, .val (.int (0 : Int32))] [(.int (0 : Int32))])) _
    refine XS.aloadN X0.here hx rfl (hb hby own_d_prog_31_method_3_3) rfl rfl ?_
    exact k)
  obtain ⟨T2, X2, e2, st2⟩ := getF X0 hx hZ hown (host := "") (Or.inl (hw _ (List.mem_of_getElem? (i := 26) rfl))) Via.refl e0 F (g := (mkF m 4 #[.val (.ref oa), .val (.long q1), .second, .val (.int (0 : Int32))] [(.ref oa), (.int (0 : Int32))])) rfl rfl (hb hby own_d_prog_31_method_3_4)
  have pre3 : ∀ t, Steps p.tables e below (T2.setTop (mkF m 7 #[.val (.ref oa), .val (.long q1), .second, .val (.int (0 : Int32))] [(.ref ta), (.int (0 : Int32))])) t → Steps p.tables e below (s₁.setTop (entryFrame m #[(.ref oa), (.long q1)] 4)) t := fun t k => pre1 _ (st2 _ k)
  obtain ⟨cl4, Ar4, qc4, Sz4, Mz4, Hs4, Uf4⟩ := (show Arv Z h0 ta ka .long (1 : Int32) [(.long x0)] (.long (0 : Int64)) from VA)
  have pre5 : ∀ t, Steps p.tables e below (T2.setTop (mkF m 13 #[.val (.ref oa), .val (.long q1), .second, .val (.int (0 : Int32))] [(.ref oa), (.long q1)])) t → Steps p.tables e below (s₁.setTop (entryFrame m #[(.ref oa), (.long q1)] 4)) t := fun t k => pre3 _ (by
    show Steps p.tables e below (T2.setTop (mkF m 7 #[.val (.ref oa), .val (.long q1), .second, .val (.int (0 : Int32))] [(.ref ta), (.int (0 : Int32))])) _
    refine X2.arraylength hx (by rw [e2]; exact Ar4.1) (State.isArrayOf_alike hZ.alike Ar4.2.1) (g := (mkF m 7 #[.val (.ref oa), .val (.long q1), .second, .val (.int (0 : Int32))] [(.ref ta), (.int (0 : Int32))])) rfl rfl (hb hby own_d_prog_31_method_3_7) _ ?_
    rw [len_of Sz4 Mz4]
    show Steps p.tables e below (T2.setTop (mkF m 8 #[.val (.ref oa), .val (.long q1), .second, .val (.int (0 : Int32))] [(.int (1 : Int32)), (.int (0 : Int32))])) _
    refine XS.icmpNo X2.here hx rfl (hb hby own_d_prog_31_method_3_8) rfl (XT.ii_ge_f (by decide)) ?_
    show Steps p.tables e below (T2.setTop (mkF m 11 #[.val (.ref oa), .val (.long q1), .second, .val (.int (0 : Int32))] [])) _
    refine XS.lloadN X2.here hx rfl (hb hby own_d_prog_31_method_3_11) rfl ?_
    show Steps p.tables e below (T2.setTop (mkF m 12 #[.val (.ref oa), .val (.long q1), .second, .val (.int (0 : Int32))] [(.long q1)])) _
    refine XS.aloadN X2.here hx rfl (hb hby own_d_prog_31_method_3_12) rfl rfl ?_
    exact k)
  obtain ⟨T6, X6, e6, st6⟩ := getF X2 hx hZ hown (host := "") (Or.inl (hw _ (List.mem_of_getElem? (i := 26) rfl))) Via.refl e2 F (g := (mkF m 13 #[.val (.ref oa), .val (.long q1), .second, .val (.int (0 : Int32))] [(.ref oa), (.long q1)])) rfl rfl (hb hby own_d_prog_31_method_3_13)
  have pre7 : ∀ t, Steps p.tables e below (T6.setTop (mkF m 16 #[.val (.ref oa), .val (.long q1), .second, .val (.int (0 : Int32))] [(.ref ta), (.long q1)])) t → Steps p.tables e below (s₁.setTop (entryFrame m #[(.ref oa), (.long q1)] 4)) t := fun t k => pre5 _ (st6 _ k)
  have pre9 : ∀ t, Steps p.tables e below (T6.setTop (mkF m 17 #[.val (.ref oa), .val (.long q1), .second, .val (.int (0 : Int32))] [(.int (0 : Int32)), (.ref ta), (.long q1)])) t → Steps p.tables e below (s₁.setTop (entryFrame m #[(.ref oa), (.long q1)] 4)) t := fun t k => pre7 _ (by
    show Steps p.tables e below (T6.setTop (mkF m 16 #[.val (.ref oa), .val (.long q1), .second, .val (.int (0 : Int32))] [(.ref ta), (.long q1)])) _
    refine XS.iloadN X6.here hx rfl (hb hby own_d_prog_31_method_3_16) rfl ?_
    exact k)
  obtain ⟨cl8, Ar8, qc8, Sz8, Mz8, Hs8, Uf8⟩ := (show Arv Z h0 ta ka .long (1 : Int32) [(.long x0)] (.long (0 : Int64)) from VA)
  have in10 : ¬ ((0 : Int32) < 0 ∨ cl8.slots.size ≤ ((0 : Int32)).toNatClampNeg) := inb_of Sz8 (by decide)
  have at10 : cl8.slots[((0 : Int32)).toNatClampNeg]? = some (.long x0) := Hs8.at in10 rfl
  have pre11 : ∀ t, Steps p.tables e below (T6.setTop (mkF m 19 #[.val (.ref oa), .val (.long q1), .second, .val (.int (0 : Int32))] [(.int (XT.cmpL q1 x0))])) t → Steps p.tables e below (s₁.setTop (entryFrame m #[(.ref oa), (.long q1)] 4)) t := fun t k => pre9 _ (by
    show Steps p.tables e below (T6.setTop (mkF m 17 #[.val (.ref oa), .val (.long q1), .second, .val (.int (0 : Int32))] [(.int (0 : Int32)), (.ref ta), (.long q1)])) _
    refine X6.laload hx (j := (0 : Int32)) (v := (.long x0)) (by rw [e6]; exact Ar8.1) (State.isArrayOf_alike hZ.alike Ar8.2.1) Ar8.2.2 in10 at10 (g := (mkF m 17 #[.val (.ref oa), .val (.long q1), .second, .val (.int (0 : Int32))] [(.int (0 : Int32)), (.ref ta), (.long q1)])) rfl rfl (hb hby own_d_prog_31_method_3_17) _ ?_
    show Steps p.tables e below (T6.setTop (mkF m 18 #[.val (.ref oa), .val (.long q1), .second, .val (.int (0 : Int32))] [(.long x0), (.long q1)])) _
    refine XT.lcmp X6.here hx rfl (hb hby own_d_prog_31_method_3_18) rfl ?_
    exact k)
  by_cases d0 : q1 < x0
  · have pre12 : ∀ t, Steps p.tables e below (T6.setTop (mkF m 29 #[.val (.ref oa), .val (.long q1), .second, .val (.int (0 : Int32))] [(.int (0 : Int32))])) t → Steps p.tables e below (s₁.setTop (entryFrame m #[(.ref oa), (.long q1)] 4)) t := fun t k => pre11 _ (by
      show Steps p.tables e below (T6.setTop (mkF m 19 #[.val (.ref oa), .val (.long q1), .second, .val (.int (0 : Int32))] [(.int (XT.cmpL q1 x0))])) _
      refine XS.ifYes X6.here hx rfl (pc0 := 19) (pc' := 28) rfl (hb hby own_d_prog_31_method_3_19) rfl (XT.ll_lt_t d0) (by decide) (by decide) ?_
      show Steps p.tables e below (T6.setTop (mkF m 28 #[.val (.ref oa), .val (.long q1), .second, .val (.int (0 : Int32))] [])) _
      refine XS.iloadN X6.here hx rfl (hb hby own_d_prog_31_method_3_28) rfl ?_
      exact k)
    obtain ⟨fs, hr, hrun, hended, hW, hsame⟩ := X6.leave (v := some (.int (0 : Int32))) (fun h => by rw [Bd.returns] at h; cases h)
    refine ⟨_, _, pre12 _ ?_, hrun, hended, _, _, rfl, ?_, ⟨_, rfl⟩, hW, hsame.mono (by decide) (by decide)⟩
    · show Steps p.tables e below (T6.setTop (mkF m 29 #[.val (.ref oa), .val (.long q1), .second, .val (.int (0 : Int32))] [(.int (0 : Int32))])) _
      exact retI X6 hx Bd.returns (hb hby own_d_prog_31_method_3_29) hr
    · show Q_own_of1 Z oa q1 ta ka x0 h0 n0 _ T6.heap _
      rw [e6]
      exact ⟨by simp [own_of, d0], N0, rfl⟩
  · have pre13 : ∀ t, Steps p.tables e below (T6.setTop (mkF m 4 #[.val (.ref oa), .val (.long q1), .second, .val (.int (1 : Int32))] [(.ref oa), (.int (1 : Int32))])) t → Steps p.tables e below (s₁.setTop (entryFrame m #[(.ref oa), (.long q1)] 4)) t := fun t k => pre11 _ (by
      show Steps p.tables e below (T6.setTop (mkF m 19 #[.val (.ref oa), .val (.long q1), .second, .val (.int (0 : Int32))] [(.int (XT.cmpL q1 x0))])) _
      refine XS.ifNo X6.here hx rfl (hb hby own_d_prog_31_method_3_19) rfl (XT.ll_lt_f d0) ?_
      show Steps p.tables e below (T6.setTop (mkF m 22 #[.val (.ref oa), .val (.long q1), .second, .val (.int (0 : Int32))] [])) _
      refine XT.iincV X6.here hx rfl (1 : Int32) (hb hby own_d_prog_31_method_3_22) rfl rfl (l' := #[.val (.ref oa), .val (.long q1), .second, .val (.int (1 : Int32))]) rfl ?_
      show Steps p.tables e below (T6.setTop (mkF m 25 #[.val (.ref oa), .val (.long q1), .second, .val (.int (1 : Int32))] [])) _
      refine XS.goto X6.here hx rfl (pc0 := 25) (pc' := 2) rfl (hb hby own_d_prog_31_method_3_25) (by decide) (by decide) ?_
      show Steps p.tables e below (T6.setTop (mkF m 2 #[.val (.ref oa), .val (.long q1), .second, .val (.int (1 : Int32))] [])) _
      refine XS.iloadN X6.here hx rfl (hb hby own_d_prog_31_method_3_2) rfl ?_
      show Steps p.tables e below (T6.setTop (mkF m 3 #[.val (.ref oa), .val (.long q1), .second, .val (.int (1 : Int32))] [(.int (1 : Int32))])) _
      refine XS.aloadN X6.here hx rfl (hb hby own_d_prog_31_method_3_3) rfl rfl ?_
      exact k)
    obtain ⟨T14, X14, e14, st14⟩ := getF X6 hx hZ hown (host := "") (Or.inl (hw _ (List.mem_of_getElem? (i := 26) rfl))) Via.refl e6 F (g := (mkF m 4 #[.val (.ref oa), .val (.long q1), .second, .val (.int (1 : Int32))] [(.ref oa), (.int (1 : Int32))])) rfl rfl (hb hby own_d_prog_31_method_3_4)
    have pre15 : ∀ t, Steps p.tables e below (T14.setTop (mkF m 7 #[.val (.ref oa), .val (.long q1), .second, .val (.int (1 : Int32))] [(.ref ta), (.int (1 : Int32))])) t → Steps p.tables e below (s₁.setTop (entryFrame m #[(.ref oa), (.long q1)] 4)) t := fun t k => pre13 _ (st14 _ k)
    obtain ⟨cl16, Ar16, qc16, Sz16, Mz16, Hs16, Uf16⟩ := (show Arv Z h0 ta ka .long (1 : Int32) [(.long x0)] (.long (0 : Int64)) from VA)
    have pre17 : ∀ t, Steps p.tables e below (T14.setTop (mkF m 29 #[.val (.ref oa), .val (.long q1), .second, .val (.int (1 : Int32))] [(.int (1 : Int32))])) t → Steps p.tables e below (s₁.setTop (entryFrame m #[(.ref oa), (.long q1)] 4)) t := fun t k => pre15 _ (by
      show Steps p.tables e below (T14.setTop (mkF m 7 #[.val (.ref oa), .val (.long q1), .second, .val (.int (1 : Int32))] [(.ref ta), (.int (1 : Int32))])) _
      refine X14.arraylength hx (by rw [e14]; exact Ar16.1) (State.isArrayOf_alike hZ.alike Ar16.2.1) (g := (mkF m 7 #[.val (.ref oa), .val (.long q1), .second, .val (.int (1 : Int32))] [(.ref ta), (.int (1 : Int32))])) rfl rfl (hb hby own_d_prog_31_method_3_7) _ ?_
      rw [len_of Sz16 Mz16]
      show Steps p.tables e below (T14.setTop (mkF m 8 #[.val (.ref oa), .val (.long q1), .second, .val (.int (1 : Int32))] [(.int (1 : Int32)), (.int (1 : Int32))])) _
      refine XS.icmpYes X14.here hx rfl (pc0 := 8) (pc' := 28) rfl (hb hby own_d_prog_31_method_3_8) rfl (XT.ii_ge_t (by decide)) (by decide) (by decide) ?_
      show Steps p.tables e below (T14.setTop (mkF m 28 #[.val (.ref oa), .val (.long q1), .second, .val (.int (1 : Int32))] [])) _
      refine XS.iloadN X14.here hx rfl (hb hby own_d_prog_31_method_3_28) rfl ?_
      exact k)
    obtain ⟨fs, hr, hrun, hended, hW, hsame⟩ := X14.leave (v := some (.int (1 : Int32))) (fun h => by rw [Bd.returns] at h; cases h)
    refine ⟨_, _, pre17 _ ?_, hrun, hended, _, _, rfl, ?_, ⟨_, rfl⟩, hW, hsame.mono (by decide) (by decide)⟩
    · show Steps p.tables e below (T14.setTop (mkF m 29 #[.val (.ref oa), .val (.long q1), .second, .val (.int (1 : Int32))] [(.int (1 : Int32))])) _
      exact retI X14 hx Bd.returns (hb hby own_d_prog_31_method_3_29) hr
    · show Q_own_of1 Z oa q1 ta ka x0 h0 n0 _ T14.heap _
      rw [e14]
      exact ⟨by simp [own_of, d0], N0, rfl⟩
theorem own_ef_own_of2 (m : MethodId) (oa : Addr) (q1 : Int64) : entryFrame m #[(.ref oa), (.long q1)] 4 = mkF m 0 #[.val (.ref oa), .val (.long q1), .second, .unset] [] := by first | (simp [entryFrame, mkF, argsToLocals, Value.category]; done) | rfl
def Q_own_of2 (Z : State) (oa : Addr) (q1 : Int64) (ta : Addr) (ka : ClassId) (x0 : Int64) (x1 : Int64) (h0 : Heap) (n0 : Nat) (v : Option Value) (h : Heap) (L : List Loc) : Prop := v = some (.int (own_of [x0, x1] q1)) ∧ Fr n0 L ∧ h = h0
set_option maxRecDepth 65536 in
set_option maxHeartbeats 40000000 in
theorem own_of2 (l : Launch) (Z : State) (a0 : Array Value) (hw : ∀ d ∈ tables_1, d.before a0 Z = true) (ws : List Jvm.Cond) (oa : Addr) (q1 : Int64) (ta : Addr) (ka : ClassId) (x0 : Int64) (x1 : Int64) (h0 : Heap) (n0 : Nat) (Z0 : n0 ≤ h0.size) (F : Fld Z h0 oa "com/example/roundkeeper/roundkeeper/rules/Bands" "lowest" "[J" (.ref ta)) (VA : Arv Z h0 ta ka .long (2 : Int32) [(.long x0), (.long x1)] (.long (0 : Int64))) :
    MetFree l (⟨"com/example/roundkeeper/roundkeeper/rules/Bands", "of", "(J)I"⟩ : MethodName) (head1 (Jvm.Cond.code (⟨"com/example/roundkeeper/roundkeeper/rules/Bands", "of", "(J)I"⟩ : MethodName) prog_31_method_3_code 4 (some .int) :: ws) ({ frames := 0, cells := 0, slots := 0, locals := 0 } : Room)) (fun a U => a = #[(.ref oa), (.long q1)] ∧ Z.Warmed39 U.vm ∧ U.heap = h0) (fun _ _ _ _ _ => True) (fun _ U o U' => ∃ v L, o = .returned v ∧ Q_own_of2 Z oa q1 ta ka x0 x1 h0 n0 v U'.heap L ∧ FrameEnd U o U' L ({ frames := 0, cells := 0, slots := 0, locals := 0 } : Room).cells ({ frames := 0, cells := 0, slots := 0, locals := 0 } : Room).slots) := by
  refine MetFree.of_bodySF (plainFor_of_name own_pn_com_example_roundkeeper_roundkeeper_rules_Bands) hisR ?_
  intro p e s m args below meth c s₁ Bd hml0 hP hK
  obtain ⟨rfl, hZ, hh⟩ := hP
  have hx := Bd.exec
  have hby := Bd.bytes
  have hml : c.maxLocals = 4 := hml0
  have hown : s.vm.findClass "com/example/roundkeeper/roundkeeper/rules/Bands" = some m.cls := findClass_of_methodNamed Bd.named
  have hnm := (name_of_methodNamed Bd.named Bd.method).1
  have X0 : Stand p l e ({ frames := 0, cells := 0, slots := 0, locals := 0 } : Room) s m #[(.ref oa), (.long q1)] below meth c s₁ [] 0 0 := Stand.of_body Bd
  have e0 : s₁.heap = h0 := by rw [← hh, Bd.state]; rfl
  have N0 := Fr.nil n0
  have pre0 : ∀ t, Steps p.tables e below (s₁.setTop (mkF m 0 #[.val (.ref oa), .val (.long q1), .second, .unset] [])) t → Steps p.tables e below (s₁.setTop (entryFrame m #[(.ref oa), (.long q1)] 4)) t := fun t k => castTop (own_ef_own_of2 m oa q1) k
  have pre1 : ∀ t, Steps p.tables e below (s₁.setTop (mkF m 4 #[.val (.ref oa), .val (.long q1), .second, .val (.int (0 : Int32))] [(.ref oa), (.int (0 : Int32))])) t → Steps p.tables e below (s₁.setTop (entryFrame m #[(.ref oa), (.long q1)] 4)) t := fun t k => pre0 _ (by
    show Steps p.tables e below (s₁.setTop (mkF m 0 #[.val (.ref oa), .val (.long q1), .second, .unset] [])) _
    refine XT.iconstV X0.here hx rfl (0 : Int32) (hb hby own_d_prog_31_method_3_0) rfl ?_
    show Steps p.tables e below (s₁.setTop (mkF m 1 #[.val (.ref oa), .val (.long q1), .second, .unset] [(.int (0 : Int32))])) _
    refine XS.istoreN X0.here hx rfl (hb hby own_d_prog_31_method_3_1) rfl (l' := #[.val (.ref oa), .val (.long q1), .second, .val (.int (0 : Int32))]) rfl ?_
    show Steps p.tables e below (s₁.setTop (mkF m 2 #[.val (.ref oa), .val (.long q1), .second, .val (.int (0 : Int32))] [])) _
    refine XS.iloadN X0.here hx rfl (hb hby own_d_prog_31_method_3_2) rfl ?_
    show Steps p.tables e below (s₁.setTop (mkF m 3 #[.val (.ref oa), .val (.long q1), .second, .val (.int (0 : Int32))] [(.int (0 : Int32))])) _
    refine XS.aloadN X0.here hx rfl (hb hby own_d_prog_31_method_3_3) rfl rfl ?_
    exact k)
  obtain ⟨T2, X2, e2, st2⟩ := getF X0 hx hZ hown (host := "") (Or.inl (hw _ (List.mem_of_getElem? (i := 26) rfl))) Via.refl e0 F (g := (mkF m 4 #[.val (.ref oa), .val (.long q1), .second, .val (.int (0 : Int32))] [(.ref oa), (.int (0 : Int32))])) rfl rfl (hb hby own_d_prog_31_method_3_4)
  have pre3 : ∀ t, Steps p.tables e below (T2.setTop (mkF m 7 #[.val (.ref oa), .val (.long q1), .second, .val (.int (0 : Int32))] [(.ref ta), (.int (0 : Int32))])) t → Steps p.tables e below (s₁.setTop (entryFrame m #[(.ref oa), (.long q1)] 4)) t := fun t k => pre1 _ (st2 _ k)
  obtain ⟨cl4, Ar4, qc4, Sz4, Mz4, Hs4, Uf4⟩ := (show Arv Z h0 ta ka .long (2 : Int32) [(.long x0), (.long x1)] (.long (0 : Int64)) from VA)
  have pre5 : ∀ t, Steps p.tables e below (T2.setTop (mkF m 13 #[.val (.ref oa), .val (.long q1), .second, .val (.int (0 : Int32))] [(.ref oa), (.long q1)])) t → Steps p.tables e below (s₁.setTop (entryFrame m #[(.ref oa), (.long q1)] 4)) t := fun t k => pre3 _ (by
    show Steps p.tables e below (T2.setTop (mkF m 7 #[.val (.ref oa), .val (.long q1), .second, .val (.int (0 : Int32))] [(.ref ta), (.int (0 : Int32))])) _
    refine X2.arraylength hx (by rw [e2]; exact Ar4.1) (State.isArrayOf_alike hZ.alike Ar4.2.1) (g := (mkF m 7 #[.val (.ref oa), .val (.long q1), .second, .val (.int (0 : Int32))] [(.ref ta), (.int (0 : Int32))])) rfl rfl (hb hby own_d_prog_31_method_3_7) _ ?_
    rw [len_of Sz4 Mz4]
    show Steps p.tables e below (T2.setTop (mkF m 8 #[.val (.ref oa), .val (.long q1), .second, .val (.int (0 : Int32))] [(.int (2 : Int32)), (.int (0 : Int32))])) _
    refine XS.icmpNo X2.here hx rfl (hb hby own_d_prog_31_method_3_8) rfl (XT.ii_ge_f (by decide)) ?_
    show Steps p.tables e below (T2.setTop (mkF m 11 #[.val (.ref oa), .val (.long q1), .second, .val (.int (0 : Int32))] [])) _
    refine XS.lloadN X2.here hx rfl (hb hby own_d_prog_31_method_3_11) rfl ?_
    show Steps p.tables e below (T2.setTop (mkF m 12 #[.val (.ref oa), .val (.long q1), .second, .val (.int (0 : Int32))] [(.long q1)])) _
    refine XS.aloadN X2.here hx rfl (hb hby own_d_prog_31_method_3_12) rfl rfl ?_
    exact k)
  obtain ⟨T6, X6, e6, st6⟩ := getF X2 hx hZ hown (host := "") (Or.inl (hw _ (List.mem_of_getElem? (i := 26) rfl))) Via.refl e2 F (g := (mkF m 13 #[.val (.ref oa), .val (.long q1), .second, .val (.int (0 : Int32))] [(.ref oa), (.long q1)])) rfl rfl (hb hby own_d_prog_31_method_3_13)
  have pre7 : ∀ t, Steps p.tables e below (T6.setTop (mkF m 16 #[.val (.ref oa), .val (.long q1), .second, .val (.int (0 : Int32))] [(.ref ta), (.long q1)])) t → Steps p.tables e below (s₁.setTop (entryFrame m #[(.ref oa), (.long q1)] 4)) t := fun t k => pre5 _ (st6 _ k)
  have pre9 : ∀ t, Steps p.tables e below (T6.setTop (mkF m 17 #[.val (.ref oa), .val (.long q1), .second, .val (.int (0 : Int32))] [(.int (0 : Int32)), (.ref ta), (.long q1)])) t → Steps p.tables e below (s₁.setTop (entryFrame m #[(.ref oa), (.long q1)] 4)) t := fun t k => pre7 _ (by
    show Steps p.tables e below (T6.setTop (mkF m 16 #[.val (.ref oa), .val (.long q1), .second, .val (.int (0 : Int32))] [(.ref ta), (.long q1)])) _
    refine XS.iloadN X6.here hx rfl (hb hby own_d_prog_31_method_3_16) rfl ?_
    exact k)
  obtain ⟨cl8, Ar8, qc8, Sz8, Mz8, Hs8, Uf8⟩ := (show Arv Z h0 ta ka .long (2 : Int32) [(.long x0), (.long x1)] (.long (0 : Int64)) from VA)
  have in10 : ¬ ((0 : Int32) < 0 ∨ cl8.slots.size ≤ ((0 : Int32)).toNatClampNeg) := inb_of Sz8 (by decide)
  have at10 : cl8.slots[((0 : Int32)).toNatClampNeg]? = some (.long x0) := Hs8.at in10 rfl
  have pre11 : ∀ t, Steps p.tables e below (T6.setTop (mkF m 19 #[.val (.ref oa), .val (.long q1), .second, .val (.int (0 : Int32))] [(.int (XT.cmpL q1 x0))])) t → Steps p.tables e below (s₁.setTop (entryFrame m #[(.ref oa), (.long q1)] 4)) t := fun t k => pre9 _ (by
    show Steps p.tables e below (T6.setTop (mkF m 17 #[.val (.ref oa), .val (.long q1), .second, .val (.int (0 : Int32))] [(.int (0 : Int32)), (.ref ta), (.long q1)])) _
    refine X6.laload hx (j := (0 : Int32)) (v := (.long x0)) (by rw [e6]; exact Ar8.1) (State.isArrayOf_alike hZ.alike Ar8.2.1) Ar8.2.2 in10 at10 (g := (mkF m 17 #[.val (.ref oa), .val (.long q1), .second, .val (.int (0 : Int32))] [(.int (0 : Int32)), (.ref ta), (.long q1)])) rfl rfl (hb hby own_d_prog_31_method_3_17) _ ?_
    show Steps p.tables e below (T6.setTop (mkF m 18 #[.val (.ref oa), .val (.long q1), .second, .val (.int (0 : Int32))] [(.long x0), (.long q1)])) _
    refine XT.lcmp X6.here hx rfl (hb hby own_d_prog_31_method_3_18) rfl ?_
    exact k)
  by_cases d0 : q1 < x0
  · have pre12 : ∀ t, Steps p.tables e below (T6.setTop (mkF m 29 #[.val (.ref oa), .val (.long q1), .second, .val (.int (0 : Int32))] [(.int (0 : Int32))])) t → Steps p.tables e below (s₁.setTop (entryFrame m #[(.ref oa), (.long q1)] 4)) t := fun t k => pre11 _ (by
      show Steps p.tables e below (T6.setTop (mkF m 19 #[.val (.ref oa), .val (.long q1), .second, .val (.int (0 : Int32))] [(.int (XT.cmpL q1 x0))])) _
      refine XS.ifYes X6.here hx rfl (pc0 := 19) (pc' := 28) rfl (hb hby own_d_prog_31_method_3_19) rfl (XT.ll_lt_t d0) (by decide) (by decide) ?_
      show Steps p.tables e below (T6.setTop (mkF m 28 #[.val (.ref oa), .val (.long q1), .second, .val (.int (0 : Int32))] [])) _
      refine XS.iloadN X6.here hx rfl (hb hby own_d_prog_31_method_3_28) rfl ?_
      exact k)
    obtain ⟨fs, hr, hrun, hended, hW, hsame⟩ := X6.leave (v := some (.int (0 : Int32))) (fun h => by rw [Bd.returns] at h; cases h)
    refine ⟨_, _, pre12 _ ?_, hrun, hended, _, _, rfl, ?_, ⟨_, rfl⟩, hW, hsame.mono (by decide) (by decide)⟩
    · show Steps p.tables e below (T6.setTop (mkF m 29 #[.val (.ref oa), .val (.long q1), .second, .val (.int (0 : Int32))] [(.int (0 : Int32))])) _
      exact retI X6 hx Bd.returns (hb hby own_d_prog_31_method_3_29) hr
    · show Q_own_of2 Z oa q1 ta ka x0 x1 h0 n0 _ T6.heap _
      rw [e6]
      exact ⟨by simp [own_of, d0], N0, rfl⟩
  · have pre13 : ∀ t, Steps p.tables e below (T6.setTop (mkF m 4 #[.val (.ref oa), .val (.long q1), .second, .val (.int (1 : Int32))] [(.ref oa), (.int (1 : Int32))])) t → Steps p.tables e below (s₁.setTop (entryFrame m #[(.ref oa), (.long q1)] 4)) t := fun t k => pre11 _ (by
      show Steps p.tables e below (T6.setTop (mkF m 19 #[.val (.ref oa), .val (.long q1), .second, .val (.int (0 : Int32))] [(.int (XT.cmpL q1 x0))])) _
      refine XS.ifNo X6.here hx rfl (hb hby own_d_prog_31_method_3_19) rfl (XT.ll_lt_f d0) ?_
      show Steps p.tables e below (T6.setTop (mkF m 22 #[.val (.ref oa), .val (.long q1), .second, .val (.int (0 : Int32))] [])) _
      refine XT.iincV X6.here hx rfl (1 : Int32) (hb hby own_d_prog_31_method_3_22) rfl rfl (l' := #[.val (.ref oa), .val (.long q1), .second, .val (.int (1 : Int32))]) rfl ?_
      show Steps p.tables e below (T6.setTop (mkF m 25 #[.val (.ref oa), .val (.long q1), .second, .val (.int (1 : Int32))] [])) _
      refine XS.goto X6.here hx rfl (pc0 := 25) (pc' := 2) rfl (hb hby own_d_prog_31_method_3_25) (by decide) (by decide) ?_
      show Steps p.tables e below (T6.setTop (mkF m 2 #[.val (.ref oa), .val (.long q1), .second, .val (.int (1 : Int32))] [])) _
      refine XS.iloadN X6.here hx rfl (hb hby own_d_prog_31_method_3_2) rfl ?_
      show Steps p.tables e below (T6.setTop (mkF m 3 #[.val (.ref oa), .val (.long q1), .second, .val (.int (1 : Int32))] [(.int (1 : Int32))])) _
      refine XS.aloadN X6.here hx rfl (hb hby own_d_prog_31_method_3_3) rfl rfl ?_
      exact k)
    obtain ⟨T14, X14, e14, st14⟩ := getF X6 hx hZ hown (host := "") (Or.inl (hw _ (List.mem_of_getElem? (i := 26) rfl))) Via.refl e6 F (g := (mkF m 4 #[.val (.ref oa), .val (.long q1), .second, .val (.int (1 : Int32))] [(.ref oa), (.int (1 : Int32))])) rfl rfl (hb hby own_d_prog_31_method_3_4)
    have pre15 : ∀ t, Steps p.tables e below (T14.setTop (mkF m 7 #[.val (.ref oa), .val (.long q1), .second, .val (.int (1 : Int32))] [(.ref ta), (.int (1 : Int32))])) t → Steps p.tables e below (s₁.setTop (entryFrame m #[(.ref oa), (.long q1)] 4)) t := fun t k => pre13 _ (st14 _ k)
    obtain ⟨cl16, Ar16, qc16, Sz16, Mz16, Hs16, Uf16⟩ := (show Arv Z h0 ta ka .long (2 : Int32) [(.long x0), (.long x1)] (.long (0 : Int64)) from VA)
    have pre17 : ∀ t, Steps p.tables e below (T14.setTop (mkF m 13 #[.val (.ref oa), .val (.long q1), .second, .val (.int (1 : Int32))] [(.ref oa), (.long q1)])) t → Steps p.tables e below (s₁.setTop (entryFrame m #[(.ref oa), (.long q1)] 4)) t := fun t k => pre15 _ (by
      show Steps p.tables e below (T14.setTop (mkF m 7 #[.val (.ref oa), .val (.long q1), .second, .val (.int (1 : Int32))] [(.ref ta), (.int (1 : Int32))])) _
      refine X14.arraylength hx (by rw [e14]; exact Ar16.1) (State.isArrayOf_alike hZ.alike Ar16.2.1) (g := (mkF m 7 #[.val (.ref oa), .val (.long q1), .second, .val (.int (1 : Int32))] [(.ref ta), (.int (1 : Int32))])) rfl rfl (hb hby own_d_prog_31_method_3_7) _ ?_
      rw [len_of Sz16 Mz16]
      show Steps p.tables e below (T14.setTop (mkF m 8 #[.val (.ref oa), .val (.long q1), .second, .val (.int (1 : Int32))] [(.int (2 : Int32)), (.int (1 : Int32))])) _
      refine XS.icmpNo X14.here hx rfl (hb hby own_d_prog_31_method_3_8) rfl (XT.ii_ge_f (by decide)) ?_
      show Steps p.tables e below (T14.setTop (mkF m 11 #[.val (.ref oa), .val (.long q1), .second, .val (.int (1 : Int32))] [])) _
      refine XS.lloadN X14.here hx rfl (hb hby own_d_prog_31_method_3_11) rfl ?_
      show Steps p.tables e below (T14.setTop (mkF m 12 #[.val (.ref oa), .val (.long q1), .second, .val (.int (1 : Int32))] [(.long q1)])) _
      refine XS.aloadN X14.here hx rfl (hb hby own_d_prog_31_method_3_12) rfl rfl ?_
      exact k)
    obtain ⟨T18, X18, e18, st18⟩ := getF X14 hx hZ hown (host := "") (Or.inl (hw _ (List.mem_of_getElem? (i := 26) rfl))) Via.refl e14 F (g := (mkF m 13 #[.val (.ref oa), .val (.long q1), .second, .val (.int (1 : Int32))] [(.ref oa), (.long q1)])) rfl rfl (hb hby own_d_prog_31_method_3_13)
    have pre19 : ∀ t, Steps p.tables e below (T18.setTop (mkF m 16 #[.val (.ref oa), .val (.long q1), .second, .val (.int (1 : Int32))] [(.ref ta), (.long q1)])) t → Steps p.tables e below (s₁.setTop (entryFrame m #[(.ref oa), (.long q1)] 4)) t := fun t k => pre17 _ (st18 _ k)
    have pre21 : ∀ t, Steps p.tables e below (T18.setTop (mkF m 17 #[.val (.ref oa), .val (.long q1), .second, .val (.int (1 : Int32))] [(.int (1 : Int32)), (.ref ta), (.long q1)])) t → Steps p.tables e below (s₁.setTop (entryFrame m #[(.ref oa), (.long q1)] 4)) t := fun t k => pre19 _ (by
      show Steps p.tables e below (T18.setTop (mkF m 16 #[.val (.ref oa), .val (.long q1), .second, .val (.int (1 : Int32))] [(.ref ta), (.long q1)])) _
      refine XS.iloadN X18.here hx rfl (hb hby own_d_prog_31_method_3_16) rfl ?_
      exact k)
    obtain ⟨cl20, Ar20, qc20, Sz20, Mz20, Hs20, Uf20⟩ := (show Arv Z h0 ta ka .long (2 : Int32) [(.long x0), (.long x1)] (.long (0 : Int64)) from VA)
    have in22 : ¬ ((1 : Int32) < 0 ∨ cl20.slots.size ≤ ((1 : Int32)).toNatClampNeg) := inb_of Sz20 (by decide)
    have at22 : cl20.slots[((1 : Int32)).toNatClampNeg]? = some (.long x1) := Hs20.at in22 rfl
    have pre23 : ∀ t, Steps p.tables e below (T18.setTop (mkF m 19 #[.val (.ref oa), .val (.long q1), .second, .val (.int (1 : Int32))] [(.int (XT.cmpL q1 x1))])) t → Steps p.tables e below (s₁.setTop (entryFrame m #[(.ref oa), (.long q1)] 4)) t := fun t k => pre21 _ (by
      show Steps p.tables e below (T18.setTop (mkF m 17 #[.val (.ref oa), .val (.long q1), .second, .val (.int (1 : Int32))] [(.int (1 : Int32)), (.ref ta), (.long q1)])) _
      refine X18.laload hx (j := (1 : Int32)) (v := (.long x1)) (by rw [e18]; exact Ar20.1) (State.isArrayOf_alike hZ.alike Ar20.2.1) Ar20.2.2 in22 at22 (g := (mkF m 17 #[.val (.ref oa), .val (.long q1), .second, .val (.int (1 : Int32))] [(.int (1 : Int32)), (.ref ta), (.long q1)])) rfl rfl (hb hby own_d_prog_31_method_3_17) _ ?_
      show Steps p.tables e below (T18.setTop (mkF m 18 #[.val (.ref oa), .val (.long q1), .second, .val (.int (1 : Int32))] [(.long x1), (.long q1)])) _
      refine XT.lcmp X18.here hx rfl (hb hby own_d_prog_31_method_3_18) rfl ?_
      exact k)
    by_cases d1 : q1 < x1
    · have pre24 : ∀ t, Steps p.tables e below (T18.setTop (mkF m 29 #[.val (.ref oa), .val (.long q1), .second, .val (.int (1 : Int32))] [(.int (1 : Int32))])) t → Steps p.tables e below (s₁.setTop (entryFrame m #[(.ref oa), (.long q1)] 4)) t := fun t k => pre23 _ (by
        show Steps p.tables e below (T18.setTop (mkF m 19 #[.val (.ref oa), .val (.long q1), .second, .val (.int (1 : Int32))] [(.int (XT.cmpL q1 x1))])) _
        refine XS.ifYes X18.here hx rfl (pc0 := 19) (pc' := 28) rfl (hb hby own_d_prog_31_method_3_19) rfl (XT.ll_lt_t d1) (by decide) (by decide) ?_
        show Steps p.tables e below (T18.setTop (mkF m 28 #[.val (.ref oa), .val (.long q1), .second, .val (.int (1 : Int32))] [])) _
        refine XS.iloadN X18.here hx rfl (hb hby own_d_prog_31_method_3_28) rfl ?_
        exact k)
      obtain ⟨fs, hr, hrun, hended, hW, hsame⟩ := X18.leave (v := some (.int (1 : Int32))) (fun h => by rw [Bd.returns] at h; cases h)
      refine ⟨_, _, pre24 _ ?_, hrun, hended, _, _, rfl, ?_, ⟨_, rfl⟩, hW, hsame.mono (by decide) (by decide)⟩
      · show Steps p.tables e below (T18.setTop (mkF m 29 #[.val (.ref oa), .val (.long q1), .second, .val (.int (1 : Int32))] [(.int (1 : Int32))])) _
        exact retI X18 hx Bd.returns (hb hby own_d_prog_31_method_3_29) hr
      · show Q_own_of2 Z oa q1 ta ka x0 x1 h0 n0 _ T18.heap _
        rw [e18]
        exact ⟨by simp [own_of, d0, d1], N0, rfl⟩
    · have pre25 : ∀ t, Steps p.tables e below (T18.setTop (mkF m 4 #[.val (.ref oa), .val (.long q1), .second, .val (.int (2 : Int32))] [(.ref oa), (.int (2 : Int32))])) t → Steps p.tables e below (s₁.setTop (entryFrame m #[(.ref oa), (.long q1)] 4)) t := fun t k => pre23 _ (by
        show Steps p.tables e below (T18.setTop (mkF m 19 #[.val (.ref oa), .val (.long q1), .second, .val (.int (1 : Int32))] [(.int (XT.cmpL q1 x1))])) _
        refine XS.ifNo X18.here hx rfl (hb hby own_d_prog_31_method_3_19) rfl (XT.ll_lt_f d1) ?_
        show Steps p.tables e below (T18.setTop (mkF m 22 #[.val (.ref oa), .val (.long q1), .second, .val (.int (1 : Int32))] [])) _
        refine XT.iincV X18.here hx rfl (1 : Int32) (hb hby own_d_prog_31_method_3_22) rfl rfl (l' := #[.val (.ref oa), .val (.long q1), .second, .val (.int (2 : Int32))]) rfl ?_
        show Steps p.tables e below (T18.setTop (mkF m 25 #[.val (.ref oa), .val (.long q1), .second, .val (.int (2 : Int32))] [])) _
        refine XS.goto X18.here hx rfl (pc0 := 25) (pc' := 2) rfl (hb hby own_d_prog_31_method_3_25) (by decide) (by decide) ?_
        show Steps p.tables e below (T18.setTop (mkF m 2 #[.val (.ref oa), .val (.long q1), .second, .val (.int (2 : Int32))] [])) _
        refine XS.iloadN X18.here hx rfl (hb hby own_d_prog_31_method_3_2) rfl ?_
        show Steps p.tables e below (T18.setTop (mkF m 3 #[.val (.ref oa), .val (.long q1), .second, .val (.int (2 : Int32))] [(.int (2 : Int32))])) _
        refine XS.aloadN X18.here hx rfl (hb hby own_d_prog_31_method_3_3) rfl rfl ?_
        exact k)
      obtain ⟨T26, X26, e26, st26⟩ := getF X18 hx hZ hown (host := "") (Or.inl (hw _ (List.mem_of_getElem? (i := 26) rfl))) Via.refl e18 F (g := (mkF m 4 #[.val (.ref oa), .val (.long q1), .second, .val (.int (2 : Int32))] [(.ref oa), (.int (2 : Int32))])) rfl rfl (hb hby own_d_prog_31_method_3_4)
      have pre27 : ∀ t, Steps p.tables e below (T26.setTop (mkF m 7 #[.val (.ref oa), .val (.long q1), .second, .val (.int (2 : Int32))] [(.ref ta), (.int (2 : Int32))])) t → Steps p.tables e below (s₁.setTop (entryFrame m #[(.ref oa), (.long q1)] 4)) t := fun t k => pre25 _ (st26 _ k)
      obtain ⟨cl28, Ar28, qc28, Sz28, Mz28, Hs28, Uf28⟩ := (show Arv Z h0 ta ka .long (2 : Int32) [(.long x0), (.long x1)] (.long (0 : Int64)) from VA)
      have pre29 : ∀ t, Steps p.tables e below (T26.setTop (mkF m 29 #[.val (.ref oa), .val (.long q1), .second, .val (.int (2 : Int32))] [(.int (2 : Int32))])) t → Steps p.tables e below (s₁.setTop (entryFrame m #[(.ref oa), (.long q1)] 4)) t := fun t k => pre27 _ (by
        show Steps p.tables e below (T26.setTop (mkF m 7 #[.val (.ref oa), .val (.long q1), .second, .val (.int (2 : Int32))] [(.ref ta), (.int (2 : Int32))])) _
        refine X26.arraylength hx (by rw [e26]; exact Ar28.1) (State.isArrayOf_alike hZ.alike Ar28.2.1) (g := (mkF m 7 #[.val (.ref oa), .val (.long q1), .second, .val (.int (2 : Int32))] [(.ref ta), (.int (2 : Int32))])) rfl rfl (hb hby own_d_prog_31_method_3_7) _ ?_
        rw [len_of Sz28 Mz28]
        show Steps p.tables e below (T26.setTop (mkF m 8 #[.val (.ref oa), .val (.long q1), .second, .val (.int (2 : Int32))] [(.int (2 : Int32)), (.int (2 : Int32))])) _
        refine XS.icmpYes X26.here hx rfl (pc0 := 8) (pc' := 28) rfl (hb hby own_d_prog_31_method_3_8) rfl (XT.ii_ge_t (by decide)) (by decide) (by decide) ?_
        show Steps p.tables e below (T26.setTop (mkF m 28 #[.val (.ref oa), .val (.long q1), .second, .val (.int (2 : Int32))] [])) _
        refine XS.iloadN X26.here hx rfl (hb hby own_d_prog_31_method_3_28) rfl ?_
        exact k)
      obtain ⟨fs, hr, hrun, hended, hW, hsame⟩ := X26.leave (v := some (.int (2 : Int32))) (fun h => by rw [Bd.returns] at h; cases h)
      refine ⟨_, _, pre29 _ ?_, hrun, hended, _, _, rfl, ?_, ⟨_, rfl⟩, hW, hsame.mono (by decide) (by decide)⟩
      · show Steps p.tables e below (T26.setTop (mkF m 29 #[.val (.ref oa), .val (.long q1), .second, .val (.int (2 : Int32))] [(.int (2 : Int32))])) _
        exact retI X26 hx Bd.returns (hb hby own_d_prog_31_method_3_29) hr
      · show Q_own_of2 Z oa q1 ta ka x0 x1 h0 n0 _ T26.heap _
        rw [e26]
        exact ⟨by simp [own_of, d0, d1], N0, rfl⟩
theorem own_ef_own_of3 (m : MethodId) (oa : Addr) (q1 : Int64) : entryFrame m #[(.ref oa), (.long q1)] 4 = mkF m 0 #[.val (.ref oa), .val (.long q1), .second, .unset] [] := by first | (simp [entryFrame, mkF, argsToLocals, Value.category]; done) | rfl
def Q_own_of3 (Z : State) (oa : Addr) (q1 : Int64) (ta : Addr) (ka : ClassId) (x0 : Int64) (x1 : Int64) (x2 : Int64) (h0 : Heap) (n0 : Nat) (v : Option Value) (h : Heap) (L : List Loc) : Prop := v = some (.int (own_of [x0, x1, x2] q1)) ∧ Fr n0 L ∧ h = h0
set_option maxRecDepth 65536 in
set_option maxHeartbeats 40000000 in
theorem own_of3 (l : Launch) (Z : State) (a0 : Array Value) (hw : ∀ d ∈ tables_1, d.before a0 Z = true) (ws : List Jvm.Cond) (oa : Addr) (q1 : Int64) (ta : Addr) (ka : ClassId) (x0 : Int64) (x1 : Int64) (x2 : Int64) (h0 : Heap) (n0 : Nat) (Z0 : n0 ≤ h0.size) (F : Fld Z h0 oa "com/example/roundkeeper/roundkeeper/rules/Bands" "lowest" "[J" (.ref ta)) (VA : Arv Z h0 ta ka .long (3 : Int32) [(.long x0), (.long x1), (.long x2)] (.long (0 : Int64))) :
    MetFree l (⟨"com/example/roundkeeper/roundkeeper/rules/Bands", "of", "(J)I"⟩ : MethodName) (head1 (Jvm.Cond.code (⟨"com/example/roundkeeper/roundkeeper/rules/Bands", "of", "(J)I"⟩ : MethodName) prog_31_method_3_code 4 (some .int) :: ws) ({ frames := 0, cells := 0, slots := 0, locals := 0 } : Room)) (fun a U => a = #[(.ref oa), (.long q1)] ∧ Z.Warmed39 U.vm ∧ U.heap = h0) (fun _ _ _ _ _ => True) (fun _ U o U' => ∃ v L, o = .returned v ∧ Q_own_of3 Z oa q1 ta ka x0 x1 x2 h0 n0 v U'.heap L ∧ FrameEnd U o U' L ({ frames := 0, cells := 0, slots := 0, locals := 0 } : Room).cells ({ frames := 0, cells := 0, slots := 0, locals := 0 } : Room).slots) := by
  refine MetFree.of_bodySF (plainFor_of_name own_pn_com_example_roundkeeper_roundkeeper_rules_Bands) hisR ?_
  intro p e s m args below meth c s₁ Bd hml0 hP hK
  obtain ⟨rfl, hZ, hh⟩ := hP
  have hx := Bd.exec
  have hby := Bd.bytes
  have hml : c.maxLocals = 4 := hml0
  have hown : s.vm.findClass "com/example/roundkeeper/roundkeeper/rules/Bands" = some m.cls := findClass_of_methodNamed Bd.named
  have hnm := (name_of_methodNamed Bd.named Bd.method).1
  have X0 : Stand p l e ({ frames := 0, cells := 0, slots := 0, locals := 0 } : Room) s m #[(.ref oa), (.long q1)] below meth c s₁ [] 0 0 := Stand.of_body Bd
  have e0 : s₁.heap = h0 := by rw [← hh, Bd.state]; rfl
  have N0 := Fr.nil n0
  have pre0 : ∀ t, Steps p.tables e below (s₁.setTop (mkF m 0 #[.val (.ref oa), .val (.long q1), .second, .unset] [])) t → Steps p.tables e below (s₁.setTop (entryFrame m #[(.ref oa), (.long q1)] 4)) t := fun t k => castTop (own_ef_own_of3 m oa q1) k
  have pre1 : ∀ t, Steps p.tables e below (s₁.setTop (mkF m 4 #[.val (.ref oa), .val (.long q1), .second, .val (.int (0 : Int32))] [(.ref oa), (.int (0 : Int32))])) t → Steps p.tables e below (s₁.setTop (entryFrame m #[(.ref oa), (.long q1)] 4)) t := fun t k => pre0 _ (by
    show Steps p.tables e below (s₁.setTop (mkF m 0 #[.val (.ref oa), .val (.long q1), .second, .unset] [])) _
    refine XT.iconstV X0.here hx rfl (0 : Int32) (hb hby own_d_prog_31_method_3_0) rfl ?_
    show Steps p.tables e below (s₁.setTop (mkF m 1 #[.val (.ref oa), .val (.long q1), .second, .unset] [(.int (0 : Int32))])) _
    refine XS.istoreN X0.here hx rfl (hb hby own_d_prog_31_method_3_1) rfl (l' := #[.val (.ref oa), .val (.long q1), .second, .val (.int (0 : Int32))]) rfl ?_
    show Steps p.tables e below (s₁.setTop (mkF m 2 #[.val (.ref oa), .val (.long q1), .second, .val (.int (0 : Int32))] [])) _
    refine XS.iloadN X0.here hx rfl (hb hby own_d_prog_31_method_3_2) rfl ?_
    show Steps p.tables e below (s₁.setTop (mkF m 3 #[.val (.ref oa), .val (.long q1), .second, .val (.int (0 : Int32))] [(.int (0 : Int32))])) _
    refine XS.aloadN X0.here hx rfl (hb hby own_d_prog_31_method_3_3) rfl rfl ?_
    exact k)
  obtain ⟨T2, X2, e2, st2⟩ := getF X0 hx hZ hown (host := "") (Or.inl (hw _ (List.mem_of_getElem? (i := 26) rfl))) Via.refl e0 F (g := (mkF m 4 #[.val (.ref oa), .val (.long q1), .second, .val (.int (0 : Int32))] [(.ref oa), (.int (0 : Int32))])) rfl rfl (hb hby own_d_prog_31_method_3_4)
  have pre3 : ∀ t, Steps p.tables e below (T2.setTop (mkF m 7 #[.val (.ref oa), .val (.long q1), .second, .val (.int (0 : Int32))] [(.ref ta), (.int (0 : Int32))])) t → Steps p.tables e below (s₁.setTop (entryFrame m #[(.ref oa), (.long q1)] 4)) t := fun t k => pre1 _ (st2 _ k)
  obtain ⟨cl4, Ar4, qc4, Sz4, Mz4, Hs4, Uf4⟩ := (show Arv Z h0 ta ka .long (3 : Int32) [(.long x0), (.long x1), (.long x2)] (.long (0 : Int64)) from VA)
  have pre5 : ∀ t, Steps p.tables e below (T2.setTop (mkF m 13 #[.val (.ref oa), .val (.long q1), .second, .val (.int (0 : Int32))] [(.ref oa), (.long q1)])) t → Steps p.tables e below (s₁.setTop (entryFrame m #[(.ref oa), (.long q1)] 4)) t := fun t k => pre3 _ (by
    show Steps p.tables e below (T2.setTop (mkF m 7 #[.val (.ref oa), .val (.long q1), .second, .val (.int (0 : Int32))] [(.ref ta), (.int (0 : Int32))])) _
    refine X2.arraylength hx (by rw [e2]; exact Ar4.1) (State.isArrayOf_alike hZ.alike Ar4.2.1) (g := (mkF m 7 #[.val (.ref oa), .val (.long q1), .second, .val (.int (0 : Int32))] [(.ref ta), (.int (0 : Int32))])) rfl rfl (hb hby own_d_prog_31_method_3_7) _ ?_
    rw [len_of Sz4 Mz4]
    show Steps p.tables e below (T2.setTop (mkF m 8 #[.val (.ref oa), .val (.long q1), .second, .val (.int (0 : Int32))] [(.int (3 : Int32)), (.int (0 : Int32))])) _
    refine XS.icmpNo X2.here hx rfl (hb hby own_d_prog_31_method_3_8) rfl (XT.ii_ge_f (by decide)) ?_
    show Steps p.tables e below (T2.setTop (mkF m 11 #[.val (.ref oa), .val (.long q1), .second, .val (.int (0 : Int32))] [])) _
    refine XS.lloadN X2.here hx rfl (hb hby own_d_prog_31_method_3_11) rfl ?_
    show Steps p.tables e below (T2.setTop (mkF m 12 #[.val (.ref oa), .val (.long q1), .second, .val (.int (0 : Int32))] [(.long q1)])) _
    refine XS.aloadN X2.here hx rfl (hb hby own_d_prog_31_method_3_12) rfl rfl ?_
    exact k)
  obtain ⟨T6, X6, e6, st6⟩ := getF X2 hx hZ hown (host := "") (Or.inl (hw _ (List.mem_of_getElem? (i := 26) rfl))) Via.refl e2 F (g := (mkF m 13 #[.val (.ref oa), .val (.long q1), .second, .val (.int (0 : Int32))] [(.ref oa), (.long q1)])) rfl rfl (hb hby own_d_prog_31_method_3_13)
  have pre7 : ∀ t, Steps p.tables e below (T6.setTop (mkF m 16 #[.val (.ref oa), .val (.long q1), .second, .val (.int (0 : Int32))] [(.ref ta), (.long q1)])) t → Steps p.tables e below (s₁.setTop (entryFrame m #[(.ref oa), (.long q1)] 4)) t := fun t k => pre5 _ (st6 _ k)
  have pre9 : ∀ t, Steps p.tables e below (T6.setTop (mkF m 17 #[.val (.ref oa), .val (.long q1), .second, .val (.int (0 : Int32))] [(.int (0 : Int32)), (.ref ta), (.long q1)])) t → Steps p.tables e below (s₁.setTop (entryFrame m #[(.ref oa), (.long q1)] 4)) t := fun t k => pre7 _ (by
    show Steps p.tables e below (T6.setTop (mkF m 16 #[.val (.ref oa), .val (.long q1), .second, .val (.int (0 : Int32))] [(.ref ta), (.long q1)])) _
    refine XS.iloadN X6.here hx rfl (hb hby own_d_prog_31_method_3_16) rfl ?_
    exact k)
  obtain ⟨cl8, Ar8, qc8, Sz8, Mz8, Hs8, Uf8⟩ := (show Arv Z h0 ta ka .long (3 : Int32) [(.long x0), (.long x1), (.long x2)] (.long (0 : Int64)) from VA)
  have in10 : ¬ ((0 : Int32) < 0 ∨ cl8.slots.size ≤ ((0 : Int32)).toNatClampNeg) := inb_of Sz8 (by decide)
  have at10 : cl8.slots[((0 : Int32)).toNatClampNeg]? = some (.long x0) := Hs8.at in10 rfl
  have pre11 : ∀ t, Steps p.tables e below (T6.setTop (mkF m 19 #[.val (.ref oa), .val (.long q1), .second, .val (.int (0 : Int32))] [(.int (XT.cmpL q1 x0))])) t → Steps p.tables e below (s₁.setTop (entryFrame m #[(.ref oa), (.long q1)] 4)) t := fun t k => pre9 _ (by
    show Steps p.tables e below (T6.setTop (mkF m 17 #[.val (.ref oa), .val (.long q1), .second, .val (.int (0 : Int32))] [(.int (0 : Int32)), (.ref ta), (.long q1)])) _
    refine X6.laload hx (j := (0 : Int32)) (v := (.long x0)) (by rw [e6]; exact Ar8.1) (State.isArrayOf_alike hZ.alike Ar8.2.1) Ar8.2.2 in10 at10 (g := (mkF m 17 #[.val (.ref oa), .val (.long q1), .second, .val (.int (0 : Int32))] [(.int (0 : Int32)), (.ref ta), (.long q1)])) rfl rfl (hb hby own_d_prog_31_method_3_17) _ ?_
    show Steps p.tables e below (T6.setTop (mkF m 18 #[.val (.ref oa), .val (.long q1), .second, .val (.int (0 : Int32))] [(.long x0), (.long q1)])) _
    refine XT.lcmp X6.here hx rfl (hb hby own_d_prog_31_method_3_18) rfl ?_
    exact k)
  by_cases d0 : q1 < x0
  · have pre12 : ∀ t, Steps p.tables e below (T6.setTop (mkF m 29 #[.val (.ref oa), .val (.long q1), .second, .val (.int (0 : Int32))] [(.int (0 : Int32))])) t → Steps p.tables e below (s₁.setTop (entryFrame m #[(.ref oa), (.long q1)] 4)) t := fun t k => pre11 _ (by
      show Steps p.tables e below (T6.setTop (mkF m 19 #[.val (.ref oa), .val (.long q1), .second, .val (.int (0 : Int32))] [(.int (XT.cmpL q1 x0))])) _
      refine XS.ifYes X6.here hx rfl (pc0 := 19) (pc' := 28) rfl (hb hby own_d_prog_31_method_3_19) rfl (XT.ll_lt_t d0) (by decide) (by decide) ?_
      show Steps p.tables e below (T6.setTop (mkF m 28 #[.val (.ref oa), .val (.long q1), .second, .val (.int (0 : Int32))] [])) _
      refine XS.iloadN X6.here hx rfl (hb hby own_d_prog_31_method_3_28) rfl ?_
      exact k)
    obtain ⟨fs, hr, hrun, hended, hW, hsame⟩ := X6.leave (v := some (.int (0 : Int32))) (fun h => by rw [Bd.returns] at h; cases h)
    refine ⟨_, _, pre12 _ ?_, hrun, hended, _, _, rfl, ?_, ⟨_, rfl⟩, hW, hsame.mono (by decide) (by decide)⟩
    · show Steps p.tables e below (T6.setTop (mkF m 29 #[.val (.ref oa), .val (.long q1), .second, .val (.int (0 : Int32))] [(.int (0 : Int32))])) _
      exact retI X6 hx Bd.returns (hb hby own_d_prog_31_method_3_29) hr
    · show Q_own_of3 Z oa q1 ta ka x0 x1 x2 h0 n0 _ T6.heap _
      rw [e6]
      exact ⟨by simp [own_of, d0], N0, rfl⟩
  · have pre13 : ∀ t, Steps p.tables e below (T6.setTop (mkF m 4 #[.val (.ref oa), .val (.long q1), .second, .val (.int (1 : Int32))] [(.ref oa), (.int (1 : Int32))])) t → Steps p.tables e below (s₁.setTop (entryFrame m #[(.ref oa), (.long q1)] 4)) t := fun t k => pre11 _ (by
      show Steps p.tables e below (T6.setTop (mkF m 19 #[.val (.ref oa), .val (.long q1), .second, .val (.int (0 : Int32))] [(.int (XT.cmpL q1 x0))])) _
      refine XS.ifNo X6.here hx rfl (hb hby own_d_prog_31_method_3_19) rfl (XT.ll_lt_f d0) ?_
      show Steps p.tables e below (T6.setTop (mkF m 22 #[.val (.ref oa), .val (.long q1), .second, .val (.int (0 : Int32))] [])) _
      refine XT.iincV X6.here hx rfl (1 : Int32) (hb hby own_d_prog_31_method_3_22) rfl rfl (l' := #[.val (.ref oa), .val (.long q1), .second, .val (.int (1 : Int32))]) rfl ?_
      show Steps p.tables e below (T6.setTop (mkF m 25 #[.val (.ref oa), .val (.long q1), .second, .val (.int (1 : Int32))] [])) _
      refine XS.goto X6.here hx rfl (pc0 := 25) (pc' := 2) rfl (hb hby own_d_prog_31_method_3_25) (by decide) (by decide) ?_
      show Steps p.tables e below (T6.setTop (mkF m 2 #[.val (.ref oa), .val (.long q1), .second, .val (.int (1 : Int32))] [])) _
      refine XS.iloadN X6.here hx rfl (hb hby own_d_prog_31_method_3_2) rfl ?_
      show Steps p.tables e below (T6.setTop (mkF m 3 #[.val (.ref oa), .val (.long q1), .second, .val (.int (1 : Int32))] [(.int (1 : Int32))])) _
      refine XS.aloadN X6.here hx rfl (hb hby own_d_prog_31_method_3_3) rfl rfl ?_
      exact k)
    obtain ⟨T14, X14, e14, st14⟩ := getF X6 hx hZ hown (host := "") (Or.inl (hw _ (List.mem_of_getElem? (i := 26) rfl))) Via.refl e6 F (g := (mkF m 4 #[.val (.ref oa), .val (.long q1), .second, .val (.int (1 : Int32))] [(.ref oa), (.int (1 : Int32))])) rfl rfl (hb hby own_d_prog_31_method_3_4)
    have pre15 : ∀ t, Steps p.tables e below (T14.setTop (mkF m 7 #[.val (.ref oa), .val (.long q1), .second, .val (.int (1 : Int32))] [(.ref ta), (.int (1 : Int32))])) t → Steps p.tables e below (s₁.setTop (entryFrame m #[(.ref oa), (.long q1)] 4)) t := fun t k => pre13 _ (st14 _ k)
    obtain ⟨cl16, Ar16, qc16, Sz16, Mz16, Hs16, Uf16⟩ := (show Arv Z h0 ta ka .long (3 : Int32) [(.long x0), (.long x1), (.long x2)] (.long (0 : Int64)) from VA)
    have pre17 : ∀ t, Steps p.tables e below (T14.setTop (mkF m 13 #[.val (.ref oa), .val (.long q1), .second, .val (.int (1 : Int32))] [(.ref oa), (.long q1)])) t → Steps p.tables e below (s₁.setTop (entryFrame m #[(.ref oa), (.long q1)] 4)) t := fun t k => pre15 _ (by
      show Steps p.tables e below (T14.setTop (mkF m 7 #[.val (.ref oa), .val (.long q1), .second, .val (.int (1 : Int32))] [(.ref ta), (.int (1 : Int32))])) _
      refine X14.arraylength hx (by rw [e14]; exact Ar16.1) (State.isArrayOf_alike hZ.alike Ar16.2.1) (g := (mkF m 7 #[.val (.ref oa), .val (.long q1), .second, .val (.int (1 : Int32))] [(.ref ta), (.int (1 : Int32))])) rfl rfl (hb hby own_d_prog_31_method_3_7) _ ?_
      rw [len_of Sz16 Mz16]
      show Steps p.tables e below (T14.setTop (mkF m 8 #[.val (.ref oa), .val (.long q1), .second, .val (.int (1 : Int32))] [(.int (3 : Int32)), (.int (1 : Int32))])) _
      refine XS.icmpNo X14.here hx rfl (hb hby own_d_prog_31_method_3_8) rfl (XT.ii_ge_f (by decide)) ?_
      show Steps p.tables e below (T14.setTop (mkF m 11 #[.val (.ref oa), .val (.long q1), .second, .val (.int (1 : Int32))] [])) _
      refine XS.lloadN X14.here hx rfl (hb hby own_d_prog_31_method_3_11) rfl ?_
      show Steps p.tables e below (T14.setTop (mkF m 12 #[.val (.ref oa), .val (.long q1), .second, .val (.int (1 : Int32))] [(.long q1)])) _
      refine XS.aloadN X14.here hx rfl (hb hby own_d_prog_31_method_3_12) rfl rfl ?_
      exact k)
    obtain ⟨T18, X18, e18, st18⟩ := getF X14 hx hZ hown (host := "") (Or.inl (hw _ (List.mem_of_getElem? (i := 26) rfl))) Via.refl e14 F (g := (mkF m 13 #[.val (.ref oa), .val (.long q1), .second, .val (.int (1 : Int32))] [(.ref oa), (.long q1)])) rfl rfl (hb hby own_d_prog_31_method_3_13)
    have pre19 : ∀ t, Steps p.tables e below (T18.setTop (mkF m 16 #[.val (.ref oa), .val (.long q1), .second, .val (.int (1 : Int32))] [(.ref ta), (.long q1)])) t → Steps p.tables e below (s₁.setTop (entryFrame m #[(.ref oa), (.long q1)] 4)) t := fun t k => pre17 _ (st18 _ k)
    have pre21 : ∀ t, Steps p.tables e below (T18.setTop (mkF m 17 #[.val (.ref oa), .val (.long q1), .second, .val (.int (1 : Int32))] [(.int (1 : Int32)), (.ref ta), (.long q1)])) t → Steps p.tables e below (s₁.setTop (entryFrame m #[(.ref oa), (.long q1)] 4)) t := fun t k => pre19 _ (by
      show Steps p.tables e below (T18.setTop (mkF m 16 #[.val (.ref oa), .val (.long q1), .second, .val (.int (1 : Int32))] [(.ref ta), (.long q1)])) _
      refine XS.iloadN X18.here hx rfl (hb hby own_d_prog_31_method_3_16) rfl ?_
      exact k)
    obtain ⟨cl20, Ar20, qc20, Sz20, Mz20, Hs20, Uf20⟩ := (show Arv Z h0 ta ka .long (3 : Int32) [(.long x0), (.long x1), (.long x2)] (.long (0 : Int64)) from VA)
    have in22 : ¬ ((1 : Int32) < 0 ∨ cl20.slots.size ≤ ((1 : Int32)).toNatClampNeg) := inb_of Sz20 (by decide)
    have at22 : cl20.slots[((1 : Int32)).toNatClampNeg]? = some (.long x1) := Hs20.at in22 rfl
    have pre23 : ∀ t, Steps p.tables e below (T18.setTop (mkF m 19 #[.val (.ref oa), .val (.long q1), .second, .val (.int (1 : Int32))] [(.int (XT.cmpL q1 x1))])) t → Steps p.tables e below (s₁.setTop (entryFrame m #[(.ref oa), (.long q1)] 4)) t := fun t k => pre21 _ (by
      show Steps p.tables e below (T18.setTop (mkF m 17 #[.val (.ref oa), .val (.long q1), .second, .val (.int (1 : Int32))] [(.int (1 : Int32)), (.ref ta), (.long q1)])) _
      refine X18.laload hx (j := (1 : Int32)) (v := (.long x1)) (by rw [e18]; exact Ar20.1) (State.isArrayOf_alike hZ.alike Ar20.2.1) Ar20.2.2 in22 at22 (g := (mkF m 17 #[.val (.ref oa), .val (.long q1), .second, .val (.int (1 : Int32))] [(.int (1 : Int32)), (.ref ta), (.long q1)])) rfl rfl (hb hby own_d_prog_31_method_3_17) _ ?_
      show Steps p.tables e below (T18.setTop (mkF m 18 #[.val (.ref oa), .val (.long q1), .second, .val (.int (1 : Int32))] [(.long x1), (.long q1)])) _
      refine XT.lcmp X18.here hx rfl (hb hby own_d_prog_31_method_3_18) rfl ?_
      exact k)
    by_cases d1 : q1 < x1
    · have pre24 : ∀ t, Steps p.tables e below (T18.setTop (mkF m 29 #[.val (.ref oa), .val (.long q1), .second, .val (.int (1 : Int32))] [(.int (1 : Int32))])) t → Steps p.tables e below (s₁.setTop (entryFrame m #[(.ref oa), (.long q1)] 4)) t := fun t k => pre23 _ (by
        show Steps p.tables e below (T18.setTop (mkF m 19 #[.val (.ref oa), .val (.long q1), .second, .val (.int (1 : Int32))] [(.int (XT.cmpL q1 x1))])) _
        refine XS.ifYes X18.here hx rfl (pc0 := 19) (pc' := 28) rfl (hb hby own_d_prog_31_method_3_19) rfl (XT.ll_lt_t d1) (by decide) (by decide) ?_
        show Steps p.tables e below (T18.setTop (mkF m 28 #[.val (.ref oa), .val (.long q1), .second, .val (.int (1 : Int32))] [])) _
        refine XS.iloadN X18.here hx rfl (hb hby own_d_prog_31_method_3_28) rfl ?_
        exact k)
      obtain ⟨fs, hr, hrun, hended, hW, hsame⟩ := X18.leave (v := some (.int (1 : Int32))) (fun h => by rw [Bd.returns] at h; cases h)
      refine ⟨_, _, pre24 _ ?_, hrun, hended, _, _, rfl, ?_, ⟨_, rfl⟩, hW, hsame.mono (by decide) (by decide)⟩
      · show Steps p.tables e below (T18.setTop (mkF m 29 #[.val (.ref oa), .val (.long q1), .second, .val (.int (1 : Int32))] [(.int (1 : Int32))])) _
        exact retI X18 hx Bd.returns (hb hby own_d_prog_31_method_3_29) hr
      · show Q_own_of3 Z oa q1 ta ka x0 x1 x2 h0 n0 _ T18.heap _
        rw [e18]
        exact ⟨by simp [own_of, d0, d1], N0, rfl⟩
    · have pre25 : ∀ t, Steps p.tables e below (T18.setTop (mkF m 4 #[.val (.ref oa), .val (.long q1), .second, .val (.int (2 : Int32))] [(.ref oa), (.int (2 : Int32))])) t → Steps p.tables e below (s₁.setTop (entryFrame m #[(.ref oa), (.long q1)] 4)) t := fun t k => pre23 _ (by
        show Steps p.tables e below (T18.setTop (mkF m 19 #[.val (.ref oa), .val (.long q1), .second, .val (.int (1 : Int32))] [(.int (XT.cmpL q1 x1))])) _
        refine XS.ifNo X18.here hx rfl (hb hby own_d_prog_31_method_3_19) rfl (XT.ll_lt_f d1) ?_
        show Steps p.tables e below (T18.setTop (mkF m 22 #[.val (.ref oa), .val (.long q1), .second, .val (.int (1 : Int32))] [])) _
        refine XT.iincV X18.here hx rfl (1 : Int32) (hb hby own_d_prog_31_method_3_22) rfl rfl (l' := #[.val (.ref oa), .val (.long q1), .second, .val (.int (2 : Int32))]) rfl ?_
        show Steps p.tables e below (T18.setTop (mkF m 25 #[.val (.ref oa), .val (.long q1), .second, .val (.int (2 : Int32))] [])) _
        refine XS.goto X18.here hx rfl (pc0 := 25) (pc' := 2) rfl (hb hby own_d_prog_31_method_3_25) (by decide) (by decide) ?_
        show Steps p.tables e below (T18.setTop (mkF m 2 #[.val (.ref oa), .val (.long q1), .second, .val (.int (2 : Int32))] [])) _
        refine XS.iloadN X18.here hx rfl (hb hby own_d_prog_31_method_3_2) rfl ?_
        show Steps p.tables e below (T18.setTop (mkF m 3 #[.val (.ref oa), .val (.long q1), .second, .val (.int (2 : Int32))] [(.int (2 : Int32))])) _
        refine XS.aloadN X18.here hx rfl (hb hby own_d_prog_31_method_3_3) rfl rfl ?_
        exact k)
      obtain ⟨T26, X26, e26, st26⟩ := getF X18 hx hZ hown (host := "") (Or.inl (hw _ (List.mem_of_getElem? (i := 26) rfl))) Via.refl e18 F (g := (mkF m 4 #[.val (.ref oa), .val (.long q1), .second, .val (.int (2 : Int32))] [(.ref oa), (.int (2 : Int32))])) rfl rfl (hb hby own_d_prog_31_method_3_4)
      have pre27 : ∀ t, Steps p.tables e below (T26.setTop (mkF m 7 #[.val (.ref oa), .val (.long q1), .second, .val (.int (2 : Int32))] [(.ref ta), (.int (2 : Int32))])) t → Steps p.tables e below (s₁.setTop (entryFrame m #[(.ref oa), (.long q1)] 4)) t := fun t k => pre25 _ (st26 _ k)
      obtain ⟨cl28, Ar28, qc28, Sz28, Mz28, Hs28, Uf28⟩ := (show Arv Z h0 ta ka .long (3 : Int32) [(.long x0), (.long x1), (.long x2)] (.long (0 : Int64)) from VA)
      have pre29 : ∀ t, Steps p.tables e below (T26.setTop (mkF m 13 #[.val (.ref oa), .val (.long q1), .second, .val (.int (2 : Int32))] [(.ref oa), (.long q1)])) t → Steps p.tables e below (s₁.setTop (entryFrame m #[(.ref oa), (.long q1)] 4)) t := fun t k => pre27 _ (by
        show Steps p.tables e below (T26.setTop (mkF m 7 #[.val (.ref oa), .val (.long q1), .second, .val (.int (2 : Int32))] [(.ref ta), (.int (2 : Int32))])) _
        refine X26.arraylength hx (by rw [e26]; exact Ar28.1) (State.isArrayOf_alike hZ.alike Ar28.2.1) (g := (mkF m 7 #[.val (.ref oa), .val (.long q1), .second, .val (.int (2 : Int32))] [(.ref ta), (.int (2 : Int32))])) rfl rfl (hb hby own_d_prog_31_method_3_7) _ ?_
        rw [len_of Sz28 Mz28]
        show Steps p.tables e below (T26.setTop (mkF m 8 #[.val (.ref oa), .val (.long q1), .second, .val (.int (2 : Int32))] [(.int (3 : Int32)), (.int (2 : Int32))])) _
        refine XS.icmpNo X26.here hx rfl (hb hby own_d_prog_31_method_3_8) rfl (XT.ii_ge_f (by decide)) ?_
        show Steps p.tables e below (T26.setTop (mkF m 11 #[.val (.ref oa), .val (.long q1), .second, .val (.int (2 : Int32))] [])) _
        refine XS.lloadN X26.here hx rfl (hb hby own_d_prog_31_method_3_11) rfl ?_
        show Steps p.tables e below (T26.setTop (mkF m 12 #[.val (.ref oa), .val (.long q1), .second, .val (.int (2 : Int32))] [(.long q1)])) _
        refine XS.aloadN X26.here hx rfl (hb hby own_d_prog_31_method_3_12) rfl rfl ?_
        exact k)
      obtain ⟨T30, X30, e30, st30⟩ := getF X26 hx hZ hown (host := "") (Or.inl (hw _ (List.mem_of_getElem? (i := 26) rfl))) Via.refl e26 F (g := (mkF m 13 #[.val (.ref oa), .val (.long q1), .second, .val (.int (2 : Int32))] [(.ref oa), (.long q1)])) rfl rfl (hb hby own_d_prog_31_method_3_13)
      have pre31 : ∀ t, Steps p.tables e below (T30.setTop (mkF m 16 #[.val (.ref oa), .val (.long q1), .second, .val (.int (2 : Int32))] [(.ref ta), (.long q1)])) t → Steps p.tables e below (s₁.setTop (entryFrame m #[(.ref oa), (.long q1)] 4)) t := fun t k => pre29 _ (st30 _ k)
      have pre33 : ∀ t, Steps p.tables e below (T30.setTop (mkF m 17 #[.val (.ref oa), .val (.long q1), .second, .val (.int (2 : Int32))] [(.int (2 : Int32)), (.ref ta), (.long q1)])) t → Steps p.tables e below (s₁.setTop (entryFrame m #[(.ref oa), (.long q1)] 4)) t := fun t k => pre31 _ (by
        show Steps p.tables e below (T30.setTop (mkF m 16 #[.val (.ref oa), .val (.long q1), .second, .val (.int (2 : Int32))] [(.ref ta), (.long q1)])) _
        refine XS.iloadN X30.here hx rfl (hb hby own_d_prog_31_method_3_16) rfl ?_
        exact k)
      obtain ⟨cl32, Ar32, qc32, Sz32, Mz32, Hs32, Uf32⟩ := (show Arv Z h0 ta ka .long (3 : Int32) [(.long x0), (.long x1), (.long x2)] (.long (0 : Int64)) from VA)
      have in34 : ¬ ((2 : Int32) < 0 ∨ cl32.slots.size ≤ ((2 : Int32)).toNatClampNeg) := inb_of Sz32 (by decide)
      have at34 : cl32.slots[((2 : Int32)).toNatClampNeg]? = some (.long x2) := Hs32.at in34 rfl
      have pre35 : ∀ t, Steps p.tables e below (T30.setTop (mkF m 19 #[.val (.ref oa), .val (.long q1), .second, .val (.int (2 : Int32))] [(.int (XT.cmpL q1 x2))])) t → Steps p.tables e below (s₁.setTop (entryFrame m #[(.ref oa), (.long q1)] 4)) t := fun t k => pre33 _ (by
        show Steps p.tables e below (T30.setTop (mkF m 17 #[.val (.ref oa), .val (.long q1), .second, .val (.int (2 : Int32))] [(.int (2 : Int32)), (.ref ta), (.long q1)])) _
        refine X30.laload hx (j := (2 : Int32)) (v := (.long x2)) (by rw [e30]; exact Ar32.1) (State.isArrayOf_alike hZ.alike Ar32.2.1) Ar32.2.2 in34 at34 (g := (mkF m 17 #[.val (.ref oa), .val (.long q1), .second, .val (.int (2 : Int32))] [(.int (2 : Int32)), (.ref ta), (.long q1)])) rfl rfl (hb hby own_d_prog_31_method_3_17) _ ?_
        show Steps p.tables e below (T30.setTop (mkF m 18 #[.val (.ref oa), .val (.long q1), .second, .val (.int (2 : Int32))] [(.long x2), (.long q1)])) _
        refine XT.lcmp X30.here hx rfl (hb hby own_d_prog_31_method_3_18) rfl ?_
        exact k)
      by_cases d2 : q1 < x2
      · have pre36 : ∀ t, Steps p.tables e below (T30.setTop (mkF m 29 #[.val (.ref oa), .val (.long q1), .second, .val (.int (2 : Int32))] [(.int (2 : Int32))])) t → Steps p.tables e below (s₁.setTop (entryFrame m #[(.ref oa), (.long q1)] 4)) t := fun t k => pre35 _ (by
          show Steps p.tables e below (T30.setTop (mkF m 19 #[.val (.ref oa), .val (.long q1), .second, .val (.int (2 : Int32))] [(.int (XT.cmpL q1 x2))])) _
          refine XS.ifYes X30.here hx rfl (pc0 := 19) (pc' := 28) rfl (hb hby own_d_prog_31_method_3_19) rfl (XT.ll_lt_t d2) (by decide) (by decide) ?_
          show Steps p.tables e below (T30.setTop (mkF m 28 #[.val (.ref oa), .val (.long q1), .second, .val (.int (2 : Int32))] [])) _
          refine XS.iloadN X30.here hx rfl (hb hby own_d_prog_31_method_3_28) rfl ?_
          exact k)
        obtain ⟨fs, hr, hrun, hended, hW, hsame⟩ := X30.leave (v := some (.int (2 : Int32))) (fun h => by rw [Bd.returns] at h; cases h)
        refine ⟨_, _, pre36 _ ?_, hrun, hended, _, _, rfl, ?_, ⟨_, rfl⟩, hW, hsame.mono (by decide) (by decide)⟩
        · show Steps p.tables e below (T30.setTop (mkF m 29 #[.val (.ref oa), .val (.long q1), .second, .val (.int (2 : Int32))] [(.int (2 : Int32))])) _
          exact retI X30 hx Bd.returns (hb hby own_d_prog_31_method_3_29) hr
        · show Q_own_of3 Z oa q1 ta ka x0 x1 x2 h0 n0 _ T30.heap _
          rw [e30]
          exact ⟨by simp [own_of, d0, d1, d2], N0, rfl⟩
      · have pre37 : ∀ t, Steps p.tables e below (T30.setTop (mkF m 4 #[.val (.ref oa), .val (.long q1), .second, .val (.int (3 : Int32))] [(.ref oa), (.int (3 : Int32))])) t → Steps p.tables e below (s₁.setTop (entryFrame m #[(.ref oa), (.long q1)] 4)) t := fun t k => pre35 _ (by
          show Steps p.tables e below (T30.setTop (mkF m 19 #[.val (.ref oa), .val (.long q1), .second, .val (.int (2 : Int32))] [(.int (XT.cmpL q1 x2))])) _
          refine XS.ifNo X30.here hx rfl (hb hby own_d_prog_31_method_3_19) rfl (XT.ll_lt_f d2) ?_
          show Steps p.tables e below (T30.setTop (mkF m 22 #[.val (.ref oa), .val (.long q1), .second, .val (.int (2 : Int32))] [])) _
          refine XT.iincV X30.here hx rfl (1 : Int32) (hb hby own_d_prog_31_method_3_22) rfl rfl (l' := #[.val (.ref oa), .val (.long q1), .second, .val (.int (3 : Int32))]) rfl ?_
          show Steps p.tables e below (T30.setTop (mkF m 25 #[.val (.ref oa), .val (.long q1), .second, .val (.int (3 : Int32))] [])) _
          refine XS.goto X30.here hx rfl (pc0 := 25) (pc' := 2) rfl (hb hby own_d_prog_31_method_3_25) (by decide) (by decide) ?_
          show Steps p.tables e below (T30.setTop (mkF m 2 #[.val (.ref oa), .val (.long q1), .second, .val (.int (3 : Int32))] [])) _
          refine XS.iloadN X30.here hx rfl (hb hby own_d_prog_31_method_3_2) rfl ?_
          show Steps p.tables e below (T30.setTop (mkF m 3 #[.val (.ref oa), .val (.long q1), .second, .val (.int (3 : Int32))] [(.int (3 : Int32))])) _
          refine XS.aloadN X30.here hx rfl (hb hby own_d_prog_31_method_3_3) rfl rfl ?_
          exact k)
        obtain ⟨T38, X38, e38, st38⟩ := getF X30 hx hZ hown (host := "") (Or.inl (hw _ (List.mem_of_getElem? (i := 26) rfl))) Via.refl e30 F (g := (mkF m 4 #[.val (.ref oa), .val (.long q1), .second, .val (.int (3 : Int32))] [(.ref oa), (.int (3 : Int32))])) rfl rfl (hb hby own_d_prog_31_method_3_4)
        have pre39 : ∀ t, Steps p.tables e below (T38.setTop (mkF m 7 #[.val (.ref oa), .val (.long q1), .second, .val (.int (3 : Int32))] [(.ref ta), (.int (3 : Int32))])) t → Steps p.tables e below (s₁.setTop (entryFrame m #[(.ref oa), (.long q1)] 4)) t := fun t k => pre37 _ (st38 _ k)
        obtain ⟨cl40, Ar40, qc40, Sz40, Mz40, Hs40, Uf40⟩ := (show Arv Z h0 ta ka .long (3 : Int32) [(.long x0), (.long x1), (.long x2)] (.long (0 : Int64)) from VA)
        have pre41 : ∀ t, Steps p.tables e below (T38.setTop (mkF m 29 #[.val (.ref oa), .val (.long q1), .second, .val (.int (3 : Int32))] [(.int (3 : Int32))])) t → Steps p.tables e below (s₁.setTop (entryFrame m #[(.ref oa), (.long q1)] 4)) t := fun t k => pre39 _ (by
          show Steps p.tables e below (T38.setTop (mkF m 7 #[.val (.ref oa), .val (.long q1), .second, .val (.int (3 : Int32))] [(.ref ta), (.int (3 : Int32))])) _
          refine X38.arraylength hx (by rw [e38]; exact Ar40.1) (State.isArrayOf_alike hZ.alike Ar40.2.1) (g := (mkF m 7 #[.val (.ref oa), .val (.long q1), .second, .val (.int (3 : Int32))] [(.ref ta), (.int (3 : Int32))])) rfl rfl (hb hby own_d_prog_31_method_3_7) _ ?_
          rw [len_of Sz40 Mz40]
          show Steps p.tables e below (T38.setTop (mkF m 8 #[.val (.ref oa), .val (.long q1), .second, .val (.int (3 : Int32))] [(.int (3 : Int32)), (.int (3 : Int32))])) _
          refine XS.icmpYes X38.here hx rfl (pc0 := 8) (pc' := 28) rfl (hb hby own_d_prog_31_method_3_8) rfl (XT.ii_ge_t (by decide)) (by decide) (by decide) ?_
          show Steps p.tables e below (T38.setTop (mkF m 28 #[.val (.ref oa), .val (.long q1), .second, .val (.int (3 : Int32))] [])) _
          refine XS.iloadN X38.here hx rfl (hb hby own_d_prog_31_method_3_28) rfl ?_
          exact k)
        obtain ⟨fs, hr, hrun, hended, hW, hsame⟩ := X38.leave (v := some (.int (3 : Int32))) (fun h => by rw [Bd.returns] at h; cases h)
        refine ⟨_, _, pre41 _ ?_, hrun, hended, _, _, rfl, ?_, ⟨_, rfl⟩, hW, hsame.mono (by decide) (by decide)⟩
        · show Steps p.tables e below (T38.setTop (mkF m 29 #[.val (.ref oa), .val (.long q1), .second, .val (.int (3 : Int32))] [(.int (3 : Int32))])) _
          exact retI X38 hx Bd.returns (hb hby own_d_prog_31_method_3_29) hr
        · show Q_own_of3 Z oa q1 ta ka x0 x1 x2 h0 n0 _ T38.heap _
          rw [e38]
          exact ⟨by simp [own_of, d0, d1, d2], N0, rfl⟩
theorem own_ef_own_law (m : MethodId) (p0 : Int64) (p1 : Int64) (p2 : Int64) (p3 : Int64) (p4 : Int32) : entryFrame m #[(.long p0), (.long p1), (.long p2), (.long p3), (.int p4)] maxLocals = mkF m 0 #[.val (.long p0), .second, .val (.long p1), .second, .val (.long p2), .second, .val (.long p3), .second, .val (.int p4), .unset, .unset, .unset, .unset, .unset, .unset, .unset, .unset, .unset, .unset, .unset, .unset, .unset] [] := by first | (simp [entryFrame, mkF, argsToLocals, Value.category, maxLocals]; done) | rfl
def Q_own_law (Z : State) (p0 : Int64) (p1 : Int64) (p2 : Int64) (p3 : Int64) (p4 : Int32)  (h0 : Heap) (n0 : Nat) (v : Option Value) (h : Heap) (L : List Loc) : Prop := v = some (.int 1) ∧ Fr n0 L
theorem own_pn_com_example_roundkeeper_roundkeeper_rules_BandsOfPinLaw : plainName "com/example/roundkeeper/roundkeeper/rules/BandsOfPinLaw" = true := by first | (simp [plainName, overriddenIn]; done) | decide +kernel
theorem own_pd__JJ_J : parseMethodDescriptor "(JJ)J" = some ⟨[.long, .long], some .long⟩ := by decide +kernel
theorem own_pd___J_V : parseMethodDescriptor "([J)V" = some ⟨[(.array .long)], none⟩ := by decide +kernel
theorem own_pd__J_I : parseMethodDescriptor "(J)I" = some ⟨[.long], some .int⟩ := by decide +kernel
set_option maxRecDepth 65536 in
set_option maxHeartbeats 40000000 in
theorem own_law (l : Launch) (Z : State) (a0 : Array Value) (hw : ∀ d ∈ tables_1, d.before a0 Z = true) (ws : List Jvm.Cond) (p0 : Int64) (p1 : Int64) (p2 : Int64) (p3 : Int64) (p4 : Int32)  (h0 : Heap) (n0 : Nat) (Z0 : n0 ≤ h0.size)  :
    MetFree l x (head1 (Jvm.Cond.code x code maxLocals ret :: ws) room_1) (fun a U => a = #[(.long p0), (.long p1), (.long p2), (.long p3), (.int p4)] ∧ Z.Warmed39 U.vm ∧ U.heap = h0) (fun _ _ _ _ _ => True) (fun _ U o U' => ∃ v L, o = .returned v ∧ Q_own_law Z p0 p1 p2 p3 p4 h0 n0 v U'.heap L ∧ FrameEnd U o U' L room_1.cells room_1.slots) := by
  refine MetFree.of_bodySF (plainFor_of_name own_pn_com_example_roundkeeper_roundkeeper_rules_BandsOfPinLaw) hisR ?_
  intro p e s m args below meth c s₁ Bd hml0 hP hK
  obtain ⟨rfl, hZ, hh⟩ := hP
  have hx := Bd.exec
  have hby := Bd.bytes
  have hml : c.maxLocals = 22 := hml0
  have hown : s.vm.findClass "com/example/roundkeeper/roundkeeper/rules/BandsOfPinLaw" = some m.cls := findClass_of_methodNamed Bd.named
  have hnm := (name_of_methodNamed Bd.named Bd.method).1
  have X0 : Stand p l e room_1 s m #[(.long p0), (.long p1), (.long p2), (.long p3), (.int p4)] below meth c s₁ [] 0 0 := Stand.of_body Bd
  have e0 : s₁.heap = h0 := by rw [← hh, Bd.state]; rfl
  have N0 := Fr.nil n0
  have pre0 : ∀ t, Steps p.tables e below (s₁.setTop (mkF m 0 #[.val (.long p0), .second, .val (.long p1), .second, .val (.long p2), .second, .val (.long p3), .second, .val (.int p4), .unset, .unset, .unset, .unset, .unset, .unset, .unset, .unset, .unset, .unset, .unset, .unset, .unset] [])) t → Steps p.tables e below (s₁.setTop (entryFrame m #[(.long p0), (.long p1), (.long p2), (.long p3), (.int p4)] maxLocals)) t := fun t k => castTop (own_ef_own_law m p0 p1 p2 p3 p4) k
  have pre1 : ∀ t, Steps p.tables e below (s₁.setTop (mkF m 2 #[.val (.long p0), .second, .val (.long p1), .second, .val (.long p2), .second, .val (.long p3), .second, .val (.int p4), .unset, .unset, .unset, .unset, .unset, .unset, .unset, .unset, .unset, .unset, .unset, .unset, .unset] [(.long p1), (.long p0)])) t → Steps p.tables e below (s₁.setTop (entryFrame m #[(.long p0), (.long p1), (.long p2), (.long p3), (.int p4)] maxLocals)) t := fun t k => pre0 _ (by
    show Steps p.tables e below (s₁.setTop (mkF m 0 #[.val (.long p0), .second, .val (.long p1), .second, .val (.long p2), .second, .val (.long p3), .second, .val (.int p4), .unset, .unset, .unset, .unset, .unset, .unset, .unset, .unset, .unset, .unset, .unset, .unset, .unset] [])) _
    refine XS.lloadN X0.here hx rfl (hb hby at_0) rfl ?_
    show Steps p.tables e below (s₁.setTop (mkF m 1 #[.val (.long p0), .second, .val (.long p1), .second, .val (.long p2), .second, .val (.long p3), .second, .val (.int p4), .unset, .unset, .unset, .unset, .unset, .unset, .unset, .unset, .unset, .unset, .unset, .unset, .unset] [(.long p0)])) _
    refine XS.lloadN X0.here hx rfl (hb hby at_1) rfl ?_
    exact k)
  obtain ⟨_, _, ⟨T2, L2, k2, n2⟩, -, X2, ⟨Lc2, hQ2, l2, y2, z2⟩, st2⟩ := Jvm.LawKit.callS X0 hx (y := (⟨"java/lang/Math", "min", "(JJ)J"⟩ : MethodName)) hown (mvT hZ (hw _ (List.mem_of_getElem? (i := 0) rfl))) (mvT hZ (hw _ (List.mem_of_getElem? (i := 1) rfl))) (mvT hZ (hw _ (List.mem_of_getElem? (i := 2) rfl))) (mvT hZ (hw _ (List.mem_of_getElem? (i := 3) rfl))) (by decide) (backOf (W := 0) (own_mnC l Z a0 hw [] p0 p1 h0 n0 Z0) hZ (hw _ (List.mem_of_getElem? (i := 3) rfl)) (hw _ (List.mem_of_getElem? (i := 2) rfl)) (by decide) (by decide)) (g := (mkF m 2 #[.val (.long p0), .second, .val (.long p1), .second, .val (.long p2), .second, .val (.long p3), .second, .val (.int p4), .unset, .unset, .unset, .unset, .unset, .unset, .unset, .unset, .unset, .unset, .unset, .unset, .unset] [(.long p1), (.long p0)])) rfl (by rw [hml]; rfl) (argsL := [(.long p0), (.long p1)]) (rest := []) (lenOf own_pd__JJ_J rfl) rfl (by show 2 * 0 + _ ≤ _; exact Nat.le_of_eq rfl) (hb hby at_2) (fun _ _ => ⟨rfl, e0, (by decide : 0 + 0 ≤ _), (by decide : 0 + 0 ≤ _)⟩)
  dsimp only [Pt.U, Pt.locs, Pt.cells, Pt.slots] at X2 l2 y2 z2 st2 hQ2
  subst l2 y2 z2
  obtain ⟨rfl, N2q, e2⟩ := hQ2
  have N2 := Fr.app N0 N2q
  have pre3 : ∀ t, Steps p.tables e below (T2.setTop (mkF m 5 #[.val (.long p0), .second, .val (.long p1), .second, .val (.long p2), .second, .val (.long p3), .second, .val (.int p4), .unset, .unset, .unset, .unset, .unset, .unset, .unset, .unset, .unset, .unset, .unset, .unset, .unset] [(.long (own_mn p0 p1))])) t → Steps p.tables e below (s₁.setTop (entryFrame m #[(.long p0), (.long p1), (.long p2), (.long p3), (.int p4)] maxLocals)) t := fun t k => pre1 _ (st2 _ k)
  have pre4 : ∀ t, Steps p.tables e below (T2.setTop (mkF m 7 #[.val (.long p0), .second, .val (.long p1), .second, .val (.long p2), .second, .val (.long p3), .second, .val (.int p4), .unset, .unset, .unset, .unset, .unset, .unset, .unset, .unset, .unset, .unset, .unset, .unset, .unset] [(.long p2), (.long (own_mn p0 p1))])) t → Steps p.tables e below (s₁.setTop (entryFrame m #[(.long p0), (.long p1), (.long p2), (.long p3), (.int p4)] maxLocals)) t := fun t k => pre3 _ (by
    show Steps p.tables e below (T2.setTop (mkF m 5 #[.val (.long p0), .second, .val (.long p1), .second, .val (.long p2), .second, .val (.long p3), .second, .val (.int p4), .unset, .unset, .unset, .unset, .unset, .unset, .unset, .unset, .unset, .unset, .unset, .unset, .unset] [(.long (own_mn p0 p1))])) _
    refine XS.lload X2.here hx rfl (hb hby at_5) rfl ?_
    exact k)
  obtain ⟨_, _, ⟨T5, L5, k5, n5⟩, -, X5, ⟨Lc5, hQ5, l5, y5, z5⟩, st5⟩ := Jvm.LawKit.callS X2 hx (y := (⟨"java/lang/Math", "min", "(JJ)J"⟩ : MethodName)) hown (mvT hZ (hw _ (List.mem_of_getElem? (i := 0) rfl))) (mvT hZ (hw _ (List.mem_of_getElem? (i := 1) rfl))) (mvT hZ (hw _ (List.mem_of_getElem? (i := 2) rfl))) (mvT hZ (hw _ (List.mem_of_getElem? (i := 3) rfl))) (by decide) (backOf (W := 0) (own_mnC l Z a0 hw [] (own_mn p0 p1) p2 h0 n0 Z0) hZ (hw _ (List.mem_of_getElem? (i := 3) rfl)) (hw _ (List.mem_of_getElem? (i := 2) rfl)) (by decide) (by decide)) (g := (mkF m 7 #[.val (.long p0), .second, .val (.long p1), .second, .val (.long p2), .second, .val (.long p3), .second, .val (.int p4), .unset, .unset, .unset, .unset, .unset, .unset, .unset, .unset, .unset, .unset, .unset, .unset, .unset] [(.long p2), (.long (own_mn p0 p1))])) rfl (by rw [hml]; rfl) (argsL := [(.long (own_mn p0 p1)), (.long p2)]) (rest := []) (lenOf own_pd__JJ_J rfl) rfl (by show 2 * 0 + _ ≤ _; exact Nat.le_of_eq rfl) (hb hby at_7) (fun _ _ => ⟨rfl, e2, (by decide : 0 + 0 ≤ _), (by decide : 0 + 0 ≤ _)⟩)
  dsimp only [Pt.U, Pt.locs, Pt.cells, Pt.slots] at X5 l5 y5 z5 st5 hQ5
  subst l5 y5 z5
  obtain ⟨rfl, N5q, e5⟩ := hQ5
  have N5 := Fr.app N2 N5q
  have pre6 : ∀ t, Steps p.tables e below (T5.setTop (mkF m 10 #[.val (.long p0), .second, .val (.long p1), .second, .val (.long p2), .second, .val (.long p3), .second, .val (.int p4), .unset, .unset, .unset, .unset, .unset, .unset, .unset, .unset, .unset, .unset, .unset, .unset, .unset] [(.long (own_mn (own_mn p0 p1) p2))])) t → Steps p.tables e below (s₁.setTop (entryFrame m #[(.long p0), (.long p1), (.long p2), (.long p3), (.int p4)] maxLocals)) t := fun t k => pre4 _ (st5 _ k)
  have pre7 : ∀ t, Steps p.tables e below (T5.setTop (mkF m 14 #[.val (.long p0), .second, .val (.long p1), .second, .val (.long p2), .second, .val (.long p3), .second, .val (.int p4), .val (.long (own_mn (own_mn p0 p1) p2)), .second, .unset, .unset, .unset, .unset, .unset, .unset, .unset, .unset, .unset, .unset, .unset] [(.long p1), (.long p0)])) t → Steps p.tables e below (s₁.setTop (entryFrame m #[(.long p0), (.long p1), (.long p2), (.long p3), (.int p4)] maxLocals)) t := fun t k => pre6 _ (by
    show Steps p.tables e below (T5.setTop (mkF m 10 #[.val (.long p0), .second, .val (.long p1), .second, .val (.long p2), .second, .val (.long p3), .second, .val (.int p4), .unset, .unset, .unset, .unset, .unset, .unset, .unset, .unset, .unset, .unset, .unset, .unset, .unset] [(.long (own_mn (own_mn p0 p1) p2))])) _
    refine XS.lstore X5.here hx rfl (hb hby at_10) rfl (l' := #[.val (.long p0), .second, .val (.long p1), .second, .val (.long p2), .second, .val (.long p3), .second, .val (.int p4), .val (.long (own_mn (own_mn p0 p1) p2)), .second, .unset, .unset, .unset, .unset, .unset, .unset, .unset, .unset, .unset, .unset, .unset]) rfl ?_
    show Steps p.tables e below (T5.setTop (mkF m 12 #[.val (.long p0), .second, .val (.long p1), .second, .val (.long p2), .second, .val (.long p3), .second, .val (.int p4), .val (.long (own_mn (own_mn p0 p1) p2)), .second, .unset, .unset, .unset, .unset, .unset, .unset, .unset, .unset, .unset, .unset, .unset] [])) _
    refine XS.lloadN X5.here hx rfl (hb hby at_12) rfl ?_
    show Steps p.tables e below (T5.setTop (mkF m 13 #[.val (.long p0), .second, .val (.long p1), .second, .val (.long p2), .second, .val (.long p3), .second, .val (.int p4), .val (.long (own_mn (own_mn p0 p1) p2)), .second, .unset, .unset, .unset, .unset, .unset, .unset, .unset, .unset, .unset, .unset, .unset] [(.long p0)])) _
    refine XS.lloadN X5.here hx rfl (hb hby at_13) rfl ?_
    exact k)
  obtain ⟨_, _, ⟨T8, L8, k8, n8⟩, -, X8, ⟨Lc8, hQ8, l8, y8, z8⟩, st8⟩ := Jvm.LawKit.callS X5 hx (y := (⟨"java/lang/Math", "max", "(JJ)J"⟩ : MethodName)) hown (mvT hZ (hw _ (List.mem_of_getElem? (i := 4) rfl))) (mvT hZ (hw _ (List.mem_of_getElem? (i := 5) rfl))) (mvT hZ (hw _ (List.mem_of_getElem? (i := 2) rfl))) (mvT hZ (hw _ (List.mem_of_getElem? (i := 6) rfl))) (by decide) (backOf (W := 0) (own_mxC l Z a0 hw [] p0 p1 h0 n0 Z0) hZ (hw _ (List.mem_of_getElem? (i := 6) rfl)) (hw _ (List.mem_of_getElem? (i := 2) rfl)) (by decide) (by decide)) (g := (mkF m 14 #[.val (.long p0), .second, .val (.long p1), .second, .val (.long p2), .second, .val (.long p3), .second, .val (.int p4), .val (.long (own_mn (own_mn p0 p1) p2)), .second, .unset, .unset, .unset, .unset, .unset, .unset, .unset, .unset, .unset, .unset, .unset] [(.long p1), (.long p0)])) rfl (by rw [hml]; rfl) (argsL := [(.long p0), (.long p1)]) (rest := []) (lenOf own_pd__JJ_J rfl) rfl (by show 2 * 0 + _ ≤ _; exact Nat.le_of_eq rfl) (hb hby at_14) (fun _ _ => ⟨rfl, e5, (by decide : 0 + 0 ≤ _), (by decide : 0 + 0 ≤ _)⟩)
  dsimp only [Pt.U, Pt.locs, Pt.cells, Pt.slots] at X8 l8 y8 z8 st8 hQ8
  subst l8 y8 z8
  obtain ⟨rfl, N8q, e8⟩ := hQ8
  have N8 := Fr.app N5 N8q
  have pre9 : ∀ t, Steps p.tables e below (T8.setTop (mkF m 17 #[.val (.long p0), .second, .val (.long p1), .second, .val (.long p2), .second, .val (.long p3), .second, .val (.int p4), .val (.long (own_mn (own_mn p0 p1) p2)), .second, .unset, .unset, .unset, .unset, .unset, .unset, .unset, .unset, .unset, .unset, .unset] [(.long (own_mx p0 p1))])) t → Steps p.tables e below (s₁.setTop (entryFrame m #[(.long p0), (.long p1), (.long p2), (.long p3), (.int p4)] maxLocals)) t := fun t k => pre7 _ (st8 _ k)
  have pre10 : ∀ t, Steps p.tables e below (T8.setTop (mkF m 19 #[.val (.long p0), .second, .val (.long p1), .second, .val (.long p2), .second, .val (.long p3), .second, .val (.int p4), .val (.long (own_mn (own_mn p0 p1) p2)), .second, .unset, .unset, .unset, .unset, .unset, .unset, .unset, .unset, .unset, .unset, .unset] [(.long p2), (.long (own_mx p0 p1))])) t → Steps p.tables e below (s₁.setTop (entryFrame m #[(.long p0), (.long p1), (.long p2), (.long p3), (.int p4)] maxLocals)) t := fun t k => pre9 _ (by
    show Steps p.tables e below (T8.setTop (mkF m 17 #[.val (.long p0), .second, .val (.long p1), .second, .val (.long p2), .second, .val (.long p3), .second, .val (.int p4), .val (.long (own_mn (own_mn p0 p1) p2)), .second, .unset, .unset, .unset, .unset, .unset, .unset, .unset, .unset, .unset, .unset, .unset] [(.long (own_mx p0 p1))])) _
    refine XS.lload X8.here hx rfl (hb hby at_17) rfl ?_
    exact k)
  obtain ⟨_, _, ⟨T11, L11, k11, n11⟩, -, X11, ⟨Lc11, hQ11, l11, y11, z11⟩, st11⟩ := Jvm.LawKit.callS X8 hx (y := (⟨"java/lang/Math", "max", "(JJ)J"⟩ : MethodName)) hown (mvT hZ (hw _ (List.mem_of_getElem? (i := 4) rfl))) (mvT hZ (hw _ (List.mem_of_getElem? (i := 5) rfl))) (mvT hZ (hw _ (List.mem_of_getElem? (i := 2) rfl))) (mvT hZ (hw _ (List.mem_of_getElem? (i := 6) rfl))) (by decide) (backOf (W := 0) (own_mxC l Z a0 hw [] (own_mx p0 p1) p2 h0 n0 Z0) hZ (hw _ (List.mem_of_getElem? (i := 6) rfl)) (hw _ (List.mem_of_getElem? (i := 2) rfl)) (by decide) (by decide)) (g := (mkF m 19 #[.val (.long p0), .second, .val (.long p1), .second, .val (.long p2), .second, .val (.long p3), .second, .val (.int p4), .val (.long (own_mn (own_mn p0 p1) p2)), .second, .unset, .unset, .unset, .unset, .unset, .unset, .unset, .unset, .unset, .unset, .unset] [(.long p2), (.long (own_mx p0 p1))])) rfl (by rw [hml]; rfl) (argsL := [(.long (own_mx p0 p1)), (.long p2)]) (rest := []) (lenOf own_pd__JJ_J rfl) rfl (by show 2 * 0 + _ ≤ _; exact Nat.le_of_eq rfl) (hb hby at_19) (fun _ _ => ⟨rfl, e8, (by decide : 0 + 0 ≤ _), (by decide : 0 + 0 ≤ _)⟩)
  dsimp only [Pt.U, Pt.locs, Pt.cells, Pt.slots] at X11 l11 y11 z11 st11 hQ11
  subst l11 y11 z11
  obtain ⟨rfl, N11q, e11⟩ := hQ11
  have N11 := Fr.app N8 N11q
  have pre12 : ∀ t, Steps p.tables e below (T11.setTop (mkF m 22 #[.val (.long p0), .second, .val (.long p1), .second, .val (.long p2), .second, .val (.long p3), .second, .val (.int p4), .val (.long (own_mn (own_mn p0 p1) p2)), .second, .unset, .unset, .unset, .unset, .unset, .unset, .unset, .unset, .unset, .unset, .unset] [(.long (own_mx (own_mx p0 p1) p2))])) t → Steps p.tables e below (s₁.setTop (entryFrame m #[(.long p0), (.long p1), (.long p2), (.long p3), (.int p4)] maxLocals)) t := fun t k => pre10 _ (st11 _ k)
  have pre13 : ∀ t, Steps p.tables e below (T11.setTop (mkF m 26 #[.val (.long p0), .second, .val (.long p1), .second, .val (.long p2), .second, .val (.long p3), .second, .val (.int p4), .val (.long (own_mn (own_mn p0 p1) p2)), .second, .val (.long (own_mx (own_mx p0 p1) p2)), .second, .unset, .unset, .unset, .unset, .unset, .unset, .unset, .unset, .unset] [(.long p1), (.long p0)])) t → Steps p.tables e below (s₁.setTop (entryFrame m #[(.long p0), (.long p1), (.long p2), (.long p3), (.int p4)] maxLocals)) t := fun t k => pre12 _ (by
    show Steps p.tables e below (T11.setTop (mkF m 22 #[.val (.long p0), .second, .val (.long p1), .second, .val (.long p2), .second, .val (.long p3), .second, .val (.int p4), .val (.long (own_mn (own_mn p0 p1) p2)), .second, .unset, .unset, .unset, .unset, .unset, .unset, .unset, .unset, .unset, .unset, .unset] [(.long (own_mx (own_mx p0 p1) p2))])) _
    refine XS.lstore X11.here hx rfl (hb hby at_22) rfl (l' := #[.val (.long p0), .second, .val (.long p1), .second, .val (.long p2), .second, .val (.long p3), .second, .val (.int p4), .val (.long (own_mn (own_mn p0 p1) p2)), .second, .val (.long (own_mx (own_mx p0 p1) p2)), .second, .unset, .unset, .unset, .unset, .unset, .unset, .unset, .unset, .unset]) rfl ?_
    show Steps p.tables e below (T11.setTop (mkF m 24 #[.val (.long p0), .second, .val (.long p1), .second, .val (.long p2), .second, .val (.long p3), .second, .val (.int p4), .val (.long (own_mn (own_mn p0 p1) p2)), .second, .val (.long (own_mx (own_mx p0 p1) p2)), .second, .unset, .unset, .unset, .unset, .unset, .unset, .unset, .unset, .unset] [])) _
    refine XS.lloadN X11.here hx rfl (hb hby at_24) rfl ?_
    show Steps p.tables e below (T11.setTop (mkF m 25 #[.val (.long p0), .second, .val (.long p1), .second, .val (.long p2), .second, .val (.long p3), .second, .val (.int p4), .val (.long (own_mn (own_mn p0 p1) p2)), .second, .val (.long (own_mx (own_mx p0 p1) p2)), .second, .unset, .unset, .unset, .unset, .unset, .unset, .unset, .unset, .unset] [(.long p0)])) _
    refine XS.lloadN X11.here hx rfl (hb hby at_25) rfl ?_
    exact k)
  obtain ⟨_, _, ⟨T14, L14, k14, n14⟩, -, X14, ⟨Lc14, hQ14, l14, y14, z14⟩, st14⟩ := Jvm.LawKit.callS X11 hx (y := (⟨"java/lang/Math", "min", "(JJ)J"⟩ : MethodName)) hown (mvT hZ (hw _ (List.mem_of_getElem? (i := 0) rfl))) (mvT hZ (hw _ (List.mem_of_getElem? (i := 1) rfl))) (mvT hZ (hw _ (List.mem_of_getElem? (i := 2) rfl))) (mvT hZ (hw _ (List.mem_of_getElem? (i := 3) rfl))) (by decide) (backOf (W := 0) (own_mnC l Z a0 hw [] p0 p1 h0 n0 Z0) hZ (hw _ (List.mem_of_getElem? (i := 3) rfl)) (hw _ (List.mem_of_getElem? (i := 2) rfl)) (by decide) (by decide)) (g := (mkF m 26 #[.val (.long p0), .second, .val (.long p1), .second, .val (.long p2), .second, .val (.long p3), .second, .val (.int p4), .val (.long (own_mn (own_mn p0 p1) p2)), .second, .val (.long (own_mx (own_mx p0 p1) p2)), .second, .unset, .unset, .unset, .unset, .unset, .unset, .unset, .unset, .unset] [(.long p1), (.long p0)])) rfl (by rw [hml]; rfl) (argsL := [(.long p0), (.long p1)]) (rest := []) (lenOf own_pd__JJ_J rfl) rfl (by show 2 * 0 + _ ≤ _; exact Nat.le_of_eq rfl) (hb hby at_26) (fun _ _ => ⟨rfl, e11, (by decide : 0 + 0 ≤ _), (by decide : 0 + 0 ≤ _)⟩)
  dsimp only [Pt.U, Pt.locs, Pt.cells, Pt.slots] at X14 l14 y14 z14 st14 hQ14
  subst l14 y14 z14
  obtain ⟨rfl, N14q, e14⟩ := hQ14
  have N14 := Fr.app N11 N14q
  have pre15 : ∀ t, Steps p.tables e below (T14.setTop (mkF m 29 #[.val (.long p0), .second, .val (.long p1), .second, .val (.long p2), .second, .val (.long p3), .second, .val (.int p4), .val (.long (own_mn (own_mn p0 p1) p2)), .second, .val (.long (own_mx (own_mx p0 p1) p2)), .second, .unset, .unset, .unset, .unset, .unset, .unset, .unset, .unset, .unset] [(.long (own_mn p0 p1))])) t → Steps p.tables e below (s₁.setTop (entryFrame m #[(.long p0), (.long p1), (.long p2), (.long p3), (.int p4)] maxLocals)) t := fun t k => pre13 _ (st14 _ k)
  have pre16 : ∀ t, Steps p.tables e below (T14.setTop (mkF m 31 #[.val (.long p0), .second, .val (.long p1), .second, .val (.long p2), .second, .val (.long p3), .second, .val (.int p4), .val (.long (own_mn (own_mn p0 p1) p2)), .second, .val (.long (own_mx (own_mx p0 p1) p2)), .second, .unset, .unset, .unset, .unset, .unset, .unset, .unset, .unset, .unset] [(.long p1), (.long p0), (.long (own_mn p0 p1))])) t → Steps p.tables e below (s₁.setTop (entryFrame m #[(.long p0), (.long p1), (.long p2), (.long p3), (.int p4)] maxLocals)) t := fun t k => pre15 _ (by
    show Steps p.tables e below (T14.setTop (mkF m 29 #[.val (.long p0), .second, .val (.long p1), .second, .val (.long p2), .second, .val (.long p3), .second, .val (.int p4), .val (.long (own_mn (own_mn p0 p1) p2)), .second, .val (.long (own_mx (own_mx p0 p1) p2)), .second, .unset, .unset, .unset, .unset, .unset, .unset, .unset, .unset, .unset] [(.long (own_mn p0 p1))])) _
    refine XS.lloadN X14.here hx rfl (hb hby at_29) rfl ?_
    show Steps p.tables e below (T14.setTop (mkF m 30 #[.val (.long p0), .second, .val (.long p1), .second, .val (.long p2), .second, .val (.long p3), .second, .val (.int p4), .val (.long (own_mn (own_mn p0 p1) p2)), .second, .val (.long (own_mx (own_mx p0 p1) p2)), .second, .unset, .unset, .unset, .unset, .unset, .unset, .unset, .unset, .unset] [(.long p0), (.long (own_mn p0 p1))])) _
    refine XS.lloadN X14.here hx rfl (hb hby at_30) rfl ?_
    exact k)
  obtain ⟨_, _, ⟨T17, L17, k17, n17⟩, -, X17, ⟨Lc17, hQ17, l17, y17, z17⟩, st17⟩ := Jvm.LawKit.callS X14 hx (y := (⟨"java/lang/Math", "max", "(JJ)J"⟩ : MethodName)) hown (mvT hZ (hw _ (List.mem_of_getElem? (i := 4) rfl))) (mvT hZ (hw _ (List.mem_of_getElem? (i := 5) rfl))) (mvT hZ (hw _ (List.mem_of_getElem? (i := 2) rfl))) (mvT hZ (hw _ (List.mem_of_getElem? (i := 6) rfl))) (by decide) (backOf (W := 2) (own_mxC l Z a0 hw [] p0 p1 h0 n0 Z0) hZ (hw _ (List.mem_of_getElem? (i := 6) rfl)) (hw _ (List.mem_of_getElem? (i := 2) rfl)) (by decide) (by decide)) (g := (mkF m 31 #[.val (.long p0), .second, .val (.long p1), .second, .val (.long p2), .second, .val (.long p3), .second, .val (.int p4), .val (.long (own_mn (own_mn p0 p1) p2)), .second, .val (.long (own_mx (own_mx p0 p1) p2)), .second, .unset, .unset, .unset, .unset, .unset, .unset, .unset, .unset, .unset] [(.long p1), (.long p0), (.long (own_mn p0 p1))])) rfl (by rw [hml]; rfl) (argsL := [(.long p0), (.long p1)]) (rest := [(.long (own_mn p0 p1))]) (lenOf own_pd__JJ_J rfl) rfl (by show 2 * 0 + _ ≤ _; exact Nat.le_of_eq rfl) (hb hby at_31) (fun _ _ => ⟨rfl, e14, (by decide : 0 + 0 ≤ _), (by decide : 0 + 0 ≤ _)⟩)
  dsimp only [Pt.U, Pt.locs, Pt.cells, Pt.slots] at X17 l17 y17 z17 st17 hQ17
  subst l17 y17 z17
  obtain ⟨rfl, N17q, e17⟩ := hQ17
  have N17 := Fr.app N14 N17q
  have pre18 : ∀ t, Steps p.tables e below (T17.setTop (mkF m 34 #[.val (.long p0), .second, .val (.long p1), .second, .val (.long p2), .second, .val (.long p3), .second, .val (.int p4), .val (.long (own_mn (own_mn p0 p1) p2)), .second, .val (.long (own_mx (own_mx p0 p1) p2)), .second, .unset, .unset, .unset, .unset, .unset, .unset, .unset, .unset, .unset] [(.long (own_mx p0 p1)), (.long (own_mn p0 p1))])) t → Steps p.tables e below (s₁.setTop (entryFrame m #[(.long p0), (.long p1), (.long p2), (.long p3), (.int p4)] maxLocals)) t := fun t k => pre16 _ (st17 _ k)
  have pre19 : ∀ t, Steps p.tables e below (T17.setTop (mkF m 36 #[.val (.long p0), .second, .val (.long p1), .second, .val (.long p2), .second, .val (.long p3), .second, .val (.int p4), .val (.long (own_mn (own_mn p0 p1) p2)), .second, .val (.long (own_mx (own_mx p0 p1) p2)), .second, .unset, .unset, .unset, .unset, .unset, .unset, .unset, .unset, .unset] [(.long p2), (.long (own_mx p0 p1)), (.long (own_mn p0 p1))])) t → Steps p.tables e below (s₁.setTop (entryFrame m #[(.long p0), (.long p1), (.long p2), (.long p3), (.int p4)] maxLocals)) t := fun t k => pre18 _ (by
    show Steps p.tables e below (T17.setTop (mkF m 34 #[.val (.long p0), .second, .val (.long p1), .second, .val (.long p2), .second, .val (.long p3), .second, .val (.int p4), .val (.long (own_mn (own_mn p0 p1) p2)), .second, .val (.long (own_mx (own_mx p0 p1) p2)), .second, .unset, .unset, .unset, .unset, .unset, .unset, .unset, .unset, .unset] [(.long (own_mx p0 p1)), (.long (own_mn p0 p1))])) _
    refine XS.lload X17.here hx rfl (hb hby at_34) rfl ?_
    exact k)
  obtain ⟨_, _, ⟨T20, L20, k20, n20⟩, -, X20, ⟨Lc20, hQ20, l20, y20, z20⟩, st20⟩ := Jvm.LawKit.callS X17 hx (y := (⟨"java/lang/Math", "min", "(JJ)J"⟩ : MethodName)) hown (mvT hZ (hw _ (List.mem_of_getElem? (i := 0) rfl))) (mvT hZ (hw _ (List.mem_of_getElem? (i := 1) rfl))) (mvT hZ (hw _ (List.mem_of_getElem? (i := 2) rfl))) (mvT hZ (hw _ (List.mem_of_getElem? (i := 3) rfl))) (by decide) (backOf (W := 2) (own_mnC l Z a0 hw [] (own_mx p0 p1) p2 h0 n0 Z0) hZ (hw _ (List.mem_of_getElem? (i := 3) rfl)) (hw _ (List.mem_of_getElem? (i := 2) rfl)) (by decide) (by decide)) (g := (mkF m 36 #[.val (.long p0), .second, .val (.long p1), .second, .val (.long p2), .second, .val (.long p3), .second, .val (.int p4), .val (.long (own_mn (own_mn p0 p1) p2)), .second, .val (.long (own_mx (own_mx p0 p1) p2)), .second, .unset, .unset, .unset, .unset, .unset, .unset, .unset, .unset, .unset] [(.long p2), (.long (own_mx p0 p1)), (.long (own_mn p0 p1))])) rfl (by rw [hml]; rfl) (argsL := [(.long (own_mx p0 p1)), (.long p2)]) (rest := [(.long (own_mn p0 p1))]) (lenOf own_pd__JJ_J rfl) rfl (by show 2 * 0 + _ ≤ _; exact Nat.le_of_eq rfl) (hb hby at_36) (fun _ _ => ⟨rfl, e17, (by decide : 0 + 0 ≤ _), (by decide : 0 + 0 ≤ _)⟩)
  dsimp only [Pt.U, Pt.locs, Pt.cells, Pt.slots] at X20 l20 y20 z20 st20 hQ20
  subst l20 y20 z20
  obtain ⟨rfl, N20q, e20⟩ := hQ20
  have N20 := Fr.app N17 N20q
  have pre21 : ∀ t, Steps p.tables e below (T20.setTop (mkF m 39 #[.val (.long p0), .second, .val (.long p1), .second, .val (.long p2), .second, .val (.long p3), .second, .val (.int p4), .val (.long (own_mn (own_mn p0 p1) p2)), .second, .val (.long (own_mx (own_mx p0 p1) p2)), .second, .unset, .unset, .unset, .unset, .unset, .unset, .unset, .unset, .unset] [(.long (own_mn (own_mx p0 p1) p2)), (.long (own_mn p0 p1))])) t → Steps p.tables e below (s₁.setTop (entryFrame m #[(.long p0), (.long p1), (.long p2), (.long p3), (.int p4)] maxLocals)) t := fun t k => pre19 _ (st20 _ k)
  obtain ⟨_, _, ⟨T22, L22, k22, n22⟩, -, X22, ⟨Lc22, hQ22, l22, y22, z22⟩, st22⟩ := Jvm.LawKit.callS X20 hx (y := (⟨"java/lang/Math", "max", "(JJ)J"⟩ : MethodName)) hown (mvT hZ (hw _ (List.mem_of_getElem? (i := 4) rfl))) (mvT hZ (hw _ (List.mem_of_getElem? (i := 5) rfl))) (mvT hZ (hw _ (List.mem_of_getElem? (i := 2) rfl))) (mvT hZ (hw _ (List.mem_of_getElem? (i := 6) rfl))) (by decide) (backOf (W := 0) (own_mxC l Z a0 hw [] (own_mn p0 p1) (own_mn (own_mx p0 p1) p2) h0 n0 Z0) hZ (hw _ (List.mem_of_getElem? (i := 6) rfl)) (hw _ (List.mem_of_getElem? (i := 2) rfl)) (by decide) (by decide)) (g := (mkF m 39 #[.val (.long p0), .second, .val (.long p1), .second, .val (.long p2), .second, .val (.long p3), .second, .val (.int p4), .val (.long (own_mn (own_mn p0 p1) p2)), .second, .val (.long (own_mx (own_mx p0 p1) p2)), .second, .unset, .unset, .unset, .unset, .unset, .unset, .unset, .unset, .unset] [(.long (own_mn (own_mx p0 p1) p2)), (.long (own_mn p0 p1))])) rfl (by rw [hml]; rfl) (argsL := [(.long (own_mn p0 p1)), (.long (own_mn (own_mx p0 p1) p2))]) (rest := []) (lenOf own_pd__JJ_J rfl) rfl (by show 2 * 0 + _ ≤ _; exact Nat.le_of_eq rfl) (hb hby at_39) (fun _ _ => ⟨rfl, e20, (by decide : 0 + 0 ≤ _), (by decide : 0 + 0 ≤ _)⟩)
  dsimp only [Pt.U, Pt.locs, Pt.cells, Pt.slots] at X22 l22 y22 z22 st22 hQ22
  subst l22 y22 z22
  obtain ⟨rfl, N22q, e22⟩ := hQ22
  have N22 := Fr.app N20 N22q
  have pre23 : ∀ t, Steps p.tables e below (T22.setTop (mkF m 42 #[.val (.long p0), .second, .val (.long p1), .second, .val (.long p2), .second, .val (.long p3), .second, .val (.int p4), .val (.long (own_mn (own_mn p0 p1) p2)), .second, .val (.long (own_mx (own_mx p0 p1) p2)), .second, .unset, .unset, .unset, .unset, .unset, .unset, .unset, .unset, .unset] [(.long (own_mx (own_mn p0 p1) (own_mn (own_mx p0 p1) p2)))])) t → Steps p.tables e below (s₁.setTop (entryFrame m #[(.long p0), (.long p1), (.long p2), (.long p3), (.int p4)] maxLocals)) t := fun t k => pre21 _ (st22 _ k)
  have pre24 : ∀ t, Steps p.tables e below (T22.setTop (mkF m 44 #[.val (.long p0), .second, .val (.long p1), .second, .val (.long p2), .second, .val (.long p3), .second, .val (.int p4), .val (.long (own_mn (own_mn p0 p1) p2)), .second, .val (.long (own_mx (own_mx p0 p1) p2)), .second, .val (.long (own_mx (own_mn p0 p1) (own_mn (own_mx p0 p1) p2))), .second, .unset, .unset, .unset, .unset, .unset, .unset, .unset] [])) t → Steps p.tables e below (s₁.setTop (entryFrame m #[(.long p0), (.long p1), (.long p2), (.long p3), (.int p4)] maxLocals)) t := fun t k => pre23 _ (by
    show Steps p.tables e below (T22.setTop (mkF m 42 #[.val (.long p0), .second, .val (.long p1), .second, .val (.long p2), .second, .val (.long p3), .second, .val (.int p4), .val (.long (own_mn (own_mn p0 p1) p2)), .second, .val (.long (own_mx (own_mx p0 p1) p2)), .second, .unset, .unset, .unset, .unset, .unset, .unset, .unset, .unset, .unset] [(.long (own_mx (own_mn p0 p1) (own_mn (own_mx p0 p1) p2)))])) _
    refine XS.lstore X22.here hx rfl (hb hby at_42) rfl (l' := #[.val (.long p0), .second, .val (.long p1), .second, .val (.long p2), .second, .val (.long p3), .second, .val (.int p4), .val (.long (own_mn (own_mn p0 p1) p2)), .second, .val (.long (own_mx (own_mx p0 p1) p2)), .second, .val (.long (own_mx (own_mn p0 p1) (own_mn (own_mx p0 p1) p2))), .second, .unset, .unset, .unset, .unset, .unset, .unset, .unset]) rfl ?_
    exact k)
  obtain ⟨t0, ht0⟩ : ∃ z : Int64, z = (own_mn (own_mn p0 p1) p2) := ⟨_, rfl⟩
  have pre25 : ∀ t, Steps p.tables e below (T22.setTop (mkF m 44 #[.val (.long p0), .second, .val (.long p1), .second, .val (.long p2), .second, .val (.long p3), .second, .val (.int p4), .val (.long t0), .second, .val (.long (own_mx (own_mx p0 p1) p2)), .second, .val (.long (own_mx (own_mn p0 p1) (own_mn (own_mx p0 p1) p2))), .second, .unset, .unset, .unset, .unset, .unset, .unset, .unset] [])) t → Steps p.tables e below (s₁.setTop (entryFrame m #[(.long p0), (.long p1), (.long p2), (.long p3), (.int p4)] maxLocals)) t := fun t k => pre24 _ (by rw [ht0] at k; exact k)
  obtain ⟨t2, ht2⟩ : ∃ z : Int64, z = (own_mx (own_mx p0 p1) p2) := ⟨_, rfl⟩
  have pre26 : ∀ t, Steps p.tables e below (T22.setTop (mkF m 44 #[.val (.long p0), .second, .val (.long p1), .second, .val (.long p2), .second, .val (.long p3), .second, .val (.int p4), .val (.long t0), .second, .val (.long t2), .second, .val (.long (own_mx (own_mn p0 p1) (own_mn (own_mx p0 p1) p2))), .second, .unset, .unset, .unset, .unset, .unset, .unset, .unset] [])) t → Steps p.tables e below (s₁.setTop (entryFrame m #[(.long p0), (.long p1), (.long p2), (.long p3), (.int p4)] maxLocals)) t := fun t k => pre25 _ (by rw [ht2] at k; exact k)
  obtain ⟨t1, ht1⟩ : ∃ z : Int64, z = (own_mx (own_mn p0 p1) (own_mn (own_mx p0 p1) p2)) := ⟨_, rfl⟩
  have pre27 : ∀ t, Steps p.tables e below (T22.setTop (mkF m 44 #[.val (.long p0), .second, .val (.long p1), .second, .val (.long p2), .second, .val (.long p3), .second, .val (.int p4), .val (.long t0), .second, .val (.long t2), .second, .val (.long t1), .second, .unset, .unset, .unset, .unset, .unset, .unset, .unset] [])) t → Steps p.tables e below (s₁.setTop (entryFrame m #[(.long p0), (.long p1), (.long p2), (.long p3), (.int p4)] maxLocals)) t := fun t k => pre26 _ (by rw [ht1] at k; exact k)
  have pre28 : ∀ t, Steps p.tables e below (T22.setTop (mkF m 59 #[.val (.long p0), .second, .val (.long p1), .second, .val (.long p2), .second, .val (.long p3), .second, .val (.int p4), .val (.long t0), .second, .val (.long t2), .second, .val (.long t1), .second, .val (.int (p4 &&& (3 : Int32))), .val (.int (((p4.toUInt32 >>> ((2 : Int32) &&& 31).toUInt32).toInt32) &&& (7 : Int32))), .unset, .unset, .unset, .unset, .unset] [])) t → Steps p.tables e below (s₁.setTop (entryFrame m #[(.long p0), (.long p1), (.long p2), (.long p3), (.int p4)] maxLocals)) t := fun t k => pre27 _ (by
    show Steps p.tables e below (T22.setTop (mkF m 44 #[.val (.long p0), .second, .val (.long p1), .second, .val (.long p2), .second, .val (.long p3), .second, .val (.int p4), .val (.long t0), .second, .val (.long t2), .second, .val (.long t1), .second, .unset, .unset, .unset, .unset, .unset, .unset, .unset] [])) _
    refine XS.iload X22.here hx rfl (hb hby at_44) rfl ?_
    show Steps p.tables e below (T22.setTop (mkF m 46 #[.val (.long p0), .second, .val (.long p1), .second, .val (.long p2), .second, .val (.long p3), .second, .val (.int p4), .val (.long t0), .second, .val (.long t2), .second, .val (.long t1), .second, .unset, .unset, .unset, .unset, .unset, .unset, .unset] [(.int p4)])) _
    refine XT.iconstV X22.here hx rfl (3 : Int32) (hb hby at_46) rfl ?_
    show Steps p.tables e below (T22.setTop (mkF m 47 #[.val (.long p0), .second, .val (.long p1), .second, .val (.long p2), .second, .val (.long p3), .second, .val (.int p4), .val (.long t0), .second, .val (.long t2), .second, .val (.long t1), .second, .unset, .unset, .unset, .unset, .unset, .unset, .unset] [(.int (3 : Int32)), (.int p4)])) _
    refine XS.iand X22.here hx rfl (hb hby at_47) rfl ?_
    show Steps p.tables e below (T22.setTop (mkF m 48 #[.val (.long p0), .second, .val (.long p1), .second, .val (.long p2), .second, .val (.long p3), .second, .val (.int p4), .val (.long t0), .second, .val (.long t2), .second, .val (.long t1), .second, .unset, .unset, .unset, .unset, .unset, .unset, .unset] [(.int (p4 &&& (3 : Int32)))])) _
    refine XS.istore X22.here hx rfl (hb hby at_48) rfl (l' := #[.val (.long p0), .second, .val (.long p1), .second, .val (.long p2), .second, .val (.long p3), .second, .val (.int p4), .val (.long t0), .second, .val (.long t2), .second, .val (.long t1), .second, .val (.int (p4 &&& (3 : Int32))), .unset, .unset, .unset, .unset, .unset, .unset]) rfl ?_
    show Steps p.tables e below (T22.setTop (mkF m 50 #[.val (.long p0), .second, .val (.long p1), .second, .val (.long p2), .second, .val (.long p3), .second, .val (.int p4), .val (.long t0), .second, .val (.long t2), .second, .val (.long t1), .second, .val (.int (p4 &&& (3 : Int32))), .unset, .unset, .unset, .unset, .unset, .unset] [])) _
    refine XS.iload X22.here hx rfl (hb hby at_50) rfl ?_
    show Steps p.tables e below (T22.setTop (mkF m 52 #[.val (.long p0), .second, .val (.long p1), .second, .val (.long p2), .second, .val (.long p3), .second, .val (.int p4), .val (.long t0), .second, .val (.long t2), .second, .val (.long t1), .second, .val (.int (p4 &&& (3 : Int32))), .unset, .unset, .unset, .unset, .unset, .unset] [(.int p4)])) _
    refine XT.iconstV X22.here hx rfl (2 : Int32) (hb hby at_52) rfl ?_
    show Steps p.tables e below (T22.setTop (mkF m 53 #[.val (.long p0), .second, .val (.long p1), .second, .val (.long p2), .second, .val (.long p3), .second, .val (.int p4), .val (.long t0), .second, .val (.long t2), .second, .val (.long t1), .second, .val (.int (p4 &&& (3 : Int32))), .unset, .unset, .unset, .unset, .unset, .unset] [(.int (2 : Int32)), (.int p4)])) _
    refine XS.iushr X22.here hx rfl (hb hby at_53) rfl ?_
    show Steps p.tables e below (T22.setTop (mkF m 54 #[.val (.long p0), .second, .val (.long p1), .second, .val (.long p2), .second, .val (.long p3), .second, .val (.int p4), .val (.long t0), .second, .val (.long t2), .second, .val (.long t1), .second, .val (.int (p4 &&& (3 : Int32))), .unset, .unset, .unset, .unset, .unset, .unset] [(.int ((p4.toUInt32 >>> ((2 : Int32) &&& 31).toUInt32).toInt32))])) _
    refine XT.bipushV X22.here hx rfl (7 : Int32) (hb hby at_54) rfl ?_
    show Steps p.tables e below (T22.setTop (mkF m 56 #[.val (.long p0), .second, .val (.long p1), .second, .val (.long p2), .second, .val (.long p3), .second, .val (.int p4), .val (.long t0), .second, .val (.long t2), .second, .val (.long t1), .second, .val (.int (p4 &&& (3 : Int32))), .unset, .unset, .unset, .unset, .unset, .unset] [(.int (7 : Int32)), (.int ((p4.toUInt32 >>> ((2 : Int32) &&& 31).toUInt32).toInt32))])) _
    refine XS.iand X22.here hx rfl (hb hby at_56) rfl ?_
    show Steps p.tables e below (T22.setTop (mkF m 57 #[.val (.long p0), .second, .val (.long p1), .second, .val (.long p2), .second, .val (.long p3), .second, .val (.int p4), .val (.long t0), .second, .val (.long t2), .second, .val (.long t1), .second, .val (.int (p4 &&& (3 : Int32))), .unset, .unset, .unset, .unset, .unset, .unset] [(.int (((p4.toUInt32 >>> ((2 : Int32) &&& 31).toUInt32).toInt32) &&& (7 : Int32)))])) _
    refine XS.istore X22.here hx rfl (hb hby at_57) rfl (l' := #[.val (.long p0), .second, .val (.long p1), .second, .val (.long p2), .second, .val (.long p3), .second, .val (.int p4), .val (.long t0), .second, .val (.long t2), .second, .val (.long t1), .second, .val (.int (p4 &&& (3 : Int32))), .val (.int (((p4.toUInt32 >>> ((2 : Int32) &&& 31).toUInt32).toInt32) &&& (7 : Int32))), .unset, .unset, .unset, .unset, .unset]) rfl ?_
    exact k)
  obtain ⟨nn, hnn⟩ : ∃ z : Int32, z = (p4 &&& (3 : Int32)) := ⟨_, rfl⟩
  have pre29 : ∀ t, Steps p.tables e below (T22.setTop (mkF m 59 #[.val (.long p0), .second, .val (.long p1), .second, .val (.long p2), .second, .val (.long p3), .second, .val (.int p4), .val (.long t0), .second, .val (.long t2), .second, .val (.long t1), .second, .val (.int nn), .val (.int (((p4.toUInt32 >>> ((2 : Int32) &&& 31).toUInt32).toInt32) &&& (7 : Int32))), .unset, .unset, .unset, .unset, .unset] [])) t → Steps p.tables e below (s₁.setTop (entryFrame m #[(.long p0), (.long p1), (.long p2), (.long p3), (.int p4)] maxLocals)) t := fun t k => pre28 _ (by rw [hnn] at k; exact k)
  obtain ⟨sel, hsel⟩ : ∃ z : Int32, z = (((p4.toUInt32 >>> ((2 : Int32) &&& 31).toUInt32).toInt32) &&& (7 : Int32)) := ⟨_, rfl⟩
  have pre30 : ∀ t, Steps p.tables e below (T22.setTop (mkF m 59 #[.val (.long p0), .second, .val (.long p1), .second, .val (.long p2), .second, .val (.long p3), .second, .val (.int p4), .val (.long t0), .second, .val (.long t2), .second, .val (.long t1), .second, .val (.int nn), .val (.int sel), .unset, .unset, .unset, .unset, .unset] [])) t → Steps p.tables e below (s₁.setTop (entryFrame m #[(.long p0), (.long p1), (.long p2), (.long p3), (.int p4)] maxLocals)) t := fun t k => pre29 _ (by rw [hsel] at k; exact k)
  have pre31 : ∀ t, Steps p.tables e below (T22.setTop (mkF m 61 #[.val (.long p0), .second, .val (.long p1), .second, .val (.long p2), .second, .val (.long p3), .second, .val (.int p4), .val (.long t0), .second, .val (.long t2), .second, .val (.long t1), .second, .val (.int nn), .val (.int sel), .unset, .unset, .unset, .unset, .unset] [(.int sel)])) t → Steps p.tables e below (s₁.setTop (entryFrame m #[(.long p0), (.long p1), (.long p2), (.long p3), (.int p4)] maxLocals)) t := fun t k => pre30 _ (by
    show Steps p.tables e below (T22.setTop (mkF m 59 #[.val (.long p0), .second, .val (.long p1), .second, .val (.long p2), .second, .val (.long p3), .second, .val (.int p4), .val (.long t0), .second, .val (.long t2), .second, .val (.long t1), .second, .val (.int nn), .val (.int sel), .unset, .unset, .unset, .unset, .unset] [])) _
    refine XS.iload X22.here hx rfl (hb hby at_59) rfl ?_
    exact k)
  obtain ⟨v38, hv38⟩ : ∃ z : Int64, z = (if sel = (5 : Int32) then (t2 - (1 : Int64)) else p3) := ⟨_, rfl⟩
  obtain ⟨v40, hv40⟩ : ∃ z : Int64, z = (if sel = (4 : Int32) then (t1 - (1 : Int64)) else v38) := ⟨_, rfl⟩
  obtain ⟨v42, hv42⟩ : ∃ z : Int64, z = (if sel = (3 : Int32) then (t0 - (1 : Int64)) else v40) := ⟨_, rfl⟩
  obtain ⟨v44, hv44⟩ : ∃ z : Int64, z = (if sel = (2 : Int32) then t2 else v42) := ⟨_, rfl⟩
  obtain ⟨v46, hv46⟩ : ∃ z : Int64, z = (if sel = (1 : Int32) then t1 else v44) := ⟨_, rfl⟩
  obtain ⟨v48, hv48⟩ : ∃ z : Int64, z = (if sel = 0 then t0 else v46) := ⟨_, rfl⟩
  have pre49 : ∀ t, Steps p.tables e below (T22.setTop (mkF m 146 #[.val (.long p0), .second, .val (.long p1), .second, .val (.long p2), .second, .val (.long p3), .second, .val (.int p4), .val (.long t0), .second, .val (.long t2), .second, .val (.long t1), .second, .val (.int nn), .val (.int sel), .val (.long v48), .second, .unset, .unset, .unset] [])) t → Steps p.tables e below (s₁.setTop (entryFrame m #[(.long p0), (.long p1), (.long p2), (.long p3), (.int p4)] maxLocals)) t := fun t k => pre31 _ (by
    by_cases c61_32 : sel = 0
    · rw [show v48 = _ from hv48.trans (if_pos c61_32)] at k
      show Steps p.tables e below (T22.setTop (mkF m 61 #[.val (.long p0), .second, .val (.long p1), .second, .val (.long p2), .second, .val (.long p3), .second, .val (.int p4), .val (.long t0), .second, .val (.long t2), .second, .val (.long t1), .second, .val (.int nn), .val (.int sel), .unset, .unset, .unset, .unset, .unset] [(.int sel)])) _
      refine XS.ifNo X22.here hx rfl (hb hby at_61) rfl (XT.i0_ne_f c61_32) ?_
      show Steps p.tables e below (T22.setTop (mkF m 64 #[.val (.long p0), .second, .val (.long p1), .second, .val (.long p2), .second, .val (.long p3), .second, .val (.int p4), .val (.long t0), .second, .val (.long t2), .second, .val (.long t1), .second, .val (.int nn), .val (.int sel), .unset, .unset, .unset, .unset, .unset] [])) _
      refine XS.lload X22.here hx rfl (hb hby at_64) rfl ?_
      show Steps p.tables e below (T22.setTop (mkF m 66 #[.val (.long p0), .second, .val (.long p1), .second, .val (.long p2), .second, .val (.long p3), .second, .val (.int p4), .val (.long t0), .second, .val (.long t2), .second, .val (.long t1), .second, .val (.int nn), .val (.int sel), .unset, .unset, .unset, .unset, .unset] [(.long t0)])) _
      refine XS.lstore X22.here hx rfl (hb hby at_66) rfl (l' := #[.val (.long p0), .second, .val (.long p1), .second, .val (.long p2), .second, .val (.long p3), .second, .val (.int p4), .val (.long t0), .second, .val (.long t2), .second, .val (.long t1), .second, .val (.int nn), .val (.int sel), .val (.long t0), .second, .unset, .unset, .unset]) rfl ?_
      show Steps p.tables e below (T22.setTop (mkF m 68 #[.val (.long p0), .second, .val (.long p1), .second, .val (.long p2), .second, .val (.long p3), .second, .val (.int p4), .val (.long t0), .second, .val (.long t2), .second, .val (.long t1), .second, .val (.int nn), .val (.int sel), .val (.long t0), .second, .unset, .unset, .unset] [])) _
      refine XS.goto X22.here hx rfl (pc0 := 68) (pc' := 146) rfl (hb hby at_68) (by decide) (by decide) ?_
      exact k
    · rw [show v48 = _ from hv48.trans (if_neg c61_32)] at k
      show Steps p.tables e below (T22.setTop (mkF m 61 #[.val (.long p0), .second, .val (.long p1), .second, .val (.long p2), .second, .val (.long p3), .second, .val (.int p4), .val (.long t0), .second, .val (.long t2), .second, .val (.long t1), .second, .val (.int nn), .val (.int sel), .unset, .unset, .unset, .unset, .unset] [(.int sel)])) _
      refine XS.ifYes X22.here hx rfl (pc0 := 61) (pc' := 71) rfl (hb hby at_61) rfl (XT.i0_ne_t c61_32) (by decide) (by decide) ?_
      show Steps p.tables e below (T22.setTop (mkF m 71 #[.val (.long p0), .second, .val (.long p1), .second, .val (.long p2), .second, .val (.long p3), .second, .val (.int p4), .val (.long t0), .second, .val (.long t2), .second, .val (.long t1), .second, .val (.int nn), .val (.int sel), .unset, .unset, .unset, .unset, .unset] [])) _
      refine XS.iload X22.here hx rfl (hb hby at_71) rfl ?_
      show Steps p.tables e below (T22.setTop (mkF m 73 #[.val (.long p0), .second, .val (.long p1), .second, .val (.long p2), .second, .val (.long p3), .second, .val (.int p4), .val (.long t0), .second, .val (.long t2), .second, .val (.long t1), .second, .val (.int nn), .val (.int sel), .unset, .unset, .unset, .unset, .unset] [(.int sel)])) _
      refine XT.iconstV X22.here hx rfl (1 : Int32) (hb hby at_73) rfl ?_
      have m47 : ∀ t, Steps p.tables e below (T22.setTop (mkF m 146 #[.val (.long p0), .second, .val (.long p1), .second, .val (.long p2), .second, .val (.long p3), .second, .val (.int p4), .val (.long t0), .second, .val (.long t2), .second, .val (.long t1), .second, .val (.int nn), .val (.int sel), .val (.long v46), .second, .unset, .unset, .unset] [])) t → Steps p.tables e below (T22.setTop (mkF m 74 #[.val (.long p0), .second, .val (.long p1), .second, .val (.long p2), .second, .val (.long p3), .second, .val (.int p4), .val (.long t0), .second, .val (.long t2), .second, .val (.long t1), .second, .val (.int nn), .val (.int sel), .unset, .unset, .unset, .unset, .unset] [(.int (1 : Int32)), (.int sel)])) t := fun t k => by
        by_cases c74_33 : sel = (1 : Int32)
        · rw [show v46 = _ from hv46.trans (if_pos c74_33)] at k
          show Steps p.tables e below (T22.setTop (mkF m 74 #[.val (.long p0), .second, .val (.long p1), .second, .val (.long p2), .second, .val (.long p3), .second, .val (.int p4), .val (.long t0), .second, .val (.long t2), .second, .val (.long t1), .second, .val (.int nn), .val (.int sel), .unset, .unset, .unset, .unset, .unset] [(.int (1 : Int32)), (.int sel)])) _
          refine XS.icmpNo X22.here hx rfl (hb hby at_74) rfl (XT.ii_ne_f c74_33) ?_
          show Steps p.tables e below (T22.setTop (mkF m 77 #[.val (.long p0), .second, .val (.long p1), .second, .val (.long p2), .second, .val (.long p3), .second, .val (.int p4), .val (.long t0), .second, .val (.long t2), .second, .val (.long t1), .second, .val (.int nn), .val (.int sel), .unset, .unset, .unset, .unset, .unset] [])) _
          refine XS.lload X22.here hx rfl (hb hby at_77) rfl ?_
          show Steps p.tables e below (T22.setTop (mkF m 79 #[.val (.long p0), .second, .val (.long p1), .second, .val (.long p2), .second, .val (.long p3), .second, .val (.int p4), .val (.long t0), .second, .val (.long t2), .second, .val (.long t1), .second, .val (.int nn), .val (.int sel), .unset, .unset, .unset, .unset, .unset] [(.long t1)])) _
          refine XS.lstore X22.here hx rfl (hb hby at_79) rfl (l' := #[.val (.long p0), .second, .val (.long p1), .second, .val (.long p2), .second, .val (.long p3), .second, .val (.int p4), .val (.long t0), .second, .val (.long t2), .second, .val (.long t1), .second, .val (.int nn), .val (.int sel), .val (.long t1), .second, .unset, .unset, .unset]) rfl ?_
          show Steps p.tables e below (T22.setTop (mkF m 81 #[.val (.long p0), .second, .val (.long p1), .second, .val (.long p2), .second, .val (.long p3), .second, .val (.int p4), .val (.long t0), .second, .val (.long t2), .second, .val (.long t1), .second, .val (.int nn), .val (.int sel), .val (.long t1), .second, .unset, .unset, .unset] [])) _
          refine XS.goto X22.here hx rfl (pc0 := 81) (pc' := 146) rfl (hb hby at_81) (by decide) (by decide) ?_
          exact k
        · rw [show v46 = _ from hv46.trans (if_neg c74_33)] at k
          show Steps p.tables e below (T22.setTop (mkF m 74 #[.val (.long p0), .second, .val (.long p1), .second, .val (.long p2), .second, .val (.long p3), .second, .val (.int p4), .val (.long t0), .second, .val (.long t2), .second, .val (.long t1), .second, .val (.int nn), .val (.int sel), .unset, .unset, .unset, .unset, .unset] [(.int (1 : Int32)), (.int sel)])) _
          refine XS.icmpYes X22.here hx rfl (pc0 := 74) (pc' := 84) rfl (hb hby at_74) rfl (XT.ii_ne_t c74_33) (by decide) (by decide) ?_
          show Steps p.tables e below (T22.setTop (mkF m 84 #[.val (.long p0), .second, .val (.long p1), .second, .val (.long p2), .second, .val (.long p3), .second, .val (.int p4), .val (.long t0), .second, .val (.long t2), .second, .val (.long t1), .second, .val (.int nn), .val (.int sel), .unset, .unset, .unset, .unset, .unset] [])) _
          refine XS.iload X22.here hx rfl (hb hby at_84) rfl ?_
          show Steps p.tables e below (T22.setTop (mkF m 86 #[.val (.long p0), .second, .val (.long p1), .second, .val (.long p2), .second, .val (.long p3), .second, .val (.int p4), .val (.long t0), .second, .val (.long t2), .second, .val (.long t1), .second, .val (.int nn), .val (.int sel), .unset, .unset, .unset, .unset, .unset] [(.int sel)])) _
          refine XT.iconstV X22.here hx rfl (2 : Int32) (hb hby at_86) rfl ?_
          have m45 : ∀ t, Steps p.tables e below (T22.setTop (mkF m 146 #[.val (.long p0), .second, .val (.long p1), .second, .val (.long p2), .second, .val (.long p3), .second, .val (.int p4), .val (.long t0), .second, .val (.long t2), .second, .val (.long t1), .second, .val (.int nn), .val (.int sel), .val (.long v44), .second, .unset, .unset, .unset] [])) t → Steps p.tables e below (T22.setTop (mkF m 87 #[.val (.long p0), .second, .val (.long p1), .second, .val (.long p2), .second, .val (.long p3), .second, .val (.int p4), .val (.long t0), .second, .val (.long t2), .second, .val (.long t1), .second, .val (.int nn), .val (.int sel), .unset, .unset, .unset, .unset, .unset] [(.int (2 : Int32)), (.int sel)])) t := fun t k => by
            by_cases c87_34 : sel = (2 : Int32)
            · rw [show v44 = _ from hv44.trans (if_pos c87_34)] at k
              show Steps p.tables e below (T22.setTop (mkF m 87 #[.val (.long p0), .second, .val (.long p1), .second, .val (.long p2), .second, .val (.long p3), .second, .val (.int p4), .val (.long t0), .second, .val (.long t2), .second, .val (.long t1), .second, .val (.int nn), .val (.int sel), .unset, .unset, .unset, .unset, .unset] [(.int (2 : Int32)), (.int sel)])) _
              refine XS.icmpNo X22.here hx rfl (hb hby at_87) rfl (XT.ii_ne_f c87_34) ?_
              show Steps p.tables e below (T22.setTop (mkF m 90 #[.val (.long p0), .second, .val (.long p1), .second, .val (.long p2), .second, .val (.long p3), .second, .val (.int p4), .val (.long t0), .second, .val (.long t2), .second, .val (.long t1), .second, .val (.int nn), .val (.int sel), .unset, .unset, .unset, .unset, .unset] [])) _
              refine XS.lload X22.here hx rfl (hb hby at_90) rfl ?_
              show Steps p.tables e below (T22.setTop (mkF m 92 #[.val (.long p0), .second, .val (.long p1), .second, .val (.long p2), .second, .val (.long p3), .second, .val (.int p4), .val (.long t0), .second, .val (.long t2), .second, .val (.long t1), .second, .val (.int nn), .val (.int sel), .unset, .unset, .unset, .unset, .unset] [(.long t2)])) _
              refine XS.lstore X22.here hx rfl (hb hby at_92) rfl (l' := #[.val (.long p0), .second, .val (.long p1), .second, .val (.long p2), .second, .val (.long p3), .second, .val (.int p4), .val (.long t0), .second, .val (.long t2), .second, .val (.long t1), .second, .val (.int nn), .val (.int sel), .val (.long t2), .second, .unset, .unset, .unset]) rfl ?_
              show Steps p.tables e below (T22.setTop (mkF m 94 #[.val (.long p0), .second, .val (.long p1), .second, .val (.long p2), .second, .val (.long p3), .second, .val (.int p4), .val (.long t0), .second, .val (.long t2), .second, .val (.long t1), .second, .val (.int nn), .val (.int sel), .val (.long t2), .second, .unset, .unset, .unset] [])) _
              refine XS.goto X22.here hx rfl (pc0 := 94) (pc' := 146) rfl (hb hby at_94) (by decide) (by decide) ?_
              exact k
            · rw [show v44 = _ from hv44.trans (if_neg c87_34)] at k
              show Steps p.tables e below (T22.setTop (mkF m 87 #[.val (.long p0), .second, .val (.long p1), .second, .val (.long p2), .second, .val (.long p3), .second, .val (.int p4), .val (.long t0), .second, .val (.long t2), .second, .val (.long t1), .second, .val (.int nn), .val (.int sel), .unset, .unset, .unset, .unset, .unset] [(.int (2 : Int32)), (.int sel)])) _
              refine XS.icmpYes X22.here hx rfl (pc0 := 87) (pc' := 97) rfl (hb hby at_87) rfl (XT.ii_ne_t c87_34) (by decide) (by decide) ?_
              show Steps p.tables e below (T22.setTop (mkF m 97 #[.val (.long p0), .second, .val (.long p1), .second, .val (.long p2), .second, .val (.long p3), .second, .val (.int p4), .val (.long t0), .second, .val (.long t2), .second, .val (.long t1), .second, .val (.int nn), .val (.int sel), .unset, .unset, .unset, .unset, .unset] [])) _
              refine XS.iload X22.here hx rfl (hb hby at_97) rfl ?_
              show Steps p.tables e below (T22.setTop (mkF m 99 #[.val (.long p0), .second, .val (.long p1), .second, .val (.long p2), .second, .val (.long p3), .second, .val (.int p4), .val (.long t0), .second, .val (.long t2), .second, .val (.long t1), .second, .val (.int nn), .val (.int sel), .unset, .unset, .unset, .unset, .unset] [(.int sel)])) _
              refine XT.iconstV X22.here hx rfl (3 : Int32) (hb hby at_99) rfl ?_
              have m43 : ∀ t, Steps p.tables e below (T22.setTop (mkF m 146 #[.val (.long p0), .second, .val (.long p1), .second, .val (.long p2), .second, .val (.long p3), .second, .val (.int p4), .val (.long t0), .second, .val (.long t2), .second, .val (.long t1), .second, .val (.int nn), .val (.int sel), .val (.long v42), .second, .unset, .unset, .unset] [])) t → Steps p.tables e below (T22.setTop (mkF m 100 #[.val (.long p0), .second, .val (.long p1), .second, .val (.long p2), .second, .val (.long p3), .second, .val (.int p4), .val (.long t0), .second, .val (.long t2), .second, .val (.long t1), .second, .val (.int nn), .val (.int sel), .unset, .unset, .unset, .unset, .unset] [(.int (3 : Int32)), (.int sel)])) t := fun t k => by
                by_cases c100_35 : sel = (3 : Int32)
                · rw [show v42 = _ from hv42.trans (if_pos c100_35)] at k
                  show Steps p.tables e below (T22.setTop (mkF m 100 #[.val (.long p0), .second, .val (.long p1), .second, .val (.long p2), .second, .val (.long p3), .second, .val (.int p4), .val (.long t0), .second, .val (.long t2), .second, .val (.long t1), .second, .val (.int nn), .val (.int sel), .unset, .unset, .unset, .unset, .unset] [(.int (3 : Int32)), (.int sel)])) _
                  refine XS.icmpNo X22.here hx rfl (hb hby at_100) rfl (XT.ii_ne_f c100_35) ?_
                  show Steps p.tables e below (T22.setTop (mkF m 103 #[.val (.long p0), .second, .val (.long p1), .second, .val (.long p2), .second, .val (.long p3), .second, .val (.int p4), .val (.long t0), .second, .val (.long t2), .second, .val (.long t1), .second, .val (.int nn), .val (.int sel), .unset, .unset, .unset, .unset, .unset] [])) _
                  refine XS.lload X22.here hx rfl (hb hby at_103) rfl ?_
                  show Steps p.tables e below (T22.setTop (mkF m 105 #[.val (.long p0), .second, .val (.long p1), .second, .val (.long p2), .second, .val (.long p3), .second, .val (.int p4), .val (.long t0), .second, .val (.long t2), .second, .val (.long t1), .second, .val (.int nn), .val (.int sel), .unset, .unset, .unset, .unset, .unset] [(.long t0)])) _
                  refine XT.lconstV X22.here hx rfl (1 : Int64) (hb hby at_105) rfl ?_
                  show Steps p.tables e below (T22.setTop (mkF m 106 #[.val (.long p0), .second, .val (.long p1), .second, .val (.long p2), .second, .val (.long p3), .second, .val (.int p4), .val (.long t0), .second, .val (.long t2), .second, .val (.long t1), .second, .val (.int nn), .val (.int sel), .unset, .unset, .unset, .unset, .unset] [(.long (1 : Int64)), (.long t0)])) _
                  refine XS.lsub X22.here hx rfl (hb hby at_106) rfl ?_
                  show Steps p.tables e below (T22.setTop (mkF m 107 #[.val (.long p0), .second, .val (.long p1), .second, .val (.long p2), .second, .val (.long p3), .second, .val (.int p4), .val (.long t0), .second, .val (.long t2), .second, .val (.long t1), .second, .val (.int nn), .val (.int sel), .unset, .unset, .unset, .unset, .unset] [(.long (t0 - (1 : Int64)))])) _
                  refine XS.lstore X22.here hx rfl (hb hby at_107) rfl (l' := #[.val (.long p0), .second, .val (.long p1), .second, .val (.long p2), .second, .val (.long p3), .second, .val (.int p4), .val (.long t0), .second, .val (.long t2), .second, .val (.long t1), .second, .val (.int nn), .val (.int sel), .val (.long (t0 - (1 : Int64))), .second, .unset, .unset, .unset]) rfl ?_
                  show Steps p.tables e below (T22.setTop (mkF m 109 #[.val (.long p0), .second, .val (.long p1), .second, .val (.long p2), .second, .val (.long p3), .second, .val (.int p4), .val (.long t0), .second, .val (.long t2), .second, .val (.long t1), .second, .val (.int nn), .val (.int sel), .val (.long (t0 - (1 : Int64))), .second, .unset, .unset, .unset] [])) _
                  refine XS.goto X22.here hx rfl (pc0 := 109) (pc' := 146) rfl (hb hby at_109) (by decide) (by decide) ?_
                  exact k
                · rw [show v42 = _ from hv42.trans (if_neg c100_35)] at k
                  show Steps p.tables e below (T22.setTop (mkF m 100 #[.val (.long p0), .second, .val (.long p1), .second, .val (.long p2), .second, .val (.long p3), .second, .val (.int p4), .val (.long t0), .second, .val (.long t2), .second, .val (.long t1), .second, .val (.int nn), .val (.int sel), .unset, .unset, .unset, .unset, .unset] [(.int (3 : Int32)), (.int sel)])) _
                  refine XS.icmpYes X22.here hx rfl (pc0 := 100) (pc' := 112) rfl (hb hby at_100) rfl (XT.ii_ne_t c100_35) (by decide) (by decide) ?_
                  show Steps p.tables e below (T22.setTop (mkF m 112 #[.val (.long p0), .second, .val (.long p1), .second, .val (.long p2), .second, .val (.long p3), .second, .val (.int p4), .val (.long t0), .second, .val (.long t2), .second, .val (.long t1), .second, .val (.int nn), .val (.int sel), .unset, .unset, .unset, .unset, .unset] [])) _
                  refine XS.iload X22.here hx rfl (hb hby at_112) rfl ?_
                  show Steps p.tables e below (T22.setTop (mkF m 114 #[.val (.long p0), .second, .val (.long p1), .second, .val (.long p2), .second, .val (.long p3), .second, .val (.int p4), .val (.long t0), .second, .val (.long t2), .second, .val (.long t1), .second, .val (.int nn), .val (.int sel), .unset, .unset, .unset, .unset, .unset] [(.int sel)])) _
                  refine XT.iconstV X22.here hx rfl (4 : Int32) (hb hby at_114) rfl ?_
                  have m41 : ∀ t, Steps p.tables e below (T22.setTop (mkF m 146 #[.val (.long p0), .second, .val (.long p1), .second, .val (.long p2), .second, .val (.long p3), .second, .val (.int p4), .val (.long t0), .second, .val (.long t2), .second, .val (.long t1), .second, .val (.int nn), .val (.int sel), .val (.long v40), .second, .unset, .unset, .unset] [])) t → Steps p.tables e below (T22.setTop (mkF m 115 #[.val (.long p0), .second, .val (.long p1), .second, .val (.long p2), .second, .val (.long p3), .second, .val (.int p4), .val (.long t0), .second, .val (.long t2), .second, .val (.long t1), .second, .val (.int nn), .val (.int sel), .unset, .unset, .unset, .unset, .unset] [(.int (4 : Int32)), (.int sel)])) t := fun t k => by
                    by_cases c115_36 : sel = (4 : Int32)
                    · rw [show v40 = _ from hv40.trans (if_pos c115_36)] at k
                      show Steps p.tables e below (T22.setTop (mkF m 115 #[.val (.long p0), .second, .val (.long p1), .second, .val (.long p2), .second, .val (.long p3), .second, .val (.int p4), .val (.long t0), .second, .val (.long t2), .second, .val (.long t1), .second, .val (.int nn), .val (.int sel), .unset, .unset, .unset, .unset, .unset] [(.int (4 : Int32)), (.int sel)])) _
                      refine XS.icmpNo X22.here hx rfl (hb hby at_115) rfl (XT.ii_ne_f c115_36) ?_
                      show Steps p.tables e below (T22.setTop (mkF m 118 #[.val (.long p0), .second, .val (.long p1), .second, .val (.long p2), .second, .val (.long p3), .second, .val (.int p4), .val (.long t0), .second, .val (.long t2), .second, .val (.long t1), .second, .val (.int nn), .val (.int sel), .unset, .unset, .unset, .unset, .unset] [])) _
                      refine XS.lload X22.here hx rfl (hb hby at_118) rfl ?_
                      show Steps p.tables e below (T22.setTop (mkF m 120 #[.val (.long p0), .second, .val (.long p1), .second, .val (.long p2), .second, .val (.long p3), .second, .val (.int p4), .val (.long t0), .second, .val (.long t2), .second, .val (.long t1), .second, .val (.int nn), .val (.int sel), .unset, .unset, .unset, .unset, .unset] [(.long t1)])) _
                      refine XT.lconstV X22.here hx rfl (1 : Int64) (hb hby at_120) rfl ?_
                      show Steps p.tables e below (T22.setTop (mkF m 121 #[.val (.long p0), .second, .val (.long p1), .second, .val (.long p2), .second, .val (.long p3), .second, .val (.int p4), .val (.long t0), .second, .val (.long t2), .second, .val (.long t1), .second, .val (.int nn), .val (.int sel), .unset, .unset, .unset, .unset, .unset] [(.long (1 : Int64)), (.long t1)])) _
                      refine XS.lsub X22.here hx rfl (hb hby at_121) rfl ?_
                      show Steps p.tables e below (T22.setTop (mkF m 122 #[.val (.long p0), .second, .val (.long p1), .second, .val (.long p2), .second, .val (.long p3), .second, .val (.int p4), .val (.long t0), .second, .val (.long t2), .second, .val (.long t1), .second, .val (.int nn), .val (.int sel), .unset, .unset, .unset, .unset, .unset] [(.long (t1 - (1 : Int64)))])) _
                      refine XS.lstore X22.here hx rfl (hb hby at_122) rfl (l' := #[.val (.long p0), .second, .val (.long p1), .second, .val (.long p2), .second, .val (.long p3), .second, .val (.int p4), .val (.long t0), .second, .val (.long t2), .second, .val (.long t1), .second, .val (.int nn), .val (.int sel), .val (.long (t1 - (1 : Int64))), .second, .unset, .unset, .unset]) rfl ?_
                      show Steps p.tables e below (T22.setTop (mkF m 124 #[.val (.long p0), .second, .val (.long p1), .second, .val (.long p2), .second, .val (.long p3), .second, .val (.int p4), .val (.long t0), .second, .val (.long t2), .second, .val (.long t1), .second, .val (.int nn), .val (.int sel), .val (.long (t1 - (1 : Int64))), .second, .unset, .unset, .unset] [])) _
                      refine XS.goto X22.here hx rfl (pc0 := 124) (pc' := 146) rfl (hb hby at_124) (by decide) (by decide) ?_
                      exact k
                    · rw [show v40 = _ from hv40.trans (if_neg c115_36)] at k
                      show Steps p.tables e below (T22.setTop (mkF m 115 #[.val (.long p0), .second, .val (.long p1), .second, .val (.long p2), .second, .val (.long p3), .second, .val (.int p4), .val (.long t0), .second, .val (.long t2), .second, .val (.long t1), .second, .val (.int nn), .val (.int sel), .unset, .unset, .unset, .unset, .unset] [(.int (4 : Int32)), (.int sel)])) _
                      refine XS.icmpYes X22.here hx rfl (pc0 := 115) (pc' := 127) rfl (hb hby at_115) rfl (XT.ii_ne_t c115_36) (by decide) (by decide) ?_
                      show Steps p.tables e below (T22.setTop (mkF m 127 #[.val (.long p0), .second, .val (.long p1), .second, .val (.long p2), .second, .val (.long p3), .second, .val (.int p4), .val (.long t0), .second, .val (.long t2), .second, .val (.long t1), .second, .val (.int nn), .val (.int sel), .unset, .unset, .unset, .unset, .unset] [])) _
                      refine XS.iload X22.here hx rfl (hb hby at_127) rfl ?_
                      show Steps p.tables e below (T22.setTop (mkF m 129 #[.val (.long p0), .second, .val (.long p1), .second, .val (.long p2), .second, .val (.long p3), .second, .val (.int p4), .val (.long t0), .second, .val (.long t2), .second, .val (.long t1), .second, .val (.int nn), .val (.int sel), .unset, .unset, .unset, .unset, .unset] [(.int sel)])) _
                      refine XT.iconstV X22.here hx rfl (5 : Int32) (hb hby at_129) rfl ?_
                      have m39 : ∀ t, Steps p.tables e below (T22.setTop (mkF m 146 #[.val (.long p0), .second, .val (.long p1), .second, .val (.long p2), .second, .val (.long p3), .second, .val (.int p4), .val (.long t0), .second, .val (.long t2), .second, .val (.long t1), .second, .val (.int nn), .val (.int sel), .val (.long v38), .second, .unset, .unset, .unset] [])) t → Steps p.tables e below (T22.setTop (mkF m 130 #[.val (.long p0), .second, .val (.long p1), .second, .val (.long p2), .second, .val (.long p3), .second, .val (.int p4), .val (.long t0), .second, .val (.long t2), .second, .val (.long t1), .second, .val (.int nn), .val (.int sel), .unset, .unset, .unset, .unset, .unset] [(.int (5 : Int32)), (.int sel)])) t := fun t k => by
                        by_cases c130_37 : sel = (5 : Int32)
                        · rw [show v38 = _ from hv38.trans (if_pos c130_37)] at k
                          show Steps p.tables e below (T22.setTop (mkF m 130 #[.val (.long p0), .second, .val (.long p1), .second, .val (.long p2), .second, .val (.long p3), .second, .val (.int p4), .val (.long t0), .second, .val (.long t2), .second, .val (.long t1), .second, .val (.int nn), .val (.int sel), .unset, .unset, .unset, .unset, .unset] [(.int (5 : Int32)), (.int sel)])) _
                          refine XS.icmpNo X22.here hx rfl (hb hby at_130) rfl (XT.ii_ne_f c130_37) ?_
                          show Steps p.tables e below (T22.setTop (mkF m 133 #[.val (.long p0), .second, .val (.long p1), .second, .val (.long p2), .second, .val (.long p3), .second, .val (.int p4), .val (.long t0), .second, .val (.long t2), .second, .val (.long t1), .second, .val (.int nn), .val (.int sel), .unset, .unset, .unset, .unset, .unset] [])) _
                          refine XS.lload X22.here hx rfl (hb hby at_133) rfl ?_
                          show Steps p.tables e below (T22.setTop (mkF m 135 #[.val (.long p0), .second, .val (.long p1), .second, .val (.long p2), .second, .val (.long p3), .second, .val (.int p4), .val (.long t0), .second, .val (.long t2), .second, .val (.long t1), .second, .val (.int nn), .val (.int sel), .unset, .unset, .unset, .unset, .unset] [(.long t2)])) _
                          refine XT.lconstV X22.here hx rfl (1 : Int64) (hb hby at_135) rfl ?_
                          show Steps p.tables e below (T22.setTop (mkF m 136 #[.val (.long p0), .second, .val (.long p1), .second, .val (.long p2), .second, .val (.long p3), .second, .val (.int p4), .val (.long t0), .second, .val (.long t2), .second, .val (.long t1), .second, .val (.int nn), .val (.int sel), .unset, .unset, .unset, .unset, .unset] [(.long (1 : Int64)), (.long t2)])) _
                          refine XS.lsub X22.here hx rfl (hb hby at_136) rfl ?_
                          show Steps p.tables e below (T22.setTop (mkF m 137 #[.val (.long p0), .second, .val (.long p1), .second, .val (.long p2), .second, .val (.long p3), .second, .val (.int p4), .val (.long t0), .second, .val (.long t2), .second, .val (.long t1), .second, .val (.int nn), .val (.int sel), .unset, .unset, .unset, .unset, .unset] [(.long (t2 - (1 : Int64)))])) _
                          refine XS.lstore X22.here hx rfl (hb hby at_137) rfl (l' := #[.val (.long p0), .second, .val (.long p1), .second, .val (.long p2), .second, .val (.long p3), .second, .val (.int p4), .val (.long t0), .second, .val (.long t2), .second, .val (.long t1), .second, .val (.int nn), .val (.int sel), .val (.long (t2 - (1 : Int64))), .second, .unset, .unset, .unset]) rfl ?_
                          show Steps p.tables e below (T22.setTop (mkF m 139 #[.val (.long p0), .second, .val (.long p1), .second, .val (.long p2), .second, .val (.long p3), .second, .val (.int p4), .val (.long t0), .second, .val (.long t2), .second, .val (.long t1), .second, .val (.int nn), .val (.int sel), .val (.long (t2 - (1 : Int64))), .second, .unset, .unset, .unset] [])) _
                          refine XS.goto X22.here hx rfl (pc0 := 139) (pc' := 146) rfl (hb hby at_139) (by decide) (by decide) ?_
                          exact k
                        · rw [show v38 = _ from hv38.trans (if_neg c130_37)] at k
                          show Steps p.tables e below (T22.setTop (mkF m 130 #[.val (.long p0), .second, .val (.long p1), .second, .val (.long p2), .second, .val (.long p3), .second, .val (.int p4), .val (.long t0), .second, .val (.long t2), .second, .val (.long t1), .second, .val (.int nn), .val (.int sel), .unset, .unset, .unset, .unset, .unset] [(.int (5 : Int32)), (.int sel)])) _
                          refine XS.icmpYes X22.here hx rfl (pc0 := 130) (pc' := 142) rfl (hb hby at_130) rfl (XT.ii_ne_t c130_37) (by decide) (by decide) ?_
                          show Steps p.tables e below (T22.setTop (mkF m 142 #[.val (.long p0), .second, .val (.long p1), .second, .val (.long p2), .second, .val (.long p3), .second, .val (.int p4), .val (.long t0), .second, .val (.long t2), .second, .val (.long t1), .second, .val (.int nn), .val (.int sel), .unset, .unset, .unset, .unset, .unset] [])) _
                          refine XS.lload X22.here hx rfl (hb hby at_142) rfl ?_
                          show Steps p.tables e below (T22.setTop (mkF m 144 #[.val (.long p0), .second, .val (.long p1), .second, .val (.long p2), .second, .val (.long p3), .second, .val (.int p4), .val (.long t0), .second, .val (.long t2), .second, .val (.long t1), .second, .val (.int nn), .val (.int sel), .unset, .unset, .unset, .unset, .unset] [(.long p3)])) _
                          refine XS.lstore X22.here hx rfl (hb hby at_144) rfl (l' := #[.val (.long p0), .second, .val (.long p1), .second, .val (.long p2), .second, .val (.long p3), .second, .val (.int p4), .val (.long t0), .second, .val (.long t2), .second, .val (.long t1), .second, .val (.int nn), .val (.int sel), .val (.long p3), .second, .unset, .unset, .unset]) rfl ?_
                          exact k
                      refine m39 _ ?_
                      exact k
                  refine m41 _ ?_
                  exact k
              refine m43 _ ?_
              exact k
          refine m45 _ ?_
          exact k
      refine m47 _ ?_
      exact k)
  have s01 : ¬ t1 < t0 := by rw [ht1, ht0]; exact own_s01 p0 p1 p2
  have s12 : ¬ t2 < t1 := by rw [ht2, ht1]; exact own_s12 p0 p1 p2
  have pre50 : ∀ t, Steps p.tables e below (T22.setTop (mkF m 148 #[.val (.long p0), .second, .val (.long p1), .second, .val (.long p2), .second, .val (.long p3), .second, .val (.int p4), .val (.long t0), .second, .val (.long t2), .second, .val (.long t1), .second, .val (.int nn), .val (.int sel), .val (.long v48), .second, .unset, .unset, .unset] [(.int nn)])) t → Steps p.tables e below (s₁.setTop (entryFrame m #[(.long p0), (.long p1), (.long p2), (.long p3), (.int p4)] maxLocals)) t := fun t k => pre49 _ (by
    show Steps p.tables e below (T22.setTop (mkF m 146 #[.val (.long p0), .second, .val (.long p1), .second, .val (.long p2), .second, .val (.long p3), .second, .val (.int p4), .val (.long t0), .second, .val (.long t2), .second, .val (.long t1), .second, .val (.int nn), .val (.int sel), .val (.long v48), .second, .unset, .unset, .unset] [])) _
    refine XS.iload X22.here hx rfl (hb hby at_146) rfl ?_
    exact k)
  by_cases c148 : nn = 0
  · have hn : nn = 0 := c148
    have pre51 : ∀ t, Steps p.tables e below (T22.setTop (mkF m 152 #[.val (.long p0), .second, .val (.long p1), .second, .val (.long p2), .second, .val (.long p3), .second, .val (.int p4), .val (.long t0), .second, .val (.long t2), .second, .val (.long t1), .second, .val (.int nn), .val (.int sel), .val (.long v48), .second, .unset, .unset, .unset] [(.int (0 : Int32))])) t → Steps p.tables e below (s₁.setTop (entryFrame m #[(.long p0), (.long p1), (.long p2), (.long p3), (.int p4)] maxLocals)) t := fun t k => pre50 _ (by
      show Steps p.tables e below (T22.setTop (mkF m 148 #[.val (.long p0), .second, .val (.long p1), .second, .val (.long p2), .second, .val (.long p3), .second, .val (.int p4), .val (.long t0), .second, .val (.long t2), .second, .val (.long t1), .second, .val (.int nn), .val (.int sel), .val (.long v48), .second, .unset, .unset, .unset] [(.int nn)])) _
      refine XS.ifNo X22.here hx rfl (hb hby at_148) rfl (XT.i0_ne_f c148) ?_
      show Steps p.tables e below (T22.setTop (mkF m 151 #[.val (.long p0), .second, .val (.long p1), .second, .val (.long p2), .second, .val (.long p3), .second, .val (.int p4), .val (.long t0), .second, .val (.long t2), .second, .val (.long t1), .second, .val (.int nn), .val (.int sel), .val (.long v48), .second, .unset, .unset, .unset] [])) _
      refine XT.iconstV X22.here hx rfl (0 : Int32) (hb hby at_151) rfl ?_
      exact k)
    obtain ⟨T52, h52, cA52, X52, e52, E52, A52, B52, st52⟩ := own_newE X22 hx hZ (aty := .long) (hw _ (List.mem_of_getElem? (i := 7) rfl)) e22 (g := (mkF m 152 #[.val (.long p0), .second, .val (.long p1), .second, .val (.long p2), .second, .val (.long p3), .second, .val (.int p4), .val (.long t0), .second, .val (.long t2), .second, .val (.long t1), .second, .val (.int nn), .val (.int sel), .val (.long v48), .second, .unset, .unset, .unset] [(.int (0 : Int32))])) rfl (hb hby at_152) rfl (by decide) (cap := 0) (by decide) (by decide) (by decide) (by decide) rfl
    obtain ⟨a52, ga52⟩ : ∃ z, z = h0.size := ⟨_, rfl⟩
    rw [← ga52] at A52 B52 st52
    have ge_a52 : n0 ≤ a52 := Nat.le_trans Z0 (Nat.le_of_eq ga52.symm)
    have Z52 : n0 ≤ h52.size := Nat.le_trans Z0 E52.1
    have pre53 : ∀ t, Steps p.tables e below (T52.setTop (mkF m 154 #[.val (.long p0), .second, .val (.long p1), .second, .val (.long p2), .second, .val (.long p3), .second, .val (.int p4), .val (.long t0), .second, .val (.long t2), .second, .val (.long t1), .second, .val (.int nn), .val (.int sel), .val (.long v48), .second, .unset, .unset, .unset] [(.ref a52)])) t → Steps p.tables e below (s₁.setTop (entryFrame m #[(.long p0), (.long p1), (.long p2), (.long p3), (.int p4)] maxLocals)) t := fun t k => pre51 _ (st52 _ k)
    have V52 : Arv Z h52 a52 cA52 .long (0 : Int32) [] (.long (0 : Int64)) := (Arv.new A52 (by decide)).pad (pad_rep [] (.long (0 : Int64)) 0)
    have pre54 : ∀ t, Steps p.tables e below (T52.setTop (mkF m 285 #[.val (.long p0), .second, .val (.long p1), .second, .val (.long p2), .second, .val (.long p3), .second, .val (.int p4), .val (.long t0), .second, .val (.long t2), .second, .val (.long t1), .second, .val (.int nn), .val (.int sel), .val (.long v48), .second, .val (.ref a52), .val (.int (0 : Int32)), .unset] [])) t → Steps p.tables e below (s₁.setTop (entryFrame m #[(.long p0), (.long p1), (.long p2), (.long p3), (.int p4)] maxLocals)) t := fun t k => pre53 _ (by
      show Steps p.tables e below (T52.setTop (mkF m 154 #[.val (.long p0), .second, .val (.long p1), .second, .val (.long p2), .second, .val (.long p3), .second, .val (.int p4), .val (.long t0), .second, .val (.long t2), .second, .val (.long t1), .second, .val (.int nn), .val (.int sel), .val (.long v48), .second, .unset, .unset, .unset] [(.ref a52)])) _
      refine XS.astore X52.here hx rfl (hb hby at_154) rfl rfl (l' := #[.val (.long p0), .second, .val (.long p1), .second, .val (.long p2), .second, .val (.long p3), .second, .val (.int p4), .val (.long t0), .second, .val (.long t2), .second, .val (.long t1), .second, .val (.int nn), .val (.int sel), .val (.long v48), .second, .val (.ref a52), .unset, .unset]) rfl ?_
      show Steps p.tables e below (T52.setTop (mkF m 156 #[.val (.long p0), .second, .val (.long p1), .second, .val (.long p2), .second, .val (.long p3), .second, .val (.int p4), .val (.long t0), .second, .val (.long t2), .second, .val (.long t1), .second, .val (.int nn), .val (.int sel), .val (.long v48), .second, .val (.ref a52), .unset, .unset] [])) _
      refine XS.goto X52.here hx rfl (pc0 := 156) (pc' := 222) rfl (hb hby at_156) (by decide) (by decide) ?_
      show Steps p.tables e below (T52.setTop (mkF m 222 #[.val (.long p0), .second, .val (.long p1), .second, .val (.long p2), .second, .val (.long p3), .second, .val (.int p4), .val (.long t0), .second, .val (.long t2), .second, .val (.long t1), .second, .val (.int nn), .val (.int sel), .val (.long v48), .second, .val (.ref a52), .unset, .unset] [])) _
      refine XT.iconstV X52.here hx rfl (0 : Int32) (hb hby at_222) rfl ?_
      show Steps p.tables e below (T52.setTop (mkF m 223 #[.val (.long p0), .second, .val (.long p1), .second, .val (.long p2), .second, .val (.long p3), .second, .val (.int p4), .val (.long t0), .second, .val (.long t2), .second, .val (.long t1), .second, .val (.int nn), .val (.int sel), .val (.long v48), .second, .val (.ref a52), .unset, .unset] [(.int (0 : Int32))])) _
      refine XS.istore X52.here hx rfl (hb hby at_223) rfl (l' := #[.val (.long p0), .second, .val (.long p1), .second, .val (.long p2), .second, .val (.long p3), .second, .val (.int p4), .val (.long t0), .second, .val (.long t2), .second, .val (.long t1), .second, .val (.int nn), .val (.int sel), .val (.long v48), .second, .val (.ref a52), .val (.int (0 : Int32)), .unset]) rfl ?_
      show Steps p.tables e below (T52.setTop (mkF m 225 #[.val (.long p0), .second, .val (.long p1), .second, .val (.long p2), .second, .val (.long p3), .second, .val (.int p4), .val (.long t0), .second, .val (.long t2), .second, .val (.long t1), .second, .val (.int nn), .val (.int sel), .val (.long v48), .second, .val (.ref a52), .val (.int (0 : Int32)), .unset] [])) _
      refine XS.iload X52.here hx rfl (hb hby at_225) rfl ?_
      show Steps p.tables e below (T52.setTop (mkF m 227 #[.val (.long p0), .second, .val (.long p1), .second, .val (.long p2), .second, .val (.long p3), .second, .val (.int p4), .val (.long t0), .second, .val (.long t2), .second, .val (.long t1), .second, .val (.int nn), .val (.int sel), .val (.long v48), .second, .val (.ref a52), .val (.int (0 : Int32)), .unset] [(.int nn)])) _
      refine XT.iconstV X52.here hx rfl (1 : Int32) (hb hby at_227) rfl ?_
      show Steps p.tables e below (T52.setTop (mkF m 228 #[.val (.long p0), .second, .val (.long p1), .second, .val (.long p2), .second, .val (.long p3), .second, .val (.int p4), .val (.long t0), .second, .val (.long t2), .second, .val (.long t1), .second, .val (.int nn), .val (.int sel), .val (.long v48), .second, .val (.ref a52), .val (.int (0 : Int32)), .unset] [(.int (1 : Int32)), (.int nn)])) _
      refine XS.icmpYes X52.here hx rfl (pc0 := 228) (pc' := 245) rfl (hb hby at_228) rfl (XT.ii_lt_t (by rw [hn]; decide)) (by decide) (by decide) ?_
      show Steps p.tables e below (T52.setTop (mkF m 245 #[.val (.long p0), .second, .val (.long p1), .second, .val (.long p2), .second, .val (.long p3), .second, .val (.int p4), .val (.long t0), .second, .val (.long t2), .second, .val (.long t1), .second, .val (.int nn), .val (.int sel), .val (.long v48), .second, .val (.ref a52), .val (.int (0 : Int32)), .unset] [])) _
      refine XS.iload X52.here hx rfl (hb hby at_245) rfl ?_
      show Steps p.tables e below (T52.setTop (mkF m 247 #[.val (.long p0), .second, .val (.long p1), .second, .val (.long p2), .second, .val (.long p3), .second, .val (.int p4), .val (.long t0), .second, .val (.long t2), .second, .val (.long t1), .second, .val (.int nn), .val (.int sel), .val (.long v48), .second, .val (.ref a52), .val (.int (0 : Int32)), .unset] [(.int nn)])) _
      refine XT.iconstV X52.here hx rfl (2 : Int32) (hb hby at_247) rfl ?_
      show Steps p.tables e below (T52.setTop (mkF m 248 #[.val (.long p0), .second, .val (.long p1), .second, .val (.long p2), .second, .val (.long p3), .second, .val (.int p4), .val (.long t0), .second, .val (.long t2), .second, .val (.long t1), .second, .val (.int nn), .val (.int sel), .val (.long v48), .second, .val (.ref a52), .val (.int (0 : Int32)), .unset] [(.int (2 : Int32)), (.int nn)])) _
      refine XS.icmpYes X52.here hx rfl (pc0 := 248) (pc' := 265) rfl (hb hby at_248) rfl (XT.ii_lt_t (by rw [hn]; decide)) (by decide) (by decide) ?_
      show Steps p.tables e below (T52.setTop (mkF m 265 #[.val (.long p0), .second, .val (.long p1), .second, .val (.long p2), .second, .val (.long p3), .second, .val (.int p4), .val (.long t0), .second, .val (.long t2), .second, .val (.long t1), .second, .val (.int nn), .val (.int sel), .val (.long v48), .second, .val (.ref a52), .val (.int (0 : Int32)), .unset] [])) _
      refine XS.iload X52.here hx rfl (hb hby at_265) rfl ?_
      show Steps p.tables e below (T52.setTop (mkF m 267 #[.val (.long p0), .second, .val (.long p1), .second, .val (.long p2), .second, .val (.long p3), .second, .val (.int p4), .val (.long t0), .second, .val (.long t2), .second, .val (.long t1), .second, .val (.int nn), .val (.int sel), .val (.long v48), .second, .val (.ref a52), .val (.int (0 : Int32)), .unset] [(.int nn)])) _
      refine XT.iconstV X52.here hx rfl (3 : Int32) (hb hby at_267) rfl ?_
      show Steps p.tables e below (T52.setTop (mkF m 268 #[.val (.long p0), .second, .val (.long p1), .second, .val (.long p2), .second, .val (.long p3), .second, .val (.int p4), .val (.long t0), .second, .val (.long t2), .second, .val (.long t1), .second, .val (.int nn), .val (.int sel), .val (.long v48), .second, .val (.ref a52), .val (.int (0 : Int32)), .unset] [(.int (3 : Int32)), (.int nn)])) _
      refine XS.icmpYes X52.here hx rfl (pc0 := 268) (pc' := 285) rfl (hb hby at_268) rfl (XT.ii_lt_t (by rw [hn]; decide)) (by decide) (by decide) ?_
      exact k)
    obtain ⟨T55, h55, X55, e55, E55, A55, D55, -, st55⟩ := newO X52 hx hZ hown (hw _ (List.mem_of_getElem? (i := 8) rfl)) (hw _ (List.mem_of_getElem? (i := 9) rfl)) (hw _ (List.mem_of_getElem? (i := 10) rfl)) e52 (g := (mkF m 285 #[.val (.long p0), .second, .val (.long p1), .second, .val (.long p2), .second, .val (.long p3), .second, .val (.int p4), .val (.long t0), .second, .val (.long t2), .second, .val (.long t1), .second, .val (.int nn), .val (.int sel), .val (.long v48), .second, .val (.ref a52), .val (.int (0 : Int32)), .unset] [])) rfl (hb hby at_285) (by decide) (by decide)
    obtain ⟨a55, ga55⟩ : ∃ z, z = h52.size := ⟨_, rfl⟩
    rw [← ga55] at A55 D55 st55
    have lt_a52_a55 : a52 < a55 := Nat.lt_of_lt_of_eq V52.lt ga55.symm
    have ne_a52_a55 : a52 ≠ a55 := Nat.ne_of_lt lt_a52_a55
    have ge_a55 : n0 ≤ a55 := Nat.le_trans Z52 (Nat.le_of_eq ga55.symm)
    have F55_lowest : Fld Z h55 a55 "com/example/roundkeeper/roundkeeper/rules/Bands" "lowest" "[J" .null := D55 (Or.inr (hw _ (List.mem_of_getElem? (i := 27) rfl))) (ty := (.array .long)) (by decide)
    have Z55 : n0 ≤ h55.size := Nat.le_trans Z52 E55.1
    have pre56 : ∀ t, Steps p.tables e below (T55.setTop (mkF m 288 #[.val (.long p0), .second, .val (.long p1), .second, .val (.long p2), .second, .val (.long p3), .second, .val (.int p4), .val (.long t0), .second, .val (.long t2), .second, .val (.long t1), .second, .val (.int nn), .val (.int sel), .val (.long v48), .second, .val (.ref a52), .val (.int (0 : Int32)), .unset] [(.ref a55)])) t → Steps p.tables e below (s₁.setTop (entryFrame m #[(.long p0), (.long p1), (.long p2), (.long p3), (.int p4)] maxLocals)) t := fun t k => pre54 _ (st55 _ k)
    have pre57 : ∀ t, Steps p.tables e below (T55.setTop (mkF m 291 #[.val (.long p0), .second, .val (.long p1), .second, .val (.long p2), .second, .val (.long p3), .second, .val (.int p4), .val (.long t0), .second, .val (.long t2), .second, .val (.long t1), .second, .val (.int nn), .val (.int sel), .val (.long v48), .second, .val (.ref a52), .val (.int (0 : Int32)), .unset] [(.ref a52), (.ref a55), (.ref a55)])) t → Steps p.tables e below (s₁.setTop (entryFrame m #[(.long p0), (.long p1), (.long p2), (.long p3), (.int p4)] maxLocals)) t := fun t k => pre56 _ (by
      show Steps p.tables e below (T55.setTop (mkF m 288 #[.val (.long p0), .second, .val (.long p1), .second, .val (.long p2), .second, .val (.long p3), .second, .val (.int p4), .val (.long t0), .second, .val (.long t2), .second, .val (.long t1), .second, .val (.int nn), .val (.int sel), .val (.long v48), .second, .val (.ref a52), .val (.int (0 : Int32)), .unset] [(.ref a55)])) _
      refine XS.dup X55.here hx rfl (hb hby at_288) rfl rfl ?_
      show Steps p.tables e below (T55.setTop (mkF m 289 #[.val (.long p0), .second, .val (.long p1), .second, .val (.long p2), .second, .val (.long p3), .second, .val (.int p4), .val (.long t0), .second, .val (.long t2), .second, .val (.long t1), .second, .val (.int nn), .val (.int sel), .val (.long v48), .second, .val (.ref a52), .val (.int (0 : Int32)), .unset] [(.ref a55), (.ref a55)])) _
      refine XS.aload X55.here hx rfl (hb hby at_289) rfl rfl ?_
      exact k)
    obtain ⟨_, _, ⟨T58, L58, k58, n58⟩, -, X58, ⟨Lc58, hQ58, l58, y58, z58⟩, st58⟩ := X55.specialBack hx (y := (⟨"com/example/roundkeeper/roundkeeper/rules/Bands", "<init>", "([J)V"⟩ : MethodName)) rfl hown (mvT hZ (hw _ (List.mem_of_getElem? (i := 11) rfl))) (mvT hZ (hw _ (List.mem_of_getElem? (i := 12) rfl))) (mvT hZ (hw _ (List.mem_of_getElem? (i := 13) rfl))) (by decide) (backOf (W := 1) (own_ctor l Z a0 hw [] a55 a52 cA52 (0 : Int32) [] h55 n0 Z55 F55_lowest A55 (V52.ext E55) (B52.ext E55) ge_a55 (by decide)) hZ (hw _ (List.mem_of_getElem? (i := 13) rfl)) (hw _ (List.mem_of_getElem? (i := 10) rfl)) (by decide) (by decide)) (g := (mkF m 291 #[.val (.long p0), .second, .val (.long p1), .second, .val (.long p2), .second, .val (.long p3), .second, .val (.int p4), .val (.long t0), .second, .val (.long t2), .second, .val (.long t1), .second, .val (.int nn), .val (.int sel), .val (.long v48), .second, .val (.ref a52), .val (.int (0 : Int32)), .unset] [(.ref a52), (.ref a55), (.ref a55)])) rfl (by rw [hml]; rfl) (Steps.refl _) (a := a55) (argsL := [(.ref a52)]) (rest := [(.ref a55)]) (lenOf own_pd___J_V rfl) rfl (by show 2 * 0 + _ ≤ _; exact Nat.le_of_eq rfl) (hb hby at_291) (fun _ _ => ⟨rfl, e55, (by decide : 2 + 1 ≤ _), (by decide : 1 + 3 ≤ _)⟩)
    dsimp only [Pt.U, Pt.locs, Pt.cells, Pt.slots] at X58 l58 y58 z58 st58 hQ58
    subst l58 y58 z58
    obtain ⟨h58, e58⟩ : ∃ z, T58.heap = z := ⟨_, rfl⟩
    rw [e58] at hQ58
    obtain ⟨rfl, N58q, K58, EX58, ta, FT58, VT58⟩ := hQ58
    have Z58 : n0 ≤ h58.size := Nat.le_trans Z55 K58.1
    have N58 := Fr.app N22 N58q
    have pre59 : ∀ t, Steps p.tables e below (T58.setTop (mkF m 294 #[.val (.long p0), .second, .val (.long p1), .second, .val (.long p2), .second, .val (.long p3), .second, .val (.int p4), .val (.long t0), .second, .val (.long t2), .second, .val (.long t1), .second, .val (.int nn), .val (.int sel), .val (.long v48), .second, .val (.ref a52), .val (.int (0 : Int32)), .unset] [(.ref a55)])) t → Steps p.tables e below (s₁.setTop (entryFrame m #[(.long p0), (.long p1), (.long p2), (.long p3), (.int p4)] maxLocals)) t := fun t k => pre57 _ (st58.trans k)
    have pre60 : ∀ t, Steps p.tables e below (T58.setTop (mkF m 300 #[.val (.long p0), .second, .val (.long p1), .second, .val (.long p2), .second, .val (.long p3), .second, .val (.int p4), .val (.long t0), .second, .val (.long t2), .second, .val (.long t1), .second, .val (.int nn), .val (.int sel), .val (.long v48), .second, .val (.ref a52), .val (.int (0 : Int32)), .val (.ref a55)] [(.long v48), (.ref a55)])) t → Steps p.tables e below (s₁.setTop (entryFrame m #[(.long p0), (.long p1), (.long p2), (.long p3), (.int p4)] maxLocals)) t := fun t k => pre59 _ (by
      show Steps p.tables e below (T58.setTop (mkF m 294 #[.val (.long p0), .second, .val (.long p1), .second, .val (.long p2), .second, .val (.long p3), .second, .val (.int p4), .val (.long t0), .second, .val (.long t2), .second, .val (.long t1), .second, .val (.int nn), .val (.int sel), .val (.long v48), .second, .val (.ref a52), .val (.int (0 : Int32)), .unset] [(.ref a55)])) _
      refine XS.astore X58.here hx rfl (hb hby at_294) rfl rfl (l' := #[.val (.long p0), .second, .val (.long p1), .second, .val (.long p2), .second, .val (.long p3), .second, .val (.int p4), .val (.long t0), .second, .val (.long t2), .second, .val (.long t1), .second, .val (.int nn), .val (.int sel), .val (.long v48), .second, .val (.ref a52), .val (.int (0 : Int32)), .val (.ref a55)]) rfl ?_
      show Steps p.tables e below (T58.setTop (mkF m 296 #[.val (.long p0), .second, .val (.long p1), .second, .val (.long p2), .second, .val (.long p3), .second, .val (.int p4), .val (.long t0), .second, .val (.long t2), .second, .val (.long t1), .second, .val (.int nn), .val (.int sel), .val (.long v48), .second, .val (.ref a52), .val (.int (0 : Int32)), .val (.ref a55)] [])) _
      refine XS.aload X58.here hx rfl (hb hby at_296) rfl rfl ?_
      show Steps p.tables e below (T58.setTop (mkF m 298 #[.val (.long p0), .second, .val (.long p1), .second, .val (.long p2), .second, .val (.long p3), .second, .val (.int p4), .val (.long t0), .second, .val (.long t2), .second, .val (.long t1), .second, .val (.int nn), .val (.int sel), .val (.long v48), .second, .val (.ref a52), .val (.int (0 : Int32)), .val (.ref a55)] [(.ref a55)])) _
      refine XS.lload X58.here hx rfl (hb hby at_298) rfl ?_
      exact k)
    obtain ⟨cq61, kq61, q61a, q61b, q61c⟩ := isOf hZ e58 EX58
    obtain ⟨_, _, ⟨T61, L61, k61, n61⟩, -, X61, ⟨Lc61, hQ61, l61, y61, z61⟩, st61⟩ := X58.virtualBack hx (y := (⟨"com/example/roundkeeper/roundkeeper/rules/Bands", "of", "(J)I"⟩ : MethodName)) (z := (⟨"com/example/roundkeeper/roundkeeper/rules/Bands", "of", "(J)I"⟩ : MethodName)) hown (mvT hZ (hw _ (List.mem_of_getElem? (i := 28) rfl))) (mvT hZ (hw _ (List.mem_of_getElem? (i := 29) rfl))) (notFace_of_selects (args := #[]) (mvT hZ (hw _ (List.mem_of_getElem? (i := 31) rfl)))) (mvT hZ (hw _ (List.mem_of_getElem? (i := 31) rfl))) (mvT hZ (hw _ (List.mem_of_getElem? (i := 30) rfl))) (by decide) (backOf (W := 0) (own_of0 l Z a0 hw [] a55 v48 ta cA52  h58 n0 Z58 FT58 VT58) hZ (hw _ (List.mem_of_getElem? (i := 32) rfl)) (hw _ (List.mem_of_getElem? (i := 10) rfl)) (by decide) (by decide)) q61a q61c (g := (mkF m 300 #[.val (.long p0), .second, .val (.long p1), .second, .val (.long p2), .second, .val (.long p3), .second, .val (.int p4), .val (.long t0), .second, .val (.long t2), .second, .val (.long t1), .second, .val (.int nn), .val (.int sel), .val (.long v48), .second, .val (.ref a52), .val (.int (0 : Int32)), .val (.ref a55)] [(.long v48), (.ref a55)])) rfl (by rw [hml]; rfl) (Steps.refl _) (argsL := [(.long v48)]) (rest := []) (lenOf own_pd__J_I rfl) rfl (by show 2 * 0 + _ ≤ _; exact Nat.le_of_eq rfl) (hb hby at_300) (fun _ _ => ⟨rfl, e58, (by decide : 3 + 0 ≤ _), (by decide : 4 + 0 ≤ _)⟩)
    dsimp only [Pt.U, Pt.locs, Pt.cells, Pt.slots] at X61 l61 y61 z61 st61 hQ61
    subst l61 y61 z61
    obtain ⟨rfl, N61q, e61⟩ := hQ61
    have N61 := Fr.app N58 N61q
    have pre62 : ∀ t, Steps p.tables e below (T61.setTop (mkF m 303 #[.val (.long p0), .second, .val (.long p1), .second, .val (.long p2), .second, .val (.long p3), .second, .val (.int p4), .val (.long t0), .second, .val (.long t2), .second, .val (.long t1), .second, .val (.int nn), .val (.int sel), .val (.long v48), .second, .val (.ref a52), .val (.int (0 : Int32)), .val (.ref a55)] [(.int (own_of [] v48))])) t → Steps p.tables e below (s₁.setTop (entryFrame m #[(.long p0), (.long p1), (.long p2), (.long p3), (.int p4)] maxLocals)) t := fun t k => pre60 _ (st61.trans k)
    have pre63 : ∀ t, Steps p.tables e below (T61.setTop (mkF m 313 #[.val (.long p0), .second, .val (.long p1), .second, .val (.long p2), .second, .val (.long p3), .second, .val (.int p4), .val (.long t0), .second, .val (.long t2), .second, .val (.long t1), .second, .val (.int nn), .val (.int sel), .val (.long v48), .second, .val (.ref a52), .val (.int (0 : Int32)), .val (.ref a55)] [(.int (1 : Int32))])) t → Steps p.tables e below (s₁.setTop (entryFrame m #[(.long p0), (.long p1), (.long p2), (.long p3), (.int p4)] maxLocals)) t := fun t k => pre62 _ (by
      show Steps p.tables e below (T61.setTop (mkF m 303 #[.val (.long p0), .second, .val (.long p1), .second, .val (.long p2), .second, .val (.long p3), .second, .val (.int p4), .val (.long t0), .second, .val (.long t2), .second, .val (.long t1), .second, .val (.int nn), .val (.int sel), .val (.long v48), .second, .val (.ref a52), .val (.int (0 : Int32)), .val (.ref a55)] [(.int (own_of [] v48))])) _
      refine XS.iload X61.here hx rfl (hb hby at_303) rfl ?_
      show Steps p.tables e below (T61.setTop (mkF m 305 #[.val (.long p0), .second, .val (.long p1), .second, .val (.long p2), .second, .val (.long p3), .second, .val (.int p4), .val (.long t0), .second, .val (.long t2), .second, .val (.long t1), .second, .val (.int nn), .val (.int sel), .val (.long v48), .second, .val (.ref a52), .val (.int (0 : Int32)), .val (.ref a55)] [(.int (0 : Int32)), (.int (own_of [] v48))])) _
      refine XS.icmpNo X61.here hx rfl (hb hby at_305) rfl (XT.ii_ne_f rfl) ?_
      show Steps p.tables e below (T61.setTop (mkF m 308 #[.val (.long p0), .second, .val (.long p1), .second, .val (.long p2), .second, .val (.long p3), .second, .val (.int p4), .val (.long t0), .second, .val (.long t2), .second, .val (.long t1), .second, .val (.int nn), .val (.int sel), .val (.long v48), .second, .val (.ref a52), .val (.int (0 : Int32)), .val (.ref a55)] [])) _
      refine XT.iconstV X61.here hx rfl (1 : Int32) (hb hby at_308) rfl ?_
      show Steps p.tables e below (T61.setTop (mkF m 309 #[.val (.long p0), .second, .val (.long p1), .second, .val (.long p2), .second, .val (.long p3), .second, .val (.int p4), .val (.long t0), .second, .val (.long t2), .second, .val (.long t1), .second, .val (.int nn), .val (.int sel), .val (.long v48), .second, .val (.ref a52), .val (.int (0 : Int32)), .val (.ref a55)] [(.int (1 : Int32))])) _
      refine XS.goto X61.here hx rfl (pc0 := 309) (pc' := 313) rfl (hb hby at_309) (by decide) (by decide) ?_
      exact k)
    obtain ⟨fs, hr, hrun, hended, hW, hsame⟩ := X61.leave (v := some (.int (1 : Int32))) (fun h => by rw [Bd.returns] at h; cases h)
    refine ⟨_, _, pre63 _ ?_, hrun, hended, _, _, rfl, ?_, ⟨_, rfl⟩, hW, hsame.mono (by decide) (by decide)⟩
    · show Steps p.tables e below (T61.setTop (mkF m 313 #[.val (.long p0), .second, .val (.long p1), .second, .val (.long p2), .second, .val (.long p3), .second, .val (.int p4), .val (.long t0), .second, .val (.long t2), .second, .val (.long t1), .second, .val (.int nn), .val (.int sel), .val (.long v48), .second, .val (.ref a52), .val (.int (0 : Int32)), .val (.ref a55)] [(.int (1 : Int32))])) _
      exact retN X61 hx (t := .boolean) Bd.returns (by simp) (hb hby at_313) hr
    · show Q_own_law Z p0 p1 p2 p3 p4 h0 n0 _ T61.heap _
      rw [e61]
      exact ⟨rfl, N61⟩
  · have pre64 : ∀ t, Steps p.tables e below (T22.setTop (mkF m 162 #[.val (.long p0), .second, .val (.long p1), .second, .val (.long p2), .second, .val (.long p3), .second, .val (.int p4), .val (.long t0), .second, .val (.long t2), .second, .val (.long t1), .second, .val (.int nn), .val (.int sel), .val (.long v48), .second, .unset, .unset, .unset] [(.int (1 : Int32)), (.int nn)])) t → Steps p.tables e below (s₁.setTop (entryFrame m #[(.long p0), (.long p1), (.long p2), (.long p3), (.int p4)] maxLocals)) t := fun t k => pre50 _ (by
      show Steps p.tables e below (T22.setTop (mkF m 148 #[.val (.long p0), .second, .val (.long p1), .second, .val (.long p2), .second, .val (.long p3), .second, .val (.int p4), .val (.long t0), .second, .val (.long t2), .second, .val (.long t1), .second, .val (.int nn), .val (.int sel), .val (.long v48), .second, .unset, .unset, .unset] [(.int nn)])) _
      refine XS.ifYes X22.here hx rfl (pc0 := 148) (pc' := 159) rfl (hb hby at_148) rfl (XT.i0_ne_t c148) (by decide) (by decide) ?_
      show Steps p.tables e below (T22.setTop (mkF m 159 #[.val (.long p0), .second, .val (.long p1), .second, .val (.long p2), .second, .val (.long p3), .second, .val (.int p4), .val (.long t0), .second, .val (.long t2), .second, .val (.long t1), .second, .val (.int nn), .val (.int sel), .val (.long v48), .second, .unset, .unset, .unset] [])) _
      refine XS.iload X22.here hx rfl (hb hby at_159) rfl ?_
      show Steps p.tables e below (T22.setTop (mkF m 161 #[.val (.long p0), .second, .val (.long p1), .second, .val (.long p2), .second, .val (.long p3), .second, .val (.int p4), .val (.long t0), .second, .val (.long t2), .second, .val (.long t1), .second, .val (.int nn), .val (.int sel), .val (.long v48), .second, .unset, .unset, .unset] [(.int nn)])) _
      refine XT.iconstV X22.here hx rfl (1 : Int32) (hb hby at_161) rfl ?_
      exact k)
    by_cases c162 : nn = (1 : Int32)
    · have hn : nn = 1 := c162
      have pre65 : ∀ t, Steps p.tables e below (T22.setTop (mkF m 166 #[.val (.long p0), .second, .val (.long p1), .second, .val (.long p2), .second, .val (.long p3), .second, .val (.int p4), .val (.long t0), .second, .val (.long t2), .second, .val (.long t1), .second, .val (.int nn), .val (.int sel), .val (.long v48), .second, .unset, .unset, .unset] [(.int (1 : Int32))])) t → Steps p.tables e below (s₁.setTop (entryFrame m #[(.long p0), (.long p1), (.long p2), (.long p3), (.int p4)] maxLocals)) t := fun t k => pre64 _ (by
        show Steps p.tables e below (T22.setTop (mkF m 162 #[.val (.long p0), .second, .val (.long p1), .second, .val (.long p2), .second, .val (.long p3), .second, .val (.int p4), .val (.long t0), .second, .val (.long t2), .second, .val (.long t1), .second, .val (.int nn), .val (.int sel), .val (.long v48), .second, .unset, .unset, .unset] [(.int (1 : Int32)), (.int nn)])) _
        refine XS.icmpNo X22.here hx rfl (hb hby at_162) rfl (XT.ii_ne_f c162) ?_
        show Steps p.tables e below (T22.setTop (mkF m 165 #[.val (.long p0), .second, .val (.long p1), .second, .val (.long p2), .second, .val (.long p3), .second, .val (.int p4), .val (.long t0), .second, .val (.long t2), .second, .val (.long t1), .second, .val (.int nn), .val (.int sel), .val (.long v48), .second, .unset, .unset, .unset] [])) _
        refine XT.iconstV X22.here hx rfl (1 : Int32) (hb hby at_165) rfl ?_
        exact k)
      obtain ⟨T66, h66, cA66, X66, e66, E66, A66, B66, st66⟩ := own_newE X22 hx hZ (aty := .long) (hw _ (List.mem_of_getElem? (i := 7) rfl)) e22 (g := (mkF m 166 #[.val (.long p0), .second, .val (.long p1), .second, .val (.long p2), .second, .val (.long p3), .second, .val (.int p4), .val (.long t0), .second, .val (.long t2), .second, .val (.long t1), .second, .val (.int nn), .val (.int sel), .val (.long v48), .second, .unset, .unset, .unset] [(.int (1 : Int32))])) rfl (hb hby at_166) rfl (by decide) (cap := 1) (by decide) (by decide) (by decide) (by decide) rfl
      obtain ⟨a66, ga66⟩ : ∃ z, z = h0.size := ⟨_, rfl⟩
      rw [← ga66] at A66 B66 st66
      have ge_a66 : n0 ≤ a66 := Nat.le_trans Z0 (Nat.le_of_eq ga66.symm)
      have Z66 : n0 ≤ h66.size := Nat.le_trans Z0 E66.1
      have pre67 : ∀ t, Steps p.tables e below (T66.setTop (mkF m 168 #[.val (.long p0), .second, .val (.long p1), .second, .val (.long p2), .second, .val (.long p3), .second, .val (.int p4), .val (.long t0), .second, .val (.long t2), .second, .val (.long t1), .second, .val (.int nn), .val (.int sel), .val (.long v48), .second, .unset, .unset, .unset] [(.ref a66)])) t → Steps p.tables e below (s₁.setTop (entryFrame m #[(.long p0), (.long p1), (.long p2), (.long p3), (.int p4)] maxLocals)) t := fun t k => pre65 _ (st66 _ k)
      have V66 : Arv Z h66 a66 cA66 .long (1 : Int32) [(.long (0 : Int64))] (.long (0 : Int64)) := (Arv.new A66 (by decide)).pad (pad_rep [] (.long (0 : Int64)) 1)
      have pre68 : ∀ t, Steps p.tables e below (T66.setTop (mkF m 172 #[.val (.long p0), .second, .val (.long p1), .second, .val (.long p2), .second, .val (.long p3), .second, .val (.int p4), .val (.long t0), .second, .val (.long t2), .second, .val (.long t1), .second, .val (.int nn), .val (.int sel), .val (.long v48), .second, .unset, .unset, .unset] [(.long t0), (.int (0 : Int32)), (.ref a66), (.ref a66)])) t → Steps p.tables e below (s₁.setTop (entryFrame m #[(.long p0), (.long p1), (.long p2), (.long p3), (.int p4)] maxLocals)) t := fun t k => pre67 _ (by
        show Steps p.tables e below (T66.setTop (mkF m 168 #[.val (.long p0), .second, .val (.long p1), .second, .val (.long p2), .second, .val (.long p3), .second, .val (.int p4), .val (.long t0), .second, .val (.long t2), .second, .val (.long t1), .second, .val (.int nn), .val (.int sel), .val (.long v48), .second, .unset, .unset, .unset] [(.ref a66)])) _
        refine XS.dup X66.here hx rfl (hb hby at_168) rfl rfl ?_
        show Steps p.tables e below (T66.setTop (mkF m 169 #[.val (.long p0), .second, .val (.long p1), .second, .val (.long p2), .second, .val (.long p3), .second, .val (.int p4), .val (.long t0), .second, .val (.long t2), .second, .val (.long t1), .second, .val (.int nn), .val (.int sel), .val (.long v48), .second, .unset, .unset, .unset] [(.ref a66), (.ref a66)])) _
        refine XT.iconstV X66.here hx rfl (0 : Int32) (hb hby at_169) rfl ?_
        show Steps p.tables e below (T66.setTop (mkF m 170 #[.val (.long p0), .second, .val (.long p1), .second, .val (.long p2), .second, .val (.long p3), .second, .val (.int p4), .val (.long t0), .second, .val (.long t2), .second, .val (.long t1), .second, .val (.int nn), .val (.int sel), .val (.long v48), .second, .unset, .unset, .unset] [(.int (0 : Int32)), (.ref a66), (.ref a66)])) _
        refine XS.lload X66.here hx rfl (hb hby at_170) rfl ?_
        exact k)
      obtain ⟨cl69, Ar69, qc69, Sz69, Mz69, Hs69, Uf69⟩ := (show Arv Z h66 a66 cA66 .long (1 : Int32) [(.long (0 : Int64))] (.long (0 : Int64)) from V66)
      have in70 : ¬ ((0 : Int32) < 0 ∨ cl69.slots.size ≤ ((0 : Int32)).toNatClampNeg) := inb_of Sz69 (by decide)
      obtain ⟨T70, h70, X70, e70, W70, st70⟩ := stJ X66 hx hZ e66 Ar69 (j := (0 : Int32)) in70 (g := (mkF m 172 #[.val (.long p0), .second, .val (.long p1), .second, .val (.long p2), .second, .val (.long p3), .second, .val (.int p4), .val (.long t0), .second, .val (.long t2), .second, .val (.long t1), .second, .val (.int nn), .val (.int sel), .val (.long v48), .second, .unset, .unset, .unset] [(.long t0), (.int (0 : Int32)), (.ref a66), (.ref a66)])) rfl rfl (hb hby at_172)
      have N70 := Fr.snoc X70 N22 ge_a66
      have Z70 : n0 ≤ h70.size := Nat.le_trans Z66 (Keep.of_wr W70).1
      have V70 : Arv Z h70 a66 cA66 .long (1 : Int32) [(.long t0)] (.long (0 : Int64)) := Arv.set Ar69 qc69 Sz69 Mz69 Hs69 Uf69 rfl W70 0 (by decide) (by show 0 < 1; decide)
      have pre71 : ∀ t, Steps p.tables e below (T70.setTop (mkF m 173 #[.val (.long p0), .second, .val (.long p1), .second, .val (.long p2), .second, .val (.long p3), .second, .val (.int p4), .val (.long t0), .second, .val (.long t2), .second, .val (.long t1), .second, .val (.int nn), .val (.int sel), .val (.long v48), .second, .unset, .unset, .unset] [(.ref a66)])) t → Steps p.tables e below (s₁.setTop (entryFrame m #[(.long p0), (.long p1), (.long p2), (.long p3), (.int p4)] maxLocals)) t := fun t k => pre68 _ (st70 _ k)
      have pre72 : ∀ t, Steps p.tables e below (T70.setTop (mkF m 236 #[.val (.long p0), .second, .val (.long p1), .second, .val (.long p2), .second, .val (.long p3), .second, .val (.int p4), .val (.long t0), .second, .val (.long t2), .second, .val (.long t1), .second, .val (.int nn), .val (.int sel), .val (.long v48), .second, .val (.ref a66), .val (.int (0 : Int32)), .unset] [(.int (XT.cmpL v48 t0))])) t → Steps p.tables e below (s₁.setTop (entryFrame m #[(.long p0), (.long p1), (.long p2), (.long p3), (.int p4)] maxLocals)) t := fun t k => pre71 _ (by
        show Steps p.tables e below (T70.setTop (mkF m 173 #[.val (.long p0), .second, .val (.long p1), .second, .val (.long p2), .second, .val (.long p3), .second, .val (.int p4), .val (.long t0), .second, .val (.long t2), .second, .val (.long t1), .second, .val (.int nn), .val (.int sel), .val (.long v48), .second, .unset, .unset, .unset] [(.ref a66)])) _
        refine XS.astore X70.here hx rfl (hb hby at_173) rfl rfl (l' := #[.val (.long p0), .second, .val (.long p1), .second, .val (.long p2), .second, .val (.long p3), .second, .val (.int p4), .val (.long t0), .second, .val (.long t2), .second, .val (.long t1), .second, .val (.int nn), .val (.int sel), .val (.long v48), .second, .val (.ref a66), .unset, .unset]) rfl ?_
        show Steps p.tables e below (T70.setTop (mkF m 175 #[.val (.long p0), .second, .val (.long p1), .second, .val (.long p2), .second, .val (.long p3), .second, .val (.int p4), .val (.long t0), .second, .val (.long t2), .second, .val (.long t1), .second, .val (.int nn), .val (.int sel), .val (.long v48), .second, .val (.ref a66), .unset, .unset] [])) _
        refine XS.goto X70.here hx rfl (pc0 := 175) (pc' := 222) rfl (hb hby at_175) (by decide) (by decide) ?_
        show Steps p.tables e below (T70.setTop (mkF m 222 #[.val (.long p0), .second, .val (.long p1), .second, .val (.long p2), .second, .val (.long p3), .second, .val (.int p4), .val (.long t0), .second, .val (.long t2), .second, .val (.long t1), .second, .val (.int nn), .val (.int sel), .val (.long v48), .second, .val (.ref a66), .unset, .unset] [])) _
        refine XT.iconstV X70.here hx rfl (0 : Int32) (hb hby at_222) rfl ?_
        show Steps p.tables e below (T70.setTop (mkF m 223 #[.val (.long p0), .second, .val (.long p1), .second, .val (.long p2), .second, .val (.long p3), .second, .val (.int p4), .val (.long t0), .second, .val (.long t2), .second, .val (.long t1), .second, .val (.int nn), .val (.int sel), .val (.long v48), .second, .val (.ref a66), .unset, .unset] [(.int (0 : Int32))])) _
        refine XS.istore X70.here hx rfl (hb hby at_223) rfl (l' := #[.val (.long p0), .second, .val (.long p1), .second, .val (.long p2), .second, .val (.long p3), .second, .val (.int p4), .val (.long t0), .second, .val (.long t2), .second, .val (.long t1), .second, .val (.int nn), .val (.int sel), .val (.long v48), .second, .val (.ref a66), .val (.int (0 : Int32)), .unset]) rfl ?_
        show Steps p.tables e below (T70.setTop (mkF m 225 #[.val (.long p0), .second, .val (.long p1), .second, .val (.long p2), .second, .val (.long p3), .second, .val (.int p4), .val (.long t0), .second, .val (.long t2), .second, .val (.long t1), .second, .val (.int nn), .val (.int sel), .val (.long v48), .second, .val (.ref a66), .val (.int (0 : Int32)), .unset] [])) _
        refine XS.iload X70.here hx rfl (hb hby at_225) rfl ?_
        show Steps p.tables e below (T70.setTop (mkF m 227 #[.val (.long p0), .second, .val (.long p1), .second, .val (.long p2), .second, .val (.long p3), .second, .val (.int p4), .val (.long t0), .second, .val (.long t2), .second, .val (.long t1), .second, .val (.int nn), .val (.int sel), .val (.long v48), .second, .val (.ref a66), .val (.int (0 : Int32)), .unset] [(.int nn)])) _
        refine XT.iconstV X70.here hx rfl (1 : Int32) (hb hby at_227) rfl ?_
        show Steps p.tables e below (T70.setTop (mkF m 228 #[.val (.long p0), .second, .val (.long p1), .second, .val (.long p2), .second, .val (.long p3), .second, .val (.int p4), .val (.long t0), .second, .val (.long t2), .second, .val (.long t1), .second, .val (.int nn), .val (.int sel), .val (.long v48), .second, .val (.ref a66), .val (.int (0 : Int32)), .unset] [(.int (1 : Int32)), (.int nn)])) _
        refine XS.icmpNo X70.here hx rfl (hb hby at_228) rfl (XT.ii_lt_f (by rw [hn]; decide)) ?_
        show Steps p.tables e below (T70.setTop (mkF m 231 #[.val (.long p0), .second, .val (.long p1), .second, .val (.long p2), .second, .val (.long p3), .second, .val (.int p4), .val (.long t0), .second, .val (.long t2), .second, .val (.long t1), .second, .val (.int nn), .val (.int sel), .val (.long v48), .second, .val (.ref a66), .val (.int (0 : Int32)), .unset] [])) _
        refine XS.lload X70.here hx rfl (hb hby at_231) rfl ?_
        show Steps p.tables e below (T70.setTop (mkF m 233 #[.val (.long p0), .second, .val (.long p1), .second, .val (.long p2), .second, .val (.long p3), .second, .val (.int p4), .val (.long t0), .second, .val (.long t2), .second, .val (.long t1), .second, .val (.int nn), .val (.int sel), .val (.long v48), .second, .val (.ref a66), .val (.int (0 : Int32)), .unset] [(.long v48)])) _
        refine XS.lload X70.here hx rfl (hb hby at_233) rfl ?_
        show Steps p.tables e below (T70.setTop (mkF m 235 #[.val (.long p0), .second, .val (.long p1), .second, .val (.long p2), .second, .val (.long p3), .second, .val (.int p4), .val (.long t0), .second, .val (.long t2), .second, .val (.long t1), .second, .val (.int nn), .val (.int sel), .val (.long v48), .second, .val (.ref a66), .val (.int (0 : Int32)), .unset] [(.long t0), (.long v48)])) _
        refine XT.lcmp X70.here hx rfl (hb hby at_235) rfl ?_
        exact k)
      obtain ⟨v74, hv74⟩ : ∃ z : Int32, z = (if v48 < t0 then (0 : Int32) else (1 : Int32)) := ⟨_, rfl⟩
      have pre75 : ∀ t, Steps p.tables e below (T70.setTop (mkF m 245 #[.val (.long p0), .second, .val (.long p1), .second, .val (.long p2), .second, .val (.long p3), .second, .val (.int p4), .val (.long t0), .second, .val (.long t2), .second, .val (.long t1), .second, .val (.int nn), .val (.int sel), .val (.long v48), .second, .val (.ref a66), .val (.int v74), .unset] [])) t → Steps p.tables e below (s₁.setTop (entryFrame m #[(.long p0), (.long p1), (.long p2), (.long p3), (.int p4)] maxLocals)) t := fun t k => pre72 _ (by
        by_cases c236_73 : v48 < t0
        · rw [show v74 = _ from hv74.trans (if_pos c236_73)] at k
          show Steps p.tables e below (T70.setTop (mkF m 236 #[.val (.long p0), .second, .val (.long p1), .second, .val (.long p2), .second, .val (.long p3), .second, .val (.int p4), .val (.long t0), .second, .val (.long t2), .second, .val (.long t1), .second, .val (.int nn), .val (.int sel), .val (.long v48), .second, .val (.ref a66), .val (.int (0 : Int32)), .unset] [(.int (XT.cmpL v48 t0))])) _
          refine XS.ifYes X70.here hx rfl (pc0 := 236) (pc' := 245) rfl (hb hby at_236) rfl (XT.ll_lt_t c236_73) (by decide) (by decide) ?_
          exact k
        · rw [show v74 = _ from hv74.trans (if_neg c236_73)] at k
          show Steps p.tables e below (T70.setTop (mkF m 236 #[.val (.long p0), .second, .val (.long p1), .second, .val (.long p2), .second, .val (.long p3), .second, .val (.int p4), .val (.long t0), .second, .val (.long t2), .second, .val (.long t1), .second, .val (.int nn), .val (.int sel), .val (.long v48), .second, .val (.ref a66), .val (.int (0 : Int32)), .unset] [(.int (XT.cmpL v48 t0))])) _
          refine XS.ifNo X70.here hx rfl (hb hby at_236) rfl (XT.ll_lt_f c236_73) ?_
          show Steps p.tables e below (T70.setTop (mkF m 239 #[.val (.long p0), .second, .val (.long p1), .second, .val (.long p2), .second, .val (.long p3), .second, .val (.int p4), .val (.long t0), .second, .val (.long t2), .second, .val (.long t1), .second, .val (.int nn), .val (.int sel), .val (.long v48), .second, .val (.ref a66), .val (.int (0 : Int32)), .unset] [])) _
          refine XS.iload X70.here hx rfl (hb hby at_239) rfl ?_
          show Steps p.tables e below (T70.setTop (mkF m 241 #[.val (.long p0), .second, .val (.long p1), .second, .val (.long p2), .second, .val (.long p3), .second, .val (.int p4), .val (.long t0), .second, .val (.long t2), .second, .val (.long t1), .second, .val (.int nn), .val (.int sel), .val (.long v48), .second, .val (.ref a66), .val (.int (0 : Int32)), .unset] [(.int (0 : Int32))])) _
          refine XT.iconstV X70.here hx rfl (1 : Int32) (hb hby at_241) rfl ?_
          show Steps p.tables e below (T70.setTop (mkF m 242 #[.val (.long p0), .second, .val (.long p1), .second, .val (.long p2), .second, .val (.long p3), .second, .val (.int p4), .val (.long t0), .second, .val (.long t2), .second, .val (.long t1), .second, .val (.int nn), .val (.int sel), .val (.long v48), .second, .val (.ref a66), .val (.int (0 : Int32)), .unset] [(.int (1 : Int32)), (.int (0 : Int32))])) _
          refine XS.iadd X70.here hx rfl (hb hby at_242) rfl ?_
          show Steps p.tables e below (T70.setTop (mkF m 243 #[.val (.long p0), .second, .val (.long p1), .second, .val (.long p2), .second, .val (.long p3), .second, .val (.int p4), .val (.long t0), .second, .val (.long t2), .second, .val (.long t1), .second, .val (.int nn), .val (.int sel), .val (.long v48), .second, .val (.ref a66), .val (.int (0 : Int32)), .unset] [(.int (1 : Int32))])) _
          refine XS.istore X70.here hx rfl (hb hby at_243) rfl (l' := #[.val (.long p0), .second, .val (.long p1), .second, .val (.long p2), .second, .val (.long p3), .second, .val (.int p4), .val (.long t0), .second, .val (.long t2), .second, .val (.long t1), .second, .val (.int nn), .val (.int sel), .val (.long v48), .second, .val (.ref a66), .val (.int (1 : Int32)), .unset]) rfl ?_
          exact k)
      have pre76 : ∀ t, Steps p.tables e below (T70.setTop (mkF m 285 #[.val (.long p0), .second, .val (.long p1), .second, .val (.long p2), .second, .val (.long p3), .second, .val (.int p4), .val (.long t0), .second, .val (.long t2), .second, .val (.long t1), .second, .val (.int nn), .val (.int sel), .val (.long v48), .second, .val (.ref a66), .val (.int v74), .unset] [])) t → Steps p.tables e below (s₁.setTop (entryFrame m #[(.long p0), (.long p1), (.long p2), (.long p3), (.int p4)] maxLocals)) t := fun t k => pre75 _ (by
        show Steps p.tables e below (T70.setTop (mkF m 245 #[.val (.long p0), .second, .val (.long p1), .second, .val (.long p2), .second, .val (.long p3), .second, .val (.int p4), .val (.long t0), .second, .val (.long t2), .second, .val (.long t1), .second, .val (.int nn), .val (.int sel), .val (.long v48), .second, .val (.ref a66), .val (.int v74), .unset] [])) _
        refine XS.iload X70.here hx rfl (hb hby at_245) rfl ?_
        show Steps p.tables e below (T70.setTop (mkF m 247 #[.val (.long p0), .second, .val (.long p1), .second, .val (.long p2), .second, .val (.long p3), .second, .val (.int p4), .val (.long t0), .second, .val (.long t2), .second, .val (.long t1), .second, .val (.int nn), .val (.int sel), .val (.long v48), .second, .val (.ref a66), .val (.int v74), .unset] [(.int nn)])) _
        refine XT.iconstV X70.here hx rfl (2 : Int32) (hb hby at_247) rfl ?_
        show Steps p.tables e below (T70.setTop (mkF m 248 #[.val (.long p0), .second, .val (.long p1), .second, .val (.long p2), .second, .val (.long p3), .second, .val (.int p4), .val (.long t0), .second, .val (.long t2), .second, .val (.long t1), .second, .val (.int nn), .val (.int sel), .val (.long v48), .second, .val (.ref a66), .val (.int v74), .unset] [(.int (2 : Int32)), (.int nn)])) _
        refine XS.icmpYes X70.here hx rfl (pc0 := 248) (pc' := 265) rfl (hb hby at_248) rfl (XT.ii_lt_t (by rw [hn]; decide)) (by decide) (by decide) ?_
        show Steps p.tables e below (T70.setTop (mkF m 265 #[.val (.long p0), .second, .val (.long p1), .second, .val (.long p2), .second, .val (.long p3), .second, .val (.int p4), .val (.long t0), .second, .val (.long t2), .second, .val (.long t1), .second, .val (.int nn), .val (.int sel), .val (.long v48), .second, .val (.ref a66), .val (.int v74), .unset] [])) _
        refine XS.iload X70.here hx rfl (hb hby at_265) rfl ?_
        show Steps p.tables e below (T70.setTop (mkF m 267 #[.val (.long p0), .second, .val (.long p1), .second, .val (.long p2), .second, .val (.long p3), .second, .val (.int p4), .val (.long t0), .second, .val (.long t2), .second, .val (.long t1), .second, .val (.int nn), .val (.int sel), .val (.long v48), .second, .val (.ref a66), .val (.int v74), .unset] [(.int nn)])) _
        refine XT.iconstV X70.here hx rfl (3 : Int32) (hb hby at_267) rfl ?_
        show Steps p.tables e below (T70.setTop (mkF m 268 #[.val (.long p0), .second, .val (.long p1), .second, .val (.long p2), .second, .val (.long p3), .second, .val (.int p4), .val (.long t0), .second, .val (.long t2), .second, .val (.long t1), .second, .val (.int nn), .val (.int sel), .val (.long v48), .second, .val (.ref a66), .val (.int v74), .unset] [(.int (3 : Int32)), (.int nn)])) _
        refine XS.icmpYes X70.here hx rfl (pc0 := 268) (pc' := 285) rfl (hb hby at_268) rfl (XT.ii_lt_t (by rw [hn]; decide)) (by decide) (by decide) ?_
        exact k)
      obtain ⟨T77, h77, X77, e77, E77, A77, D77, -, st77⟩ := newO X70 hx hZ hown (hw _ (List.mem_of_getElem? (i := 8) rfl)) (hw _ (List.mem_of_getElem? (i := 9) rfl)) (hw _ (List.mem_of_getElem? (i := 10) rfl)) e70 (g := (mkF m 285 #[.val (.long p0), .second, .val (.long p1), .second, .val (.long p2), .second, .val (.long p3), .second, .val (.int p4), .val (.long t0), .second, .val (.long t2), .second, .val (.long t1), .second, .val (.int nn), .val (.int sel), .val (.long v48), .second, .val (.ref a66), .val (.int v74), .unset] [])) rfl (hb hby at_285) (by decide) (by decide)
      obtain ⟨a77, ga77⟩ : ∃ z, z = h70.size := ⟨_, rfl⟩
      rw [← ga77] at A77 D77 st77
      have lt_a66_a77 : a66 < a77 := Nat.lt_of_lt_of_eq (B66.wr W70).lt ga77.symm
      have ne_a66_a77 : a66 ≠ a77 := Nat.ne_of_lt lt_a66_a77
      have ge_a77 : n0 ≤ a77 := Nat.le_trans Z70 (Nat.le_of_eq ga77.symm)
      have F77_lowest : Fld Z h77 a77 "com/example/roundkeeper/roundkeeper/rules/Bands" "lowest" "[J" .null := D77 (Or.inr (hw _ (List.mem_of_getElem? (i := 27) rfl))) (ty := (.array .long)) (by decide)
      have Z77 : n0 ≤ h77.size := Nat.le_trans Z70 E77.1
      have pre78 : ∀ t, Steps p.tables e below (T77.setTop (mkF m 288 #[.val (.long p0), .second, .val (.long p1), .second, .val (.long p2), .second, .val (.long p3), .second, .val (.int p4), .val (.long t0), .second, .val (.long t2), .second, .val (.long t1), .second, .val (.int nn), .val (.int sel), .val (.long v48), .second, .val (.ref a66), .val (.int v74), .unset] [(.ref a77)])) t → Steps p.tables e below (s₁.setTop (entryFrame m #[(.long p0), (.long p1), (.long p2), (.long p3), (.int p4)] maxLocals)) t := fun t k => pre76 _ (st77 _ k)
      have pre79 : ∀ t, Steps p.tables e below (T77.setTop (mkF m 291 #[.val (.long p0), .second, .val (.long p1), .second, .val (.long p2), .second, .val (.long p3), .second, .val (.int p4), .val (.long t0), .second, .val (.long t2), .second, .val (.long t1), .second, .val (.int nn), .val (.int sel), .val (.long v48), .second, .val (.ref a66), .val (.int v74), .unset] [(.ref a66), (.ref a77), (.ref a77)])) t → Steps p.tables e below (s₁.setTop (entryFrame m #[(.long p0), (.long p1), (.long p2), (.long p3), (.int p4)] maxLocals)) t := fun t k => pre78 _ (by
        show Steps p.tables e below (T77.setTop (mkF m 288 #[.val (.long p0), .second, .val (.long p1), .second, .val (.long p2), .second, .val (.long p3), .second, .val (.int p4), .val (.long t0), .second, .val (.long t2), .second, .val (.long t1), .second, .val (.int nn), .val (.int sel), .val (.long v48), .second, .val (.ref a66), .val (.int v74), .unset] [(.ref a77)])) _
        refine XS.dup X77.here hx rfl (hb hby at_288) rfl rfl ?_
        show Steps p.tables e below (T77.setTop (mkF m 289 #[.val (.long p0), .second, .val (.long p1), .second, .val (.long p2), .second, .val (.long p3), .second, .val (.int p4), .val (.long t0), .second, .val (.long t2), .second, .val (.long t1), .second, .val (.int nn), .val (.int sel), .val (.long v48), .second, .val (.ref a66), .val (.int v74), .unset] [(.ref a77), (.ref a77)])) _
        refine XS.aload X77.here hx rfl (hb hby at_289) rfl rfl ?_
        exact k)
      obtain ⟨_, _, ⟨T80, L80, k80, n80⟩, -, X80, ⟨Lc80, hQ80, l80, y80, z80⟩, st80⟩ := X77.specialBack hx (y := (⟨"com/example/roundkeeper/roundkeeper/rules/Bands", "<init>", "([J)V"⟩ : MethodName)) rfl hown (mvT hZ (hw _ (List.mem_of_getElem? (i := 11) rfl))) (mvT hZ (hw _ (List.mem_of_getElem? (i := 12) rfl))) (mvT hZ (hw _ (List.mem_of_getElem? (i := 13) rfl))) (by decide) (backOf (W := 1) (own_ctor l Z a0 hw [] a77 a66 cA66 (1 : Int32) [(.long t0)] h77 n0 Z77 F77_lowest A77 (V70.ext E77) ((B66.wr W70).ext E77) ge_a77 (by decide)) hZ (hw _ (List.mem_of_getElem? (i := 13) rfl)) (hw _ (List.mem_of_getElem? (i := 10) rfl)) (by decide) (by decide)) (g := (mkF m 291 #[.val (.long p0), .second, .val (.long p1), .second, .val (.long p2), .second, .val (.long p3), .second, .val (.int p4), .val (.long t0), .second, .val (.long t2), .second, .val (.long t1), .second, .val (.int nn), .val (.int sel), .val (.long v48), .second, .val (.ref a66), .val (.int v74), .unset] [(.ref a66), (.ref a77), (.ref a77)])) rfl (by rw [hml]; rfl) (Steps.refl _) (a := a77) (argsL := [(.ref a66)]) (rest := [(.ref a77)]) (lenOf own_pd___J_V rfl) rfl (by show 2 * 0 + _ ≤ _; exact Nat.le_of_eq rfl) (hb hby at_291) (fun _ _ => ⟨rfl, e77, (by decide : 2 + 1 ≤ _), (by decide : 2 + 3 ≤ _)⟩)
      dsimp only [Pt.U, Pt.locs, Pt.cells, Pt.slots] at X80 l80 y80 z80 st80 hQ80
      subst l80 y80 z80
      obtain ⟨h80, e80⟩ : ∃ z, T80.heap = z := ⟨_, rfl⟩
      rw [e80] at hQ80
      obtain ⟨rfl, N80q, K80, EX80, ta, FT80, VT80⟩ := hQ80
      have Z80 : n0 ≤ h80.size := Nat.le_trans Z77 K80.1
      have N80 := Fr.app N70 N80q
      have pre81 : ∀ t, Steps p.tables e below (T80.setTop (mkF m 294 #[.val (.long p0), .second, .val (.long p1), .second, .val (.long p2), .second, .val (.long p3), .second, .val (.int p4), .val (.long t0), .second, .val (.long t2), .second, .val (.long t1), .second, .val (.int nn), .val (.int sel), .val (.long v48), .second, .val (.ref a66), .val (.int v74), .unset] [(.ref a77)])) t → Steps p.tables e below (s₁.setTop (entryFrame m #[(.long p0), (.long p1), (.long p2), (.long p3), (.int p4)] maxLocals)) t := fun t k => pre79 _ (st80.trans k)
      have pre82 : ∀ t, Steps p.tables e below (T80.setTop (mkF m 300 #[.val (.long p0), .second, .val (.long p1), .second, .val (.long p2), .second, .val (.long p3), .second, .val (.int p4), .val (.long t0), .second, .val (.long t2), .second, .val (.long t1), .second, .val (.int nn), .val (.int sel), .val (.long v48), .second, .val (.ref a66), .val (.int v74), .val (.ref a77)] [(.long v48), (.ref a77)])) t → Steps p.tables e below (s₁.setTop (entryFrame m #[(.long p0), (.long p1), (.long p2), (.long p3), (.int p4)] maxLocals)) t := fun t k => pre81 _ (by
        show Steps p.tables e below (T80.setTop (mkF m 294 #[.val (.long p0), .second, .val (.long p1), .second, .val (.long p2), .second, .val (.long p3), .second, .val (.int p4), .val (.long t0), .second, .val (.long t2), .second, .val (.long t1), .second, .val (.int nn), .val (.int sel), .val (.long v48), .second, .val (.ref a66), .val (.int v74), .unset] [(.ref a77)])) _
        refine XS.astore X80.here hx rfl (hb hby at_294) rfl rfl (l' := #[.val (.long p0), .second, .val (.long p1), .second, .val (.long p2), .second, .val (.long p3), .second, .val (.int p4), .val (.long t0), .second, .val (.long t2), .second, .val (.long t1), .second, .val (.int nn), .val (.int sel), .val (.long v48), .second, .val (.ref a66), .val (.int v74), .val (.ref a77)]) rfl ?_
        show Steps p.tables e below (T80.setTop (mkF m 296 #[.val (.long p0), .second, .val (.long p1), .second, .val (.long p2), .second, .val (.long p3), .second, .val (.int p4), .val (.long t0), .second, .val (.long t2), .second, .val (.long t1), .second, .val (.int nn), .val (.int sel), .val (.long v48), .second, .val (.ref a66), .val (.int v74), .val (.ref a77)] [])) _
        refine XS.aload X80.here hx rfl (hb hby at_296) rfl rfl ?_
        show Steps p.tables e below (T80.setTop (mkF m 298 #[.val (.long p0), .second, .val (.long p1), .second, .val (.long p2), .second, .val (.long p3), .second, .val (.int p4), .val (.long t0), .second, .val (.long t2), .second, .val (.long t1), .second, .val (.int nn), .val (.int sel), .val (.long v48), .second, .val (.ref a66), .val (.int v74), .val (.ref a77)] [(.ref a77)])) _
        refine XS.lload X80.here hx rfl (hb hby at_298) rfl ?_
        exact k)
      obtain ⟨cq83, kq83, q83a, q83b, q83c⟩ := isOf hZ e80 EX80
      obtain ⟨_, _, ⟨T83, L83, k83, n83⟩, -, X83, ⟨Lc83, hQ83, l83, y83, z83⟩, st83⟩ := X80.virtualBack hx (y := (⟨"com/example/roundkeeper/roundkeeper/rules/Bands", "of", "(J)I"⟩ : MethodName)) (z := (⟨"com/example/roundkeeper/roundkeeper/rules/Bands", "of", "(J)I"⟩ : MethodName)) hown (mvT hZ (hw _ (List.mem_of_getElem? (i := 28) rfl))) (mvT hZ (hw _ (List.mem_of_getElem? (i := 29) rfl))) (notFace_of_selects (args := #[]) (mvT hZ (hw _ (List.mem_of_getElem? (i := 31) rfl)))) (mvT hZ (hw _ (List.mem_of_getElem? (i := 31) rfl))) (mvT hZ (hw _ (List.mem_of_getElem? (i := 30) rfl))) (by decide) (backOf (W := 0) (own_of1 l Z a0 hw [] a77 v48 ta cA66 t0 h80 n0 Z80 FT80 VT80) hZ (hw _ (List.mem_of_getElem? (i := 32) rfl)) (hw _ (List.mem_of_getElem? (i := 10) rfl)) (by decide) (by decide)) q83a q83c (g := (mkF m 300 #[.val (.long p0), .second, .val (.long p1), .second, .val (.long p2), .second, .val (.long p3), .second, .val (.int p4), .val (.long t0), .second, .val (.long t2), .second, .val (.long t1), .second, .val (.int nn), .val (.int sel), .val (.long v48), .second, .val (.ref a66), .val (.int v74), .val (.ref a77)] [(.long v48), (.ref a77)])) rfl (by rw [hml]; rfl) (Steps.refl _) (argsL := [(.long v48)]) (rest := []) (lenOf own_pd__J_I rfl) rfl (by show 2 * 0 + _ ≤ _; exact Nat.le_of_eq rfl) (hb hby at_300) (fun _ _ => ⟨rfl, e80, (by decide : 3 + 0 ≤ _), (by decide : 5 + 0 ≤ _)⟩)
      dsimp only [Pt.U, Pt.locs, Pt.cells, Pt.slots] at X83 l83 y83 z83 st83 hQ83
      subst l83 y83 z83
      obtain ⟨rfl, N83q, e83⟩ := hQ83
      have N83 := Fr.app N80 N83q
      have pre84 : ∀ t, Steps p.tables e below (T83.setTop (mkF m 303 #[.val (.long p0), .second, .val (.long p1), .second, .val (.long p2), .second, .val (.long p3), .second, .val (.int p4), .val (.long t0), .second, .val (.long t2), .second, .val (.long t1), .second, .val (.int nn), .val (.int sel), .val (.long v48), .second, .val (.ref a66), .val (.int v74), .val (.ref a77)] [(.int (own_of [t0] v48))])) t → Steps p.tables e below (s₁.setTop (entryFrame m #[(.long p0), (.long p1), (.long p2), (.long p3), (.int p4)] maxLocals)) t := fun t k => pre82 _ (st83.trans k)
      have pre85 : ∀ t, Steps p.tables e below (T83.setTop (mkF m 313 #[.val (.long p0), .second, .val (.long p1), .second, .val (.long p2), .second, .val (.long p3), .second, .val (.int p4), .val (.long t0), .second, .val (.long t2), .second, .val (.long t1), .second, .val (.int nn), .val (.int sel), .val (.long v48), .second, .val (.ref a66), .val (.int v74), .val (.ref a77)] [(.int (1 : Int32))])) t → Steps p.tables e below (s₁.setTop (entryFrame m #[(.long p0), (.long p1), (.long p2), (.long p3), (.int p4)] maxLocals)) t := fun t k => pre84 _ (by
        show Steps p.tables e below (T83.setTop (mkF m 303 #[.val (.long p0), .second, .val (.long p1), .second, .val (.long p2), .second, .val (.long p3), .second, .val (.int p4), .val (.long t0), .second, .val (.long t2), .second, .val (.long t1), .second, .val (.int nn), .val (.int sel), .val (.long v48), .second, .val (.ref a66), .val (.int v74), .val (.ref a77)] [(.int (own_of [t0] v48))])) _
        refine XS.iload X83.here hx rfl (hb hby at_303) rfl ?_
        show Steps p.tables e below (T83.setTop (mkF m 305 #[.val (.long p0), .second, .val (.long p1), .second, .val (.long p2), .second, .val (.long p3), .second, .val (.int p4), .val (.long t0), .second, .val (.long t2), .second, .val (.long t1), .second, .val (.int nn), .val (.int sel), .val (.long v48), .second, .val (.ref a66), .val (.int v74), .val (.ref a77)] [(.int v74), (.int (own_of [t0] v48))])) _
        refine XS.icmpNo X83.here hx rfl (hb hby at_305) rfl (XT.ii_ne_f (own_c1 hv74)) ?_
        show Steps p.tables e below (T83.setTop (mkF m 308 #[.val (.long p0), .second, .val (.long p1), .second, .val (.long p2), .second, .val (.long p3), .second, .val (.int p4), .val (.long t0), .second, .val (.long t2), .second, .val (.long t1), .second, .val (.int nn), .val (.int sel), .val (.long v48), .second, .val (.ref a66), .val (.int v74), .val (.ref a77)] [])) _
        refine XT.iconstV X83.here hx rfl (1 : Int32) (hb hby at_308) rfl ?_
        show Steps p.tables e below (T83.setTop (mkF m 309 #[.val (.long p0), .second, .val (.long p1), .second, .val (.long p2), .second, .val (.long p3), .second, .val (.int p4), .val (.long t0), .second, .val (.long t2), .second, .val (.long t1), .second, .val (.int nn), .val (.int sel), .val (.long v48), .second, .val (.ref a66), .val (.int v74), .val (.ref a77)] [(.int (1 : Int32))])) _
        refine XS.goto X83.here hx rfl (pc0 := 309) (pc' := 313) rfl (hb hby at_309) (by decide) (by decide) ?_
        exact k)
      obtain ⟨fs, hr, hrun, hended, hW, hsame⟩ := X83.leave (v := some (.int (1 : Int32))) (fun h => by rw [Bd.returns] at h; cases h)
      refine ⟨_, _, pre85 _ ?_, hrun, hended, _, _, rfl, ?_, ⟨_, rfl⟩, hW, hsame.mono (by decide) (by decide)⟩
      · show Steps p.tables e below (T83.setTop (mkF m 313 #[.val (.long p0), .second, .val (.long p1), .second, .val (.long p2), .second, .val (.long p3), .second, .val (.int p4), .val (.long t0), .second, .val (.long t2), .second, .val (.long t1), .second, .val (.int nn), .val (.int sel), .val (.long v48), .second, .val (.ref a66), .val (.int v74), .val (.ref a77)] [(.int (1 : Int32))])) _
        exact retN X83 hx (t := .boolean) Bd.returns (by simp) (hb hby at_313) hr
      · show Q_own_law Z p0 p1 p2 p3 p4 h0 n0 _ T83.heap _
        rw [e83]
        exact ⟨rfl, N83⟩
    · have pre86 : ∀ t, Steps p.tables e below (T22.setTop (mkF m 181 #[.val (.long p0), .second, .val (.long p1), .second, .val (.long p2), .second, .val (.long p3), .second, .val (.int p4), .val (.long t0), .second, .val (.long t2), .second, .val (.long t1), .second, .val (.int nn), .val (.int sel), .val (.long v48), .second, .unset, .unset, .unset] [(.int (2 : Int32)), (.int nn)])) t → Steps p.tables e below (s₁.setTop (entryFrame m #[(.long p0), (.long p1), (.long p2), (.long p3), (.int p4)] maxLocals)) t := fun t k => pre64 _ (by
        show Steps p.tables e below (T22.setTop (mkF m 162 #[.val (.long p0), .second, .val (.long p1), .second, .val (.long p2), .second, .val (.long p3), .second, .val (.int p4), .val (.long t0), .second, .val (.long t2), .second, .val (.long t1), .second, .val (.int nn), .val (.int sel), .val (.long v48), .second, .unset, .unset, .unset] [(.int (1 : Int32)), (.int nn)])) _
        refine XS.icmpYes X22.here hx rfl (pc0 := 162) (pc' := 178) rfl (hb hby at_162) rfl (XT.ii_ne_t c162) (by decide) (by decide) ?_
        show Steps p.tables e below (T22.setTop (mkF m 178 #[.val (.long p0), .second, .val (.long p1), .second, .val (.long p2), .second, .val (.long p3), .second, .val (.int p4), .val (.long t0), .second, .val (.long t2), .second, .val (.long t1), .second, .val (.int nn), .val (.int sel), .val (.long v48), .second, .unset, .unset, .unset] [])) _
        refine XS.iload X22.here hx rfl (hb hby at_178) rfl ?_
        show Steps p.tables e below (T22.setTop (mkF m 180 #[.val (.long p0), .second, .val (.long p1), .second, .val (.long p2), .second, .val (.long p3), .second, .val (.int p4), .val (.long t0), .second, .val (.long t2), .second, .val (.long t1), .second, .val (.int nn), .val (.int sel), .val (.long v48), .second, .unset, .unset, .unset] [(.int nn)])) _
        refine XT.iconstV X22.here hx rfl (2 : Int32) (hb hby at_180) rfl ?_
        exact k)
      by_cases c181 : nn = (2 : Int32)
      · have hn : nn = 2 := c181
        have pre87 : ∀ t, Steps p.tables e below (T22.setTop (mkF m 185 #[.val (.long p0), .second, .val (.long p1), .second, .val (.long p2), .second, .val (.long p3), .second, .val (.int p4), .val (.long t0), .second, .val (.long t2), .second, .val (.long t1), .second, .val (.int nn), .val (.int sel), .val (.long v48), .second, .unset, .unset, .unset] [(.int (2 : Int32))])) t → Steps p.tables e below (s₁.setTop (entryFrame m #[(.long p0), (.long p1), (.long p2), (.long p3), (.int p4)] maxLocals)) t := fun t k => pre86 _ (by
          show Steps p.tables e below (T22.setTop (mkF m 181 #[.val (.long p0), .second, .val (.long p1), .second, .val (.long p2), .second, .val (.long p3), .second, .val (.int p4), .val (.long t0), .second, .val (.long t2), .second, .val (.long t1), .second, .val (.int nn), .val (.int sel), .val (.long v48), .second, .unset, .unset, .unset] [(.int (2 : Int32)), (.int nn)])) _
          refine XS.icmpNo X22.here hx rfl (hb hby at_181) rfl (XT.ii_ne_f c181) ?_
          show Steps p.tables e below (T22.setTop (mkF m 184 #[.val (.long p0), .second, .val (.long p1), .second, .val (.long p2), .second, .val (.long p3), .second, .val (.int p4), .val (.long t0), .second, .val (.long t2), .second, .val (.long t1), .second, .val (.int nn), .val (.int sel), .val (.long v48), .second, .unset, .unset, .unset] [])) _
          refine XT.iconstV X22.here hx rfl (2 : Int32) (hb hby at_184) rfl ?_
          exact k)
        obtain ⟨T88, h88, cA88, X88, e88, E88, A88, B88, st88⟩ := own_newE X22 hx hZ (aty := .long) (hw _ (List.mem_of_getElem? (i := 7) rfl)) e22 (g := (mkF m 185 #[.val (.long p0), .second, .val (.long p1), .second, .val (.long p2), .second, .val (.long p3), .second, .val (.int p4), .val (.long t0), .second, .val (.long t2), .second, .val (.long t1), .second, .val (.int nn), .val (.int sel), .val (.long v48), .second, .unset, .unset, .unset] [(.int (2 : Int32))])) rfl (hb hby at_185) rfl (by decide) (cap := 2) (by decide) (by decide) (by decide) (by decide) rfl
        obtain ⟨a88, ga88⟩ : ∃ z, z = h0.size := ⟨_, rfl⟩
        rw [← ga88] at A88 B88 st88
        have ge_a88 : n0 ≤ a88 := Nat.le_trans Z0 (Nat.le_of_eq ga88.symm)
        have Z88 : n0 ≤ h88.size := Nat.le_trans Z0 E88.1
        have pre89 : ∀ t, Steps p.tables e below (T88.setTop (mkF m 187 #[.val (.long p0), .second, .val (.long p1), .second, .val (.long p2), .second, .val (.long p3), .second, .val (.int p4), .val (.long t0), .second, .val (.long t2), .second, .val (.long t1), .second, .val (.int nn), .val (.int sel), .val (.long v48), .second, .unset, .unset, .unset] [(.ref a88)])) t → Steps p.tables e below (s₁.setTop (entryFrame m #[(.long p0), (.long p1), (.long p2), (.long p3), (.int p4)] maxLocals)) t := fun t k => pre87 _ (st88 _ k)
        have V88 : Arv Z h88 a88 cA88 .long (2 : Int32) [(.long (0 : Int64)), (.long (0 : Int64))] (.long (0 : Int64)) := (Arv.new A88 (by decide)).pad (pad_rep [] (.long (0 : Int64)) 2)
        have pre90 : ∀ t, Steps p.tables e below (T88.setTop (mkF m 191 #[.val (.long p0), .second, .val (.long p1), .second, .val (.long p2), .second, .val (.long p3), .second, .val (.int p4), .val (.long t0), .second, .val (.long t2), .second, .val (.long t1), .second, .val (.int nn), .val (.int sel), .val (.long v48), .second, .unset, .unset, .unset] [(.long t0), (.int (0 : Int32)), (.ref a88), (.ref a88)])) t → Steps p.tables e below (s₁.setTop (entryFrame m #[(.long p0), (.long p1), (.long p2), (.long p3), (.int p4)] maxLocals)) t := fun t k => pre89 _ (by
          show Steps p.tables e below (T88.setTop (mkF m 187 #[.val (.long p0), .second, .val (.long p1), .second, .val (.long p2), .second, .val (.long p3), .second, .val (.int p4), .val (.long t0), .second, .val (.long t2), .second, .val (.long t1), .second, .val (.int nn), .val (.int sel), .val (.long v48), .second, .unset, .unset, .unset] [(.ref a88)])) _
          refine XS.dup X88.here hx rfl (hb hby at_187) rfl rfl ?_
          show Steps p.tables e below (T88.setTop (mkF m 188 #[.val (.long p0), .second, .val (.long p1), .second, .val (.long p2), .second, .val (.long p3), .second, .val (.int p4), .val (.long t0), .second, .val (.long t2), .second, .val (.long t1), .second, .val (.int nn), .val (.int sel), .val (.long v48), .second, .unset, .unset, .unset] [(.ref a88), (.ref a88)])) _
          refine XT.iconstV X88.here hx rfl (0 : Int32) (hb hby at_188) rfl ?_
          show Steps p.tables e below (T88.setTop (mkF m 189 #[.val (.long p0), .second, .val (.long p1), .second, .val (.long p2), .second, .val (.long p3), .second, .val (.int p4), .val (.long t0), .second, .val (.long t2), .second, .val (.long t1), .second, .val (.int nn), .val (.int sel), .val (.long v48), .second, .unset, .unset, .unset] [(.int (0 : Int32)), (.ref a88), (.ref a88)])) _
          refine XS.lload X88.here hx rfl (hb hby at_189) rfl ?_
          exact k)
        obtain ⟨cl91, Ar91, qc91, Sz91, Mz91, Hs91, Uf91⟩ := (show Arv Z h88 a88 cA88 .long (2 : Int32) [(.long (0 : Int64)), (.long (0 : Int64))] (.long (0 : Int64)) from V88)
        have in92 : ¬ ((0 : Int32) < 0 ∨ cl91.slots.size ≤ ((0 : Int32)).toNatClampNeg) := inb_of Sz91 (by decide)
        obtain ⟨T92, h92, X92, e92, W92, st92⟩ := stJ X88 hx hZ e88 Ar91 (j := (0 : Int32)) in92 (g := (mkF m 191 #[.val (.long p0), .second, .val (.long p1), .second, .val (.long p2), .second, .val (.long p3), .second, .val (.int p4), .val (.long t0), .second, .val (.long t2), .second, .val (.long t1), .second, .val (.int nn), .val (.int sel), .val (.long v48), .second, .unset, .unset, .unset] [(.long t0), (.int (0 : Int32)), (.ref a88), (.ref a88)])) rfl rfl (hb hby at_191)
        have N92 := Fr.snoc X92 N22 ge_a88
        have Z92 : n0 ≤ h92.size := Nat.le_trans Z88 (Keep.of_wr W92).1
        have V92 : Arv Z h92 a88 cA88 .long (2 : Int32) [(.long t0), (.long (0 : Int64))] (.long (0 : Int64)) := Arv.set Ar91 qc91 Sz91 Mz91 Hs91 Uf91 rfl W92 0 (by decide) (by show 0 < 2; decide)
        have pre93 : ∀ t, Steps p.tables e below (T92.setTop (mkF m 192 #[.val (.long p0), .second, .val (.long p1), .second, .val (.long p2), .second, .val (.long p3), .second, .val (.int p4), .val (.long t0), .second, .val (.long t2), .second, .val (.long t1), .second, .val (.int nn), .val (.int sel), .val (.long v48), .second, .unset, .unset, .unset] [(.ref a88)])) t → Steps p.tables e below (s₁.setTop (entryFrame m #[(.long p0), (.long p1), (.long p2), (.long p3), (.int p4)] maxLocals)) t := fun t k => pre90 _ (st92 _ k)
        have pre94 : ∀ t, Steps p.tables e below (T92.setTop (mkF m 196 #[.val (.long p0), .second, .val (.long p1), .second, .val (.long p2), .second, .val (.long p3), .second, .val (.int p4), .val (.long t0), .second, .val (.long t2), .second, .val (.long t1), .second, .val (.int nn), .val (.int sel), .val (.long v48), .second, .unset, .unset, .unset] [(.long t1), (.int (1 : Int32)), (.ref a88), (.ref a88)])) t → Steps p.tables e below (s₁.setTop (entryFrame m #[(.long p0), (.long p1), (.long p2), (.long p3), (.int p4)] maxLocals)) t := fun t k => pre93 _ (by
          show Steps p.tables e below (T92.setTop (mkF m 192 #[.val (.long p0), .second, .val (.long p1), .second, .val (.long p2), .second, .val (.long p3), .second, .val (.int p4), .val (.long t0), .second, .val (.long t2), .second, .val (.long t1), .second, .val (.int nn), .val (.int sel), .val (.long v48), .second, .unset, .unset, .unset] [(.ref a88)])) _
          refine XS.dup X92.here hx rfl (hb hby at_192) rfl rfl ?_
          show Steps p.tables e below (T92.setTop (mkF m 193 #[.val (.long p0), .second, .val (.long p1), .second, .val (.long p2), .second, .val (.long p3), .second, .val (.int p4), .val (.long t0), .second, .val (.long t2), .second, .val (.long t1), .second, .val (.int nn), .val (.int sel), .val (.long v48), .second, .unset, .unset, .unset] [(.ref a88), (.ref a88)])) _
          refine XT.iconstV X92.here hx rfl (1 : Int32) (hb hby at_193) rfl ?_
          show Steps p.tables e below (T92.setTop (mkF m 194 #[.val (.long p0), .second, .val (.long p1), .second, .val (.long p2), .second, .val (.long p3), .second, .val (.int p4), .val (.long t0), .second, .val (.long t2), .second, .val (.long t1), .second, .val (.int nn), .val (.int sel), .val (.long v48), .second, .unset, .unset, .unset] [(.int (1 : Int32)), (.ref a88), (.ref a88)])) _
          refine XS.lload X92.here hx rfl (hb hby at_194) rfl ?_
          exact k)
        obtain ⟨cl95, Ar95, qc95, Sz95, Mz95, Hs95, Uf95⟩ := (show Arv Z h92 a88 cA88 .long (2 : Int32) [(.long t0), (.long (0 : Int64))] (.long (0 : Int64)) from V92)
        have in96 : ¬ ((1 : Int32) < 0 ∨ cl95.slots.size ≤ ((1 : Int32)).toNatClampNeg) := inb_of Sz95 (by decide)
        obtain ⟨T96, h96, X96, e96, W96, st96⟩ := stJ X92 hx hZ e92 Ar95 (j := (1 : Int32)) in96 (g := (mkF m 196 #[.val (.long p0), .second, .val (.long p1), .second, .val (.long p2), .second, .val (.long p3), .second, .val (.int p4), .val (.long t0), .second, .val (.long t2), .second, .val (.long t1), .second, .val (.int nn), .val (.int sel), .val (.long v48), .second, .unset, .unset, .unset] [(.long t1), (.int (1 : Int32)), (.ref a88), (.ref a88)])) rfl rfl (hb hby at_196)
        have N96 := Fr.snoc X96 N92 ge_a88
        have Z96 : n0 ≤ h96.size := Nat.le_trans Z92 (Keep.of_wr W96).1
        have V96 : Arv Z h96 a88 cA88 .long (2 : Int32) [(.long t0), (.long t1)] (.long (0 : Int64)) := Arv.set Ar95 qc95 Sz95 Mz95 Hs95 Uf95 rfl W96 1 (by decide) (by show 1 < 2; decide)
        have pre97 : ∀ t, Steps p.tables e below (T96.setTop (mkF m 197 #[.val (.long p0), .second, .val (.long p1), .second, .val (.long p2), .second, .val (.long p3), .second, .val (.int p4), .val (.long t0), .second, .val (.long t2), .second, .val (.long t1), .second, .val (.int nn), .val (.int sel), .val (.long v48), .second, .unset, .unset, .unset] [(.ref a88)])) t → Steps p.tables e below (s₁.setTop (entryFrame m #[(.long p0), (.long p1), (.long p2), (.long p3), (.int p4)] maxLocals)) t := fun t k => pre94 _ (st96 _ k)
        have pre98 : ∀ t, Steps p.tables e below (T96.setTop (mkF m 236 #[.val (.long p0), .second, .val (.long p1), .second, .val (.long p2), .second, .val (.long p3), .second, .val (.int p4), .val (.long t0), .second, .val (.long t2), .second, .val (.long t1), .second, .val (.int nn), .val (.int sel), .val (.long v48), .second, .val (.ref a88), .val (.int (0 : Int32)), .unset] [(.int (XT.cmpL v48 t0))])) t → Steps p.tables e below (s₁.setTop (entryFrame m #[(.long p0), (.long p1), (.long p2), (.long p3), (.int p4)] maxLocals)) t := fun t k => pre97 _ (by
          show Steps p.tables e below (T96.setTop (mkF m 197 #[.val (.long p0), .second, .val (.long p1), .second, .val (.long p2), .second, .val (.long p3), .second, .val (.int p4), .val (.long t0), .second, .val (.long t2), .second, .val (.long t1), .second, .val (.int nn), .val (.int sel), .val (.long v48), .second, .unset, .unset, .unset] [(.ref a88)])) _
          refine XS.astore X96.here hx rfl (hb hby at_197) rfl rfl (l' := #[.val (.long p0), .second, .val (.long p1), .second, .val (.long p2), .second, .val (.long p3), .second, .val (.int p4), .val (.long t0), .second, .val (.long t2), .second, .val (.long t1), .second, .val (.int nn), .val (.int sel), .val (.long v48), .second, .val (.ref a88), .unset, .unset]) rfl ?_
          show Steps p.tables e below (T96.setTop (mkF m 199 #[.val (.long p0), .second, .val (.long p1), .second, .val (.long p2), .second, .val (.long p3), .second, .val (.int p4), .val (.long t0), .second, .val (.long t2), .second, .val (.long t1), .second, .val (.int nn), .val (.int sel), .val (.long v48), .second, .val (.ref a88), .unset, .unset] [])) _
          refine XS.goto X96.here hx rfl (pc0 := 199) (pc' := 222) rfl (hb hby at_199) (by decide) (by decide) ?_
          show Steps p.tables e below (T96.setTop (mkF m 222 #[.val (.long p0), .second, .val (.long p1), .second, .val (.long p2), .second, .val (.long p3), .second, .val (.int p4), .val (.long t0), .second, .val (.long t2), .second, .val (.long t1), .second, .val (.int nn), .val (.int sel), .val (.long v48), .second, .val (.ref a88), .unset, .unset] [])) _
          refine XT.iconstV X96.here hx rfl (0 : Int32) (hb hby at_222) rfl ?_
          show Steps p.tables e below (T96.setTop (mkF m 223 #[.val (.long p0), .second, .val (.long p1), .second, .val (.long p2), .second, .val (.long p3), .second, .val (.int p4), .val (.long t0), .second, .val (.long t2), .second, .val (.long t1), .second, .val (.int nn), .val (.int sel), .val (.long v48), .second, .val (.ref a88), .unset, .unset] [(.int (0 : Int32))])) _
          refine XS.istore X96.here hx rfl (hb hby at_223) rfl (l' := #[.val (.long p0), .second, .val (.long p1), .second, .val (.long p2), .second, .val (.long p3), .second, .val (.int p4), .val (.long t0), .second, .val (.long t2), .second, .val (.long t1), .second, .val (.int nn), .val (.int sel), .val (.long v48), .second, .val (.ref a88), .val (.int (0 : Int32)), .unset]) rfl ?_
          show Steps p.tables e below (T96.setTop (mkF m 225 #[.val (.long p0), .second, .val (.long p1), .second, .val (.long p2), .second, .val (.long p3), .second, .val (.int p4), .val (.long t0), .second, .val (.long t2), .second, .val (.long t1), .second, .val (.int nn), .val (.int sel), .val (.long v48), .second, .val (.ref a88), .val (.int (0 : Int32)), .unset] [])) _
          refine XS.iload X96.here hx rfl (hb hby at_225) rfl ?_
          show Steps p.tables e below (T96.setTop (mkF m 227 #[.val (.long p0), .second, .val (.long p1), .second, .val (.long p2), .second, .val (.long p3), .second, .val (.int p4), .val (.long t0), .second, .val (.long t2), .second, .val (.long t1), .second, .val (.int nn), .val (.int sel), .val (.long v48), .second, .val (.ref a88), .val (.int (0 : Int32)), .unset] [(.int nn)])) _
          refine XT.iconstV X96.here hx rfl (1 : Int32) (hb hby at_227) rfl ?_
          show Steps p.tables e below (T96.setTop (mkF m 228 #[.val (.long p0), .second, .val (.long p1), .second, .val (.long p2), .second, .val (.long p3), .second, .val (.int p4), .val (.long t0), .second, .val (.long t2), .second, .val (.long t1), .second, .val (.int nn), .val (.int sel), .val (.long v48), .second, .val (.ref a88), .val (.int (0 : Int32)), .unset] [(.int (1 : Int32)), (.int nn)])) _
          refine XS.icmpNo X96.here hx rfl (hb hby at_228) rfl (XT.ii_lt_f (by rw [hn]; decide)) ?_
          show Steps p.tables e below (T96.setTop (mkF m 231 #[.val (.long p0), .second, .val (.long p1), .second, .val (.long p2), .second, .val (.long p3), .second, .val (.int p4), .val (.long t0), .second, .val (.long t2), .second, .val (.long t1), .second, .val (.int nn), .val (.int sel), .val (.long v48), .second, .val (.ref a88), .val (.int (0 : Int32)), .unset] [])) _
          refine XS.lload X96.here hx rfl (hb hby at_231) rfl ?_
          show Steps p.tables e below (T96.setTop (mkF m 233 #[.val (.long p0), .second, .val (.long p1), .second, .val (.long p2), .second, .val (.long p3), .second, .val (.int p4), .val (.long t0), .second, .val (.long t2), .second, .val (.long t1), .second, .val (.int nn), .val (.int sel), .val (.long v48), .second, .val (.ref a88), .val (.int (0 : Int32)), .unset] [(.long v48)])) _
          refine XS.lload X96.here hx rfl (hb hby at_233) rfl ?_
          show Steps p.tables e below (T96.setTop (mkF m 235 #[.val (.long p0), .second, .val (.long p1), .second, .val (.long p2), .second, .val (.long p3), .second, .val (.int p4), .val (.long t0), .second, .val (.long t2), .second, .val (.long t1), .second, .val (.int nn), .val (.int sel), .val (.long v48), .second, .val (.ref a88), .val (.int (0 : Int32)), .unset] [(.long t0), (.long v48)])) _
          refine XT.lcmp X96.here hx rfl (hb hby at_235) rfl ?_
          exact k)
        obtain ⟨v100, hv100⟩ : ∃ z : Int32, z = (if v48 < t0 then (0 : Int32) else (1 : Int32)) := ⟨_, rfl⟩
        have pre101 : ∀ t, Steps p.tables e below (T96.setTop (mkF m 245 #[.val (.long p0), .second, .val (.long p1), .second, .val (.long p2), .second, .val (.long p3), .second, .val (.int p4), .val (.long t0), .second, .val (.long t2), .second, .val (.long t1), .second, .val (.int nn), .val (.int sel), .val (.long v48), .second, .val (.ref a88), .val (.int v100), .unset] [])) t → Steps p.tables e below (s₁.setTop (entryFrame m #[(.long p0), (.long p1), (.long p2), (.long p3), (.int p4)] maxLocals)) t := fun t k => pre98 _ (by
          by_cases c236_99 : v48 < t0
          · rw [show v100 = _ from hv100.trans (if_pos c236_99)] at k
            show Steps p.tables e below (T96.setTop (mkF m 236 #[.val (.long p0), .second, .val (.long p1), .second, .val (.long p2), .second, .val (.long p3), .second, .val (.int p4), .val (.long t0), .second, .val (.long t2), .second, .val (.long t1), .second, .val (.int nn), .val (.int sel), .val (.long v48), .second, .val (.ref a88), .val (.int (0 : Int32)), .unset] [(.int (XT.cmpL v48 t0))])) _
            refine XS.ifYes X96.here hx rfl (pc0 := 236) (pc' := 245) rfl (hb hby at_236) rfl (XT.ll_lt_t c236_99) (by decide) (by decide) ?_
            exact k
          · rw [show v100 = _ from hv100.trans (if_neg c236_99)] at k
            show Steps p.tables e below (T96.setTop (mkF m 236 #[.val (.long p0), .second, .val (.long p1), .second, .val (.long p2), .second, .val (.long p3), .second, .val (.int p4), .val (.long t0), .second, .val (.long t2), .second, .val (.long t1), .second, .val (.int nn), .val (.int sel), .val (.long v48), .second, .val (.ref a88), .val (.int (0 : Int32)), .unset] [(.int (XT.cmpL v48 t0))])) _
            refine XS.ifNo X96.here hx rfl (hb hby at_236) rfl (XT.ll_lt_f c236_99) ?_
            show Steps p.tables e below (T96.setTop (mkF m 239 #[.val (.long p0), .second, .val (.long p1), .second, .val (.long p2), .second, .val (.long p3), .second, .val (.int p4), .val (.long t0), .second, .val (.long t2), .second, .val (.long t1), .second, .val (.int nn), .val (.int sel), .val (.long v48), .second, .val (.ref a88), .val (.int (0 : Int32)), .unset] [])) _
            refine XS.iload X96.here hx rfl (hb hby at_239) rfl ?_
            show Steps p.tables e below (T96.setTop (mkF m 241 #[.val (.long p0), .second, .val (.long p1), .second, .val (.long p2), .second, .val (.long p3), .second, .val (.int p4), .val (.long t0), .second, .val (.long t2), .second, .val (.long t1), .second, .val (.int nn), .val (.int sel), .val (.long v48), .second, .val (.ref a88), .val (.int (0 : Int32)), .unset] [(.int (0 : Int32))])) _
            refine XT.iconstV X96.here hx rfl (1 : Int32) (hb hby at_241) rfl ?_
            show Steps p.tables e below (T96.setTop (mkF m 242 #[.val (.long p0), .second, .val (.long p1), .second, .val (.long p2), .second, .val (.long p3), .second, .val (.int p4), .val (.long t0), .second, .val (.long t2), .second, .val (.long t1), .second, .val (.int nn), .val (.int sel), .val (.long v48), .second, .val (.ref a88), .val (.int (0 : Int32)), .unset] [(.int (1 : Int32)), (.int (0 : Int32))])) _
            refine XS.iadd X96.here hx rfl (hb hby at_242) rfl ?_
            show Steps p.tables e below (T96.setTop (mkF m 243 #[.val (.long p0), .second, .val (.long p1), .second, .val (.long p2), .second, .val (.long p3), .second, .val (.int p4), .val (.long t0), .second, .val (.long t2), .second, .val (.long t1), .second, .val (.int nn), .val (.int sel), .val (.long v48), .second, .val (.ref a88), .val (.int (0 : Int32)), .unset] [(.int (1 : Int32))])) _
            refine XS.istore X96.here hx rfl (hb hby at_243) rfl (l' := #[.val (.long p0), .second, .val (.long p1), .second, .val (.long p2), .second, .val (.long p3), .second, .val (.int p4), .val (.long t0), .second, .val (.long t2), .second, .val (.long t1), .second, .val (.int nn), .val (.int sel), .val (.long v48), .second, .val (.ref a88), .val (.int (1 : Int32)), .unset]) rfl ?_
            exact k)
        have pre102 : ∀ t, Steps p.tables e below (T96.setTop (mkF m 256 #[.val (.long p0), .second, .val (.long p1), .second, .val (.long p2), .second, .val (.long p3), .second, .val (.int p4), .val (.long t0), .second, .val (.long t2), .second, .val (.long t1), .second, .val (.int nn), .val (.int sel), .val (.long v48), .second, .val (.ref a88), .val (.int v100), .unset] [(.int (XT.cmpL v48 t1))])) t → Steps p.tables e below (s₁.setTop (entryFrame m #[(.long p0), (.long p1), (.long p2), (.long p3), (.int p4)] maxLocals)) t := fun t k => pre101 _ (by
          show Steps p.tables e below (T96.setTop (mkF m 245 #[.val (.long p0), .second, .val (.long p1), .second, .val (.long p2), .second, .val (.long p3), .second, .val (.int p4), .val (.long t0), .second, .val (.long t2), .second, .val (.long t1), .second, .val (.int nn), .val (.int sel), .val (.long v48), .second, .val (.ref a88), .val (.int v100), .unset] [])) _
          refine XS.iload X96.here hx rfl (hb hby at_245) rfl ?_
          show Steps p.tables e below (T96.setTop (mkF m 247 #[.val (.long p0), .second, .val (.long p1), .second, .val (.long p2), .second, .val (.long p3), .second, .val (.int p4), .val (.long t0), .second, .val (.long t2), .second, .val (.long t1), .second, .val (.int nn), .val (.int sel), .val (.long v48), .second, .val (.ref a88), .val (.int v100), .unset] [(.int nn)])) _
          refine XT.iconstV X96.here hx rfl (2 : Int32) (hb hby at_247) rfl ?_
          show Steps p.tables e below (T96.setTop (mkF m 248 #[.val (.long p0), .second, .val (.long p1), .second, .val (.long p2), .second, .val (.long p3), .second, .val (.int p4), .val (.long t0), .second, .val (.long t2), .second, .val (.long t1), .second, .val (.int nn), .val (.int sel), .val (.long v48), .second, .val (.ref a88), .val (.int v100), .unset] [(.int (2 : Int32)), (.int nn)])) _
          refine XS.icmpNo X96.here hx rfl (hb hby at_248) rfl (XT.ii_lt_f (by rw [hn]; decide)) ?_
          show Steps p.tables e below (T96.setTop (mkF m 251 #[.val (.long p0), .second, .val (.long p1), .second, .val (.long p2), .second, .val (.long p3), .second, .val (.int p4), .val (.long t0), .second, .val (.long t2), .second, .val (.long t1), .second, .val (.int nn), .val (.int sel), .val (.long v48), .second, .val (.ref a88), .val (.int v100), .unset] [])) _
          refine XS.lload X96.here hx rfl (hb hby at_251) rfl ?_
          show Steps p.tables e below (T96.setTop (mkF m 253 #[.val (.long p0), .second, .val (.long p1), .second, .val (.long p2), .second, .val (.long p3), .second, .val (.int p4), .val (.long t0), .second, .val (.long t2), .second, .val (.long t1), .second, .val (.int nn), .val (.int sel), .val (.long v48), .second, .val (.ref a88), .val (.int v100), .unset] [(.long v48)])) _
          refine XS.lload X96.here hx rfl (hb hby at_253) rfl ?_
          show Steps p.tables e below (T96.setTop (mkF m 255 #[.val (.long p0), .second, .val (.long p1), .second, .val (.long p2), .second, .val (.long p3), .second, .val (.int p4), .val (.long t0), .second, .val (.long t2), .second, .val (.long t1), .second, .val (.int nn), .val (.int sel), .val (.long v48), .second, .val (.ref a88), .val (.int v100), .unset] [(.long t1), (.long v48)])) _
          refine XT.lcmp X96.here hx rfl (hb hby at_255) rfl ?_
          exact k)
        obtain ⟨v104, hv104⟩ : ∃ z : Int32, z = (if v48 < t1 then v100 else (v100 + (1 : Int32))) := ⟨_, rfl⟩
        have pre105 : ∀ t, Steps p.tables e below (T96.setTop (mkF m 265 #[.val (.long p0), .second, .val (.long p1), .second, .val (.long p2), .second, .val (.long p3), .second, .val (.int p4), .val (.long t0), .second, .val (.long t2), .second, .val (.long t1), .second, .val (.int nn), .val (.int sel), .val (.long v48), .second, .val (.ref a88), .val (.int v104), .unset] [])) t → Steps p.tables e below (s₁.setTop (entryFrame m #[(.long p0), (.long p1), (.long p2), (.long p3), (.int p4)] maxLocals)) t := fun t k => pre102 _ (by
          by_cases c256_103 : v48 < t1
          · rw [show v104 = _ from hv104.trans (if_pos c256_103)] at k
            show Steps p.tables e below (T96.setTop (mkF m 256 #[.val (.long p0), .second, .val (.long p1), .second, .val (.long p2), .second, .val (.long p3), .second, .val (.int p4), .val (.long t0), .second, .val (.long t2), .second, .val (.long t1), .second, .val (.int nn), .val (.int sel), .val (.long v48), .second, .val (.ref a88), .val (.int v100), .unset] [(.int (XT.cmpL v48 t1))])) _
            refine XS.ifYes X96.here hx rfl (pc0 := 256) (pc' := 265) rfl (hb hby at_256) rfl (XT.ll_lt_t c256_103) (by decide) (by decide) ?_
            exact k
          · rw [show v104 = _ from hv104.trans (if_neg c256_103)] at k
            show Steps p.tables e below (T96.setTop (mkF m 256 #[.val (.long p0), .second, .val (.long p1), .second, .val (.long p2), .second, .val (.long p3), .second, .val (.int p4), .val (.long t0), .second, .val (.long t2), .second, .val (.long t1), .second, .val (.int nn), .val (.int sel), .val (.long v48), .second, .val (.ref a88), .val (.int v100), .unset] [(.int (XT.cmpL v48 t1))])) _
            refine XS.ifNo X96.here hx rfl (hb hby at_256) rfl (XT.ll_lt_f c256_103) ?_
            show Steps p.tables e below (T96.setTop (mkF m 259 #[.val (.long p0), .second, .val (.long p1), .second, .val (.long p2), .second, .val (.long p3), .second, .val (.int p4), .val (.long t0), .second, .val (.long t2), .second, .val (.long t1), .second, .val (.int nn), .val (.int sel), .val (.long v48), .second, .val (.ref a88), .val (.int v100), .unset] [])) _
            refine XS.iload X96.here hx rfl (hb hby at_259) rfl ?_
            show Steps p.tables e below (T96.setTop (mkF m 261 #[.val (.long p0), .second, .val (.long p1), .second, .val (.long p2), .second, .val (.long p3), .second, .val (.int p4), .val (.long t0), .second, .val (.long t2), .second, .val (.long t1), .second, .val (.int nn), .val (.int sel), .val (.long v48), .second, .val (.ref a88), .val (.int v100), .unset] [(.int v100)])) _
            refine XT.iconstV X96.here hx rfl (1 : Int32) (hb hby at_261) rfl ?_
            show Steps p.tables e below (T96.setTop (mkF m 262 #[.val (.long p0), .second, .val (.long p1), .second, .val (.long p2), .second, .val (.long p3), .second, .val (.int p4), .val (.long t0), .second, .val (.long t2), .second, .val (.long t1), .second, .val (.int nn), .val (.int sel), .val (.long v48), .second, .val (.ref a88), .val (.int v100), .unset] [(.int (1 : Int32)), (.int v100)])) _
            refine XS.iadd X96.here hx rfl (hb hby at_262) rfl ?_
            show Steps p.tables e below (T96.setTop (mkF m 263 #[.val (.long p0), .second, .val (.long p1), .second, .val (.long p2), .second, .val (.long p3), .second, .val (.int p4), .val (.long t0), .second, .val (.long t2), .second, .val (.long t1), .second, .val (.int nn), .val (.int sel), .val (.long v48), .second, .val (.ref a88), .val (.int v100), .unset] [(.int (v100 + (1 : Int32)))])) _
            refine XS.istore X96.here hx rfl (hb hby at_263) rfl (l' := #[.val (.long p0), .second, .val (.long p1), .second, .val (.long p2), .second, .val (.long p3), .second, .val (.int p4), .val (.long t0), .second, .val (.long t2), .second, .val (.long t1), .second, .val (.int nn), .val (.int sel), .val (.long v48), .second, .val (.ref a88), .val (.int (v100 + (1 : Int32))), .unset]) rfl ?_
            exact k)
        have pre106 : ∀ t, Steps p.tables e below (T96.setTop (mkF m 285 #[.val (.long p0), .second, .val (.long p1), .second, .val (.long p2), .second, .val (.long p3), .second, .val (.int p4), .val (.long t0), .second, .val (.long t2), .second, .val (.long t1), .second, .val (.int nn), .val (.int sel), .val (.long v48), .second, .val (.ref a88), .val (.int v104), .unset] [])) t → Steps p.tables e below (s₁.setTop (entryFrame m #[(.long p0), (.long p1), (.long p2), (.long p3), (.int p4)] maxLocals)) t := fun t k => pre105 _ (by
          show Steps p.tables e below (T96.setTop (mkF m 265 #[.val (.long p0), .second, .val (.long p1), .second, .val (.long p2), .second, .val (.long p3), .second, .val (.int p4), .val (.long t0), .second, .val (.long t2), .second, .val (.long t1), .second, .val (.int nn), .val (.int sel), .val (.long v48), .second, .val (.ref a88), .val (.int v104), .unset] [])) _
          refine XS.iload X96.here hx rfl (hb hby at_265) rfl ?_
          show Steps p.tables e below (T96.setTop (mkF m 267 #[.val (.long p0), .second, .val (.long p1), .second, .val (.long p2), .second, .val (.long p3), .second, .val (.int p4), .val (.long t0), .second, .val (.long t2), .second, .val (.long t1), .second, .val (.int nn), .val (.int sel), .val (.long v48), .second, .val (.ref a88), .val (.int v104), .unset] [(.int nn)])) _
          refine XT.iconstV X96.here hx rfl (3 : Int32) (hb hby at_267) rfl ?_
          show Steps p.tables e below (T96.setTop (mkF m 268 #[.val (.long p0), .second, .val (.long p1), .second, .val (.long p2), .second, .val (.long p3), .second, .val (.int p4), .val (.long t0), .second, .val (.long t2), .second, .val (.long t1), .second, .val (.int nn), .val (.int sel), .val (.long v48), .second, .val (.ref a88), .val (.int v104), .unset] [(.int (3 : Int32)), (.int nn)])) _
          refine XS.icmpYes X96.here hx rfl (pc0 := 268) (pc' := 285) rfl (hb hby at_268) rfl (XT.ii_lt_t (by rw [hn]; decide)) (by decide) (by decide) ?_
          exact k)
        obtain ⟨T107, h107, X107, e107, E107, A107, D107, -, st107⟩ := newO X96 hx hZ hown (hw _ (List.mem_of_getElem? (i := 8) rfl)) (hw _ (List.mem_of_getElem? (i := 9) rfl)) (hw _ (List.mem_of_getElem? (i := 10) rfl)) e96 (g := (mkF m 285 #[.val (.long p0), .second, .val (.long p1), .second, .val (.long p2), .second, .val (.long p3), .second, .val (.int p4), .val (.long t0), .second, .val (.long t2), .second, .val (.long t1), .second, .val (.int nn), .val (.int sel), .val (.long v48), .second, .val (.ref a88), .val (.int v104), .unset] [])) rfl (hb hby at_285) (by decide) (by decide)
        obtain ⟨a107, ga107⟩ : ∃ z, z = h96.size := ⟨_, rfl⟩
        rw [← ga107] at A107 D107 st107
        have lt_a88_a107 : a88 < a107 := Nat.lt_of_lt_of_eq ((B88.wr W92).wr W96).lt ga107.symm
        have ne_a88_a107 : a88 ≠ a107 := Nat.ne_of_lt lt_a88_a107
        have ge_a107 : n0 ≤ a107 := Nat.le_trans Z96 (Nat.le_of_eq ga107.symm)
        have F107_lowest : Fld Z h107 a107 "com/example/roundkeeper/roundkeeper/rules/Bands" "lowest" "[J" .null := D107 (Or.inr (hw _ (List.mem_of_getElem? (i := 27) rfl))) (ty := (.array .long)) (by decide)
        have Z107 : n0 ≤ h107.size := Nat.le_trans Z96 E107.1
        have pre108 : ∀ t, Steps p.tables e below (T107.setTop (mkF m 288 #[.val (.long p0), .second, .val (.long p1), .second, .val (.long p2), .second, .val (.long p3), .second, .val (.int p4), .val (.long t0), .second, .val (.long t2), .second, .val (.long t1), .second, .val (.int nn), .val (.int sel), .val (.long v48), .second, .val (.ref a88), .val (.int v104), .unset] [(.ref a107)])) t → Steps p.tables e below (s₁.setTop (entryFrame m #[(.long p0), (.long p1), (.long p2), (.long p3), (.int p4)] maxLocals)) t := fun t k => pre106 _ (st107 _ k)
        have pre109 : ∀ t, Steps p.tables e below (T107.setTop (mkF m 291 #[.val (.long p0), .second, .val (.long p1), .second, .val (.long p2), .second, .val (.long p3), .second, .val (.int p4), .val (.long t0), .second, .val (.long t2), .second, .val (.long t1), .second, .val (.int nn), .val (.int sel), .val (.long v48), .second, .val (.ref a88), .val (.int v104), .unset] [(.ref a88), (.ref a107), (.ref a107)])) t → Steps p.tables e below (s₁.setTop (entryFrame m #[(.long p0), (.long p1), (.long p2), (.long p3), (.int p4)] maxLocals)) t := fun t k => pre108 _ (by
          show Steps p.tables e below (T107.setTop (mkF m 288 #[.val (.long p0), .second, .val (.long p1), .second, .val (.long p2), .second, .val (.long p3), .second, .val (.int p4), .val (.long t0), .second, .val (.long t2), .second, .val (.long t1), .second, .val (.int nn), .val (.int sel), .val (.long v48), .second, .val (.ref a88), .val (.int v104), .unset] [(.ref a107)])) _
          refine XS.dup X107.here hx rfl (hb hby at_288) rfl rfl ?_
          show Steps p.tables e below (T107.setTop (mkF m 289 #[.val (.long p0), .second, .val (.long p1), .second, .val (.long p2), .second, .val (.long p3), .second, .val (.int p4), .val (.long t0), .second, .val (.long t2), .second, .val (.long t1), .second, .val (.int nn), .val (.int sel), .val (.long v48), .second, .val (.ref a88), .val (.int v104), .unset] [(.ref a107), (.ref a107)])) _
          refine XS.aload X107.here hx rfl (hb hby at_289) rfl rfl ?_
          exact k)
        obtain ⟨_, _, ⟨T110, L110, k110, n110⟩, -, X110, ⟨Lc110, hQ110, l110, y110, z110⟩, st110⟩ := X107.specialBack hx (y := (⟨"com/example/roundkeeper/roundkeeper/rules/Bands", "<init>", "([J)V"⟩ : MethodName)) rfl hown (mvT hZ (hw _ (List.mem_of_getElem? (i := 11) rfl))) (mvT hZ (hw _ (List.mem_of_getElem? (i := 12) rfl))) (mvT hZ (hw _ (List.mem_of_getElem? (i := 13) rfl))) (by decide) (backOf (W := 1) (own_ctor l Z a0 hw [] a107 a88 cA88 (2 : Int32) [(.long t0), (.long t1)] h107 n0 Z107 F107_lowest A107 (V96.ext E107) (((B88.wr W92).wr W96).ext E107) ge_a107 (by decide)) hZ (hw _ (List.mem_of_getElem? (i := 13) rfl)) (hw _ (List.mem_of_getElem? (i := 10) rfl)) (by decide) (by decide)) (g := (mkF m 291 #[.val (.long p0), .second, .val (.long p1), .second, .val (.long p2), .second, .val (.long p3), .second, .val (.int p4), .val (.long t0), .second, .val (.long t2), .second, .val (.long t1), .second, .val (.int nn), .val (.int sel), .val (.long v48), .second, .val (.ref a88), .val (.int v104), .unset] [(.ref a88), (.ref a107), (.ref a107)])) rfl (by rw [hml]; rfl) (Steps.refl _) (a := a107) (argsL := [(.ref a88)]) (rest := [(.ref a107)]) (lenOf own_pd___J_V rfl) rfl (by show 2 * 0 + _ ≤ _; exact Nat.le_of_eq rfl) (hb hby at_291) (fun _ _ => ⟨rfl, e107, (by decide : 2 + 1 ≤ _), (by decide : 3 + 3 ≤ _)⟩)
        dsimp only [Pt.U, Pt.locs, Pt.cells, Pt.slots] at X110 l110 y110 z110 st110 hQ110
        subst l110 y110 z110
        obtain ⟨h110, e110⟩ : ∃ z, T110.heap = z := ⟨_, rfl⟩
        rw [e110] at hQ110
        obtain ⟨rfl, N110q, K110, EX110, ta, FT110, VT110⟩ := hQ110
        have Z110 : n0 ≤ h110.size := Nat.le_trans Z107 K110.1
        have N110 := Fr.app N96 N110q
        have pre111 : ∀ t, Steps p.tables e below (T110.setTop (mkF m 294 #[.val (.long p0), .second, .val (.long p1), .second, .val (.long p2), .second, .val (.long p3), .second, .val (.int p4), .val (.long t0), .second, .val (.long t2), .second, .val (.long t1), .second, .val (.int nn), .val (.int sel), .val (.long v48), .second, .val (.ref a88), .val (.int v104), .unset] [(.ref a107)])) t → Steps p.tables e below (s₁.setTop (entryFrame m #[(.long p0), (.long p1), (.long p2), (.long p3), (.int p4)] maxLocals)) t := fun t k => pre109 _ (st110.trans k)
        have pre112 : ∀ t, Steps p.tables e below (T110.setTop (mkF m 300 #[.val (.long p0), .second, .val (.long p1), .second, .val (.long p2), .second, .val (.long p3), .second, .val (.int p4), .val (.long t0), .second, .val (.long t2), .second, .val (.long t1), .second, .val (.int nn), .val (.int sel), .val (.long v48), .second, .val (.ref a88), .val (.int v104), .val (.ref a107)] [(.long v48), (.ref a107)])) t → Steps p.tables e below (s₁.setTop (entryFrame m #[(.long p0), (.long p1), (.long p2), (.long p3), (.int p4)] maxLocals)) t := fun t k => pre111 _ (by
          show Steps p.tables e below (T110.setTop (mkF m 294 #[.val (.long p0), .second, .val (.long p1), .second, .val (.long p2), .second, .val (.long p3), .second, .val (.int p4), .val (.long t0), .second, .val (.long t2), .second, .val (.long t1), .second, .val (.int nn), .val (.int sel), .val (.long v48), .second, .val (.ref a88), .val (.int v104), .unset] [(.ref a107)])) _
          refine XS.astore X110.here hx rfl (hb hby at_294) rfl rfl (l' := #[.val (.long p0), .second, .val (.long p1), .second, .val (.long p2), .second, .val (.long p3), .second, .val (.int p4), .val (.long t0), .second, .val (.long t2), .second, .val (.long t1), .second, .val (.int nn), .val (.int sel), .val (.long v48), .second, .val (.ref a88), .val (.int v104), .val (.ref a107)]) rfl ?_
          show Steps p.tables e below (T110.setTop (mkF m 296 #[.val (.long p0), .second, .val (.long p1), .second, .val (.long p2), .second, .val (.long p3), .second, .val (.int p4), .val (.long t0), .second, .val (.long t2), .second, .val (.long t1), .second, .val (.int nn), .val (.int sel), .val (.long v48), .second, .val (.ref a88), .val (.int v104), .val (.ref a107)] [])) _
          refine XS.aload X110.here hx rfl (hb hby at_296) rfl rfl ?_
          show Steps p.tables e below (T110.setTop (mkF m 298 #[.val (.long p0), .second, .val (.long p1), .second, .val (.long p2), .second, .val (.long p3), .second, .val (.int p4), .val (.long t0), .second, .val (.long t2), .second, .val (.long t1), .second, .val (.int nn), .val (.int sel), .val (.long v48), .second, .val (.ref a88), .val (.int v104), .val (.ref a107)] [(.ref a107)])) _
          refine XS.lload X110.here hx rfl (hb hby at_298) rfl ?_
          exact k)
        obtain ⟨cq113, kq113, q113a, q113b, q113c⟩ := isOf hZ e110 EX110
        obtain ⟨_, _, ⟨T113, L113, k113, n113⟩, -, X113, ⟨Lc113, hQ113, l113, y113, z113⟩, st113⟩ := X110.virtualBack hx (y := (⟨"com/example/roundkeeper/roundkeeper/rules/Bands", "of", "(J)I"⟩ : MethodName)) (z := (⟨"com/example/roundkeeper/roundkeeper/rules/Bands", "of", "(J)I"⟩ : MethodName)) hown (mvT hZ (hw _ (List.mem_of_getElem? (i := 28) rfl))) (mvT hZ (hw _ (List.mem_of_getElem? (i := 29) rfl))) (notFace_of_selects (args := #[]) (mvT hZ (hw _ (List.mem_of_getElem? (i := 31) rfl)))) (mvT hZ (hw _ (List.mem_of_getElem? (i := 31) rfl))) (mvT hZ (hw _ (List.mem_of_getElem? (i := 30) rfl))) (by decide) (backOf (W := 0) (own_of2 l Z a0 hw [] a107 v48 ta cA88 t0 t1 h110 n0 Z110 FT110 VT110) hZ (hw _ (List.mem_of_getElem? (i := 32) rfl)) (hw _ (List.mem_of_getElem? (i := 10) rfl)) (by decide) (by decide)) q113a q113c (g := (mkF m 300 #[.val (.long p0), .second, .val (.long p1), .second, .val (.long p2), .second, .val (.long p3), .second, .val (.int p4), .val (.long t0), .second, .val (.long t2), .second, .val (.long t1), .second, .val (.int nn), .val (.int sel), .val (.long v48), .second, .val (.ref a88), .val (.int v104), .val (.ref a107)] [(.long v48), (.ref a107)])) rfl (by rw [hml]; rfl) (Steps.refl _) (argsL := [(.long v48)]) (rest := []) (lenOf own_pd__J_I rfl) rfl (by show 2 * 0 + _ ≤ _; exact Nat.le_of_eq rfl) (hb hby at_300) (fun _ _ => ⟨rfl, e110, (by decide : 3 + 0 ≤ _), (by decide : 6 + 0 ≤ _)⟩)
        dsimp only [Pt.U, Pt.locs, Pt.cells, Pt.slots] at X113 l113 y113 z113 st113 hQ113
        subst l113 y113 z113
        obtain ⟨rfl, N113q, e113⟩ := hQ113
        have N113 := Fr.app N110 N113q
        have pre114 : ∀ t, Steps p.tables e below (T113.setTop (mkF m 303 #[.val (.long p0), .second, .val (.long p1), .second, .val (.long p2), .second, .val (.long p3), .second, .val (.int p4), .val (.long t0), .second, .val (.long t2), .second, .val (.long t1), .second, .val (.int nn), .val (.int sel), .val (.long v48), .second, .val (.ref a88), .val (.int v104), .val (.ref a107)] [(.int (own_of [t0, t1] v48))])) t → Steps p.tables e below (s₁.setTop (entryFrame m #[(.long p0), (.long p1), (.long p2), (.long p3), (.int p4)] maxLocals)) t := fun t k => pre112 _ (st113.trans k)
        have pre115 : ∀ t, Steps p.tables e below (T113.setTop (mkF m 313 #[.val (.long p0), .second, .val (.long p1), .second, .val (.long p2), .second, .val (.long p3), .second, .val (.int p4), .val (.long t0), .second, .val (.long t2), .second, .val (.long t1), .second, .val (.int nn), .val (.int sel), .val (.long v48), .second, .val (.ref a88), .val (.int v104), .val (.ref a107)] [(.int (1 : Int32))])) t → Steps p.tables e below (s₁.setTop (entryFrame m #[(.long p0), (.long p1), (.long p2), (.long p3), (.int p4)] maxLocals)) t := fun t k => pre114 _ (by
          show Steps p.tables e below (T113.setTop (mkF m 303 #[.val (.long p0), .second, .val (.long p1), .second, .val (.long p2), .second, .val (.long p3), .second, .val (.int p4), .val (.long t0), .second, .val (.long t2), .second, .val (.long t1), .second, .val (.int nn), .val (.int sel), .val (.long v48), .second, .val (.ref a88), .val (.int v104), .val (.ref a107)] [(.int (own_of [t0, t1] v48))])) _
          refine XS.iload X113.here hx rfl (hb hby at_303) rfl ?_
          show Steps p.tables e below (T113.setTop (mkF m 305 #[.val (.long p0), .second, .val (.long p1), .second, .val (.long p2), .second, .val (.long p3), .second, .val (.int p4), .val (.long t0), .second, .val (.long t2), .second, .val (.long t1), .second, .val (.int nn), .val (.int sel), .val (.long v48), .second, .val (.ref a88), .val (.int v104), .val (.ref a107)] [(.int v104), (.int (own_of [t0, t1] v48))])) _
          refine XS.icmpNo X113.here hx rfl (hb hby at_305) rfl (XT.ii_ne_f (own_c2 s01 hv100 hv104)) ?_
          show Steps p.tables e below (T113.setTop (mkF m 308 #[.val (.long p0), .second, .val (.long p1), .second, .val (.long p2), .second, .val (.long p3), .second, .val (.int p4), .val (.long t0), .second, .val (.long t2), .second, .val (.long t1), .second, .val (.int nn), .val (.int sel), .val (.long v48), .second, .val (.ref a88), .val (.int v104), .val (.ref a107)] [])) _
          refine XT.iconstV X113.here hx rfl (1 : Int32) (hb hby at_308) rfl ?_
          show Steps p.tables e below (T113.setTop (mkF m 309 #[.val (.long p0), .second, .val (.long p1), .second, .val (.long p2), .second, .val (.long p3), .second, .val (.int p4), .val (.long t0), .second, .val (.long t2), .second, .val (.long t1), .second, .val (.int nn), .val (.int sel), .val (.long v48), .second, .val (.ref a88), .val (.int v104), .val (.ref a107)] [(.int (1 : Int32))])) _
          refine XS.goto X113.here hx rfl (pc0 := 309) (pc' := 313) rfl (hb hby at_309) (by decide) (by decide) ?_
          exact k)
        obtain ⟨fs, hr, hrun, hended, hW, hsame⟩ := X113.leave (v := some (.int (1 : Int32))) (fun h => by rw [Bd.returns] at h; cases h)
        refine ⟨_, _, pre115 _ ?_, hrun, hended, _, _, rfl, ?_, ⟨_, rfl⟩, hW, hsame.mono (by decide) (by decide)⟩
        · show Steps p.tables e below (T113.setTop (mkF m 313 #[.val (.long p0), .second, .val (.long p1), .second, .val (.long p2), .second, .val (.long p3), .second, .val (.int p4), .val (.long t0), .second, .val (.long t2), .second, .val (.long t1), .second, .val (.int nn), .val (.int sel), .val (.long v48), .second, .val (.ref a88), .val (.int v104), .val (.ref a107)] [(.int (1 : Int32))])) _
          exact retN X113 hx (t := .boolean) Bd.returns (by simp) (hb hby at_313) hr
        · show Q_own_law Z p0 p1 p2 p3 p4 h0 n0 _ T113.heap _
          rw [e113]
          exact ⟨rfl, N113⟩
      · have hn : nn = 3 := own_n3 hnn c148 c162 c181
        have pre116 : ∀ t, Steps p.tables e below (T22.setTop (mkF m 203 #[.val (.long p0), .second, .val (.long p1), .second, .val (.long p2), .second, .val (.long p3), .second, .val (.int p4), .val (.long t0), .second, .val (.long t2), .second, .val (.long t1), .second, .val (.int nn), .val (.int sel), .val (.long v48), .second, .unset, .unset, .unset] [(.int (3 : Int32))])) t → Steps p.tables e below (s₁.setTop (entryFrame m #[(.long p0), (.long p1), (.long p2), (.long p3), (.int p4)] maxLocals)) t := fun t k => pre86 _ (by
          show Steps p.tables e below (T22.setTop (mkF m 181 #[.val (.long p0), .second, .val (.long p1), .second, .val (.long p2), .second, .val (.long p3), .second, .val (.int p4), .val (.long t0), .second, .val (.long t2), .second, .val (.long t1), .second, .val (.int nn), .val (.int sel), .val (.long v48), .second, .unset, .unset, .unset] [(.int (2 : Int32)), (.int nn)])) _
          refine XS.icmpYes X22.here hx rfl (pc0 := 181) (pc' := 202) rfl (hb hby at_181) rfl (XT.ii_ne_t c181) (by decide) (by decide) ?_
          show Steps p.tables e below (T22.setTop (mkF m 202 #[.val (.long p0), .second, .val (.long p1), .second, .val (.long p2), .second, .val (.long p3), .second, .val (.int p4), .val (.long t0), .second, .val (.long t2), .second, .val (.long t1), .second, .val (.int nn), .val (.int sel), .val (.long v48), .second, .unset, .unset, .unset] [])) _
          refine XT.iconstV X22.here hx rfl (3 : Int32) (hb hby at_202) rfl ?_
          exact k)
        obtain ⟨T117, h117, cA117, X117, e117, E117, A117, B117, st117⟩ := own_newE X22 hx hZ (aty := .long) (hw _ (List.mem_of_getElem? (i := 7) rfl)) e22 (g := (mkF m 203 #[.val (.long p0), .second, .val (.long p1), .second, .val (.long p2), .second, .val (.long p3), .second, .val (.int p4), .val (.long t0), .second, .val (.long t2), .second, .val (.long t1), .second, .val (.int nn), .val (.int sel), .val (.long v48), .second, .unset, .unset, .unset] [(.int (3 : Int32))])) rfl (hb hby at_203) rfl (by decide) (cap := 3) (by decide) (by decide) (by decide) (by decide) rfl
        obtain ⟨a117, ga117⟩ : ∃ z, z = h0.size := ⟨_, rfl⟩
        rw [← ga117] at A117 B117 st117
        have ge_a117 : n0 ≤ a117 := Nat.le_trans Z0 (Nat.le_of_eq ga117.symm)
        have Z117 : n0 ≤ h117.size := Nat.le_trans Z0 E117.1
        have pre118 : ∀ t, Steps p.tables e below (T117.setTop (mkF m 205 #[.val (.long p0), .second, .val (.long p1), .second, .val (.long p2), .second, .val (.long p3), .second, .val (.int p4), .val (.long t0), .second, .val (.long t2), .second, .val (.long t1), .second, .val (.int nn), .val (.int sel), .val (.long v48), .second, .unset, .unset, .unset] [(.ref a117)])) t → Steps p.tables e below (s₁.setTop (entryFrame m #[(.long p0), (.long p1), (.long p2), (.long p3), (.int p4)] maxLocals)) t := fun t k => pre116 _ (st117 _ k)
        have V117 : Arv Z h117 a117 cA117 .long (3 : Int32) [(.long (0 : Int64)), (.long (0 : Int64)), (.long (0 : Int64))] (.long (0 : Int64)) := (Arv.new A117 (by decide)).pad (pad_rep [] (.long (0 : Int64)) 3)
        have pre119 : ∀ t, Steps p.tables e below (T117.setTop (mkF m 209 #[.val (.long p0), .second, .val (.long p1), .second, .val (.long p2), .second, .val (.long p3), .second, .val (.int p4), .val (.long t0), .second, .val (.long t2), .second, .val (.long t1), .second, .val (.int nn), .val (.int sel), .val (.long v48), .second, .unset, .unset, .unset] [(.long t0), (.int (0 : Int32)), (.ref a117), (.ref a117)])) t → Steps p.tables e below (s₁.setTop (entryFrame m #[(.long p0), (.long p1), (.long p2), (.long p3), (.int p4)] maxLocals)) t := fun t k => pre118 _ (by
          show Steps p.tables e below (T117.setTop (mkF m 205 #[.val (.long p0), .second, .val (.long p1), .second, .val (.long p2), .second, .val (.long p3), .second, .val (.int p4), .val (.long t0), .second, .val (.long t2), .second, .val (.long t1), .second, .val (.int nn), .val (.int sel), .val (.long v48), .second, .unset, .unset, .unset] [(.ref a117)])) _
          refine XS.dup X117.here hx rfl (hb hby at_205) rfl rfl ?_
          show Steps p.tables e below (T117.setTop (mkF m 206 #[.val (.long p0), .second, .val (.long p1), .second, .val (.long p2), .second, .val (.long p3), .second, .val (.int p4), .val (.long t0), .second, .val (.long t2), .second, .val (.long t1), .second, .val (.int nn), .val (.int sel), .val (.long v48), .second, .unset, .unset, .unset] [(.ref a117), (.ref a117)])) _
          refine XT.iconstV X117.here hx rfl (0 : Int32) (hb hby at_206) rfl ?_
          show Steps p.tables e below (T117.setTop (mkF m 207 #[.val (.long p0), .second, .val (.long p1), .second, .val (.long p2), .second, .val (.long p3), .second, .val (.int p4), .val (.long t0), .second, .val (.long t2), .second, .val (.long t1), .second, .val (.int nn), .val (.int sel), .val (.long v48), .second, .unset, .unset, .unset] [(.int (0 : Int32)), (.ref a117), (.ref a117)])) _
          refine XS.lload X117.here hx rfl (hb hby at_207) rfl ?_
          exact k)
        obtain ⟨cl120, Ar120, qc120, Sz120, Mz120, Hs120, Uf120⟩ := (show Arv Z h117 a117 cA117 .long (3 : Int32) [(.long (0 : Int64)), (.long (0 : Int64)), (.long (0 : Int64))] (.long (0 : Int64)) from V117)
        have in121 : ¬ ((0 : Int32) < 0 ∨ cl120.slots.size ≤ ((0 : Int32)).toNatClampNeg) := inb_of Sz120 (by decide)
        obtain ⟨T121, h121, X121, e121, W121, st121⟩ := stJ X117 hx hZ e117 Ar120 (j := (0 : Int32)) in121 (g := (mkF m 209 #[.val (.long p0), .second, .val (.long p1), .second, .val (.long p2), .second, .val (.long p3), .second, .val (.int p4), .val (.long t0), .second, .val (.long t2), .second, .val (.long t1), .second, .val (.int nn), .val (.int sel), .val (.long v48), .second, .unset, .unset, .unset] [(.long t0), (.int (0 : Int32)), (.ref a117), (.ref a117)])) rfl rfl (hb hby at_209)
        have N121 := Fr.snoc X121 N22 ge_a117
        have Z121 : n0 ≤ h121.size := Nat.le_trans Z117 (Keep.of_wr W121).1
        have V121 : Arv Z h121 a117 cA117 .long (3 : Int32) [(.long t0), (.long (0 : Int64)), (.long (0 : Int64))] (.long (0 : Int64)) := Arv.set Ar120 qc120 Sz120 Mz120 Hs120 Uf120 rfl W121 0 (by decide) (by show 0 < 3; decide)
        have pre122 : ∀ t, Steps p.tables e below (T121.setTop (mkF m 210 #[.val (.long p0), .second, .val (.long p1), .second, .val (.long p2), .second, .val (.long p3), .second, .val (.int p4), .val (.long t0), .second, .val (.long t2), .second, .val (.long t1), .second, .val (.int nn), .val (.int sel), .val (.long v48), .second, .unset, .unset, .unset] [(.ref a117)])) t → Steps p.tables e below (s₁.setTop (entryFrame m #[(.long p0), (.long p1), (.long p2), (.long p3), (.int p4)] maxLocals)) t := fun t k => pre119 _ (st121 _ k)
        have pre123 : ∀ t, Steps p.tables e below (T121.setTop (mkF m 214 #[.val (.long p0), .second, .val (.long p1), .second, .val (.long p2), .second, .val (.long p3), .second, .val (.int p4), .val (.long t0), .second, .val (.long t2), .second, .val (.long t1), .second, .val (.int nn), .val (.int sel), .val (.long v48), .second, .unset, .unset, .unset] [(.long t1), (.int (1 : Int32)), (.ref a117), (.ref a117)])) t → Steps p.tables e below (s₁.setTop (entryFrame m #[(.long p0), (.long p1), (.long p2), (.long p3), (.int p4)] maxLocals)) t := fun t k => pre122 _ (by
          show Steps p.tables e below (T121.setTop (mkF m 210 #[.val (.long p0), .second, .val (.long p1), .second, .val (.long p2), .second, .val (.long p3), .second, .val (.int p4), .val (.long t0), .second, .val (.long t2), .second, .val (.long t1), .second, .val (.int nn), .val (.int sel), .val (.long v48), .second, .unset, .unset, .unset] [(.ref a117)])) _
          refine XS.dup X121.here hx rfl (hb hby at_210) rfl rfl ?_
          show Steps p.tables e below (T121.setTop (mkF m 211 #[.val (.long p0), .second, .val (.long p1), .second, .val (.long p2), .second, .val (.long p3), .second, .val (.int p4), .val (.long t0), .second, .val (.long t2), .second, .val (.long t1), .second, .val (.int nn), .val (.int sel), .val (.long v48), .second, .unset, .unset, .unset] [(.ref a117), (.ref a117)])) _
          refine XT.iconstV X121.here hx rfl (1 : Int32) (hb hby at_211) rfl ?_
          show Steps p.tables e below (T121.setTop (mkF m 212 #[.val (.long p0), .second, .val (.long p1), .second, .val (.long p2), .second, .val (.long p3), .second, .val (.int p4), .val (.long t0), .second, .val (.long t2), .second, .val (.long t1), .second, .val (.int nn), .val (.int sel), .val (.long v48), .second, .unset, .unset, .unset] [(.int (1 : Int32)), (.ref a117), (.ref a117)])) _
          refine XS.lload X121.here hx rfl (hb hby at_212) rfl ?_
          exact k)
        obtain ⟨cl124, Ar124, qc124, Sz124, Mz124, Hs124, Uf124⟩ := (show Arv Z h121 a117 cA117 .long (3 : Int32) [(.long t0), (.long (0 : Int64)), (.long (0 : Int64))] (.long (0 : Int64)) from V121)
        have in125 : ¬ ((1 : Int32) < 0 ∨ cl124.slots.size ≤ ((1 : Int32)).toNatClampNeg) := inb_of Sz124 (by decide)
        obtain ⟨T125, h125, X125, e125, W125, st125⟩ := stJ X121 hx hZ e121 Ar124 (j := (1 : Int32)) in125 (g := (mkF m 214 #[.val (.long p0), .second, .val (.long p1), .second, .val (.long p2), .second, .val (.long p3), .second, .val (.int p4), .val (.long t0), .second, .val (.long t2), .second, .val (.long t1), .second, .val (.int nn), .val (.int sel), .val (.long v48), .second, .unset, .unset, .unset] [(.long t1), (.int (1 : Int32)), (.ref a117), (.ref a117)])) rfl rfl (hb hby at_214)
        have N125 := Fr.snoc X125 N121 ge_a117
        have Z125 : n0 ≤ h125.size := Nat.le_trans Z121 (Keep.of_wr W125).1
        have V125 : Arv Z h125 a117 cA117 .long (3 : Int32) [(.long t0), (.long t1), (.long (0 : Int64))] (.long (0 : Int64)) := Arv.set Ar124 qc124 Sz124 Mz124 Hs124 Uf124 rfl W125 1 (by decide) (by show 1 < 3; decide)
        have pre126 : ∀ t, Steps p.tables e below (T125.setTop (mkF m 215 #[.val (.long p0), .second, .val (.long p1), .second, .val (.long p2), .second, .val (.long p3), .second, .val (.int p4), .val (.long t0), .second, .val (.long t2), .second, .val (.long t1), .second, .val (.int nn), .val (.int sel), .val (.long v48), .second, .unset, .unset, .unset] [(.ref a117)])) t → Steps p.tables e below (s₁.setTop (entryFrame m #[(.long p0), (.long p1), (.long p2), (.long p3), (.int p4)] maxLocals)) t := fun t k => pre123 _ (st125 _ k)
        have pre127 : ∀ t, Steps p.tables e below (T125.setTop (mkF m 219 #[.val (.long p0), .second, .val (.long p1), .second, .val (.long p2), .second, .val (.long p3), .second, .val (.int p4), .val (.long t0), .second, .val (.long t2), .second, .val (.long t1), .second, .val (.int nn), .val (.int sel), .val (.long v48), .second, .unset, .unset, .unset] [(.long t2), (.int (2 : Int32)), (.ref a117), (.ref a117)])) t → Steps p.tables e below (s₁.setTop (entryFrame m #[(.long p0), (.long p1), (.long p2), (.long p3), (.int p4)] maxLocals)) t := fun t k => pre126 _ (by
          show Steps p.tables e below (T125.setTop (mkF m 215 #[.val (.long p0), .second, .val (.long p1), .second, .val (.long p2), .second, .val (.long p3), .second, .val (.int p4), .val (.long t0), .second, .val (.long t2), .second, .val (.long t1), .second, .val (.int nn), .val (.int sel), .val (.long v48), .second, .unset, .unset, .unset] [(.ref a117)])) _
          refine XS.dup X125.here hx rfl (hb hby at_215) rfl rfl ?_
          show Steps p.tables e below (T125.setTop (mkF m 216 #[.val (.long p0), .second, .val (.long p1), .second, .val (.long p2), .second, .val (.long p3), .second, .val (.int p4), .val (.long t0), .second, .val (.long t2), .second, .val (.long t1), .second, .val (.int nn), .val (.int sel), .val (.long v48), .second, .unset, .unset, .unset] [(.ref a117), (.ref a117)])) _
          refine XT.iconstV X125.here hx rfl (2 : Int32) (hb hby at_216) rfl ?_
          show Steps p.tables e below (T125.setTop (mkF m 217 #[.val (.long p0), .second, .val (.long p1), .second, .val (.long p2), .second, .val (.long p3), .second, .val (.int p4), .val (.long t0), .second, .val (.long t2), .second, .val (.long t1), .second, .val (.int nn), .val (.int sel), .val (.long v48), .second, .unset, .unset, .unset] [(.int (2 : Int32)), (.ref a117), (.ref a117)])) _
          refine XS.lload X125.here hx rfl (hb hby at_217) rfl ?_
          exact k)
        obtain ⟨cl128, Ar128, qc128, Sz128, Mz128, Hs128, Uf128⟩ := (show Arv Z h125 a117 cA117 .long (3 : Int32) [(.long t0), (.long t1), (.long (0 : Int64))] (.long (0 : Int64)) from V125)
        have in129 : ¬ ((2 : Int32) < 0 ∨ cl128.slots.size ≤ ((2 : Int32)).toNatClampNeg) := inb_of Sz128 (by decide)
        obtain ⟨T129, h129, X129, e129, W129, st129⟩ := stJ X125 hx hZ e125 Ar128 (j := (2 : Int32)) in129 (g := (mkF m 219 #[.val (.long p0), .second, .val (.long p1), .second, .val (.long p2), .second, .val (.long p3), .second, .val (.int p4), .val (.long t0), .second, .val (.long t2), .second, .val (.long t1), .second, .val (.int nn), .val (.int sel), .val (.long v48), .second, .unset, .unset, .unset] [(.long t2), (.int (2 : Int32)), (.ref a117), (.ref a117)])) rfl rfl (hb hby at_219)
        have N129 := Fr.snoc X129 N125 ge_a117
        have Z129 : n0 ≤ h129.size := Nat.le_trans Z125 (Keep.of_wr W129).1
        have V129 : Arv Z h129 a117 cA117 .long (3 : Int32) [(.long t0), (.long t1), (.long t2)] (.long (0 : Int64)) := Arv.set Ar128 qc128 Sz128 Mz128 Hs128 Uf128 rfl W129 2 (by decide) (by show 2 < 3; decide)
        have pre130 : ∀ t, Steps p.tables e below (T129.setTop (mkF m 220 #[.val (.long p0), .second, .val (.long p1), .second, .val (.long p2), .second, .val (.long p3), .second, .val (.int p4), .val (.long t0), .second, .val (.long t2), .second, .val (.long t1), .second, .val (.int nn), .val (.int sel), .val (.long v48), .second, .unset, .unset, .unset] [(.ref a117)])) t → Steps p.tables e below (s₁.setTop (entryFrame m #[(.long p0), (.long p1), (.long p2), (.long p3), (.int p4)] maxLocals)) t := fun t k => pre127 _ (st129 _ k)
        have pre131 : ∀ t, Steps p.tables e below (T129.setTop (mkF m 236 #[.val (.long p0), .second, .val (.long p1), .second, .val (.long p2), .second, .val (.long p3), .second, .val (.int p4), .val (.long t0), .second, .val (.long t2), .second, .val (.long t1), .second, .val (.int nn), .val (.int sel), .val (.long v48), .second, .val (.ref a117), .val (.int (0 : Int32)), .unset] [(.int (XT.cmpL v48 t0))])) t → Steps p.tables e below (s₁.setTop (entryFrame m #[(.long p0), (.long p1), (.long p2), (.long p3), (.int p4)] maxLocals)) t := fun t k => pre130 _ (by
          show Steps p.tables e below (T129.setTop (mkF m 220 #[.val (.long p0), .second, .val (.long p1), .second, .val (.long p2), .second, .val (.long p3), .second, .val (.int p4), .val (.long t0), .second, .val (.long t2), .second, .val (.long t1), .second, .val (.int nn), .val (.int sel), .val (.long v48), .second, .unset, .unset, .unset] [(.ref a117)])) _
          refine XS.astore X129.here hx rfl (hb hby at_220) rfl rfl (l' := #[.val (.long p0), .second, .val (.long p1), .second, .val (.long p2), .second, .val (.long p3), .second, .val (.int p4), .val (.long t0), .second, .val (.long t2), .second, .val (.long t1), .second, .val (.int nn), .val (.int sel), .val (.long v48), .second, .val (.ref a117), .unset, .unset]) rfl ?_
          show Steps p.tables e below (T129.setTop (mkF m 222 #[.val (.long p0), .second, .val (.long p1), .second, .val (.long p2), .second, .val (.long p3), .second, .val (.int p4), .val (.long t0), .second, .val (.long t2), .second, .val (.long t1), .second, .val (.int nn), .val (.int sel), .val (.long v48), .second, .val (.ref a117), .unset, .unset] [])) _
          refine XT.iconstV X129.here hx rfl (0 : Int32) (hb hby at_222) rfl ?_
          show Steps p.tables e below (T129.setTop (mkF m 223 #[.val (.long p0), .second, .val (.long p1), .second, .val (.long p2), .second, .val (.long p3), .second, .val (.int p4), .val (.long t0), .second, .val (.long t2), .second, .val (.long t1), .second, .val (.int nn), .val (.int sel), .val (.long v48), .second, .val (.ref a117), .unset, .unset] [(.int (0 : Int32))])) _
          refine XS.istore X129.here hx rfl (hb hby at_223) rfl (l' := #[.val (.long p0), .second, .val (.long p1), .second, .val (.long p2), .second, .val (.long p3), .second, .val (.int p4), .val (.long t0), .second, .val (.long t2), .second, .val (.long t1), .second, .val (.int nn), .val (.int sel), .val (.long v48), .second, .val (.ref a117), .val (.int (0 : Int32)), .unset]) rfl ?_
          show Steps p.tables e below (T129.setTop (mkF m 225 #[.val (.long p0), .second, .val (.long p1), .second, .val (.long p2), .second, .val (.long p3), .second, .val (.int p4), .val (.long t0), .second, .val (.long t2), .second, .val (.long t1), .second, .val (.int nn), .val (.int sel), .val (.long v48), .second, .val (.ref a117), .val (.int (0 : Int32)), .unset] [])) _
          refine XS.iload X129.here hx rfl (hb hby at_225) rfl ?_
          show Steps p.tables e below (T129.setTop (mkF m 227 #[.val (.long p0), .second, .val (.long p1), .second, .val (.long p2), .second, .val (.long p3), .second, .val (.int p4), .val (.long t0), .second, .val (.long t2), .second, .val (.long t1), .second, .val (.int nn), .val (.int sel), .val (.long v48), .second, .val (.ref a117), .val (.int (0 : Int32)), .unset] [(.int nn)])) _
          refine XT.iconstV X129.here hx rfl (1 : Int32) (hb hby at_227) rfl ?_
          show Steps p.tables e below (T129.setTop (mkF m 228 #[.val (.long p0), .second, .val (.long p1), .second, .val (.long p2), .second, .val (.long p3), .second, .val (.int p4), .val (.long t0), .second, .val (.long t2), .second, .val (.long t1), .second, .val (.int nn), .val (.int sel), .val (.long v48), .second, .val (.ref a117), .val (.int (0 : Int32)), .unset] [(.int (1 : Int32)), (.int nn)])) _
          refine XS.icmpNo X129.here hx rfl (hb hby at_228) rfl (XT.ii_lt_f (by rw [hn]; decide)) ?_
          show Steps p.tables e below (T129.setTop (mkF m 231 #[.val (.long p0), .second, .val (.long p1), .second, .val (.long p2), .second, .val (.long p3), .second, .val (.int p4), .val (.long t0), .second, .val (.long t2), .second, .val (.long t1), .second, .val (.int nn), .val (.int sel), .val (.long v48), .second, .val (.ref a117), .val (.int (0 : Int32)), .unset] [])) _
          refine XS.lload X129.here hx rfl (hb hby at_231) rfl ?_
          show Steps p.tables e below (T129.setTop (mkF m 233 #[.val (.long p0), .second, .val (.long p1), .second, .val (.long p2), .second, .val (.long p3), .second, .val (.int p4), .val (.long t0), .second, .val (.long t2), .second, .val (.long t1), .second, .val (.int nn), .val (.int sel), .val (.long v48), .second, .val (.ref a117), .val (.int (0 : Int32)), .unset] [(.long v48)])) _
          refine XS.lload X129.here hx rfl (hb hby at_233) rfl ?_
          show Steps p.tables e below (T129.setTop (mkF m 235 #[.val (.long p0), .second, .val (.long p1), .second, .val (.long p2), .second, .val (.long p3), .second, .val (.int p4), .val (.long t0), .second, .val (.long t2), .second, .val (.long t1), .second, .val (.int nn), .val (.int sel), .val (.long v48), .second, .val (.ref a117), .val (.int (0 : Int32)), .unset] [(.long t0), (.long v48)])) _
          refine XT.lcmp X129.here hx rfl (hb hby at_235) rfl ?_
          exact k)
        obtain ⟨v133, hv133⟩ : ∃ z : Int32, z = (if v48 < t0 then (0 : Int32) else (1 : Int32)) := ⟨_, rfl⟩
        have pre134 : ∀ t, Steps p.tables e below (T129.setTop (mkF m 245 #[.val (.long p0), .second, .val (.long p1), .second, .val (.long p2), .second, .val (.long p3), .second, .val (.int p4), .val (.long t0), .second, .val (.long t2), .second, .val (.long t1), .second, .val (.int nn), .val (.int sel), .val (.long v48), .second, .val (.ref a117), .val (.int v133), .unset] [])) t → Steps p.tables e below (s₁.setTop (entryFrame m #[(.long p0), (.long p1), (.long p2), (.long p3), (.int p4)] maxLocals)) t := fun t k => pre131 _ (by
          by_cases c236_132 : v48 < t0
          · rw [show v133 = _ from hv133.trans (if_pos c236_132)] at k
            show Steps p.tables e below (T129.setTop (mkF m 236 #[.val (.long p0), .second, .val (.long p1), .second, .val (.long p2), .second, .val (.long p3), .second, .val (.int p4), .val (.long t0), .second, .val (.long t2), .second, .val (.long t1), .second, .val (.int nn), .val (.int sel), .val (.long v48), .second, .val (.ref a117), .val (.int (0 : Int32)), .unset] [(.int (XT.cmpL v48 t0))])) _
            refine XS.ifYes X129.here hx rfl (pc0 := 236) (pc' := 245) rfl (hb hby at_236) rfl (XT.ll_lt_t c236_132) (by decide) (by decide) ?_
            exact k
          · rw [show v133 = _ from hv133.trans (if_neg c236_132)] at k
            show Steps p.tables e below (T129.setTop (mkF m 236 #[.val (.long p0), .second, .val (.long p1), .second, .val (.long p2), .second, .val (.long p3), .second, .val (.int p4), .val (.long t0), .second, .val (.long t2), .second, .val (.long t1), .second, .val (.int nn), .val (.int sel), .val (.long v48), .second, .val (.ref a117), .val (.int (0 : Int32)), .unset] [(.int (XT.cmpL v48 t0))])) _
            refine XS.ifNo X129.here hx rfl (hb hby at_236) rfl (XT.ll_lt_f c236_132) ?_
            show Steps p.tables e below (T129.setTop (mkF m 239 #[.val (.long p0), .second, .val (.long p1), .second, .val (.long p2), .second, .val (.long p3), .second, .val (.int p4), .val (.long t0), .second, .val (.long t2), .second, .val (.long t1), .second, .val (.int nn), .val (.int sel), .val (.long v48), .second, .val (.ref a117), .val (.int (0 : Int32)), .unset] [])) _
            refine XS.iload X129.here hx rfl (hb hby at_239) rfl ?_
            show Steps p.tables e below (T129.setTop (mkF m 241 #[.val (.long p0), .second, .val (.long p1), .second, .val (.long p2), .second, .val (.long p3), .second, .val (.int p4), .val (.long t0), .second, .val (.long t2), .second, .val (.long t1), .second, .val (.int nn), .val (.int sel), .val (.long v48), .second, .val (.ref a117), .val (.int (0 : Int32)), .unset] [(.int (0 : Int32))])) _
            refine XT.iconstV X129.here hx rfl (1 : Int32) (hb hby at_241) rfl ?_
            show Steps p.tables e below (T129.setTop (mkF m 242 #[.val (.long p0), .second, .val (.long p1), .second, .val (.long p2), .second, .val (.long p3), .second, .val (.int p4), .val (.long t0), .second, .val (.long t2), .second, .val (.long t1), .second, .val (.int nn), .val (.int sel), .val (.long v48), .second, .val (.ref a117), .val (.int (0 : Int32)), .unset] [(.int (1 : Int32)), (.int (0 : Int32))])) _
            refine XS.iadd X129.here hx rfl (hb hby at_242) rfl ?_
            show Steps p.tables e below (T129.setTop (mkF m 243 #[.val (.long p0), .second, .val (.long p1), .second, .val (.long p2), .second, .val (.long p3), .second, .val (.int p4), .val (.long t0), .second, .val (.long t2), .second, .val (.long t1), .second, .val (.int nn), .val (.int sel), .val (.long v48), .second, .val (.ref a117), .val (.int (0 : Int32)), .unset] [(.int (1 : Int32))])) _
            refine XS.istore X129.here hx rfl (hb hby at_243) rfl (l' := #[.val (.long p0), .second, .val (.long p1), .second, .val (.long p2), .second, .val (.long p3), .second, .val (.int p4), .val (.long t0), .second, .val (.long t2), .second, .val (.long t1), .second, .val (.int nn), .val (.int sel), .val (.long v48), .second, .val (.ref a117), .val (.int (1 : Int32)), .unset]) rfl ?_
            exact k)
        have pre135 : ∀ t, Steps p.tables e below (T129.setTop (mkF m 256 #[.val (.long p0), .second, .val (.long p1), .second, .val (.long p2), .second, .val (.long p3), .second, .val (.int p4), .val (.long t0), .second, .val (.long t2), .second, .val (.long t1), .second, .val (.int nn), .val (.int sel), .val (.long v48), .second, .val (.ref a117), .val (.int v133), .unset] [(.int (XT.cmpL v48 t1))])) t → Steps p.tables e below (s₁.setTop (entryFrame m #[(.long p0), (.long p1), (.long p2), (.long p3), (.int p4)] maxLocals)) t := fun t k => pre134 _ (by
          show Steps p.tables e below (T129.setTop (mkF m 245 #[.val (.long p0), .second, .val (.long p1), .second, .val (.long p2), .second, .val (.long p3), .second, .val (.int p4), .val (.long t0), .second, .val (.long t2), .second, .val (.long t1), .second, .val (.int nn), .val (.int sel), .val (.long v48), .second, .val (.ref a117), .val (.int v133), .unset] [])) _
          refine XS.iload X129.here hx rfl (hb hby at_245) rfl ?_
          show Steps p.tables e below (T129.setTop (mkF m 247 #[.val (.long p0), .second, .val (.long p1), .second, .val (.long p2), .second, .val (.long p3), .second, .val (.int p4), .val (.long t0), .second, .val (.long t2), .second, .val (.long t1), .second, .val (.int nn), .val (.int sel), .val (.long v48), .second, .val (.ref a117), .val (.int v133), .unset] [(.int nn)])) _
          refine XT.iconstV X129.here hx rfl (2 : Int32) (hb hby at_247) rfl ?_
          show Steps p.tables e below (T129.setTop (mkF m 248 #[.val (.long p0), .second, .val (.long p1), .second, .val (.long p2), .second, .val (.long p3), .second, .val (.int p4), .val (.long t0), .second, .val (.long t2), .second, .val (.long t1), .second, .val (.int nn), .val (.int sel), .val (.long v48), .second, .val (.ref a117), .val (.int v133), .unset] [(.int (2 : Int32)), (.int nn)])) _
          refine XS.icmpNo X129.here hx rfl (hb hby at_248) rfl (XT.ii_lt_f (by rw [hn]; decide)) ?_
          show Steps p.tables e below (T129.setTop (mkF m 251 #[.val (.long p0), .second, .val (.long p1), .second, .val (.long p2), .second, .val (.long p3), .second, .val (.int p4), .val (.long t0), .second, .val (.long t2), .second, .val (.long t1), .second, .val (.int nn), .val (.int sel), .val (.long v48), .second, .val (.ref a117), .val (.int v133), .unset] [])) _
          refine XS.lload X129.here hx rfl (hb hby at_251) rfl ?_
          show Steps p.tables e below (T129.setTop (mkF m 253 #[.val (.long p0), .second, .val (.long p1), .second, .val (.long p2), .second, .val (.long p3), .second, .val (.int p4), .val (.long t0), .second, .val (.long t2), .second, .val (.long t1), .second, .val (.int nn), .val (.int sel), .val (.long v48), .second, .val (.ref a117), .val (.int v133), .unset] [(.long v48)])) _
          refine XS.lload X129.here hx rfl (hb hby at_253) rfl ?_
          show Steps p.tables e below (T129.setTop (mkF m 255 #[.val (.long p0), .second, .val (.long p1), .second, .val (.long p2), .second, .val (.long p3), .second, .val (.int p4), .val (.long t0), .second, .val (.long t2), .second, .val (.long t1), .second, .val (.int nn), .val (.int sel), .val (.long v48), .second, .val (.ref a117), .val (.int v133), .unset] [(.long t1), (.long v48)])) _
          refine XT.lcmp X129.here hx rfl (hb hby at_255) rfl ?_
          exact k)
        obtain ⟨v137, hv137⟩ : ∃ z : Int32, z = (if v48 < t1 then v133 else (v133 + (1 : Int32))) := ⟨_, rfl⟩
        have pre138 : ∀ t, Steps p.tables e below (T129.setTop (mkF m 265 #[.val (.long p0), .second, .val (.long p1), .second, .val (.long p2), .second, .val (.long p3), .second, .val (.int p4), .val (.long t0), .second, .val (.long t2), .second, .val (.long t1), .second, .val (.int nn), .val (.int sel), .val (.long v48), .second, .val (.ref a117), .val (.int v137), .unset] [])) t → Steps p.tables e below (s₁.setTop (entryFrame m #[(.long p0), (.long p1), (.long p2), (.long p3), (.int p4)] maxLocals)) t := fun t k => pre135 _ (by
          by_cases c256_136 : v48 < t1
          · rw [show v137 = _ from hv137.trans (if_pos c256_136)] at k
            show Steps p.tables e below (T129.setTop (mkF m 256 #[.val (.long p0), .second, .val (.long p1), .second, .val (.long p2), .second, .val (.long p3), .second, .val (.int p4), .val (.long t0), .second, .val (.long t2), .second, .val (.long t1), .second, .val (.int nn), .val (.int sel), .val (.long v48), .second, .val (.ref a117), .val (.int v133), .unset] [(.int (XT.cmpL v48 t1))])) _
            refine XS.ifYes X129.here hx rfl (pc0 := 256) (pc' := 265) rfl (hb hby at_256) rfl (XT.ll_lt_t c256_136) (by decide) (by decide) ?_
            exact k
          · rw [show v137 = _ from hv137.trans (if_neg c256_136)] at k
            show Steps p.tables e below (T129.setTop (mkF m 256 #[.val (.long p0), .second, .val (.long p1), .second, .val (.long p2), .second, .val (.long p3), .second, .val (.int p4), .val (.long t0), .second, .val (.long t2), .second, .val (.long t1), .second, .val (.int nn), .val (.int sel), .val (.long v48), .second, .val (.ref a117), .val (.int v133), .unset] [(.int (XT.cmpL v48 t1))])) _
            refine XS.ifNo X129.here hx rfl (hb hby at_256) rfl (XT.ll_lt_f c256_136) ?_
            show Steps p.tables e below (T129.setTop (mkF m 259 #[.val (.long p0), .second, .val (.long p1), .second, .val (.long p2), .second, .val (.long p3), .second, .val (.int p4), .val (.long t0), .second, .val (.long t2), .second, .val (.long t1), .second, .val (.int nn), .val (.int sel), .val (.long v48), .second, .val (.ref a117), .val (.int v133), .unset] [])) _
            refine XS.iload X129.here hx rfl (hb hby at_259) rfl ?_
            show Steps p.tables e below (T129.setTop (mkF m 261 #[.val (.long p0), .second, .val (.long p1), .second, .val (.long p2), .second, .val (.long p3), .second, .val (.int p4), .val (.long t0), .second, .val (.long t2), .second, .val (.long t1), .second, .val (.int nn), .val (.int sel), .val (.long v48), .second, .val (.ref a117), .val (.int v133), .unset] [(.int v133)])) _
            refine XT.iconstV X129.here hx rfl (1 : Int32) (hb hby at_261) rfl ?_
            show Steps p.tables e below (T129.setTop (mkF m 262 #[.val (.long p0), .second, .val (.long p1), .second, .val (.long p2), .second, .val (.long p3), .second, .val (.int p4), .val (.long t0), .second, .val (.long t2), .second, .val (.long t1), .second, .val (.int nn), .val (.int sel), .val (.long v48), .second, .val (.ref a117), .val (.int v133), .unset] [(.int (1 : Int32)), (.int v133)])) _
            refine XS.iadd X129.here hx rfl (hb hby at_262) rfl ?_
            show Steps p.tables e below (T129.setTop (mkF m 263 #[.val (.long p0), .second, .val (.long p1), .second, .val (.long p2), .second, .val (.long p3), .second, .val (.int p4), .val (.long t0), .second, .val (.long t2), .second, .val (.long t1), .second, .val (.int nn), .val (.int sel), .val (.long v48), .second, .val (.ref a117), .val (.int v133), .unset] [(.int (v133 + (1 : Int32)))])) _
            refine XS.istore X129.here hx rfl (hb hby at_263) rfl (l' := #[.val (.long p0), .second, .val (.long p1), .second, .val (.long p2), .second, .val (.long p3), .second, .val (.int p4), .val (.long t0), .second, .val (.long t2), .second, .val (.long t1), .second, .val (.int nn), .val (.int sel), .val (.long v48), .second, .val (.ref a117), .val (.int (v133 + (1 : Int32))), .unset]) rfl ?_
            exact k)
        have pre139 : ∀ t, Steps p.tables e below (T129.setTop (mkF m 276 #[.val (.long p0), .second, .val (.long p1), .second, .val (.long p2), .second, .val (.long p3), .second, .val (.int p4), .val (.long t0), .second, .val (.long t2), .second, .val (.long t1), .second, .val (.int nn), .val (.int sel), .val (.long v48), .second, .val (.ref a117), .val (.int v137), .unset] [(.int (XT.cmpL v48 t2))])) t → Steps p.tables e below (s₁.setTop (entryFrame m #[(.long p0), (.long p1), (.long p2), (.long p3), (.int p4)] maxLocals)) t := fun t k => pre138 _ (by
          show Steps p.tables e below (T129.setTop (mkF m 265 #[.val (.long p0), .second, .val (.long p1), .second, .val (.long p2), .second, .val (.long p3), .second, .val (.int p4), .val (.long t0), .second, .val (.long t2), .second, .val (.long t1), .second, .val (.int nn), .val (.int sel), .val (.long v48), .second, .val (.ref a117), .val (.int v137), .unset] [])) _
          refine XS.iload X129.here hx rfl (hb hby at_265) rfl ?_
          show Steps p.tables e below (T129.setTop (mkF m 267 #[.val (.long p0), .second, .val (.long p1), .second, .val (.long p2), .second, .val (.long p3), .second, .val (.int p4), .val (.long t0), .second, .val (.long t2), .second, .val (.long t1), .second, .val (.int nn), .val (.int sel), .val (.long v48), .second, .val (.ref a117), .val (.int v137), .unset] [(.int nn)])) _
          refine XT.iconstV X129.here hx rfl (3 : Int32) (hb hby at_267) rfl ?_
          show Steps p.tables e below (T129.setTop (mkF m 268 #[.val (.long p0), .second, .val (.long p1), .second, .val (.long p2), .second, .val (.long p3), .second, .val (.int p4), .val (.long t0), .second, .val (.long t2), .second, .val (.long t1), .second, .val (.int nn), .val (.int sel), .val (.long v48), .second, .val (.ref a117), .val (.int v137), .unset] [(.int (3 : Int32)), (.int nn)])) _
          refine XS.icmpNo X129.here hx rfl (hb hby at_268) rfl (XT.ii_lt_f (by rw [hn]; decide)) ?_
          show Steps p.tables e below (T129.setTop (mkF m 271 #[.val (.long p0), .second, .val (.long p1), .second, .val (.long p2), .second, .val (.long p3), .second, .val (.int p4), .val (.long t0), .second, .val (.long t2), .second, .val (.long t1), .second, .val (.int nn), .val (.int sel), .val (.long v48), .second, .val (.ref a117), .val (.int v137), .unset] [])) _
          refine XS.lload X129.here hx rfl (hb hby at_271) rfl ?_
          show Steps p.tables e below (T129.setTop (mkF m 273 #[.val (.long p0), .second, .val (.long p1), .second, .val (.long p2), .second, .val (.long p3), .second, .val (.int p4), .val (.long t0), .second, .val (.long t2), .second, .val (.long t1), .second, .val (.int nn), .val (.int sel), .val (.long v48), .second, .val (.ref a117), .val (.int v137), .unset] [(.long v48)])) _
          refine XS.lload X129.here hx rfl (hb hby at_273) rfl ?_
          show Steps p.tables e below (T129.setTop (mkF m 275 #[.val (.long p0), .second, .val (.long p1), .second, .val (.long p2), .second, .val (.long p3), .second, .val (.int p4), .val (.long t0), .second, .val (.long t2), .second, .val (.long t1), .second, .val (.int nn), .val (.int sel), .val (.long v48), .second, .val (.ref a117), .val (.int v137), .unset] [(.long t2), (.long v48)])) _
          refine XT.lcmp X129.here hx rfl (hb hby at_275) rfl ?_
          exact k)
        obtain ⟨v141, hv141⟩ : ∃ z : Int32, z = (if v48 < t2 then v137 else (v137 + (1 : Int32))) := ⟨_, rfl⟩
        have pre142 : ∀ t, Steps p.tables e below (T129.setTop (mkF m 285 #[.val (.long p0), .second, .val (.long p1), .second, .val (.long p2), .second, .val (.long p3), .second, .val (.int p4), .val (.long t0), .second, .val (.long t2), .second, .val (.long t1), .second, .val (.int nn), .val (.int sel), .val (.long v48), .second, .val (.ref a117), .val (.int v141), .unset] [])) t → Steps p.tables e below (s₁.setTop (entryFrame m #[(.long p0), (.long p1), (.long p2), (.long p3), (.int p4)] maxLocals)) t := fun t k => pre139 _ (by
          by_cases c276_140 : v48 < t2
          · rw [show v141 = _ from hv141.trans (if_pos c276_140)] at k
            show Steps p.tables e below (T129.setTop (mkF m 276 #[.val (.long p0), .second, .val (.long p1), .second, .val (.long p2), .second, .val (.long p3), .second, .val (.int p4), .val (.long t0), .second, .val (.long t2), .second, .val (.long t1), .second, .val (.int nn), .val (.int sel), .val (.long v48), .second, .val (.ref a117), .val (.int v137), .unset] [(.int (XT.cmpL v48 t2))])) _
            refine XS.ifYes X129.here hx rfl (pc0 := 276) (pc' := 285) rfl (hb hby at_276) rfl (XT.ll_lt_t c276_140) (by decide) (by decide) ?_
            exact k
          · rw [show v141 = _ from hv141.trans (if_neg c276_140)] at k
            show Steps p.tables e below (T129.setTop (mkF m 276 #[.val (.long p0), .second, .val (.long p1), .second, .val (.long p2), .second, .val (.long p3), .second, .val (.int p4), .val (.long t0), .second, .val (.long t2), .second, .val (.long t1), .second, .val (.int nn), .val (.int sel), .val (.long v48), .second, .val (.ref a117), .val (.int v137), .unset] [(.int (XT.cmpL v48 t2))])) _
            refine XS.ifNo X129.here hx rfl (hb hby at_276) rfl (XT.ll_lt_f c276_140) ?_
            show Steps p.tables e below (T129.setTop (mkF m 279 #[.val (.long p0), .second, .val (.long p1), .second, .val (.long p2), .second, .val (.long p3), .second, .val (.int p4), .val (.long t0), .second, .val (.long t2), .second, .val (.long t1), .second, .val (.int nn), .val (.int sel), .val (.long v48), .second, .val (.ref a117), .val (.int v137), .unset] [])) _
            refine XS.iload X129.here hx rfl (hb hby at_279) rfl ?_
            show Steps p.tables e below (T129.setTop (mkF m 281 #[.val (.long p0), .second, .val (.long p1), .second, .val (.long p2), .second, .val (.long p3), .second, .val (.int p4), .val (.long t0), .second, .val (.long t2), .second, .val (.long t1), .second, .val (.int nn), .val (.int sel), .val (.long v48), .second, .val (.ref a117), .val (.int v137), .unset] [(.int v137)])) _
            refine XT.iconstV X129.here hx rfl (1 : Int32) (hb hby at_281) rfl ?_
            show Steps p.tables e below (T129.setTop (mkF m 282 #[.val (.long p0), .second, .val (.long p1), .second, .val (.long p2), .second, .val (.long p3), .second, .val (.int p4), .val (.long t0), .second, .val (.long t2), .second, .val (.long t1), .second, .val (.int nn), .val (.int sel), .val (.long v48), .second, .val (.ref a117), .val (.int v137), .unset] [(.int (1 : Int32)), (.int v137)])) _
            refine XS.iadd X129.here hx rfl (hb hby at_282) rfl ?_
            show Steps p.tables e below (T129.setTop (mkF m 283 #[.val (.long p0), .second, .val (.long p1), .second, .val (.long p2), .second, .val (.long p3), .second, .val (.int p4), .val (.long t0), .second, .val (.long t2), .second, .val (.long t1), .second, .val (.int nn), .val (.int sel), .val (.long v48), .second, .val (.ref a117), .val (.int v137), .unset] [(.int (v137 + (1 : Int32)))])) _
            refine XS.istore X129.here hx rfl (hb hby at_283) rfl (l' := #[.val (.long p0), .second, .val (.long p1), .second, .val (.long p2), .second, .val (.long p3), .second, .val (.int p4), .val (.long t0), .second, .val (.long t2), .second, .val (.long t1), .second, .val (.int nn), .val (.int sel), .val (.long v48), .second, .val (.ref a117), .val (.int (v137 + (1 : Int32))), .unset]) rfl ?_
            exact k)
        obtain ⟨T143, h143, X143, e143, E143, A143, D143, -, st143⟩ := newO X129 hx hZ hown (hw _ (List.mem_of_getElem? (i := 8) rfl)) (hw _ (List.mem_of_getElem? (i := 9) rfl)) (hw _ (List.mem_of_getElem? (i := 10) rfl)) e129 (g := (mkF m 285 #[.val (.long p0), .second, .val (.long p1), .second, .val (.long p2), .second, .val (.long p3), .second, .val (.int p4), .val (.long t0), .second, .val (.long t2), .second, .val (.long t1), .second, .val (.int nn), .val (.int sel), .val (.long v48), .second, .val (.ref a117), .val (.int v141), .unset] [])) rfl (hb hby at_285) (by decide) (by decide)
        obtain ⟨a143, ga143⟩ : ∃ z, z = h129.size := ⟨_, rfl⟩
        rw [← ga143] at A143 D143 st143
        have lt_a117_a143 : a117 < a143 := Nat.lt_of_lt_of_eq (((B117.wr W121).wr W125).wr W129).lt ga143.symm
        have ne_a117_a143 : a117 ≠ a143 := Nat.ne_of_lt lt_a117_a143
        have ge_a143 : n0 ≤ a143 := Nat.le_trans Z129 (Nat.le_of_eq ga143.symm)
        have F143_lowest : Fld Z h143 a143 "com/example/roundkeeper/roundkeeper/rules/Bands" "lowest" "[J" .null := D143 (Or.inr (hw _ (List.mem_of_getElem? (i := 27) rfl))) (ty := (.array .long)) (by decide)
        have Z143 : n0 ≤ h143.size := Nat.le_trans Z129 E143.1
        have pre144 : ∀ t, Steps p.tables e below (T143.setTop (mkF m 288 #[.val (.long p0), .second, .val (.long p1), .second, .val (.long p2), .second, .val (.long p3), .second, .val (.int p4), .val (.long t0), .second, .val (.long t2), .second, .val (.long t1), .second, .val (.int nn), .val (.int sel), .val (.long v48), .second, .val (.ref a117), .val (.int v141), .unset] [(.ref a143)])) t → Steps p.tables e below (s₁.setTop (entryFrame m #[(.long p0), (.long p1), (.long p2), (.long p3), (.int p4)] maxLocals)) t := fun t k => pre142 _ (st143 _ k)
        have pre145 : ∀ t, Steps p.tables e below (T143.setTop (mkF m 291 #[.val (.long p0), .second, .val (.long p1), .second, .val (.long p2), .second, .val (.long p3), .second, .val (.int p4), .val (.long t0), .second, .val (.long t2), .second, .val (.long t1), .second, .val (.int nn), .val (.int sel), .val (.long v48), .second, .val (.ref a117), .val (.int v141), .unset] [(.ref a117), (.ref a143), (.ref a143)])) t → Steps p.tables e below (s₁.setTop (entryFrame m #[(.long p0), (.long p1), (.long p2), (.long p3), (.int p4)] maxLocals)) t := fun t k => pre144 _ (by
          show Steps p.tables e below (T143.setTop (mkF m 288 #[.val (.long p0), .second, .val (.long p1), .second, .val (.long p2), .second, .val (.long p3), .second, .val (.int p4), .val (.long t0), .second, .val (.long t2), .second, .val (.long t1), .second, .val (.int nn), .val (.int sel), .val (.long v48), .second, .val (.ref a117), .val (.int v141), .unset] [(.ref a143)])) _
          refine XS.dup X143.here hx rfl (hb hby at_288) rfl rfl ?_
          show Steps p.tables e below (T143.setTop (mkF m 289 #[.val (.long p0), .second, .val (.long p1), .second, .val (.long p2), .second, .val (.long p3), .second, .val (.int p4), .val (.long t0), .second, .val (.long t2), .second, .val (.long t1), .second, .val (.int nn), .val (.int sel), .val (.long v48), .second, .val (.ref a117), .val (.int v141), .unset] [(.ref a143), (.ref a143)])) _
          refine XS.aload X143.here hx rfl (hb hby at_289) rfl rfl ?_
          exact k)
        obtain ⟨_, _, ⟨T146, L146, k146, n146⟩, -, X146, ⟨Lc146, hQ146, l146, y146, z146⟩, st146⟩ := X143.specialBack hx (y := (⟨"com/example/roundkeeper/roundkeeper/rules/Bands", "<init>", "([J)V"⟩ : MethodName)) rfl hown (mvT hZ (hw _ (List.mem_of_getElem? (i := 11) rfl))) (mvT hZ (hw _ (List.mem_of_getElem? (i := 12) rfl))) (mvT hZ (hw _ (List.mem_of_getElem? (i := 13) rfl))) (by decide) (backOf (W := 1) (own_ctor l Z a0 hw [] a143 a117 cA117 (3 : Int32) [(.long t0), (.long t1), (.long t2)] h143 n0 Z143 F143_lowest A143 (V129.ext E143) ((((B117.wr W121).wr W125).wr W129).ext E143) ge_a143 (by decide)) hZ (hw _ (List.mem_of_getElem? (i := 13) rfl)) (hw _ (List.mem_of_getElem? (i := 10) rfl)) (by decide) (by decide)) (g := (mkF m 291 #[.val (.long p0), .second, .val (.long p1), .second, .val (.long p2), .second, .val (.long p3), .second, .val (.int p4), .val (.long t0), .second, .val (.long t2), .second, .val (.long t1), .second, .val (.int nn), .val (.int sel), .val (.long v48), .second, .val (.ref a117), .val (.int v141), .unset] [(.ref a117), (.ref a143), (.ref a143)])) rfl (by rw [hml]; rfl) (Steps.refl _) (a := a143) (argsL := [(.ref a117)]) (rest := [(.ref a143)]) (lenOf own_pd___J_V rfl) rfl (by show 2 * 0 + _ ≤ _; exact Nat.le_of_eq rfl) (hb hby at_291) (fun _ _ => ⟨rfl, e143, (by decide : 2 + 1 ≤ _), (by decide : 4 + 3 ≤ _)⟩)
        dsimp only [Pt.U, Pt.locs, Pt.cells, Pt.slots] at X146 l146 y146 z146 st146 hQ146
        subst l146 y146 z146
        obtain ⟨h146, e146⟩ : ∃ z, T146.heap = z := ⟨_, rfl⟩
        rw [e146] at hQ146
        obtain ⟨rfl, N146q, K146, EX146, ta, FT146, VT146⟩ := hQ146
        have Z146 : n0 ≤ h146.size := Nat.le_trans Z143 K146.1
        have N146 := Fr.app N129 N146q
        have pre147 : ∀ t, Steps p.tables e below (T146.setTop (mkF m 294 #[.val (.long p0), .second, .val (.long p1), .second, .val (.long p2), .second, .val (.long p3), .second, .val (.int p4), .val (.long t0), .second, .val (.long t2), .second, .val (.long t1), .second, .val (.int nn), .val (.int sel), .val (.long v48), .second, .val (.ref a117), .val (.int v141), .unset] [(.ref a143)])) t → Steps p.tables e below (s₁.setTop (entryFrame m #[(.long p0), (.long p1), (.long p2), (.long p3), (.int p4)] maxLocals)) t := fun t k => pre145 _ (st146.trans k)
        have pre148 : ∀ t, Steps p.tables e below (T146.setTop (mkF m 300 #[.val (.long p0), .second, .val (.long p1), .second, .val (.long p2), .second, .val (.long p3), .second, .val (.int p4), .val (.long t0), .second, .val (.long t2), .second, .val (.long t1), .second, .val (.int nn), .val (.int sel), .val (.long v48), .second, .val (.ref a117), .val (.int v141), .val (.ref a143)] [(.long v48), (.ref a143)])) t → Steps p.tables e below (s₁.setTop (entryFrame m #[(.long p0), (.long p1), (.long p2), (.long p3), (.int p4)] maxLocals)) t := fun t k => pre147 _ (by
          show Steps p.tables e below (T146.setTop (mkF m 294 #[.val (.long p0), .second, .val (.long p1), .second, .val (.long p2), .second, .val (.long p3), .second, .val (.int p4), .val (.long t0), .second, .val (.long t2), .second, .val (.long t1), .second, .val (.int nn), .val (.int sel), .val (.long v48), .second, .val (.ref a117), .val (.int v141), .unset] [(.ref a143)])) _
          refine XS.astore X146.here hx rfl (hb hby at_294) rfl rfl (l' := #[.val (.long p0), .second, .val (.long p1), .second, .val (.long p2), .second, .val (.long p3), .second, .val (.int p4), .val (.long t0), .second, .val (.long t2), .second, .val (.long t1), .second, .val (.int nn), .val (.int sel), .val (.long v48), .second, .val (.ref a117), .val (.int v141), .val (.ref a143)]) rfl ?_
          show Steps p.tables e below (T146.setTop (mkF m 296 #[.val (.long p0), .second, .val (.long p1), .second, .val (.long p2), .second, .val (.long p3), .second, .val (.int p4), .val (.long t0), .second, .val (.long t2), .second, .val (.long t1), .second, .val (.int nn), .val (.int sel), .val (.long v48), .second, .val (.ref a117), .val (.int v141), .val (.ref a143)] [])) _
          refine XS.aload X146.here hx rfl (hb hby at_296) rfl rfl ?_
          show Steps p.tables e below (T146.setTop (mkF m 298 #[.val (.long p0), .second, .val (.long p1), .second, .val (.long p2), .second, .val (.long p3), .second, .val (.int p4), .val (.long t0), .second, .val (.long t2), .second, .val (.long t1), .second, .val (.int nn), .val (.int sel), .val (.long v48), .second, .val (.ref a117), .val (.int v141), .val (.ref a143)] [(.ref a143)])) _
          refine XS.lload X146.here hx rfl (hb hby at_298) rfl ?_
          exact k)
        obtain ⟨cq149, kq149, q149a, q149b, q149c⟩ := isOf hZ e146 EX146
        obtain ⟨_, _, ⟨T149, L149, k149, n149⟩, -, X149, ⟨Lc149, hQ149, l149, y149, z149⟩, st149⟩ := X146.virtualBack hx (y := (⟨"com/example/roundkeeper/roundkeeper/rules/Bands", "of", "(J)I"⟩ : MethodName)) (z := (⟨"com/example/roundkeeper/roundkeeper/rules/Bands", "of", "(J)I"⟩ : MethodName)) hown (mvT hZ (hw _ (List.mem_of_getElem? (i := 28) rfl))) (mvT hZ (hw _ (List.mem_of_getElem? (i := 29) rfl))) (notFace_of_selects (args := #[]) (mvT hZ (hw _ (List.mem_of_getElem? (i := 31) rfl)))) (mvT hZ (hw _ (List.mem_of_getElem? (i := 31) rfl))) (mvT hZ (hw _ (List.mem_of_getElem? (i := 30) rfl))) (by decide) (backOf (W := 0) (own_of3 l Z a0 hw [] a143 v48 ta cA117 t0 t1 t2 h146 n0 Z146 FT146 VT146) hZ (hw _ (List.mem_of_getElem? (i := 32) rfl)) (hw _ (List.mem_of_getElem? (i := 10) rfl)) (by decide) (by decide)) q149a q149c (g := (mkF m 300 #[.val (.long p0), .second, .val (.long p1), .second, .val (.long p2), .second, .val (.long p3), .second, .val (.int p4), .val (.long t0), .second, .val (.long t2), .second, .val (.long t1), .second, .val (.int nn), .val (.int sel), .val (.long v48), .second, .val (.ref a117), .val (.int v141), .val (.ref a143)] [(.long v48), (.ref a143)])) rfl (by rw [hml]; rfl) (Steps.refl _) (argsL := [(.long v48)]) (rest := []) (lenOf own_pd__J_I rfl) rfl (by show 2 * 0 + _ ≤ _; exact Nat.le_of_eq rfl) (hb hby at_300) (fun _ _ => ⟨rfl, e146, (by decide : 3 + 0 ≤ _), (by decide : 7 + 0 ≤ _)⟩)
        dsimp only [Pt.U, Pt.locs, Pt.cells, Pt.slots] at X149 l149 y149 z149 st149 hQ149
        subst l149 y149 z149
        obtain ⟨rfl, N149q, e149⟩ := hQ149
        have N149 := Fr.app N146 N149q
        have pre150 : ∀ t, Steps p.tables e below (T149.setTop (mkF m 303 #[.val (.long p0), .second, .val (.long p1), .second, .val (.long p2), .second, .val (.long p3), .second, .val (.int p4), .val (.long t0), .second, .val (.long t2), .second, .val (.long t1), .second, .val (.int nn), .val (.int sel), .val (.long v48), .second, .val (.ref a117), .val (.int v141), .val (.ref a143)] [(.int (own_of [t0, t1, t2] v48))])) t → Steps p.tables e below (s₁.setTop (entryFrame m #[(.long p0), (.long p1), (.long p2), (.long p3), (.int p4)] maxLocals)) t := fun t k => pre148 _ (st149.trans k)
        have pre151 : ∀ t, Steps p.tables e below (T149.setTop (mkF m 313 #[.val (.long p0), .second, .val (.long p1), .second, .val (.long p2), .second, .val (.long p3), .second, .val (.int p4), .val (.long t0), .second, .val (.long t2), .second, .val (.long t1), .second, .val (.int nn), .val (.int sel), .val (.long v48), .second, .val (.ref a117), .val (.int v141), .val (.ref a143)] [(.int (1 : Int32))])) t → Steps p.tables e below (s₁.setTop (entryFrame m #[(.long p0), (.long p1), (.long p2), (.long p3), (.int p4)] maxLocals)) t := fun t k => pre150 _ (by
          show Steps p.tables e below (T149.setTop (mkF m 303 #[.val (.long p0), .second, .val (.long p1), .second, .val (.long p2), .second, .val (.long p3), .second, .val (.int p4), .val (.long t0), .second, .val (.long t2), .second, .val (.long t1), .second, .val (.int nn), .val (.int sel), .val (.long v48), .second, .val (.ref a117), .val (.int v141), .val (.ref a143)] [(.int (own_of [t0, t1, t2] v48))])) _
          refine XS.iload X149.here hx rfl (hb hby at_303) rfl ?_
          show Steps p.tables e below (T149.setTop (mkF m 305 #[.val (.long p0), .second, .val (.long p1), .second, .val (.long p2), .second, .val (.long p3), .second, .val (.int p4), .val (.long t0), .second, .val (.long t2), .second, .val (.long t1), .second, .val (.int nn), .val (.int sel), .val (.long v48), .second, .val (.ref a117), .val (.int v141), .val (.ref a143)] [(.int v141), (.int (own_of [t0, t1, t2] v48))])) _
          refine XS.icmpNo X149.here hx rfl (hb hby at_305) rfl (XT.ii_ne_f (own_c3 s01 s12 hv133 hv137 hv141)) ?_
          show Steps p.tables e below (T149.setTop (mkF m 308 #[.val (.long p0), .second, .val (.long p1), .second, .val (.long p2), .second, .val (.long p3), .second, .val (.int p4), .val (.long t0), .second, .val (.long t2), .second, .val (.long t1), .second, .val (.int nn), .val (.int sel), .val (.long v48), .second, .val (.ref a117), .val (.int v141), .val (.ref a143)] [])) _
          refine XT.iconstV X149.here hx rfl (1 : Int32) (hb hby at_308) rfl ?_
          show Steps p.tables e below (T149.setTop (mkF m 309 #[.val (.long p0), .second, .val (.long p1), .second, .val (.long p2), .second, .val (.long p3), .second, .val (.int p4), .val (.long t0), .second, .val (.long t2), .second, .val (.long t1), .second, .val (.int nn), .val (.int sel), .val (.long v48), .second, .val (.ref a117), .val (.int v141), .val (.ref a143)] [(.int (1 : Int32))])) _
          refine XS.goto X149.here hx rfl (pc0 := 309) (pc' := 313) rfl (hb hby at_309) (by decide) (by decide) ?_
          exact k)
        obtain ⟨fs, hr, hrun, hended, hW, hsame⟩ := X149.leave (v := some (.int (1 : Int32))) (fun h => by rw [Bd.returns] at h; cases h)
        refine ⟨_, _, pre151 _ ?_, hrun, hended, _, _, rfl, ?_, ⟨_, rfl⟩, hW, hsame.mono (by decide) (by decide)⟩
        · show Steps p.tables e below (T149.setTop (mkF m 313 #[.val (.long p0), .second, .val (.long p1), .second, .val (.long p2), .second, .val (.long p3), .second, .val (.int p4), .val (.long t0), .second, .val (.long t2), .second, .val (.long t1), .second, .val (.int nn), .val (.int sel), .val (.long v48), .second, .val (.ref a117), .val (.int v141), .val (.ref a143)] [(.int (1 : Int32))])) _
          exact retN X149 hx (t := .boolean) Bd.returns (by simp) (hb hby at_313) hr
        · show Q_own_law Z p0 p1 p2 p3 p4 h0 n0 _ T149.heap _
          rw [e149]
          exact ⟨rfl, N149⟩
set_option maxRecDepth 65536 in
set_option maxHeartbeats 40000000 in
theorem comes_1 {Post : Tables → Env → Array Value → State → Outcome → State → Prop} (hpost : ∀ tb e args s v u, (limb_1_1.after args s (.returned v) u = true ∧ limb_1_2.after args s (.returned v) u = true ∧ True) → FrameEnd s (.returned v) u (Jvm.fieldLocs frame_1_writes args s ++ Jvm.arrayLocs frame_1_arrays args s ++ Jvm.staticLocs frame_1_statics s) 16 128 → Post tb e args s (.returned v) u) :
    ArmFor flags0 classFile x code maxLocals ret World_1 tables_1 room_1 Calls_1 rest_1 Pre_1 Post := by
  intro l hfl _ _ p e ha hc hk s m args below hf hA hF happ hP
  obtain ⟨hcalls, hrest, hpre⟩ := hP
  obtain ⟨-, -, -, hnamed, -, -, -, hat⟩ := (Spec.applies_iff hf).mp happ
  obtain ⟨hg, hn⟩ := and_e (Cond.before_iff.mp (show (Jvm.Cond.and given_1 narrow_1).before args s = true from hpre))
  obtain ⟨h1, g0⟩ := and_e hg
  obtain ⟨w0, w1, w2, w3, w4, rfl⟩ : ∃ w0 w1 w2 w3 w4 : Value, args = #[w0, w1, w2, w3, w4] := by
    have hs : args.size = 5 := by simpa [Cond.value, given_1] using h1
    obtain ⟨L⟩ := args
    match L, hs with
    | [w0, w1, w2, w3, w4], _ => exact ⟨w0, w1, w2, w3, w4, rfl⟩
  have hw := fun d (hd : d ∈ tables_1) => atoms_spec (ws := Jvm.Cond.code x code maxLocals ret :: tables_1) hat d (List.mem_cons_of_mem _ hd)
  have hfit : Fit s := fun {y c} hc i hi => by
    obtain ⟨ha, rfl⟩ := Array.getElem?_eq_some_iff.mp hc
    have q := List.all_eq_true.mp ((Array.all_eq_true_iff_forall_mem.mp hF) _ (Array.getElem_mem ha)) i (List.mem_range.mpr hi)
    simpa [Array.getElem?_eq_getElem hi] using q
  obtain ⟨t0, g1⟩ := and_e g0
  obtain ⟨i0, q0⟩ := isL_v t0
  obtain rfl : w0 = (.long i0) := Option.some.inj q0
  obtain ⟨t1, g2⟩ := and_e g1
  obtain ⟨i1, q1⟩ := isL_v t1
  obtain rfl : w1 = (.long i1) := Option.some.inj q1
  obtain ⟨t2, g3⟩ := and_e g2
  obtain ⟨i2, q2⟩ := isL_v t2
  obtain rfl : w2 = (.long i2) := Option.some.inj q2
  obtain ⟨t3, g4⟩ := and_e g3
  obtain ⟨i3, q3⟩ := isL_v t3
  obtain rfl : w3 = (.long i3) := Option.some.inj q3
  have t4 := g4
  obtain ⟨i4, q4⟩ := is_v t4
  obtain rfl : w4 = (.int i4) := Option.some.inj q4
  obtain ⟨n, o, h1, h2, h3, _, L, rfl, ⟨rfl, N⟩, hq⟩ := own_law l s _ hw tables_1 i0 i1 i2 i3 i4 s.heap s.heap.size (Nat.le_refl _)  p e ha hc hk s m _ below hf ((Spec.applies_iff_loose hf).mp happ).1 ⟨rfl, State.Warmed39.refl s, rfl⟩ trivial
  refine ⟨n, _, h1, h2, h3, hpost _ _ _ _ _ _ ⟨Cond.after_iff.mpr rfl, Cond.after_iff.mpr (eq_i res_at (Term.int_eval (1)) rfl), trivial⟩ ⟨hq.1, hq.2.1, (hq.2.2.sift fun y hy => Or.inr (N y hy)).mono (by decide) (by decide)⟩⟩
theorem main_1_1 : Claimed_1_1 := comes_1 fun _ _ _ _ _ _ h hF => ⟨h.1, hF⟩
theorem main_1_2 : Claimed_1_2 := comes_1 fun _ _ _ _ _ _ h hF => ⟨h.2.1, hF⟩
end Jvm.Pilot.@@N@@
namespace Jvm.Pilot.@@N@@
open Jvm Jvm.ClassFile Sem Op Lib Jvm.Free Jvm.Stand Jvm.Pilot.@@N@@.Jvm.D
/-! MADE BY PROGRAM (witnessworld.py) out of the Statement's table words and the real class files: 12 classes; the members and pool entries that the words name. The judged class is class 1, her method 1. -/
namespace start1
open Jvm.ClassFile
def u (s : String) : CpInfo := .utf8 (stringToUtf16 s)
/-- a pool by its gaps: so many unusable entries, then the entry; so many at the end -/
def gap : Nat → List CpInfo → List CpInfo
  | 0, r => r
  | n + 1, r => .unusable :: gap n r
def poolList (es : List (Nat × CpInfo)) (last : Nat) : List CpInfo := es.foldr (fun e r => gap e.1 (e.2 :: r)) (gap last [])
def pool (es : List (Nat × CpInfo)) (last : Nat) : Array CpInfo := ⟨poolList es last⟩
def fileOf (pool : Array CpInfo) (this : Nat) (attrs : Array Attribute := #[]) (ms : Array MethodInfo := #[]) (fl : Nat := 33) (sup : Nat := 0) (ifs : Array Nat := #[]) (fds : Array FieldInfo := #[]) : ClassFile where
  minorVersion := 0
  majorVersion := 65
  constantPool := pool
  accessFlags := fl
  thisClass := this
  superClass := sup
  interfaces := ifs
  fields := fds
  methods := ms
  attributes := attrs
def plain (name : String) (sup : Option ClassId) : Class where
  name := name
  kind := .ordinary
  loader := none
  accessFlags := 33
  super := sup
  interfaces := #[]
  cf := none
  fields := #[]
  methods := #[]
  instanceTypes := #[]
  staticTypes := #[]
  resolved := #[]
  callSites := []
  init := .initialized
  statics := none
  mirror := none

def pool0 : Array CpInfo := pool [(5, u "<init>"), (0, u "()V"), (1, .class_ 10), (1, u "java/lang/Object"), (85, u "clone"), (0, u "()Ljava/lang/Object;")] 26

def k0c0 : Code := { maxStack := 0, maxLocals := 1, code := object_method_1_code, exceptionTable := #[], attributes := #[] }
def k0m0 : Method := { name := "<init>", desc := "()V", sig := { parameters := [], returnType := none }, accessFlags := 1, code := some k0c0 }
def k0m1 : Method := { name := "clone", desc := "()Ljava/lang/Object;", sig := { parameters := [], returnType := some (.object "java/lang/Object") }, accessFlags := 260, code := none }
/-- java/lang/Object -/
def k0 : Class := { plain "java/lang/Object" none with
  accessFlags := 33
  interfaces := #[]
  cf := some (fileOf pool0 8 #[] #[{ accessFlags := 1, nameIndex := 5, descriptorIndex := 6, attributes := #[] }, { accessFlags := 260, nameIndex := 96, descriptorIndex := 97, attributes := #[] }] 33 0 #[] #[])
  fields := #[]
  methods := #[k0m0, k0m1]
  instanceTypes := #[]
  staticTypes := #[]
  resolved := Array.replicate 124 none
  statics := none }

def pool1 : Array CpInfo := pool [(2, .class_ 4), (1, u "java/lang/Object"), (0, u "<init>"), (0, u "()V"), (0, .methodref 8 9), (0, .class_ 10), (0, .nameAndType 11 12), (0, u "java/lang/Math"), (0, u "min"), (0, u "(JJ)J"), (0, .methodref 8 14), (0, .nameAndType 15 12), (0, u "max"), (0, .class_ 17), (0, u "com/example/roundkeeper/roundkeeper/rules/Bands"), (0, .methodref 16 19), (0, .nameAndType 5 20), (0, u "([J)V"), (0, .methodref 16 22), (0, .nameAndType 23 24), (0, u "of"), (0, u "(J)I"), (0, .class_ 26), (0, u "com/example/roundkeeper/roundkeeper/rules/BandsOfPinLaw"), (2, u "law"), (0, u "(JJJJI)Z")] 5

def k1m0 : Method := { name := "<init>", desc := "()V", sig := { parameters := [], returnType := none }, accessFlags := 1, code := none }
def k1c1 : Code := { maxStack := 6, maxLocals := 22, code := code, exceptionTable := #[], attributes := #[] }
def k1m1 : Method := { name := "law", desc := "(JJJJI)Z", sig := { parameters := [.long, .long, .long, .long, .int], returnType := some .boolean }, accessFlags := 9, code := some k1c1 }
/-- com/example/roundkeeper/roundkeeper/rules/BandsOfPinLaw -/
def k1 : Class := { plain "com/example/roundkeeper/roundkeeper/rules/BandsOfPinLaw" (some 0) with
  accessFlags := 49
  interfaces := #[]
  cf := some (fileOf pool1 25 #[] #[{ accessFlags := 1, nameIndex := 5, descriptorIndex := 6, attributes := #[] }, { accessFlags := 9, nameIndex := 29, descriptorIndex := 30, attributes := #[] }] 49 2 #[] #[])
  fields := #[]
  methods := #[k1m0, k1m1]
  instanceTypes := #[]
  staticTypes := #[]
  resolved := Array.replicate 36 none
  statics := none }

def pool2 : Array CpInfo := pool [(1, .class_ 2), (0, u "java/lang/Math"), (1, .class_ 6), (1, u "java/lang/Object"), (0, u "<init>"), (0, u "()V"), (89, .class_ 100), (1, u "java/lang/Math$RandomNumberGeneratorHolder"), (20, u "(JJ)J"), (50, u "negativeZeroFloatBits"), (0, u "J"), (2, u "negativeZeroDoubleBits"), (21, u "max"), (2, u "min"), (43, u "$assertionsDisabled"), (0, u "Z"), (91, u "twoToTheDoubleScaleDown"), (0, u "D"), (4, u "twoToTheDoubleScaleUp"), (9, u "E"), (3, u "PI"), (2, u "TAU"), (2, u "DEGREES_TO_RADIANS"), (0, u "RADIANS_TO_DEGREES")] 94

def k2m0 : Method := { name := "<init>", desc := "()V", sig := { parameters := [], returnType := none }, accessFlags := 2, code := none }
def k2c1 : Code := { maxStack := 4, maxLocals := 4, code := jdk_29_method_66_code, exceptionTable := #[], attributes := #[] }
def k2m1 : Method := { name := "max", desc := "(JJ)J", sig := { parameters := [.long, .long], returnType := some .long }, accessFlags := 9, code := some k2c1 }
def k2c2 : Code := { maxStack := 4, maxLocals := 4, code := jdk_29_method_70_code, exceptionTable := #[], attributes := #[] }
def k2m2 : Method := { name := "min", desc := "(JJ)J", sig := { parameters := [.long, .long], returnType := some .long }, accessFlags := 9, code := some k2c2 }
/-- java/lang/Math -/
def k2 : Class := { plain "java/lang/Math" (some 0) with
  accessFlags := 49
  interfaces := #[]
  cf := some (fileOf pool2 1 #[.nestMembers #[98]] #[{ accessFlags := 2, nameIndex := 7, descriptorIndex := 8, attributes := #[] }, { accessFlags := 9, nameIndex := 198, descriptorIndex := 121, attributes := #[] }, { accessFlags := 9, nameIndex := 201, descriptorIndex := 121, attributes := #[] }] 49 4 #[] #[{ accessFlags := 25, nameIndex := 354, descriptorIndex := 339, attributes := #[] }, { accessFlags := 25, nameIndex := 358, descriptorIndex := 339, attributes := #[] }, { accessFlags := 25, nameIndex := 361, descriptorIndex := 339, attributes := #[] }, { accessFlags := 26, nameIndex := 364, descriptorIndex := 339, attributes := #[] }, { accessFlags := 26, nameIndex := 365, descriptorIndex := 339, attributes := #[] }, { accessFlags := 26, nameIndex := 172, descriptorIndex := 173, attributes := #[] }, { accessFlags := 26, nameIndex := 176, descriptorIndex := 173, attributes := #[] }, { accessFlags := 8, nameIndex := 344, descriptorIndex := 339, attributes := #[] }, { accessFlags := 8, nameIndex := 338, descriptorIndex := 339, attributes := #[] }, { accessFlags := 4120, nameIndex := 245, descriptorIndex := 246, attributes := #[] }])
  fields := #[{ name := "E", type := .double, accessFlags := 25, slot := 0, constantValue := 0 }, { name := "PI", type := .double, accessFlags := 25, slot := 1, constantValue := 0 }, { name := "TAU", type := .double, accessFlags := 25, slot := 2, constantValue := 0 }, { name := "DEGREES_TO_RADIANS", type := .double, accessFlags := 26, slot := 3, constantValue := 0 }, { name := "RADIANS_TO_DEGREES", type := .double, accessFlags := 26, slot := 4, constantValue := 0 }, { name := "negativeZeroFloatBits", type := .long, accessFlags := 26, slot := 5, constantValue := 0 }, { name := "negativeZeroDoubleBits", type := .long, accessFlags := 26, slot := 6, constantValue := 0 }, { name := "twoToTheDoubleScaleUp", type := .double, accessFlags := 8, slot := 7, constantValue := 0 }, { name := "twoToTheDoubleScaleDown", type := .double, accessFlags := 8, slot := 8, constantValue := 0 }, { name := "$assertionsDisabled", type := .boolean, accessFlags := 4120, slot := 9, constantValue := 0 }]
  methods := #[k2m0, k2m1, k2m2]
  instanceTypes := #[]
  staticTypes := #[.double, .double, .double, .double, .double, .long, .long, .double, .double, .boolean]
  resolved := Array.replicate 460 none
  statics := none }

def pool3 : Array CpInfo := pool [(1, .methodref 2 3), (0, .class_ 4), (0, .nameAndType 5 6), (0, u "java/lang/Object"), (0, u "<init>"), (0, u "()V"), (0, .methodref 8 9), (0, .class_ 10), (0, .nameAndType 11 12), (0, u "[J"), (0, u "clone"), (0, u "()Ljava/lang/Object;"), (0, .fieldref 14 15), (0, .class_ 16), (0, .nameAndType 17 10), (0, u "com/example/roundkeeper/roundkeeper/rules/Bands"), (0, u "lowest"), (20, u "([J)V"), (7, u "of"), (0, u "(J)I")] 2

def k3c0 : Code := { maxStack := 2, maxLocals := 2, code := prog_31_method_1_code, exceptionTable := #[], attributes := #[] }
def k3m0 : Method := { name := "<init>", desc := "([J)V", sig := { parameters := [(.array .long)], returnType := none }, accessFlags := 129, code := some k3c0 }
def k3c1 : Code := { maxStack := 4, maxLocals := 4, code := prog_31_method_3_code, exceptionTable := #[], attributes := #[] }
def k3m1 : Method := { name := "of", desc := "(J)I", sig := { parameters := [.long], returnType := some .int }, accessFlags := 1, code := some k3c1 }
/-- com/example/roundkeeper/roundkeeper/rules/Bands -/
def k3 : Class := { plain "com/example/roundkeeper/roundkeeper/rules/Bands" (some 0) with
  accessFlags := 49
  interfaces := #[]
  cf := some (fileOf pool3 14 #[] #[{ accessFlags := 129, nameIndex := 5, descriptorIndex := 38, attributes := #[] }, { accessFlags := 1, nameIndex := 46, descriptorIndex := 47, attributes := #[] }] 49 2 #[] #[{ accessFlags := 18, nameIndex := 17, descriptorIndex := 10, attributes := #[] }])
  fields := #[{ name := "lowest", type := (.array .long), accessFlags := 18, slot := 0, constantValue := 0 }]
  methods := #[k3m0, k3m1]
  instanceTypes := #[(.array .long)]
  staticTypes := #[]
  resolved := Array.replicate 50 none
  statics := none }

def pool4 : Array CpInfo := pool [(1, .class_ 2), (0, u "java/lang/Cloneable"), (0, .class_ 4), (0, u "java/lang/Object")] 2

/-- java/lang/Cloneable -/
def k4 : Class := { plain "java/lang/Cloneable" (some 0) with
  accessFlags := 1537
  interfaces := #[]
  cf := some (fileOf pool4 1 #[] #[] 1537 3 #[] #[])
  fields := #[]
  methods := #[]
  instanceTypes := #[]
  staticTypes := #[]
  resolved := Array.replicate 7 none
  statics := none }

def pool5 : Array CpInfo := pool [(1, u "java/io/Serializable"), (0, .class_ 1), (0, u "java/lang/Object"), (0, .class_ 3)] 3

/-- java/io/Serializable -/
def k5 : Class := { plain "java/io/Serializable" (some 0) with
  accessFlags := 1537
  interfaces := #[]
  cf := some (fileOf pool5 2 #[] #[] 1537 4 #[] #[])
  fields := #[]
  methods := #[]
  instanceTypes := #[]
  staticTypes := #[]
  resolved := Array.replicate 8 none
  statics := none }

/-- the primitive byte -/
def k6 : Class := { plain "byte" none with kind := .primitive 'B', accessFlags := 0x411 }
/-- [B -/
def k7 : Class := { plain "[B" (some 0) with kind := .array 6 .byte, interfaces := #[4, 5], accessFlags := 1041 }

/-- the primitive int -/
def k8 : Class := { plain "int" none with kind := .primitive 'I', accessFlags := 0x411 }
/-- [I -/
def k9 : Class := { plain "[I" (some 0) with kind := .array 8 .int, interfaces := #[4, 5], accessFlags := 1041 }

/-- the primitive long -/
def k10 : Class := { plain "long" none with kind := .primitive 'J', accessFlags := 0x411 }
/-- [J -/
def k11 : Class := { plain "[J" (some 0) with kind := .array 10 .long, interfaces := #[4, 5], accessFlags := 1041 }

def heap : Heap := #[]
def classes : Array Class := #[k0, k1, k2, k3, k4, k5, k6, k7, k8, k9, k10, k11]
def interned : List (Array UInt16 × Addr) := []
def slotsUsed : Nat := 0
def theMethod : MethodId := ⟨1, 1⟩
def args0 : Array Value := #[.long 5, .long 3, .long 9, .long 4, .int 3]
def aboutOver (below : List Frame) : State where
  vm := { classes := classes, interned := interned.toArray }
  heap := heap
  slotsUsed := slotsUsed
  threads := #[{ frames := .invoking theMethod args0 :: below }]
def below0 : List Frame := [.native { method := ⟨0, 0⟩, args := #[] }]
def about1 : State := aboutOver below0
def p0 : Program := .bare "" "" ""
def e0 : Env := launch0.env 0 0 0
theorem w_frames : about1.frames = Frame.invoking theMethod args0 :: below0 := rfl
set_option maxRecDepth 65536 in
theorem w_args : argsFit about1.vm theMethod args0 = true := by decide +kernel
set_option maxRecDepth 65536 in
theorem w_heap : heapFits about1 = true := by decide +kernel
set_option maxRecDepth 65536 in
theorem w_runnable : about1.curStatus? = some .runnable := by decide +kernel
set_option maxRecDepth 65536 in
theorem w_alone : about1.alone = true := by decide +kernel
set_option maxRecDepth 65536 in
theorem w_named : about1.methodNamed? x = some theMethod := by decide +kernel
set_option maxRecDepth 65536 in
theorem w_hears : about1.hears theMethod below0 = true := by decide +kernel
set_option maxRecDepth 65536 in
theorem w_ripe : about1.ripe theMethod args0 below0 = true := by decide +kernel
theorem w_running : about1.status = .running := rfl
set_option maxRecDepth 65536 in
theorem w_room : about1.hasRoom e0.platform room_1 = true :=
  launch0.hasRoom_least _ room_1 (by decide +kernel) (by decide +kernel) (by decide +kernel) (by decide +kernel) (by decide +kernel) (by decide +kernel)
theorem allAtoms_all (ts : List Jvm.Cond) (a : Array Jvm.Value) (st : Jvm.State) : (allAtoms ts).before a st = ts.all (fun c => c.before a st) := by
  induction ts with
  | nil => rfl
  | cons c t ih =>
    show (Jvm.Cond.and c (allAtoms t)).before a st = _
    rw [Jvm.Cond.before_and, ih, List.all_cons]
def words1 : List Jvm.Cond := Jvm.Cond.code x code maxLocals ret :: tables_1
/-- a 'code' word, met by the world's own term for the bytes: nothing is compared byte by byte -/
theorem code_word {y : MethodName} {bytes : ByteArray} {mx : Nat} {rt : Option FieldType} {a : Array Value} {s : State} {m : MethodId} {meth : Method} {c : Code} (h1 : s.methodNamed? y = some m) (h2 : s.vm.method? m = some meth) (h3 : meth.code = some c) (h4 : c.code = bytes)
    (h5 : (c.maxLocals == mx && c.exceptionTable.isEmpty && decide (c.maxStack ≤ mostOperands) && decide (meth.sig.returnType = rt) && !meth.locks && decide (parseMethodDescriptor y.desc = some meth.sig)) = true) : (Jvm.Cond.code y bytes mx rt).before a s = true := by
  simp only [Bool.and_eq_true, beq_iff_eq, Bool.not_eq_true', decide_eq_true_eq] at h5
  obtain ⟨⟨⟨⟨⟨g1, g2⟩, g3⟩, g4⟩, g5⟩, g6⟩ := h5
  simp [Cond.before, Cond.holds, Cond.value, h1, h2, h3, h4, g1, g2, g3, g4, g5, g6]
def isCode : Jvm.Cond → Bool
  | .code _ _ _ _ => true
  | _ => false
theorem all_split {L : List Jvm.Cond} {P : Jvm.Cond → Bool} (h1 : L.all (fun c => isCode c || P c) = true) (h2 : ∀ c ∈ L.filter isCode, P c = true) : L.all P = true := by
  refine List.all_eq_true.mpr fun c hc => ?_
  have h := List.all_eq_true.mp h1 c hc
  rcases Bool.eq_false_or_eq_true (isCode c) with hi | hi
  · exact h2 c (List.mem_filter.mpr ⟨hc, hi⟩)
  · simpa [hi] using h
set_option maxRecDepth 65536 in
theorem w_c0 : (Jvm.Cond.code x code maxLocals ret).before args0 about1 = true := code_word (m := ⟨1, 1⟩) (meth := k1m1) (c := k1c1) (by decide +kernel) rfl rfl rfl (by decide +kernel)
set_option maxRecDepth 65536 in
theorem w_c1 : (Jvm.Cond.code ({ cls := "java/lang/Math", name := "min", desc := "(JJ)J" } : Jvm.MethodName) jdk_29_method_70_code (4 : Nat) (Option.some Jvm.ClassFile.FieldType.long)).before args0 about1 = true := code_word (m := ⟨2, 2⟩) (meth := k2m2) (c := k2c2) (by decide +kernel) rfl rfl rfl (by decide +kernel)
set_option maxRecDepth 65536 in
theorem w_c2 : (Jvm.Cond.code ({ cls := "java/lang/Math", name := "max", desc := "(JJ)J" } : Jvm.MethodName) jdk_29_method_66_code (4 : Nat) (Option.some Jvm.ClassFile.FieldType.long)).before args0 about1 = true := code_word (m := ⟨2, 1⟩) (meth := k2m1) (c := k2c1) (by decide +kernel) rfl rfl rfl (by decide +kernel)
set_option maxRecDepth 65536 in
theorem w_c3 : (Jvm.Cond.code ({ cls := "com/example/roundkeeper/roundkeeper/rules/Bands", name := "<init>", desc := "([J)V" } : Jvm.MethodName) prog_31_method_1_code (2 : Nat) (Option.none : Option Jvm.ClassFile.FieldType)).before args0 about1 = true := code_word (m := ⟨3, 0⟩) (meth := k3m0) (c := k3c0) (by decide +kernel) rfl rfl rfl (by decide +kernel)
set_option maxRecDepth 65536 in
theorem w_c4 : (Jvm.Cond.code ({ cls := "java/lang/Object", name := "<init>", desc := "()V" } : Jvm.MethodName) object_method_1_code (1 : Nat) (Option.none : Option Jvm.ClassFile.FieldType)).before args0 about1 = true := code_word (m := ⟨0, 0⟩) (meth := k0m0) (c := k0c0) (by decide +kernel) rfl rfl rfl (by decide +kernel)
set_option maxRecDepth 65536 in
theorem w_c5 : (Jvm.Cond.code ({ cls := "com/example/roundkeeper/roundkeeper/rules/Bands", name := "of", desc := "(J)I" } : Jvm.MethodName) prog_31_method_3_code (4 : Nat) (Option.some Jvm.ClassFile.FieldType.int)).before args0 about1 = true := code_word (m := ⟨3, 1⟩) (meth := k3m1) (c := k3c1) (by decide +kernel) rfl rfl rfl (by decide +kernel)
def codes1 : List Jvm.Cond := [Jvm.Cond.code x code maxLocals ret, Jvm.Cond.code ({ cls := "java/lang/Math", name := "min", desc := "(JJ)J" } : Jvm.MethodName) jdk_29_method_70_code (4 : Nat) (Option.some Jvm.ClassFile.FieldType.long), Jvm.Cond.code ({ cls := "java/lang/Math", name := "max", desc := "(JJ)J" } : Jvm.MethodName) jdk_29_method_66_code (4 : Nat) (Option.some Jvm.ClassFile.FieldType.long), Jvm.Cond.code ({ cls := "com/example/roundkeeper/roundkeeper/rules/Bands", name := "<init>", desc := "([J)V" } : Jvm.MethodName) prog_31_method_1_code (2 : Nat) (Option.none : Option Jvm.ClassFile.FieldType), Jvm.Cond.code ({ cls := "java/lang/Object", name := "<init>", desc := "()V" } : Jvm.MethodName) object_method_1_code (1 : Nat) (Option.none : Option Jvm.ClassFile.FieldType), Jvm.Cond.code ({ cls := "com/example/roundkeeper/roundkeeper/rules/Bands", name := "of", desc := "(J)I" } : Jvm.MethodName) prog_31_method_3_code (4 : Nat) (Option.some Jvm.ClassFile.FieldType.int)]
set_option maxRecDepth 65536 in
theorem codes_eq : words1.filter isCode = codes1 := rfl
theorem w_codes : ∀ c ∈ words1.filter isCode, c.before args0 about1 = true := by
  rw [codes_eq]
  intro c hc
  simp only [codes1, List.mem_cons, List.not_mem_nil, or_false] at hc
  rcases hc with rfl | rfl | rfl | rfl | rfl | rfl
  · exact w_c0
  · exact w_c1
  · exact w_c2
  · exact w_c3
  · exact w_c4
  · exact w_c5
set_option maxRecDepth 65536 in
theorem w_t1 : (words1.take 24).all (fun c => isCode c || c.before args0 about1) = true := by decide +kernel
set_option maxRecDepth 65536 in
theorem w_t2 : (words1.drop 24).all (fun c => isCode c || c.before args0 about1) = true := by decide +kernel
theorem w_tables : (allAtoms (Jvm.Cond.code x code maxLocals ret :: tables_1)).before args0 about1 = true := by
  rw [allAtoms_all]
  show words1.all (fun c => c.before args0 about1) = true
  refine all_split ?_ w_codes
  rw [← List.take_append_drop 24 words1, List.all_append, w_t1, w_t2]
  rfl
set_option maxRecDepth 65536 in
theorem w_case : (Jvm.Cond.and given_1 narrow_1).before args0 about1 = true := by decide +kernel
theorem w_applies : (headSpec (Jvm.Cond.code x code maxLocals ret :: tables_1) room_1).applies x e0.platform about1 = true :=
  (Spec.applies_iff w_frames).mpr ⟨w_running, w_runnable, w_alone, w_named, w_hears, w_ripe, w_room, w_tables⟩
theorem atStart : AtStart classFile x code maxLocals ret World_1 tables_1 room_1 Calls_1 rest_1 Pre_1 launch0 p0 e0 about1 theMethod args0 below0 :=
  ⟨lists_1, trivial, launch0.admits_env _ _ _, launch0.least_env, fairChoices_fair.cas, fairChoices_fair.clock, w_frames, w_args, w_heap, w_applies, trivial, trivial, w_case⟩
end start1
theorem witness_1 : WitnessClaimed_1 := ⟨start1.p0, start1.e0, start1.about1, start1.theMethod, start1.args0, start1.below0, start1.atStart⟩
end Jvm.Pilot.@@N@@
