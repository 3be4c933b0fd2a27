import JvmDerived
import JvmDerived.Pilot.@@N@@Statement
import JvmDerived.Pilot.@@N@@Code
set_option linter.unusedVariables false
set_option linter.unusedSimpArgs false
namespace Jvm.RoadKit
open Sem ClassFile Op Lib Jvm.Stand Jvm.Free Jvm.LawKit
section New
variable {p : Program} {l : Launch} {e : Env} {R : Room} {s : State} {m : MethodId} {args : Array Value} {below : List Frame} {meth : Method} {c : Code} {T : State} {locs : List Loc} {cells slots : Nat}
theorem retI (X : Stand p l e R s m args below meth c T locs cells slots) (hx : p.tables.exec = Jvm.exec) {pc : Nat} {Ls : Array Slot} {z : Int32} {rest : List Value} (hret : meth.sig.returnType = some .int) (hd : decode c.code pc = .ok (.ireturn, 1)) {fs : List Frame}
    (hl : ∀ (f : JFrame) (acts : List Action), f.method = m → f.locked = none → f.entered = [] → (doReturn e (T.setTop f) acts (some (.int z))).1 = T.setFrames fs) : Steps p.tables e below (T.setTop (mkF m pc Ls (.int z :: rest))) (T.setFrames fs) := by
  have hm' : T.vm.method? m = some meth := X.method'
  have hn : narrow .int (.int z) = .int z := rfl
  show Steps p.tables e below (T.setTop { method := m, pc := pc, locals := Ls, stack := _ :: rest, locked := none }) _
  jvm_step X.here [X.here.top, hx, hd, hm', hret, hn]
  first | (intro acts; rw [hl _ acts rfl rfl rfl]) | rw [hl _ _ rfl rfl rfl]
  exact Steps.refl _
end New
end Jvm.RoadKit
namespace Jvm.Pilot.@@N@@
open Jvm Jvm.ClassFile Sem Op Lib Jvm.Free Jvm.Stand Jvm.LawKit Jvm.RoadKit Bundle Jvm.Pilot.@@N@@.Jvm.D
def own_bx (x : Int32) : Int32 := nar .byte (x.toInt8.toInt32)
theorem own_bx_inj {x y : Int32} (hx : ¬ (255 : Int32) < x) (hx0 : ¬ x < 0) (hy : ¬ (255 : Int32) < y) (hy0 : ¬ y < 0) : own_bx x = own_bx y ↔ x = y := by
  constructor
  · intro h
    rw [Int32.lt_iff_toInt_lt] at hx hx0 hy hy0
    have k : (255 : Int32).toInt = 255 := by decide
    have z : (0 : Int32).toInt = 0 := by decide
    have a := c_i2b x
    have b := c_i2b (x.toInt8.toInt32)
    have a' := c_i2b y
    have b' := c_i2b (y.toInt8.toInt32)
    have e : (x.toInt8.toInt32.toInt8.toInt32).toInt = (y.toInt8.toInt32.toInt8.toInt32).toInt := congrArg Int32.toInt h
    apply Int32.toInt_inj.mp
    omega
  · intro h; rw [h]
theorem own_sta_keep {Z : State} {h h' : Heap} {C n d : String} {v : Value} (F : Sta Z h C n d v) (K : Keep h h' []) : Sta Z h' C n d v := by
  obtain ⟨cf, i, k, f, st, cell, h1, h2, h3, h4, h5, h6, h7⟩ := F
  exact ⟨cf, i, k, f, st, cell, h1, h2, h3, h4, K.2.1 _ _ h5 nin0, h6, h7⟩
theorem own_fld_eq {Z : State} {h : Heap} {a : Addr} {C n d : String} {v w : Value} (F : Fld Z h a C n d v) (G : Fld Z h a C n d w) : v = w := by
  by_cases q : v = w
  · exact q
  · exact absurd rfl (F.ne G q)
theorem own_arv_eq {Z : State} {h : Heap} {a : Addr} {k k' : ClassId} {ty ty' : FieldType} {x y d d' : Value} (F : Arv Z h a k ty (1 : Int32) [x] d) (G : Arv Z h a k' ty' (1 : Int32) [y] d') : x = y := by
  obtain ⟨c1, A1, -, S1, -, H1, -⟩ := F
  obtain ⟨c2, A2, -, S2, -, H2, -⟩ := G
  have e : c1 = c2 := Option.some.inj (A1.1.symm.trans A2.1)
  subst e
  have n1 : (0 : Nat) < c1.slots.size := by rw [S1]; decide
  have q := (H1 0 n1).symm.trans (H2 0 n1)
  exact Option.some.inj q
def own_Str (Z : State) (h : Heap) (N : Nat) (a : Addr) (x : Int32) : Prop := a < N ∧ Exa Z h a "java/lang/String" ∧ Fld Z h a "java/lang/String" "coder" "B" (.int (0 : Int32)) ∧ ∃ (b : Addr) (k : ClassId), b < N ∧ Fld Z h a "java/lang/String" "value" "[B" (.ref b) ∧ Arv Z h b k .byte (1 : Int32) [(.int x)] (.int (0 : Int32))
theorem own_nin {N : Nat} {a : Addr} {ws : List Addr} (h : a < N) (q : ∀ y ∈ ws, N ≤ y) : a ∉ ws := fun m => absurd h (Nat.not_lt.mpr (q a m))
theorem own_Str.keep {Z : State} {h h' : Heap} {N : Nat} {a : Addr} {x : Int32} {ws : List Addr} (S : own_Str Z h N a x) (K : Keep h h' ws) (q : ∀ y ∈ ws, N ≤ y) : own_Str Z h' N a x := by
  obtain ⟨h1, h2, h3, b, k, h4, h5, h6⟩ := S
  exact ⟨h1, h2.keep K, h3.keep K (own_nin h1 q), b, k, h4, h5.keep K (own_nin h1 q), h6.keep K (own_nin h4 q)⟩
theorem own_Str.ext {Z : State} {h h' : Heap} {N : Nat} {a : Addr} {x : Int32} (S : own_Str Z h N a x) (E : Ext h h') : own_Str Z h' N a x := by
  obtain ⟨h1, h2, h3, b, k, h4, h5, h6⟩ := S
  exact ⟨h1, h2.ext E, h3.ext E, b, k, h4, h5.ext E, h6.ext E⟩
theorem own_Str.wr {Z : State} {h h' : Heap} {N : Nat} {a c : Addr} {x : Int32} {sl : Nat} {v : Value} (S : own_Str Z h N a x) (W : Wr h h' c sl v) (q : N ≤ c) : own_Str Z h' N a x :=
  S.keep (Keep.of_wr W) (allS q all0)
theorem own_Str.up {Z : State} {h : Heap} {N M : Nat} {a : Addr} {x : Int32} (S : own_Str Z h N a x) (q : N ≤ M) : own_Str Z h M a x := by
  obtain ⟨h1, h2, h3, b, k, h4, h5, h6⟩ := S
  exact ⟨Nat.lt_of_lt_of_le h1 q, h2, h3, b, k, Nat.lt_of_lt_of_le h4 q, h5, h6⟩

theorem own_nn {n : Nat} (hn : n ≤ 255) : ¬ Int32.ofNat n < 0 := by
  rw [Int32.lt_iff_toInt_lt, Int32.toInt_ofNat_of_lt (by omega), show (0 : Int32).toInt = 0 from rfl]
  omega
theorem own_n32 {n : Nat} (hn : n ≤ 255) : (Int32.ofNat n).toNatClampNeg = n := by
  rw [Int32.toNatClampNeg, Int32.toInt_ofNat_of_lt (by omega)]; rfl
def own_tab (f : Nat → Value) (n : Nat) : List Value := (List.range n).map f
theorem own_tab_len (f : Nat → Value) (n : Nat) : (own_tab f n).length = n := by simp [own_tab]
theorem own_tab_get (f : Nat → Value) {n j : Nat} (h : j < n) (d : Value) : (own_tab f n).getD j d = f j := by simp [own_tab, List.getD_eq_getElem?_getD, h]
theorem own_tab_set (f : Nat → Value) (n j : Nat) (v : Value) : (own_tab f n).set j v = own_tab (fun i => if i = j then v else f i) n := by
  apply List.ext_getElem
  · simp [own_tab]
  · intro i h1 h2
    simp only [own_tab, List.getElem_set, List.getElem_map, List.getElem_range]
    by_cases q : j = i
    · subst q; simp
    · simp [q, Ne.symm q]
theorem own_tab_pad (n : Nat) (d : Value) : ∀ i, (own_tab (fun _ => d) n).getD i d = ([] : List Value).getD i d := by
  intro i
  by_cases h : i < n
  · rw [own_tab_get _ h]; rfl
  · simp [own_tab, List.getD_eq_getElem?_getD, List.getElem?_eq_none (l := List.range n) (i := i) (by simpa using h)]
theorem own_tab_congr {f g : Nat → Value} {n : Nat} (h : ∀ i, i < n → f i = g i) : own_tab f n = own_tab g n := by
  apply List.ext_getElem
  · simp [own_tab]
  · intro i h1 h2
    simp only [own_tab, List.getElem_map, List.getElem_range]
    exact h i (by simpa [own_tab] using h1)
theorem own_inb {cl : Cell} {z : Int32} {j N : Nat} (S : cl.slots.size = z.toNatClampNeg) (hz : z.toNatClampNeg = N) (hj : j < N) (hb : j ≤ 255) : ¬ (Int32.ofNat j < 0 ∨ cl.slots.size ≤ (Int32.ofNat j).toNatClampNeg) := by
  rw [S, hz, own_n32 hb]
  exact fun q => q.elim (own_nn hb) (fun q => absurd hj (Nat.not_lt.mpr q))
def own_hs (t : Int32) : Int32 := (((t * (-1640531527 : Int32)) ^^^ (((t * (-1640531527 : Int32)).toUInt32 >>> ((16 : Int32) &&& 31).toUInt32).toInt32)) &&& (15 : Int32))
def own_hn (t : Int32) : Nat := (own_hs t).toNatClampNeg
theorem own_hs_n (t : Int32) : own_hn t < 16 ∧ own_hs t = Int32.ofNat (own_hn t) := by
  have q := c_mask ((t * (-1640531527 : Int32)) ^^^ (((t * (-1640531527 : Int32)).toUInt32 >>> ((16 : Int32) &&& 31).toUInt32).toInt32)) 15 4 (by decide) (by decide)
  have r : 0 ≤ (own_hs t).toInt ∧ (own_hs t).toInt < 16 := by unfold own_hs; omega
  have e : (own_hn t : Int) = (own_hs t).toInt := by unfold own_hn; rw [Int32.toNatClampNeg]; omega
  refine ⟨by omega, ?_⟩
  apply Int32.toInt_inj.mp
  rw [Int32.toInt_ofNat_of_lt (by omega)]
  exact e.symm
theorem own_nx {q : Nat} (h : q < 16) : ((Int32.ofNat q + (1 : Int32)) &&& (15 : Int32)) = Int32.ofNat ((q + 1) % 16) := by
  have k := c_mask (Int32.ofNat q + 1) 15 4 (by decide) (by decide)
  have a := c_iadd (Int32.ofNat q) 1
  have r := rng32 (Int32.ofNat q + 1)
  rw [Int32.toInt_ofNat_of_lt (by omega), show (1 : Int32).toInt = 1 from rfl] at a
  apply Int32.toInt_inj.mp
  rw [Int32.toInt_ofNat_of_lt (by omega)]
  omega

def own_ti (f : Nat → Int32) (n : Nat) : List Value := own_tab (fun i => .int (f i)) n
theorem own_ti_len (f : Nat → Int32) (n : Nat) : (own_ti f n).length = n := own_tab_len _ _
theorem own_ti_get (f : Nat → Int32) {n j : Nat} (h : j < n) (d : Value) : (own_ti f n).getD j d = .int (f j) := own_tab_get _ h d
theorem own_ti_pad (n : Nat) : ∀ i, (own_ti (fun _ => (0 : Int32)) n).getD i (.int (0 : Int32)) = ([] : List Value).getD i (.int (0 : Int32)) := own_tab_pad n (.int (0 : Int32))
def own_up (f : Nat → Int32) (q : Nat) (v : Int32) : Nat → Int32 := fun i => if i = q then v else f i
def own_upV (f : Nat → Value) (q : Nat) (v : Value) : Nat → Value := fun i => if i = q then v else f i
theorem own_ti_set (f : Nat → Int32) (n q : Nat) (v : Int32) : (own_ti f n).set q (.int v) = own_ti (own_up f q v) n := by
  unfold own_ti
  rw [own_tab_set]
  apply own_tab_congr
  intro i _
  unfold own_up
  by_cases h : i = q <;> simp [h]
theorem own_tabv_set (f : Nat → Value) (n q : Nat) (v : Value) : (own_tab f n).set q v = own_tab (own_upV f q v) n := own_tab_set f n q v
theorem own_s2 {f : Nat → Int32} {q r j : Nat} (hne : q ≠ r) (h : f j = if j = r then 1 else 0) : own_up f q (2 : Int32) j = if j = r then 1 else if j = q then 2 else 0 := by
  unfold own_up
  by_cases a : j = q
  · have b : ¬ j = r := fun z => hne (a.symm.trans z)
    rw [if_pos a, if_neg b, if_pos a]
  · rw [if_neg a, h, if_neg a]
theorem own_ti_congr {f g : Nat → Int32} {n : Nat} (h : ∀ i, i < n → f i = g i) : own_ti f n = own_ti g n := own_tab_congr fun i hi => congrArg Value.int (h i hi)

def own_St (Z : State) (h : Heap) (n0 : Nat) (da : Addr) (sa : Addr) (ta : Addr) (la : Addr) (oa : Addr) (ka : ClassId) (kb : ClassId) (kc : ClassId) (kd : ClassId) (Sf : Nat → Int32) (Tf : Nat → Int32) (Of : Nat → Int32) (Lf : Nat → Value) (sz : Int32) : Prop := Exa Z h da "com/example/erma/erma/analysis/DistinctSteps" ∧ Fld Z h da "com/example/erma/erma/analysis/DistinctSteps" "slots" "[I" (.ref sa) ∧ Fld Z h da "com/example/erma/erma/analysis/DistinctSteps" "targets" "[I" (.ref ta) ∧ Fld Z h da "com/example/erma/erma/analysis/DistinctSteps" "labels" "[Ljava/lang/String;" (.ref la) ∧ Fld Z h da "com/example/erma/erma/analysis/DistinctSteps" "slotOf" "[I" (.ref oa) ∧ Fld Z h da "com/example/erma/erma/analysis/DistinctSteps" "size" "I" (.int sz) ∧ Arv Z h sa ka .int (16 : Int32) (own_ti Sf 16) (.int (0 : Int32)) ∧ Arv Z h ta kb .int (8 : Int32) (own_ti Tf 8) (.int (0 : Int32)) ∧ Arv Z h la kc (.object "java/lang/String") (8 : Int32) (own_tab Lf 8) .null ∧ Arv Z h oa kd .int (8 : Int32) (own_ti Of 8) (.int (0 : Int32)) ∧ Ovr Z kc "java/lang/String" ∧ n0 ≤ da ∧ da < sa ∧ sa < ta ∧ ta < la ∧ la < oa

def own_I0 (Sf : Nat → Int32) : Prop := ∀ j, j < 16 → Sf j = 0
def own_I1 (Z : State) (h : Heap) (da : Addr) (Sf Tf Of : Nat → Int32) (Lf : Nat → Value) (t0 x0 : Int32) : Prop := ∃ b0 : Addr, (∀ j, j < 16 → Sf j = if j = own_hn t0 then 1 else 0) ∧ Tf 0 = t0 ∧ Lf 0 = .ref b0 ∧ own_Str Z h da b0 x0 ∧ Of 0 = Int32.ofNat (own_hn t0)
def own_I2 (Z : State) (h : Heap) (da : Addr) (Sf Tf Of : Nat → Int32) (Lf : Nat → Value) (t0 x0 t1 x1 : Int32) : Prop := ∃ (b0 b1 : Addr) (p1 : Nat), p1 < 16 ∧ p1 ≠ own_hn t0 ∧ (∀ j, j < 16 → Sf j = if j = own_hn t0 then 1 else if j = p1 then 2 else 0) ∧ (p1 = own_hn t1 ∨ (own_hn t0 = own_hn t1 ∧ p1 = (own_hn t1 + 1) % 16)) ∧ Tf 0 = t0 ∧ Lf 0 = .ref b0 ∧ own_Str Z h da b0 x0 ∧ Of 0 = Int32.ofNat (own_hn t0) ∧ Tf 1 = t1 ∧ Lf 1 = .ref b1 ∧ own_Str Z h da b1 x1 ∧ Of 1 = Int32.ofNat p1
def own_I3 (Sf Of : Nat → Int32) : Prop := ∃ p0 p1 p2 : Nat, p0 < 16 ∧ p1 < 16 ∧ p2 < 16 ∧ (∀ j, j < 16 → j ≠ p0 → j ≠ p1 → j ≠ p2 → Sf j = 0) ∧ Of 0 = Int32.ofNat p0 ∧ Of 1 = Int32.ofNat p1 ∧ Of 2 = Int32.ofNat p2

theorem own_St.ge {Z : State} {h : Heap} {n0 : Nat} {da sa ta la oa : Addr} {ka kb kc kd : ClassId} {Sf Tf Of : Nat → Int32} {Lf : Nat → Value} {sz : Int32} (HS : own_St Z h n0 da sa ta la oa ka kb kc kd Sf Tf Of Lf sz) : ∀ y ∈ [da, sa, ta, la, oa], da ≤ y := by
  obtain ⟨-, -, -, -, -, -, -, -, -, -, -, -, o1, o2, o3, o4⟩ := HS
  have h2 := Nat.lt_trans o1 o2
  have h3 := Nat.lt_trans h2 o3
  exact allS (Nat.le_refl _) (allS (Nat.le_of_lt o1) (allS (Nat.le_of_lt h2) (allS (Nat.le_of_lt h3) (allS (Nat.le_of_lt (Nat.lt_trans h3 o4)) all0))))
def own_Sb (Z : State) (h : Heap) (N : Nat) (C n d : String) (v : Value) : Prop := ∃ (cf i : Nat) (k : Class) (f : Field) (st : Addr) (cell : Cell), Z.fieldFound? C n d = some (cf, k, i, f) ∧ f.isStatic = true ∧ k.init = .initialized ∧ k.statics = some st ∧ h[st]? = some cell ∧ cell.vm.isStatics = true ∧ cell.slots[f.slot]? = some v ∧ st < N
theorem own_Sb.of {Z : State} {h : Heap} {C n d : String} {v : Value} (F : Sta Z h C n d v) : own_Sb Z h h.size C n d v := by
  obtain ⟨cf, i, k, f, st, cell, h1, h2, h3, h4, h5, h6, h7⟩ := F
  exact ⟨cf, i, k, f, st, cell, h1, h2, h3, h4, h5, h6, h7, (Array.getElem?_eq_some_iff.mp h5).1⟩
theorem own_Sb.sta {Z : State} {h : Heap} {N : Nat} {C n d : String} {v : Value} (F : own_Sb Z h N C n d v) : Sta Z h C n d v := by
  obtain ⟨cf, i, k, f, st, cell, h1, h2, h3, h4, h5, h6, h7, -⟩ := F
  exact ⟨cf, i, k, f, st, cell, h1, h2, h3, h4, h5, h6, h7⟩
theorem own_Sb.keep {Z : State} {h h' : Heap} {N : Nat} {C n d : String} {v : Value} {ws : List Addr} (F : own_Sb Z h N C n d v) (K : Keep h h' ws) (q : ∀ y ∈ ws, N ≤ y) : own_Sb Z h' N C n d v := by
  obtain ⟨cf, i, k, f, st, cell, h1, h2, h3, h4, h5, h6, h7, h8⟩ := F
  exact ⟨cf, i, k, f, st, cell, h1, h2, h3, h4, K.2.1 _ _ h5 (own_nin h8 q), h6, h7, h8⟩
theorem own_Sb.ext {Z : State} {h h' : Heap} {N : Nat} {C n d : String} {v : Value} (F : own_Sb Z h N C n d v) (E : Ext h h') : own_Sb Z h' N C n d v := by
  obtain ⟨cf, i, k, f, st, cell, h1, h2, h3, h4, h5, h6, h7, h8⟩ := F
  exact ⟨cf, i, k, f, st, cell, h1, h2, h3, h4, E.2 _ _ h5, h6, h7, h8⟩
theorem own_Sb.up {Z : State} {h : Heap} {N M : Nat} {C n d : String} {v : Value} (F : own_Sb Z h N C n d v) (q : N ≤ M) : own_Sb Z h M C n d v := by
  obtain ⟨cf, i, k, f, st, cell, h1, h2, h3, h4, h5, h6, h7, h8⟩ := F
  exact ⟨cf, i, k, f, st, cell, h1, h2, h3, h4, h5, h6, h7, Nat.lt_of_lt_of_le h8 q⟩
theorem own_ch (x : Int32) : ¬ (255 : Int32) < ((x &&& (255 : Int32)).toUInt32.toUInt16.toUInt32.toInt32) ∧ ¬ ((x &&& (255 : Int32)).toUInt32.toUInt16.toUInt32.toInt32) < 0 := by
  have q := c_mask x 255 8 (by decide) (by decide)
  have r := c_i2c (x &&& 255)
  have k : (255 : Int32).toInt = 255 := by decide
  have z : (0 : Int32).toInt = 0 := by decide
  rw [Int32.lt_iff_toInt_lt, Int32.lt_iff_toInt_lt]
  omega
theorem own_n4 (k : Int32) {n : Int32} (hn : n = (k &&& (3 : Int32))) : n = 0 ∨ n = 1 ∨ n = 2 ∨ n = 3 := by
  have q := c_mask k 3 2 (by decide) (by decide)
  rw [← hn] at q
  have h : n.toInt = 0 ∨ n.toInt = 1 ∨ n.toInt = 2 ∨ n.toInt = 3 := by omega
  rcases h with h | h | h | h
  · exact Or.inl (Int32.toInt_inj.mp (h.trans (by decide)))
  · exact Or.inr (Or.inl (Int32.toInt_inj.mp (h.trans (by decide))))
  · exact Or.inr (Or.inr (Or.inl (Int32.toInt_inj.mp (h.trans (by decide)))))
  · exact Or.inr (Or.inr (Or.inr (Int32.toInt_inj.mp (h.trans (by decide)))))
theorem own_e {P Q : Prop} [Decidable P] [Decidable Q] {w v : Int32} (h1 : w = if Q then (1 : Int32) else (0 : Int32)) (h2 : v = if P then w else (0 : Int32)) : v = if (P ∧ Q) then (1 : Int32) else (0 : Int32) := by
  subst h1 h2
  by_cases a : P <;> by_cases b : Q <;> simp [a, b]

theorem own_or {P Q : Prop} [Decidable P] [Decidable Q] {a b w v : Int32} {r : Int32} (h1 : a = if P then (1 : Int32) else (0 : Int32)) (h2 : b = if Q then (1 : Int32) else (0 : Int32)) (h3 : w = if b = 0 then (1 : Int32) else (0 : Int32)) (h4 : v = if a = 0 then w else (0 : Int32)) (h5 : r = if P ∨ Q then 0 else 1) : v = r := by
  subst h1 h2 h3 h4 h5
  by_cases p : P <;> by_cases q : Q <;> simp [p, q]
theorem own_ef_own_can (m : MethodId) (q0 : Int32) : entryFrame m #[(.int q0)] 1 = mkF m 0 #[.val (.int q0)] [] := by first | (simp [entryFrame, mkF, argsToLocals, Value.category]; done) | rfl
def Q_own_can (Z : State) (q0 : Int32)  (h0 : Heap) (n0 : Nat) (v : Option Value) (h : Heap) (L : List Loc) : Prop := v = some (.int (1 : Int32)) ∧ Fr n0 L ∧ h = h0
theorem own_pn_java_lang_StringLatin1 : plainName "java/lang/StringLatin1" = true := by first | (simp [plainName, overriddenIn]; done) | decide +kernel
theorem own_d_jdk_43_method_3_0 : decode jdk_43_method_3_code 0 = .ok (.iload_n 0, 1) := by decide +kernel
theorem own_d_jdk_43_method_3_1 : decode jdk_43_method_3_code 1 = .ok (.sipush 255, 3) := by decide +kernel
theorem own_d_jdk_43_method_3_4 : decode jdk_43_method_3_code 4 = .ok (.if_icmp .gt 7, 3) := by decide +kernel
theorem own_d_jdk_43_method_3_7 : decode jdk_43_method_3_code 7 = .ok (.iconst 1, 1) := by decide +kernel
theorem own_d_jdk_43_method_3_8 : decode jdk_43_method_3_code 8 = .ok (.goto 4, 3) := by decide +kernel
theorem own_d_jdk_43_method_3_12 : decode jdk_43_method_3_code 12 = .ok (.ireturn, 1) := by decide +kernel
set_option maxRecDepth 65536 in
set_option maxHeartbeats 40000000 in
theorem own_can (l : Launch) (Z : State) (a0 : Array Value) (hw : ∀ d ∈ tables_1, d.before a0 Z = true) (ws : List Jvm.Cond) (q0 : Int32)  (h0 : Heap) (n0 : Nat) (Z0 : n0 ≤ h0.size) (hq : ¬ (255 : Int32) < q0) :
    MetFree l (⟨"java/lang/StringLatin1", "canEncode", "(C)Z"⟩ : MethodName) (head1 (Jvm.Cond.code (⟨"java/lang/StringLatin1", "canEncode", "(C)Z"⟩ : MethodName) jdk_43_method_3_code 1 (some .boolean) :: ws) ({ frames := 0, cells := 0, slots := 0, locals := 0 } : Room)) (fun a U => a = #[(.int q0)] ∧ Z.Warmed39 U.vm ∧ U.heap = h0) (fun _ _ _ _ _ => True) (fun _ U o U' => ∃ v L, o = .returned v ∧ Q_own_can Z q0 h0 n0 v U'.heap L ∧ FrameEnd U o U' L ({ frames := 0, cells := 0, slots := 0, locals := 0 } : Room).cells ({ frames := 0, cells := 0, slots := 0, locals := 0 } : Room).slots) := by
  refine MetFree.of_bodySF (plainFor_of_name own_pn_java_lang_StringLatin1) hisR ?_
  intro p e s m args below meth c s₁ Bd hml0 hP hK
  obtain ⟨rfl, hZ, hh⟩ := hP
  have hx := Bd.exec
  have hby := Bd.bytes
  have hml : c.maxLocals = 1 := hml0
  have hown : s.vm.findClass "java/lang/StringLatin1" = some m.cls := findClass_of_methodNamed Bd.named
  have hnm := (name_of_methodNamed Bd.named Bd.method).1
  have X0 : Stand p l e ({ frames := 0, cells := 0, slots := 0, locals := 0 } : Room) s m #[(.int q0)] below meth c s₁ [] 0 0 := Stand.of_body Bd
  have e0 : s₁.heap = h0 := by rw [← hh, Bd.state]; rfl
  have N0 := Fr.nil n0
  have pre0 : ∀ t, Steps p.tables e below (s₁.setTop (mkF m 0 #[.val (.int q0)] [])) t → Steps p.tables e below (s₁.setTop (entryFrame m #[(.int q0)] 1)) t := fun t k => castTop (own_ef_own_can m q0) k
  have pre1 : ∀ t, Steps p.tables e below (s₁.setTop (mkF m 12 #[.val (.int q0)] [(.int (1 : Int32))])) t → Steps p.tables e below (s₁.setTop (entryFrame m #[(.int q0)] 1)) t := fun t k => pre0 _ (by
    refine XS.iloadN X0.here hx rfl (hb hby own_d_jdk_43_method_3_0) rfl ?_
    refine XT.sipushV X0.here hx rfl (255 : Int32) (hb hby own_d_jdk_43_method_3_1) rfl ?_
    refine XS.icmpNo X0.here hx rfl (hb hby own_d_jdk_43_method_3_4) rfl (XT.ii_gt_f hq) ?_
    refine XT.iconstV X0.here hx rfl (1 : Int32) (hb hby own_d_jdk_43_method_3_7) rfl ?_
    refine XS.goto X0.here hx rfl (pc0 := 8) (pc' := 12) rfl (hb hby own_d_jdk_43_method_3_8) (by decide) (by decide) ?_
    exact k)
  obtain ⟨fs, hr, hrun, hended, hW, hsame⟩ := X0.leave (v := some (.int (1 : Int32))) (fun h => by rw [Bd.returns] at h; cases h)
  refine ⟨_, _, pre1 _ ?_, hrun, hended, _, _, rfl, ?_, ⟨_, rfl⟩, hW, hsame.mono (by decide) (by decide)⟩
  · show Steps p.tables e below (s₁.setTop (mkF m 12 #[.val (.int q0)] [(.int (1 : Int32))])) _
    exact retN X0 hx (t := .boolean) Bd.returns (by simp) (hb hby own_d_jdk_43_method_3_12) hr
  · show Q_own_can Z q0 h0 n0 _ s₁.heap _
    rw [e0]
    exact ⟨rfl, N0, rfl⟩
theorem own_ef_own_bytes (m : MethodId) (q0 : Int32) : entryFrame m #[(.int q0)] 1 = mkF m 0 #[.val (.int q0)] [] := by first | (simp [entryFrame, mkF, argsToLocals, Value.category]; done) | rfl
def Q_own_bytes (Z : State) (q0 : Int32)  (h0 : Heap) (n0 : Nat) (v : Option Value) (h : Heap) (L : List Loc) : Prop := ∃ (r : Addr) (k : ClassId), v = some (.ref r) ∧ Fr n0 L ∧ Keep h0 h [] ∧ h0.size ≤ r ∧ Arv Z h r k .byte (1 : Int32) [(.int (own_bx q0))] (.int (0 : Int32))
theorem own_d_jdk_43_method_46_0 : decode jdk_43_method_46_code 0 = .ok (.iconst 1, 1) := by decide +kernel
theorem own_d_jdk_43_method_46_1 : decode jdk_43_method_46_code 1 = .ok (.newarray .byte, 2) := by decide +kernel
theorem own_d_jdk_43_method_46_3 : decode jdk_43_method_46_code 3 = .ok (.dup, 1) := by decide +kernel
theorem own_d_jdk_43_method_46_4 : decode jdk_43_method_46_code 4 = .ok (.iconst 0, 1) := by decide +kernel
theorem own_d_jdk_43_method_46_5 : decode jdk_43_method_46_code 5 = .ok (.iload_n 0, 1) := by decide +kernel
theorem own_d_jdk_43_method_46_6 : decode jdk_43_method_46_code 6 = .ok (.i2b, 1) := by decide +kernel
theorem own_d_jdk_43_method_46_7 : decode jdk_43_method_46_code 7 = .ok (.bastore, 1) := by decide +kernel
theorem own_d_jdk_43_method_46_8 : decode jdk_43_method_46_code 8 = .ok (.areturn, 1) := by decide +kernel
set_option maxRecDepth 65536 in
set_option maxHeartbeats 40000000 in
theorem own_bytes (l : Launch) (Z : State) (a0 : Array Value) (hw : ∀ d ∈ tables_1, d.before a0 Z = true) (ws : List Jvm.Cond) (q0 : Int32)  (h0 : Heap) (n0 : Nat) (Z0 : n0 ≤ h0.size)  :
    MetFree l (⟨"java/lang/StringLatin1", "toBytes", "(C)[B"⟩ : MethodName) (head1 (Jvm.Cond.code (⟨"java/lang/StringLatin1", "toBytes", "(C)[B"⟩ : MethodName) jdk_43_method_46_code 1 (some (.array .byte)) :: ws) ({ frames := 0, cells := 1, slots := 1, locals := 0 } : Room)) (fun a U => a = #[(.int q0)] ∧ Z.Warmed39 U.vm ∧ U.heap = h0) (fun _ _ _ _ _ => True) (fun _ U o U' => ∃ v L, o = .returned v ∧ Q_own_bytes Z q0 h0 n0 v U'.heap L ∧ FrameEnd U o U' L ({ frames := 0, cells := 1, slots := 1, locals := 0 } : Room).cells ({ frames := 0, cells := 1, slots := 1, locals := 0 } : Room).slots) := by
  refine MetFree.of_bodySF (plainFor_of_name own_pn_java_lang_StringLatin1) hisR ?_
  intro p e s m args below meth c s₁ Bd hml0 hP hK
  obtain ⟨rfl, hZ, hh⟩ := hP
  have hx := Bd.exec
  have hby := Bd.bytes
  have hml : c.maxLocals = 1 := hml0
  have hown : s.vm.findClass "java/lang/StringLatin1" = some m.cls := findClass_of_methodNamed Bd.named
  have hnm := (name_of_methodNamed Bd.named Bd.method).1
  have X0 : Stand p l e ({ frames := 0, cells := 1, slots := 1, locals := 0 } : Room) s m #[(.int q0)] below meth c s₁ [] 0 0 := Stand.of_body Bd
  have e0 : s₁.heap = h0 := by rw [← hh, Bd.state]; rfl
  have N0 := Fr.nil n0
  have pre0 : ∀ t, Steps p.tables e below (s₁.setTop (mkF m 0 #[.val (.int q0)] [])) t → Steps p.tables e below (s₁.setTop (entryFrame m #[(.int q0)] 1)) t := fun t k => castTop (own_ef_own_bytes m q0) k
  have pre1 : ∀ t, Steps p.tables e below (s₁.setTop (mkF m 1 #[.val (.int q0)] [(.int (1 : Int32))])) t → Steps p.tables e below (s₁.setTop (entryFrame m #[(.int q0)] 1)) t := fun t k => pre0 _ (by
    refine XT.iconstV X0.here hx rfl (1 : Int32) (hb hby own_d_jdk_43_method_46_0) rfl ?_
    exact k)
  obtain ⟨T2, h2, cA2, X2, e2, E2, A2, st2⟩ := newP X0 hx hZ (aty := .byte) (hw _ (List.mem_of_getElem? (i := 14) rfl)) e0 (g := (mkF m 1 #[.val (.int q0)] [(.int (1 : Int32))])) rfl (hb hby own_d_jdk_43_method_46_1) rfl (by decide) (cap := 1) (by decide) (by decide) (by decide) (by decide)
  obtain ⟨a2, ga2⟩ : ∃ z, z = h0.size := ⟨_, rfl⟩
  rw [← ga2] at A2 st2
  have ge_a2 : n0 ≤ a2 := Nat.le_trans Z0 (Nat.le_of_eq ga2.symm)
  have Z2 : n0 ≤ h2.size := Nat.le_trans Z0 E2.1
  have pre3 : ∀ t, Steps p.tables e below (T2.setTop (mkF m 3 #[.val (.int q0)] [(.ref a2)])) t → Steps p.tables e below (s₁.setTop (entryFrame m #[(.int q0)] 1)) t := fun t k => pre1 _ (st2 _ k)
  have V2 : Arv Z h2 a2 cA2 .byte (1 : Int32) [(.int (0 : Int32))] (.int (0 : Int32)) := (Arv.new A2 (by decide)).pad (pad_rep [] (.int (0 : Int32)) 1)
  have pre4 : ∀ t, Steps p.tables e below (T2.setTop (mkF m 7 #[.val (.int q0)] [(.int (q0.toInt8.toInt32)), (.int (0 : Int32)), (.ref a2), (.ref a2)])) t → Steps p.tables e below (s₁.setTop (entryFrame m #[(.int q0)] 1)) t := fun t k => pre3 _ (by
    refine XS.dup X2.here hx rfl (hb hby own_d_jdk_43_method_46_3) rfl rfl ?_
    refine XT.iconstV X2.here hx rfl (0 : Int32) (hb hby own_d_jdk_43_method_46_4) rfl ?_
    refine XS.iloadN X2.here hx rfl (hb hby own_d_jdk_43_method_46_5) rfl ?_
    refine XS.i2b X2.here hx rfl (hb hby own_d_jdk_43_method_46_6) rfl ?_
    exact k)
  obtain ⟨cl5, Ar5, qc5, Sz5, Mz5, Hs5, Uf5⟩ := (show Arv Z h2 a2 cA2 .byte (1 : Int32) [(.int (0 : Int32))] (.int (0 : Int32)) from V2)
  have in6 : ¬ ((0 : Int32) < 0 ∨ cl5.slots.size ≤ ((0 : Int32)).toNatClampNeg) := inb_of Sz5 (by decide)
  obtain ⟨T6, h6, X6, e6, W6, st6⟩ := stB X2 hx hZ e2 Ar5 (j := (0 : Int32)) in6 (g := (mkF m 7 #[.val (.int q0)] [(.int (q0.toInt8.toInt32)), (.int (0 : Int32)), (.ref a2), (.ref a2)])) rfl rfl (hb hby own_d_jdk_43_method_46_7)
  have N6 := Fr.snoc X6 N0 ge_a2
  have Z6 : n0 ≤ h6.size := Nat.le_trans Z2 (Keep.of_wr W6).1
  have V6 : Arv Z h6 a2 cA2 .byte (1 : Int32) [(.int (own_bx q0))] (.int (0 : Int32)) := Arv.set Ar5 qc5 Sz5 Mz5 Hs5 Uf5 (fits_nar_byte _) W6 0 (by decide) (by show 0 < 1; decide)
  have pre7 : ∀ t, Steps p.tables e below (T6.setTop (mkF m 8 #[.val (.int q0)] [(.ref a2)])) t → Steps p.tables e below (s₁.setTop (entryFrame m #[(.int q0)] 1)) t := fun t k => pre4 _ (st6 _ k)
  obtain ⟨fs, hr, hrun, hended, hW, hsame⟩ := X6.leave (v := some (.ref a2)) (fun h => by rw [Bd.returns] at h; cases h)
  refine ⟨_, _, pre7 _ ?_, hrun, hended, _, _, rfl, ?_, ⟨_, rfl⟩, hW, hsame.mono (by decide) (by decide)⟩
  · show Steps p.tables e below (T6.setTop (mkF m 8 #[.val (.int q0)] [(.ref a2)])) _
    exact retOut X6 hx Bd.returns rfl (Or.inr (Or.inr (Or.inr (Or.inr ⟨rfl, rfl, rfl⟩)))) (hb hby own_d_jdk_43_method_46_8) hr
  · show Q_own_bytes Z q0 h0 n0 _ T6.heap _
    rw [e6]
    exact ⟨a2, cA2, rfl, N6, ((Keep.refl _ _).ext E2).wr W6 (Or.inr (Nat.le_of_eq ga2.symm)), Nat.le_of_eq ga2.symm, V6⟩
theorem own_ef_own_strI (m : MethodId) (oa : Addr) (ob : Addr) : entryFrame m #[(.ref oa), (.ref ob), (.int (0 : Int32))] 3 = mkF m 0 #[.val (.ref oa), .val (.ref ob), .val (.int (0 : Int32))] [] := by first | (simp [entryFrame, mkF, argsToLocals, Value.category]; done) | rfl
def Q_own_strI (Z : State) (oa : Addr) (ob : Addr)  (h0 : Heap) (n0 : Nat) (v : Option Value) (h : Heap) (L : List Loc) : Prop := v = none ∧ Fr n0 L ∧ Keep h0 h [oa] ∧ Fld Z h oa "java/lang/String" "value" "[B" (.ref ob) ∧ Fld Z h oa "java/lang/String" "coder" "B" (.int (0 : Int32))
theorem own_pn_java_lang_String : plainName "java/lang/String" = true := by first | (simp [plainName, overriddenIn]; done) | decide +kernel
theorem own_d_jdk_42_method_151_0 : decode jdk_42_method_151_code 0 = .ok (.aload_n 0, 1) := by decide +kernel
theorem own_d_jdk_42_method_151_1 : decode jdk_42_method_151_code 1 = .ok (.invokespecial 1, 3) := by decide +kernel
theorem own_d_jdk_42_method_151_4 : decode jdk_42_method_151_code 4 = .ok (.aload_n 0, 1) := by decide +kernel
theorem own_d_jdk_42_method_151_5 : decode jdk_42_method_151_code 5 = .ok (.aload_n 1, 1) := by decide +kernel
theorem own_d_jdk_42_method_151_6 : decode jdk_42_method_151_code 6 = .ok (.putfield 9, 3) := by decide +kernel
theorem own_d_jdk_42_method_151_9 : decode jdk_42_method_151_code 9 = .ok (.aload_n 0, 1) := by decide +kernel
theorem own_d_jdk_42_method_151_10 : decode jdk_42_method_151_code 10 = .ok (.iload_n 2, 1) := by decide +kernel
theorem own_d_jdk_42_method_151_11 : decode jdk_42_method_151_code 11 = .ok (.putfield 15, 3) := by decide +kernel
theorem own_d_jdk_42_method_151_14 : decode jdk_42_method_151_code 14 = .ok (.return_, 1) := by decide +kernel
set_option maxRecDepth 65536 in
set_option maxHeartbeats 40000000 in
theorem own_strI (l : Launch) (Z : State) (a0 : Array Value) (hw : ∀ d ∈ tables_1, d.before a0 Z = true) (ws : List Jvm.Cond) (oa : Addr) (ob : Addr)  (h0 : Heap) (n0 : Nat) (Z0 : n0 ≤ h0.size) (F1 : Fld Z h0 oa "java/lang/String" "value" "[B" .null) (F2 : Fld Z h0 oa "java/lang/String" "coder" "B" (.int (0 : Int32))) (E : Exa Z h0 oa "java/lang/String") (ge_oa : n0 ≤ oa) :
    MetFree l (⟨"java/lang/String", "<init>", "([BB)V"⟩ : MethodName) (head1 (Jvm.Cond.code (⟨"java/lang/String", "<init>", "([BB)V"⟩ : MethodName) jdk_42_method_151_code 3 none :: ws) ({ frames := 1, cells := 0, slots := 0, locals := 12 } : Room)) (fun a U => a = #[(.ref oa), (.ref ob), (.int (0 : Int32))] ∧ Z.Warmed39 U.vm ∧ U.heap = h0) (fun _ _ _ _ _ => True) (fun _ U o U' => ∃ v L, o = .returned v ∧ Q_own_strI Z oa ob h0 n0 v U'.heap L ∧ FrameEnd U o U' L ({ frames := 1, cells := 0, slots := 0, locals := 12 } : Room).cells ({ frames := 1, cells := 0, slots := 0, locals := 12 } : Room).slots) := by
  refine MetFree.of_bodySF (plainFor_of_name own_pn_java_lang_String) hisR ?_
  intro p e s m args below meth c s₁ Bd hml0 hP hK
  obtain ⟨rfl, hZ, hh⟩ := hP
  have hx := Bd.exec
  have hby := Bd.bytes
  have hml : c.maxLocals = 3 := hml0
  have hown : s.vm.findClass "java/lang/String" = some m.cls := findClass_of_methodNamed Bd.named
  have hnm := (name_of_methodNamed Bd.named Bd.method).1
  have X0 : Stand p l e ({ frames := 1, cells := 0, slots := 0, locals := 12 } : Room) s m #[(.ref oa), (.ref ob), (.int (0 : Int32))] below meth c s₁ [] 0 0 := Stand.of_body Bd
  have e0 : s₁.heap = h0 := by rw [← hh, Bd.state]; rfl
  have N0 := Fr.nil n0
  have pre0 : ∀ t, Steps p.tables e below (s₁.setTop (mkF m 0 #[.val (.ref oa), .val (.ref ob), .val (.int (0 : Int32))] [])) t → Steps p.tables e below (s₁.setTop (entryFrame m #[(.ref oa), (.ref ob), (.int (0 : Int32))] 3)) t := fun t k => castTop (own_ef_own_strI m oa ob) k
  have pre1 : ∀ t, Steps p.tables e below (s₁.setTop (mkF m 1 #[.val (.ref oa), .val (.ref ob), .val (.int (0 : Int32))] [(.ref oa)])) t → Steps p.tables e below (s₁.setTop (entryFrame m #[(.ref oa), (.ref ob), (.int (0 : Int32))] 3)) t := fun t k => pre0 _ (by
    refine XS.aloadN X0.here hx rfl (hb hby own_d_jdk_42_method_151_0) rfl rfl ?_
    exact k)
  obtain ⟨T2, X2, e2, st2⟩ := initO X0 hx hZ hown (hw _ (List.mem_of_getElem? (i := 19) rfl)) (hw _ (List.mem_of_getElem? (i := 20) rfl)) (hw _ (List.mem_of_getElem? (i := 21) rfl)) e0 (g := (mkF m 1 #[.val (.ref oa), .val (.ref ob), .val (.int (0 : Int32))] [(.ref oa)])) rfl (by rw [hml]; rfl) rfl (hb hby own_d_jdk_42_method_151_1) (by decide) (W := 0) (by show 2 * 0 + _ ≤ _; exact Nat.le_of_eq rfl) (by decide)
  have pre3 : ∀ t, Steps p.tables e below (T2.setTop (mkF m 4 #[.val (.ref oa), .val (.ref ob), .val (.int (0 : Int32))] [])) t → Steps p.tables e below (s₁.setTop (entryFrame m #[(.ref oa), (.ref ob), (.int (0 : Int32))] 3)) t := fun t k => pre1 _ (st2 _ k)
  have pre4 : ∀ t, Steps p.tables e below (T2.setTop (mkF m 6 #[.val (.ref oa), .val (.ref ob), .val (.int (0 : Int32))] [(.ref ob), (.ref oa)])) t → Steps p.tables e below (s₁.setTop (entryFrame m #[(.ref oa), (.ref ob), (.int (0 : Int32))] 3)) t := fun t k => pre3 _ (by
    refine XS.aloadN X2.here hx rfl (hb hby own_d_jdk_42_method_151_4) rfl rfl ?_
    refine XS.aloadN X2.here hx rfl (hb hby own_d_jdk_42_method_151_5) rfl rfl ?_
    exact k)
  obtain ⟨T5, h5, X5, e5, W5, st5⟩ := putF X2 hx hZ hown (host := "") (Or.inl (hw _ (List.mem_of_getElem? (i := 22) rfl))) Via.refl e2 F1 E (Or.inr ⟨(hw _ (List.mem_of_getElem? (i := 23) rfl)), rfl, hnm⟩) (hw _ (List.mem_of_getElem? (i := 10) rfl)) (ty := (.array .byte)) (by decide) rfl rfl (g := (mkF m 6 #[.val (.ref oa), .val (.ref ob), .val (.int (0 : Int32))] [(.ref ob), (.ref oa)])) rfl rfl (hb hby own_d_jdk_42_method_151_6)
  have N5 := Fr.snoc X5 N0 ge_oa
  have Z5 : n0 ≤ h5.size := Nat.le_trans Z0 (Keep.of_wr W5).1
  have F5 : Fld Z h5 oa "java/lang/String" "value" "[B" (.ref ob) := F1.same W5
  have pre6 : ∀ t, Steps p.tables e below (T5.setTop (mkF m 9 #[.val (.ref oa), .val (.ref ob), .val (.int (0 : Int32))] [])) t → Steps p.tables e below (s₁.setTop (entryFrame m #[(.ref oa), (.ref ob), (.int (0 : Int32))] 3)) t := fun t k => pre4 _ (st5 _ k)
  have pre7 : ∀ t, Steps p.tables e below (T5.setTop (mkF m 11 #[.val (.ref oa), .val (.ref ob), .val (.int (0 : Int32))] [(.int (0 : Int32)), (.ref oa)])) t → Steps p.tables e below (s₁.setTop (entryFrame m #[(.ref oa), (.ref ob), (.int (0 : Int32))] 3)) t := fun t k => pre6 _ (by
    refine XS.aloadN X5.here hx rfl (hb hby own_d_jdk_42_method_151_9) rfl rfl ?_
    refine XS.iloadN X5.here hx rfl (hb hby own_d_jdk_42_method_151_10) rfl ?_
    exact k)
  obtain ⟨T8, h8, X8, e8, W8, st8⟩ := putF X5 hx hZ hown (host := "") (Or.inl (hw _ (List.mem_of_getElem? (i := 24) rfl))) Via.refl e5 (F2.other W5 (Or.inr (slot_ne (C := "java/lang/String") (Or.inr (hw _ (List.mem_of_getElem? (i := 25) rfl))) (Or.inr (hw _ (List.mem_of_getElem? (i := 23) rfl))) (by decide) (t := .byte) (t' := (.array .byte)) (by decide) (by decide)))) (E.wr W5) (Or.inr ⟨(hw _ (List.mem_of_getElem? (i := 25) rfl)), rfl, hnm⟩) (hw _ (List.mem_of_getElem? (i := 10) rfl)) (ty := .byte) (by decide) rfl rfl (g := (mkF m 11 #[.val (.ref oa), .val (.ref ob), .val (.int (0 : Int32))] [(.int (0 : Int32)), (.ref oa)])) rfl rfl (hb hby own_d_jdk_42_method_151_11)
  have N8 := Fr.snoc X8 N5 ge_oa
  have Z8 : n0 ≤ h8.size := Nat.le_trans Z5 (Keep.of_wr W8).1
  have F8 : Fld Z h8 oa "java/lang/String" "coder" "B" (.int (0 : Int32)) := (F2.other W5 (Or.inr (slot_ne (C := "java/lang/String") (Or.inr (hw _ (List.mem_of_getElem? (i := 25) rfl))) (Or.inr (hw _ (List.mem_of_getElem? (i := 23) rfl))) (by decide) (t := .byte) (t' := (.array .byte)) (by decide) (by decide)))).same W8
  have pre9 : ∀ t, Steps p.tables e below (T8.setTop (mkF m 14 #[.val (.ref oa), .val (.ref ob), .val (.int (0 : Int32))] [])) t → Steps p.tables e below (s₁.setTop (entryFrame m #[(.ref oa), (.ref ob), (.int (0 : Int32))] 3)) t := fun t k => pre7 _ (st8 _ k)
  obtain ⟨fs, hr, hrun, hended, hW, hsame⟩ := X8.leave (v := none) (fun _ => rfl)
  refine ⟨_, _, pre9 _ ?_, hrun, hended, _, _, rfl, ?_, ⟨_, rfl⟩, hW, hsame.mono (by decide) (by decide)⟩
  · show Steps p.tables e below (T8.setTop (mkF m 14 #[.val (.ref oa), .val (.ref ob), .val (.int (0 : Int32))] [])) _
    exact X8.returnOut hx Bd.returns (hb hby own_d_jdk_42_method_151_14) hr
  · show Q_own_strI Z oa ob h0 n0 _ T8.heap _
    rw [e8]
    exact ⟨rfl, N8, ((Keep.refl _ _).wr W5 (Or.inl (List.mem_of_getElem? (i := 0) rfl))).wr W8 (Or.inl (List.mem_of_getElem? (i := 0) rfl)), (F5.other W8 (Or.inr (slot_ne (C := "java/lang/String") (Or.inr (hw _ (List.mem_of_getElem? (i := 23) rfl))) (Or.inr (hw _ (List.mem_of_getElem? (i := 25) rfl))) (by decide) (t := (.array .byte)) (t' := .byte) (by decide) (by decide)))), F8⟩
theorem own_ef_own_valueOf (m : MethodId) (q0 : Int32) : entryFrame m #[(.int q0)] 1 = mkF m 0 #[.val (.int q0)] [] := by first | (simp [entryFrame, mkF, argsToLocals, Value.category]; done) | rfl
def Q_own_valueOf (Z : State) (q0 : Int32) (cs : Int32) (h0 : Heap) (n0 : Nat) (v : Option Value) (h : Heap) (L : List Loc) : Prop := ∃ r : Addr, v = some (.ref r) ∧ Fr n0 L ∧ Keep h0 h [] ∧ own_Str Z h h.size r (own_bx q0)
theorem own_d_jdk_42_method_139_0 : decode jdk_42_method_139_code 0 = .ok (.getstatic 38, 3) := by decide +kernel
theorem own_d_jdk_42_method_139_3 : decode jdk_42_method_139_code 3 = .ok (.ifCond .eq 23, 3) := by decide +kernel
theorem own_d_jdk_42_method_139_6 : decode jdk_42_method_139_code 6 = .ok (.iload_n 0, 1) := by decide +kernel
theorem own_pd__C_Z : parseMethodDescriptor "(C)Z" = some ⟨[.char], some .boolean⟩ := by decide +kernel
theorem own_d_jdk_42_method_139_7 : decode jdk_42_method_139_code 7 = .ok (.invokestatic 1015, 3) := by decide +kernel
theorem own_d_jdk_42_method_139_10 : decode jdk_42_method_139_code 10 = .ok (.ifCond .eq 16, 3) := by decide +kernel
theorem own_d_jdk_42_method_139_13 : decode jdk_42_method_139_code 13 = .ok (.new 10, 3) := by decide +kernel
theorem own_d_jdk_42_method_139_16 : decode jdk_42_method_139_code 16 = .ok (.dup, 1) := by decide +kernel
theorem own_d_jdk_42_method_139_17 : decode jdk_42_method_139_code 17 = .ok (.iload_n 0, 1) := by decide +kernel
theorem own_pd__C__B : parseMethodDescriptor "(C)[B" = some ⟨[.char], some (.array .byte)⟩ := by decide +kernel
theorem own_d_jdk_42_method_139_18 : decode jdk_42_method_139_code 18 = .ok (.invokestatic 1018, 3) := by decide +kernel
theorem own_d_jdk_42_method_139_21 : decode jdk_42_method_139_code 21 = .ok (.iconst 0, 1) := by decide +kernel
theorem own_pd___BB_V : parseMethodDescriptor "([BB)V" = some ⟨[(.array .byte), .byte], none⟩ := by decide +kernel
theorem own_d_jdk_42_method_139_22 : decode jdk_42_method_139_code 22 = .ok (.invokespecial 209, 3) := by decide +kernel
theorem own_d_jdk_42_method_139_25 : decode jdk_42_method_139_code 25 = .ok (.areturn, 1) := by decide +kernel
set_option maxRecDepth 65536 in
set_option maxHeartbeats 40000000 in
theorem own_valueOf (l : Launch) (Z : State) (a0 : Array Value) (hw : ∀ d ∈ tables_1, d.before a0 Z = true) (ws : List Jvm.Cond) (q0 : Int32) (cs : Int32) (h0 : Heap) (n0 : Nat) (Z0 : n0 ≤ h0.size) (CS : Sta Z h0 "java/lang/String" "COMPACT_STRINGS" "Z" (.int cs)) (hcs : ¬ cs = 0) (hq : ¬ (255 : Int32) < q0) :
    MetFree l (⟨"java/lang/String", "valueOf", "(C)Ljava/lang/String;"⟩ : MethodName) (head1 (Jvm.Cond.code (⟨"java/lang/String", "valueOf", "(C)Ljava/lang/String;"⟩ : MethodName) jdk_42_method_139_code 1 (some (.object "java/lang/String")) :: ws) ({ frames := 2, cells := 2, slots := 5, locals := 40 } : Room)) (fun a U => a = #[(.int q0)] ∧ Z.Warmed39 U.vm ∧ U.heap = h0) (fun _ _ _ _ _ => True) (fun _ U o U' => ∃ v L, o = .returned v ∧ Q_own_valueOf Z q0 cs h0 n0 v U'.heap L ∧ FrameEnd U o U' L ({ frames := 2, cells := 2, slots := 5, locals := 40 } : Room).cells ({ frames := 2, cells := 2, slots := 5, locals := 40 } : Room).slots) := by
  refine MetFree.of_bodySF (plainFor_of_name own_pn_java_lang_String) hisR ?_
  intro p e s m args below meth c s₁ Bd hml0 hP hK
  obtain ⟨rfl, hZ, hh⟩ := hP
  have hx := Bd.exec
  have hby := Bd.bytes
  have hml : c.maxLocals = 1 := hml0
  have hown : s.vm.findClass "java/lang/String" = some m.cls := findClass_of_methodNamed Bd.named
  have hnm := (name_of_methodNamed Bd.named Bd.method).1
  have X0 : Stand p l e ({ frames := 2, cells := 2, slots := 5, locals := 40 } : Room) s m #[(.int q0)] below meth c s₁ [] 0 0 := Stand.of_body Bd
  have e0 : s₁.heap = h0 := by rw [← hh, Bd.state]; rfl
  have N0 := Fr.nil n0
  have pre0 : ∀ t, Steps p.tables e below (s₁.setTop (mkF m 0 #[.val (.int q0)] [])) t → Steps p.tables e below (s₁.setTop (entryFrame m #[(.int q0)] 1)) t := fun t k => castTop (own_ef_own_valueOf m q0) k
  obtain ⟨T1, X1, e1, st1⟩ := getS X0 hx hZ hown (host := "") (hw _ (List.mem_of_getElem? (i := 4) rfl)) Via.refl e0 CS (g := (mkF m 0 #[.val (.int q0)] [])) rfl (hb hby own_d_jdk_42_method_139_0)
  have pre2 : ∀ t, Steps p.tables e below (T1.setTop (mkF m 3 #[.val (.int q0)] [(.int cs)])) t → Steps p.tables e below (s₁.setTop (entryFrame m #[(.int q0)] 1)) t := fun t k => pre0 _ (st1 _ k)
  have pre3 : ∀ t, Steps p.tables e below (T1.setTop (mkF m 7 #[.val (.int q0)] [(.int q0)])) t → Steps p.tables e below (s₁.setTop (entryFrame m #[(.int q0)] 1)) t := fun t k => pre2 _ (by
    refine XS.ifNo X1.here hx rfl (hb hby own_d_jdk_42_method_139_3) rfl (XT.i0_eq_f hcs) ?_
    refine XS.iloadN X1.here hx rfl (hb hby own_d_jdk_42_method_139_6) rfl ?_
    exact k)
  obtain ⟨_, _, ⟨T4, L4, k4, n4⟩, -, X4, ⟨Lc4, hQ4, l4, y4, z4⟩, st4⟩ := Jvm.LawKit.callS X1 hx (y := (⟨"java/lang/StringLatin1", "canEncode", "(C)Z"⟩ : MethodName)) hown (mvT hZ (hw _ (List.mem_of_getElem? (i := 5) rfl))) (mvT hZ (hw _ (List.mem_of_getElem? (i := 6) rfl))) (mvT hZ (hw _ (List.mem_of_getElem? (i := 7) rfl))) (mvT hZ (hw _ (List.mem_of_getElem? (i := 8) rfl))) (by decide) (backOf (W := 0) (own_can l Z a0 hw [] q0 h0 n0 Z0 hq) hZ (hw _ (List.mem_of_getElem? (i := 8) rfl)) (hw _ (List.mem_of_getElem? (i := 7) rfl)) (by decide) (by decide)) (g := (mkF m 7 #[.val (.int q0)] [(.int q0)])) rfl (by rw [hml]; rfl) (argsL := [(.int q0)]) (rest := []) (lenOf own_pd__C_Z rfl) rfl (by show 2 * 0 + _ ≤ _; exact Nat.le_of_eq rfl) (hb hby own_d_jdk_42_method_139_7) (fun _ _ => ⟨rfl, e1, (by decide : 0 + 0 ≤ _), (by decide : 0 + 0 ≤ _)⟩)
  dsimp only [Pt.U, Pt.locs, Pt.cells, Pt.slots] at X4 l4 y4 z4 st4 hQ4
  subst l4 y4 z4
  obtain ⟨rfl, N4q, e4⟩ := hQ4
  have N4 := Fr.app N0 N4q
  have pre5 : ∀ t, Steps p.tables e below (T4.setTop (mkF m 10 #[.val (.int q0)] [(.int (1 : Int32))])) t → Steps p.tables e below (s₁.setTop (entryFrame m #[(.int q0)] 1)) t := fun t k => pre3 _ (st4 _ k)
  have pre6 : ∀ t, Steps p.tables e below (T4.setTop (mkF m 13 #[.val (.int q0)] [])) t → Steps p.tables e below (s₁.setTop (entryFrame m #[(.int q0)] 1)) t := fun t k => pre5 _ (by
    refine XS.ifNo X4.here hx rfl (hb hby own_d_jdk_42_method_139_10) rfl (XT.i0_eq_f (by decide)) ?_
    exact k)
  obtain ⟨T7, h7, X7, e7, E7, A7, D7, -, st7⟩ := newO X4 hx hZ hown (hw _ (List.mem_of_getElem? (i := 9) rfl)) (hw _ (List.mem_of_getElem? (i := 10) rfl)) (hw _ (List.mem_of_getElem? (i := 2) rfl)) e4 (g := (mkF m 13 #[.val (.int q0)] [])) rfl (hb hby own_d_jdk_42_method_139_13) (by decide) (by decide)
  obtain ⟨a7, ga7⟩ : ∃ z, z = h0.size := ⟨_, rfl⟩
  rw [← ga7] at A7 D7 st7
  have ge_a7 : n0 ≤ a7 := Nat.le_trans Z0 (Nat.le_of_eq ga7.symm)
  have F7_value : Fld Z h7 a7 "java/lang/String" "value" "[B" .null := D7 (Or.inr (hw _ (List.mem_of_getElem? (i := 23) rfl))) (ty := (.array .byte)) (by decide)
  have F7_coder : Fld Z h7 a7 "java/lang/String" "coder" "B" (.int (0 : Int32)) := D7 (Or.inr (hw _ (List.mem_of_getElem? (i := 25) rfl))) (ty := .byte) (by decide)
  have Z7 : n0 ≤ h7.size := Nat.le_trans Z0 E7.1
  have pre8 : ∀ t, Steps p.tables e below (T7.setTop (mkF m 16 #[.val (.int q0)] [(.ref a7)])) t → Steps p.tables e below (s₁.setTop (entryFrame m #[(.int q0)] 1)) t := fun t k => pre6 _ (st7 _ k)
  have pre9 : ∀ t, Steps p.tables e below (T7.setTop (mkF m 18 #[.val (.int q0)] [(.int q0), (.ref a7), (.ref a7)])) t → Steps p.tables e below (s₁.setTop (entryFrame m #[(.int q0)] 1)) t := fun t k => pre8 _ (by
    refine XS.dup X7.here hx rfl (hb hby own_d_jdk_42_method_139_16) rfl rfl ?_
    refine XS.iloadN X7.here hx rfl (hb hby own_d_jdk_42_method_139_17) rfl ?_
    exact k)
  obtain ⟨_, _, ⟨T10, L10, k10, n10⟩, -, X10, ⟨Lc10, hQ10, l10, y10, z10⟩, st10⟩ := Jvm.LawKit.callS X7 hx (y := (⟨"java/lang/StringLatin1", "toBytes", "(C)[B"⟩ : MethodName)) hown (mvT hZ (hw _ (List.mem_of_getElem? (i := 11) rfl))) (mvT hZ (hw _ (List.mem_of_getElem? (i := 12) rfl))) (mvT hZ (hw _ (List.mem_of_getElem? (i := 7) rfl))) (mvT hZ (hw _ (List.mem_of_getElem? (i := 13) rfl))) (by decide) (backOf (W := 2) (own_bytes l Z a0 hw [] q0 h7 n0 Z7) hZ (hw _ (List.mem_of_getElem? (i := 13) rfl)) (hw _ (List.mem_of_getElem? (i := 7) rfl)) (by decide) (by decide)) (g := (mkF m 18 #[.val (.int q0)] [(.int q0), (.ref a7), (.ref a7)])) rfl (by rw [hml]; rfl) (argsL := [(.int q0)]) (rest := [(.ref a7), (.ref a7)]) (lenOf own_pd__C__B rfl) rfl (by show 2 * 0 + _ ≤ _; exact Nat.le_of_eq rfl) (hb hby own_d_jdk_42_method_139_18) (fun _ _ => ⟨rfl, e7, (by decide : 1 + 1 ≤ _), (by decide : 4 + 1 ≤ _)⟩)
  dsimp only [Pt.U, Pt.locs, Pt.cells, Pt.slots] at X10 l10 y10 z10 st10 hQ10
  subst l10 y10 z10
  obtain ⟨h10, e10⟩ : ∃ z, T10.heap = z := ⟨_, rfl⟩
  rw [e10] at hQ10
  obtain ⟨r10, kb10, rfl, N10q, K10, gr10, VB10⟩ := hQ10
  have Z10 : n0 ≤ h10.size := Nat.le_trans Z7 K10.1
  have N10 := Fr.app N4 N10q
  have pre11 : ∀ t, Steps p.tables e below (T10.setTop (mkF m 21 #[.val (.int q0)] [(.ref r10), (.ref a7), (.ref a7)])) t → Steps p.tables e below (s₁.setTop (entryFrame m #[(.int q0)] 1)) t := fun t k => pre9 _ (st10 _ k)
  have ne_a7_r10 : a7 ≠ r10 := Nat.ne_of_lt (Nat.lt_of_lt_of_le (A7).lt gr10)
  have pre12 : ∀ t, Steps p.tables e below (T10.setTop (mkF m 22 #[.val (.int q0)] [(.int (0 : Int32)), (.ref r10), (.ref a7), (.ref a7)])) t → Steps p.tables e below (s₁.setTop (entryFrame m #[(.int q0)] 1)) t := fun t k => pre11 _ (by
    refine XT.iconstV X10.here hx rfl (0 : Int32) (hb hby own_d_jdk_42_method_139_21) rfl ?_
    exact k)
  obtain ⟨_, _, ⟨T13, L13, k13, n13⟩, -, X13, ⟨Lc13, hQ13, l13, y13, z13⟩, st13⟩ := X10.specialBack hx (y := (⟨"java/lang/String", "<init>", "([BB)V"⟩ : MethodName)) rfl hown (mvT hZ (hw _ (List.mem_of_getElem? (i := 15) rfl))) (mvT hZ (hw _ (List.mem_of_getElem? (i := 16) rfl))) (mvT hZ (hw _ (List.mem_of_getElem? (i := 18) rfl))) (by decide) (backOf (W := 1) (own_strI l Z a0 hw [] a7 r10 h10 n0 Z10 (F7_value.keep K10 nin0) (F7_coder.keep K10 nin0) (A7.keep K10) ge_a7) hZ (hw _ (List.mem_of_getElem? (i := 18) rfl)) (hw _ (List.mem_of_getElem? (i := 2) rfl)) (by decide) (by decide)) (g := (mkF m 22 #[.val (.int q0)] [(.int (0 : Int32)), (.ref r10), (.ref a7), (.ref a7)])) rfl (by rw [hml]; rfl) (Steps.refl _) (a := a7) (argsL := [(.ref r10), (.int (0 : Int32))]) (rest := [(.ref a7)]) (lenOf own_pd___BB_V rfl) rfl (by show 2 * 0 + _ ≤ _; exact Nat.le_of_eq rfl) (hb hby own_d_jdk_42_method_139_22) (fun _ _ => ⟨rfl, e10, (by decide : 2 + 0 ≤ _), (by decide : 5 + 0 ≤ _)⟩)
  dsimp only [Pt.U, Pt.locs, Pt.cells, Pt.slots] at X13 l13 y13 z13 st13 hQ13
  subst l13 y13 z13
  obtain ⟨h13, e13⟩ : ∃ z, T13.heap = z := ⟨_, rfl⟩
  rw [e13] at hQ13
  obtain ⟨rfl, N13q, K13, FV13, FC13⟩ := hQ13
  have Z13 : n0 ≤ h13.size := Nat.le_trans Z10 K13.1
  have N13 := Fr.app N10 N13q
  have pre14 : ∀ t, Steps p.tables e below (T13.setTop (mkF m 25 #[.val (.int q0)] [(.ref a7)])) t → Steps p.tables e below (s₁.setTop (entryFrame m #[(.int q0)] 1)) t := fun t k => pre12 _ (st13.trans k)
  obtain ⟨fs, hr, hrun, hended, hW, hsame⟩ := X13.leave (v := some (.ref a7)) (fun h => by rw [Bd.returns] at h; cases h)
  refine ⟨_, _, pre14 _ ?_, hrun, hended, _, _, rfl, ?_, ⟨_, rfl⟩, hW, hsame.mono (by decide) (by decide)⟩
  · show Steps p.tables e below (T13.setTop (mkF m 25 #[.val (.int q0)] [(.ref a7)])) _
    exact retOut X13 hx Bd.returns rfl (Or.inr (Or.inr (Or.inr (Or.inr ⟨rfl, rfl, rfl⟩)))) (hb hby own_d_jdk_42_method_139_25) hr
  · show Q_own_valueOf Z q0 cs h0 n0 _ T13.heap _
    rw [e13]
    exact ⟨a7, rfl, N13, (((Keep.refl _ _).ext E7).trans K10 all0).trans K13 (allS (Or.inr (Nat.le_of_eq ga7.symm)) all0), (((A7.keep K10).keep K13)).lt, ((A7.keep K10).keep K13), FC13, r10, kb10, ((VB10.keep K13 (ninS ne_a7_r10.symm nin0))).lt, FV13, (VB10.keep K13 (ninS ne_a7_r10.symm nin0))⟩
theorem own_ef_own_eqB (m : MethodId) (ta : Addr) (tb : Addr) : entryFrame m #[(.ref ta), (.ref tb)] 3 = mkF m 0 #[.val (.ref ta), .val (.ref tb), .unset] [] := by first | (simp [entryFrame, mkF, argsToLocals, Value.category]; done) | rfl
def Q_own_eqB (Z : State) (ta : Addr) (tb : Addr) (ka : ClassId) (kb : ClassId) (x : Int32) (y : Int32) (h0 : Heap) (n0 : Nat) (v : Option Value) (h : Heap) (L : List Loc) : Prop := v = some (.int (if x = y then (1 : Int32) else (0 : Int32))) ∧ Fr n0 L ∧ h = h0
theorem own_d_jdk_43_method_13_0 : decode jdk_43_method_13_code 0 = .ok (.aload_n 0, 1) := by decide +kernel
theorem own_d_jdk_43_method_13_1 : decode jdk_43_method_13_code 1 = .ok (.arraylength, 1) := by decide +kernel
theorem own_d_jdk_43_method_13_2 : decode jdk_43_method_13_code 2 = .ok (.aload_n 1, 1) := by decide +kernel
theorem own_d_jdk_43_method_13_3 : decode jdk_43_method_13_code 3 = .ok (.arraylength, 1) := by decide +kernel
theorem own_d_jdk_43_method_13_4 : decode jdk_43_method_13_code 4 = .ok (.if_icmp .ne 30, 3) := by decide +kernel
theorem own_d_jdk_43_method_13_7 : decode jdk_43_method_13_code 7 = .ok (.iconst 0, 1) := by decide +kernel
theorem own_d_jdk_43_method_13_8 : decode jdk_43_method_13_code 8 = .ok (.istore_n 2, 1) := by decide +kernel
theorem own_d_jdk_43_method_13_9 : decode jdk_43_method_13_code 9 = .ok (.iload_n 2, 1) := by decide +kernel
theorem own_d_jdk_43_method_13_10 : decode jdk_43_method_13_code 10 = .ok (.aload_n 0, 1) := by decide +kernel
theorem own_d_jdk_43_method_13_11 : decode jdk_43_method_13_code 11 = .ok (.arraylength, 1) := by decide +kernel
theorem own_d_jdk_43_method_13_12 : decode jdk_43_method_13_code 12 = .ok (.if_icmp .ge 20, 3) := by decide +kernel
theorem own_d_jdk_43_method_13_15 : decode jdk_43_method_13_code 15 = .ok (.aload_n 0, 1) := by decide +kernel
theorem own_d_jdk_43_method_13_16 : decode jdk_43_method_13_code 16 = .ok (.iload_n 2, 1) := by decide +kernel
theorem own_d_jdk_43_method_13_17 : decode jdk_43_method_13_code 17 = .ok (.baload, 1) := by decide +kernel
theorem own_d_jdk_43_method_13_18 : decode jdk_43_method_13_code 18 = .ok (.aload_n 1, 1) := by decide +kernel
theorem own_d_jdk_43_method_13_19 : decode jdk_43_method_13_code 19 = .ok (.iload_n 2, 1) := by decide +kernel
theorem own_d_jdk_43_method_13_20 : decode jdk_43_method_13_code 20 = .ok (.baload, 1) := by decide +kernel
theorem own_d_jdk_43_method_13_21 : decode jdk_43_method_13_code 21 = .ok (.if_icmp .eq 5, 3) := by decide +kernel
theorem own_d_jdk_43_method_13_26 : decode jdk_43_method_13_code 26 = .ok (.iinc 2 1, 3) := by decide +kernel
theorem own_d_jdk_43_method_13_29 : decode jdk_43_method_13_code 29 = .ok (.goto (-20), 3) := by decide +kernel
theorem own_d_jdk_43_method_13_32 : decode jdk_43_method_13_code 32 = .ok (.iconst 1, 1) := by decide +kernel
theorem own_d_jdk_43_method_13_33 : decode jdk_43_method_13_code 33 = .ok (.ireturn, 1) := by decide +kernel
theorem own_d_jdk_43_method_13_24 : decode jdk_43_method_13_code 24 = .ok (.iconst 0, 1) := by decide +kernel
theorem own_d_jdk_43_method_13_25 : decode jdk_43_method_13_code 25 = .ok (.ireturn, 1) := by decide +kernel
set_option maxRecDepth 65536 in
set_option maxHeartbeats 40000000 in
theorem own_eqB (l : Launch) (Z : State) (a0 : Array Value) (hw : ∀ d ∈ tables_1, d.before a0 Z = true) (ws : List Jvm.Cond) (ta : Addr) (tb : Addr) (ka : ClassId) (kb : ClassId) (x : Int32) (y : Int32) (h0 : Heap) (n0 : Nat) (Z0 : n0 ≤ h0.size) (VA : Arv Z h0 ta ka .byte (1 : Int32) [(.int x)] (.int (0 : Int32))) (VB : Arv Z h0 tb kb .byte (1 : Int32) [(.int y)] (.int (0 : Int32))) :
    MetFree l (⟨"java/lang/StringLatin1", "equals", "([B[B)Z"⟩ : MethodName) (head1 (Jvm.Cond.code (⟨"java/lang/StringLatin1", "equals", "([B[B)Z"⟩ : MethodName) jdk_43_method_13_code 3 (some .boolean) :: ws) ({ frames := 0, cells := 0, slots := 0, locals := 0 } : Room)) (fun a U => a = #[(.ref ta), (.ref tb)] ∧ Z.Warmed39 U.vm ∧ U.heap = h0) (fun _ _ _ _ _ => True) (fun _ U o U' => ∃ v L, o = .returned v ∧ Q_own_eqB Z ta tb ka kb x y h0 n0 v U'.heap L ∧ FrameEnd U o U' L ({ frames := 0, cells := 0, slots := 0, locals := 0 } : Room).cells ({ frames := 0, cells := 0, slots := 0, locals := 0 } : Room).slots) := by
  refine MetFree.of_bodySF (plainFor_of_name own_pn_java_lang_StringLatin1) hisR ?_
  intro p e s m args below meth c s₁ Bd hml0 hP hK
  obtain ⟨rfl, hZ, hh⟩ := hP
  have hx := Bd.exec
  have hby := Bd.bytes
  have hml : c.maxLocals = 3 := hml0
  have hown : s.vm.findClass "java/lang/StringLatin1" = some m.cls := findClass_of_methodNamed Bd.named
  have hnm := (name_of_methodNamed Bd.named Bd.method).1
  have X0 : Stand p l e ({ frames := 0, cells := 0, slots := 0, locals := 0 } : Room) s m #[(.ref ta), (.ref tb)] below meth c s₁ [] 0 0 := Stand.of_body Bd
  have e0 : s₁.heap = h0 := by rw [← hh, Bd.state]; rfl
  have N0 := Fr.nil n0
  have pre0 : ∀ t, Steps p.tables e below (s₁.setTop (mkF m 0 #[.val (.ref ta), .val (.ref tb), .unset] [])) t → Steps p.tables e below (s₁.setTop (entryFrame m #[(.ref ta), (.ref tb)] 3)) t := fun t k => castTop (own_ef_own_eqB m ta tb) k
  have pre2 : ∀ t, Steps p.tables e below (s₁.setTop (mkF m 1 #[.val (.ref ta), .val (.ref tb), .unset] [(.ref ta)])) t → Steps p.tables e below (s₁.setTop (entryFrame m #[(.ref ta), (.ref tb)] 3)) t := fun t k => pre0 _ (by
    refine XS.aloadN X0.here hx rfl (hb hby own_d_jdk_43_method_13_0) rfl rfl ?_
    exact k)
  obtain ⟨cl1, Ar1, qc1, Sz1, Mz1, Hs1, Uf1⟩ := (show Arv Z h0 ta ka .byte (1 : Int32) [(.int x)] (.int (0 : Int32)) from VA)
  have pre4 : ∀ t, Steps p.tables e below (s₁.setTop (mkF m 3 #[.val (.ref ta), .val (.ref tb), .unset] [(.ref tb), (.int (1 : Int32))])) t → Steps p.tables e below (s₁.setTop (entryFrame m #[(.ref ta), (.ref tb)] 3)) t := fun t k => pre2 _ (by
    refine X0.arraylength hx (by rw [e0]; exact Ar1.1) (State.isArrayOf_alike hZ.alike Ar1.2.1) (g := (mkF m 1 #[.val (.ref ta), .val (.ref tb), .unset] [(.ref ta)])) rfl rfl (hb hby own_d_jdk_43_method_13_1) _ ?_
    rw [len_of Sz1 Mz1]
    refine XS.aloadN X0.here hx rfl (hb hby own_d_jdk_43_method_13_2) rfl rfl ?_
    exact k)
  obtain ⟨cl3, Ar3, qc3, Sz3, Mz3, Hs3, Uf3⟩ := (show Arv Z h0 tb kb .byte (1 : Int32) [(.int y)] (.int (0 : Int32)) from VB)
  have pre6 : ∀ t, Steps p.tables e below (s₁.setTop (mkF m 11 #[.val (.ref ta), .val (.ref tb), .val (.int (0 : Int32))] [(.ref ta), (.int (0 : Int32))])) t → Steps p.tables e below (s₁.setTop (entryFrame m #[(.ref ta), (.ref tb)] 3)) t := fun t k => pre4 _ (by
    refine X0.arraylength hx (by rw [e0]; exact Ar3.1) (State.isArrayOf_alike hZ.alike Ar3.2.1) (g := (mkF m 3 #[.val (.ref ta), .val (.ref tb), .unset] [(.ref tb), (.int (1 : Int32))])) rfl rfl (hb hby own_d_jdk_43_method_13_3) _ ?_
    rw [len_of Sz3 Mz3]
    refine XS.icmpNo X0.here hx rfl (hb hby own_d_jdk_43_method_13_4) rfl (XT.ii_ne_f (by decide)) ?_
    refine XT.iconstV X0.here hx rfl (0 : Int32) (hb hby own_d_jdk_43_method_13_7) rfl ?_
    refine XS.istoreN X0.here hx rfl (hb hby own_d_jdk_43_method_13_8) rfl (l' := #[.val (.ref ta), .val (.ref tb), .val (.int (0 : Int32))]) rfl ?_
    refine XS.iloadN X0.here hx rfl (hb hby own_d_jdk_43_method_13_9) rfl ?_
    refine XS.aloadN X0.here hx rfl (hb hby own_d_jdk_43_method_13_10) rfl rfl ?_
    exact k)
  obtain ⟨cl5, Ar5, qc5, Sz5, Mz5, Hs5, Uf5⟩ := (show Arv Z h0 ta ka .byte (1 : Int32) [(.int x)] (.int (0 : Int32)) from VA)
  have pre8 : ∀ t, Steps p.tables e below (s₁.setTop (mkF m 17 #[.val (.ref ta), .val (.ref tb), .val (.int (0 : Int32))] [(.int (0 : Int32)), (.ref ta)])) t → Steps p.tables e below (s₁.setTop (entryFrame m #[(.ref ta), (.ref tb)] 3)) t := fun t k => pre6 _ (by
    refine X0.arraylength hx (by rw [e0]; exact Ar5.1) (State.isArrayOf_alike hZ.alike Ar5.2.1) (g := (mkF m 11 #[.val (.ref ta), .val (.ref tb), .val (.int (0 : Int32))] [(.ref ta), (.int (0 : Int32))])) rfl rfl (hb hby own_d_jdk_43_method_13_11) _ ?_
    rw [len_of Sz5 Mz5]
    refine XS.icmpNo X0.here hx rfl (hb hby own_d_jdk_43_method_13_12) rfl (XT.ii_ge_f (by decide)) ?_
    refine XS.aloadN X0.here hx rfl (hb hby own_d_jdk_43_method_13_15) rfl rfl ?_
    refine XS.iloadN X0.here hx rfl (hb hby own_d_jdk_43_method_13_16) rfl ?_
    exact k)
  obtain ⟨cl7, Ar7, qc7, Sz7, Mz7, Hs7, Uf7⟩ := (show Arv Z h0 ta ka .byte (1 : Int32) [(.int x)] (.int (0 : Int32)) from VA)
  have in9 : ¬ ((0 : Int32) < 0 ∨ cl7.slots.size ≤ ((0 : Int32)).toNatClampNeg) := inb_of Sz7 (by decide)
  have at9 : cl7.slots[((0 : Int32)).toNatClampNeg]? = some (.int x) := Hs7.at in9 rfl
  have pre11 : ∀ t, Steps p.tables e below (s₁.setTop (mkF m 20 #[.val (.ref ta), .val (.ref tb), .val (.int (0 : Int32))] [(.int (0 : Int32)), (.ref tb), (.int x)])) t → Steps p.tables e below (s₁.setTop (entryFrame m #[(.ref ta), (.ref tb)] 3)) t := fun t k => pre8 _ (by
    refine X0.baloadBytes hx (j := (0 : Int32)) (v := (.int x)) (by rw [e0]; exact Ar7.1) (State.isArrayOf_alike hZ.alike Ar7.2.1) Ar7.2.2 in9 at9 (g := (mkF m 17 #[.val (.ref ta), .val (.ref tb), .val (.int (0 : Int32))] [(.int (0 : Int32)), (.ref ta)])) rfl rfl (hb hby own_d_jdk_43_method_13_17) _ ?_
    refine XS.aloadN X0.here hx rfl (hb hby own_d_jdk_43_method_13_18) rfl rfl ?_
    refine XS.iloadN X0.here hx rfl (hb hby own_d_jdk_43_method_13_19) rfl ?_
    exact k)
  obtain ⟨cl10, Ar10, qc10, Sz10, Mz10, Hs10, Uf10⟩ := (show Arv Z h0 tb kb .byte (1 : Int32) [(.int y)] (.int (0 : Int32)) from VB)
  have in12 : ¬ ((0 : Int32) < 0 ∨ cl10.slots.size ≤ ((0 : Int32)).toNatClampNeg) := inb_of Sz10 (by decide)
  have at12 : cl10.slots[((0 : Int32)).toNatClampNeg]? = some (.int y) := Hs10.at in12 rfl
  have pre13 : ∀ t, Steps p.tables e below (s₁.setTop (mkF m 21 #[.val (.ref ta), .val (.ref tb), .val (.int (0 : Int32))] [(.int y), (.int x)])) t → Steps p.tables e below (s₁.setTop (entryFrame m #[(.ref ta), (.ref tb)] 3)) t := fun t k => pre11 _ (by
    refine X0.baloadBytes hx (j := (0 : Int32)) (v := (.int y)) (by rw [e0]; exact Ar10.1) (State.isArrayOf_alike hZ.alike Ar10.2.1) Ar10.2.2 in12 at12 (g := (mkF m 20 #[.val (.ref ta), .val (.ref tb), .val (.int (0 : Int32))] [(.int (0 : Int32)), (.ref tb), (.int x)])) rfl rfl (hb hby own_d_jdk_43_method_13_20) _ ?_
    exact k)
  by_cases c21 : x = y
  · have pre15 : ∀ t, Steps p.tables e below (s₁.setTop (mkF m 11 #[.val (.ref ta), .val (.ref tb), .val (.int (1 : Int32))] [(.ref ta), (.int (1 : Int32))])) t → Steps p.tables e below (s₁.setTop (entryFrame m #[(.ref ta), (.ref tb)] 3)) t := fun t k => pre13 _ (by
      refine XS.icmpYes X0.here hx rfl (pc0 := 21) (pc' := 26) rfl (hb hby own_d_jdk_43_method_13_21) rfl (XT.ii_eq_t c21) (by decide) (by decide) ?_
      refine XT.iincV X0.here hx rfl (1 : Int32) (hb hby own_d_jdk_43_method_13_26) rfl rfl (l' := #[.val (.ref ta), .val (.ref tb), .val (.int (1 : Int32))]) rfl ?_
      refine XS.goto X0.here hx rfl (pc0 := 29) (pc' := 9) rfl (hb hby own_d_jdk_43_method_13_29) (by decide) (by decide) ?_
      refine XS.iloadN X0.here hx rfl (hb hby own_d_jdk_43_method_13_9) rfl ?_
      refine XS.aloadN X0.here hx rfl (hb hby own_d_jdk_43_method_13_10) rfl rfl ?_
      exact k)
    obtain ⟨cl14, Ar14, qc14, Sz14, Mz14, Hs14, Uf14⟩ := (show Arv Z h0 ta ka .byte (1 : Int32) [(.int x)] (.int (0 : Int32)) from VA)
    have pre16 : ∀ t, Steps p.tables e below (s₁.setTop (mkF m 33 #[.val (.ref ta), .val (.ref tb), .val (.int (1 : Int32))] [(.int (1 : Int32))])) t → Steps p.tables e below (s₁.setTop (entryFrame m #[(.ref ta), (.ref tb)] 3)) t := fun t k => pre15 _ (by
      refine X0.arraylength hx (by rw [e0]; exact Ar14.1) (State.isArrayOf_alike hZ.alike Ar14.2.1) (g := (mkF m 11 #[.val (.ref ta), .val (.ref tb), .val (.int (1 : Int32))] [(.ref ta), (.int (1 : Int32))])) rfl rfl (hb hby own_d_jdk_43_method_13_11) _ ?_
      rw [len_of Sz14 Mz14]
      refine XS.icmpYes X0.here hx rfl (pc0 := 12) (pc' := 32) rfl (hb hby own_d_jdk_43_method_13_12) rfl (XT.ii_ge_t (by decide)) (by decide) (by decide) ?_
      refine XT.iconstV X0.here hx rfl (1 : Int32) (hb hby own_d_jdk_43_method_13_32) rfl ?_
      exact k)
    obtain ⟨fs, hr, hrun, hended, hW, hsame⟩ := X0.leave (v := some (.int (1 : Int32))) (fun h => by rw [Bd.returns] at h; cases h)
    refine ⟨_, _, pre16 _ ?_, hrun, hended, _, _, rfl, ?_, ⟨_, rfl⟩, hW, hsame.mono (by decide) (by decide)⟩
    · show Steps p.tables e below (s₁.setTop (mkF m 33 #[.val (.ref ta), .val (.ref tb), .val (.int (1 : Int32))] [(.int (1 : Int32))])) _
      exact retN X0 hx (t := .boolean) Bd.returns (by simp) (hb hby own_d_jdk_43_method_13_33) hr
    · show Q_own_eqB Z ta tb ka kb x y h0 n0 _ s₁.heap _
      rw [e0]
      exact ⟨by rw [if_pos c21], N0, rfl⟩
  · have pre17 : ∀ t, Steps p.tables e below (s₁.setTop (mkF m 25 #[.val (.ref ta), .val (.ref tb), .val (.int (0 : Int32))] [(.int (0 : Int32))])) t → Steps p.tables e below (s₁.setTop (entryFrame m #[(.ref ta), (.ref tb)] 3)) t := fun t k => pre13 _ (by
      refine XS.icmpNo X0.here hx rfl (hb hby own_d_jdk_43_method_13_21) rfl (XT.ii_eq_f c21) ?_
      refine XT.iconstV X0.here hx rfl (0 : Int32) (hb hby own_d_jdk_43_method_13_24) rfl ?_
      exact k)
    obtain ⟨fs, hr, hrun, hended, hW, hsame⟩ := X0.leave (v := some (.int (0 : Int32))) (fun h => by rw [Bd.returns] at h; cases h)
    refine ⟨_, _, pre17 _ ?_, hrun, hended, _, _, rfl, ?_, ⟨_, rfl⟩, hW, hsame.mono (by decide) (by decide)⟩
    · show Steps p.tables e below (s₁.setTop (mkF m 25 #[.val (.ref ta), .val (.ref tb), .val (.int (0 : Int32))] [(.int (0 : Int32))])) _
      exact retN X0 hx (t := .boolean) Bd.returns (by simp) (hb hby own_d_jdk_43_method_13_25) hr
    · show Q_own_eqB Z ta tb ka kb x y h0 n0 _ s₁.heap _
      rw [e0]
      exact ⟨by rw [if_neg c21], N0, rfl⟩
theorem own_ef_own_eqS (m : MethodId) (oa : Addr) (ob : Addr) : entryFrame m #[(.ref oa), (.ref ob)] 3 = mkF m 0 #[.val (.ref oa), .val (.ref ob), .unset] [] := by first | (simp [entryFrame, mkF, argsToLocals, Value.category]; done) | rfl
def Q_own_eqS (Z : State) (oa : Addr) (ob : Addr) (NN : Nat) (x : Int32) (y : Int32) (cs : Int32) (h0 : Heap) (n0 : Nat) (v : Option Value) (h : Heap) (L : List Loc) : Prop := v = some (.int (if x = y then (1 : Int32) else (0 : Int32))) ∧ Fr n0 L ∧ h = h0
theorem own_d_jdk_42_method_66_0 : decode jdk_42_method_66_code 0 = .ok (.aload_n 0, 1) := by decide +kernel
theorem own_d_jdk_42_method_66_1 : decode jdk_42_method_66_code 1 = .ok (.aload_n 1, 1) := by decide +kernel
theorem own_d_jdk_42_method_66_2 : decode jdk_42_method_66_code 2 = .ok (.if_acmp .ne 5, 3) := by decide +kernel
theorem own_d_jdk_42_method_66_5 : decode jdk_42_method_66_code 5 = .ok (.iconst 1, 1) := by decide +kernel
theorem own_d_jdk_42_method_66_6 : decode jdk_42_method_66_code 6 = .ok (.ireturn, 1) := by decide +kernel
theorem own_d_jdk_42_method_66_7 : decode jdk_42_method_66_code 7 = .ok (.aload_n 1, 1) := by decide +kernel
theorem own_d_jdk_42_method_66_8 : decode jdk_42_method_66_code 8 = .ok (.instanceof 10, 3) := by decide +kernel
theorem own_d_jdk_42_method_66_11 : decode jdk_42_method_66_code 11 = .ok (.ifCond .eq 43, 3) := by decide +kernel
theorem own_d_jdk_42_method_66_14 : decode jdk_42_method_66_code 14 = .ok (.aload_n 1, 1) := by decide +kernel
theorem own_d_jdk_42_method_66_15 : decode jdk_42_method_66_code 15 = .ok (.checkcast 10, 3) := by decide +kernel
theorem own_d_jdk_42_method_66_18 : decode jdk_42_method_66_code 18 = .ok (.astore_n 2, 1) := by decide +kernel
theorem own_d_jdk_42_method_66_19 : decode jdk_42_method_66_code 19 = .ok (.getstatic 38, 3) := by decide +kernel
theorem own_d_jdk_42_method_66_22 : decode jdk_42_method_66_code 22 = .ok (.ifCond .eq 14, 3) := by decide +kernel
theorem own_d_jdk_42_method_66_25 : decode jdk_42_method_66_code 25 = .ok (.aload_n 0, 1) := by decide +kernel
theorem own_d_jdk_42_method_66_26 : decode jdk_42_method_66_code 26 = .ok (.getfield 15, 3) := by decide +kernel
theorem own_d_jdk_42_method_66_29 : decode jdk_42_method_66_code 29 = .ok (.aload_n 2, 1) := by decide +kernel
theorem own_d_jdk_42_method_66_30 : decode jdk_42_method_66_code 30 = .ok (.getfield 15, 3) := by decide +kernel
theorem own_d_jdk_42_method_66_33 : decode jdk_42_method_66_code 33 = .ok (.if_icmp .ne 21, 3) := by decide +kernel
theorem own_d_jdk_42_method_66_36 : decode jdk_42_method_66_code 36 = .ok (.aload_n 0, 1) := by decide +kernel
theorem own_d_jdk_42_method_66_37 : decode jdk_42_method_66_code 37 = .ok (.getfield 9, 3) := by decide +kernel
theorem own_d_jdk_42_method_66_40 : decode jdk_42_method_66_code 40 = .ok (.aload_n 2, 1) := by decide +kernel
theorem own_d_jdk_42_method_66_41 : decode jdk_42_method_66_code 41 = .ok (.getfield 9, 3) := by decide +kernel
theorem own_pd___B_B_Z : parseMethodDescriptor "([B[B)Z" = some ⟨[(.array .byte), (.array .byte)], some .boolean⟩ := by decide +kernel
theorem own_d_jdk_42_method_66_44 : decode jdk_42_method_66_code 44 = .ok (.invokestatic 541, 3) := by decide +kernel
theorem own_d_jdk_42_method_66_47 : decode jdk_42_method_66_code 47 = .ok (.ifCond .eq 7, 3) := by decide +kernel
theorem own_d_jdk_42_method_66_50 : decode jdk_42_method_66_code 50 = .ok (.iconst 1, 1) := by decide +kernel
theorem own_d_jdk_42_method_66_51 : decode jdk_42_method_66_code 51 = .ok (.goto 4, 3) := by decide +kernel
theorem own_d_jdk_42_method_66_55 : decode jdk_42_method_66_code 55 = .ok (.ireturn, 1) := by decide +kernel
theorem own_d_jdk_42_method_66_54 : decode jdk_42_method_66_code 54 = .ok (.iconst 0, 1) := by decide +kernel
set_option maxRecDepth 65536 in
set_option maxHeartbeats 40000000 in
theorem own_eqS (l : Launch) (Z : State) (a0 : Array Value) (hw : ∀ d ∈ tables_1, d.before a0 Z = true) (ws : List Jvm.Cond) (oa : Addr) (ob : Addr) (NN : Nat) (x : Int32) (y : Int32) (cs : Int32) (h0 : Heap) (n0 : Nat) (Z0 : n0 ≤ h0.size) (CS : Sta Z h0 "java/lang/String" "COMPACT_STRINGS" "Z" (.int cs)) (hcs : ¬ cs = 0) (SA : own_Str Z h0 NN oa x) (SB : own_Str Z h0 NN ob y) :
    MetFree l (⟨"java/lang/String", "equals", "(Ljava/lang/Object;)Z"⟩ : MethodName) (head1 (Jvm.Cond.code (⟨"java/lang/String", "equals", "(Ljava/lang/Object;)Z"⟩ : MethodName) jdk_42_method_66_code 3 (some .boolean) :: ws) ({ frames := 1, cells := 0, slots := 0, locals := 14 } : Room)) (fun a U => a = #[(.ref oa), (.ref ob)] ∧ Z.Warmed39 U.vm ∧ U.heap = h0) (fun _ _ _ _ _ => True) (fun _ U o U' => ∃ v L, o = .returned v ∧ Q_own_eqS Z oa ob NN x y cs h0 n0 v U'.heap L ∧ FrameEnd U o U' L ({ frames := 1, cells := 0, slots := 0, locals := 14 } : Room).cells ({ frames := 1, cells := 0, slots := 0, locals := 14 } : Room).slots) := by
  refine MetFree.of_bodySF (plainFor_of_name own_pn_java_lang_String) hisR ?_
  intro p e s m args below meth c s₁ Bd hml0 hP hK
  obtain ⟨rfl, hZ, hh⟩ := hP
  have hx := Bd.exec
  have hby := Bd.bytes
  have hml : c.maxLocals = 3 := hml0
  have hown : s.vm.findClass "java/lang/String" = some m.cls := findClass_of_methodNamed Bd.named
  have hnm := (name_of_methodNamed Bd.named Bd.method).1
  have X0 : Stand p l e ({ frames := 1, cells := 0, slots := 0, locals := 14 } : Room) s m #[(.ref oa), (.ref ob)] below meth c s₁ [] 0 0 := Stand.of_body Bd
  have e0 : s₁.heap = h0 := by rw [← hh, Bd.state]; rfl
  have N0 := Fr.nil n0
  have pre0 : ∀ t, Steps p.tables e below (s₁.setTop (mkF m 0 #[.val (.ref oa), .val (.ref ob), .unset] [])) t → Steps p.tables e below (s₁.setTop (entryFrame m #[(.ref oa), (.ref ob)] 3)) t := fun t k => castTop (own_ef_own_eqS m oa ob) k
  obtain ⟨-, EA, CA, va, ka, -, FA, VA⟩ := SA
  obtain ⟨-, EB, CB, vb, kb, -, FB, VB⟩ := SB
  have pre1 : ∀ t, Steps p.tables e below (s₁.setTop (mkF m 2 #[.val (.ref oa), .val (.ref ob), .unset] [(.ref ob), (.ref oa)])) t → Steps p.tables e below (s₁.setTop (entryFrame m #[(.ref oa), (.ref ob)] 3)) t := fun t k => pre0 _ (by
    refine XS.aloadN X0.here hx rfl (hb hby own_d_jdk_42_method_66_0) rfl rfl ?_
    refine XS.aloadN X0.here hx rfl (hb hby own_d_jdk_42_method_66_1) rfl rfl ?_
    exact k)
  by_cases cab : oa = ob
  · subst cab
    have hv : va = vb := Value.ref.inj (own_fld_eq FA FB)
    subst hv
    have hxy : x = y := Value.int.inj (own_arv_eq VA VB)
    have pre2 : ∀ t, Steps p.tables e below (s₁.setTop (mkF m 6 #[.val (.ref oa), .val (.ref oa), .unset] [(.int (1 : Int32))])) t → Steps p.tables e below (s₁.setTop (entryFrame m #[(.ref oa), (.ref oa)] 3)) t := fun t k => pre1 _ (by
      refine XT.acmpNo X0.here hx rfl (hb hby own_d_jdk_42_method_66_2) rfl rfl rfl (XT.aa_ne_f rfl) ?_
      refine XT.iconstV X0.here hx rfl (1 : Int32) (hb hby own_d_jdk_42_method_66_5) rfl ?_
      exact k)
    obtain ⟨fs, hr, hrun, hended, hW, hsame⟩ := X0.leave (v := some (.int (1 : Int32))) (fun h => by rw [Bd.returns] at h; cases h)
    refine ⟨_, _, pre2 _ ?_, hrun, hended, _, _, rfl, ?_, ⟨_, rfl⟩, hW, hsame.mono (by decide) (by decide)⟩
    · show Steps p.tables e below (s₁.setTop (mkF m 6 #[.val (.ref oa), .val (.ref oa), .unset] [(.int (1 : Int32))])) _
      exact retN X0 hx (t := .boolean) Bd.returns (by simp) (hb hby own_d_jdk_42_method_66_6) hr
    · show Q_own_eqS Z oa oa NN x y cs h0 n0 _ s₁.heap _
      rw [e0]
      exact ⟨by rw [if_pos hxy], N0, rfl⟩
  · have pre3 : ∀ t, Steps p.tables e below (s₁.setTop (mkF m 8 #[.val (.ref oa), .val (.ref ob), .unset] [(.ref ob)])) t → Steps p.tables e below (s₁.setTop (entryFrame m #[(.ref oa), (.ref ob)] 3)) t := fun t k => pre1 _ (by
      refine XT.acmpYes X0.here hx rfl (pc0 := 2) (pc' := 7) rfl (hb hby own_d_jdk_42_method_66_2) rfl rfl rfl (XT.aa_ne_t (fun q => cab (Value.ref.inj q))) (by decide) (by decide) ?_
      refine XS.aloadN X0.here hx rfl (hb hby own_d_jdk_42_method_66_7) rfl rfl ?_
      exact k)
    obtain ⟨T4, X4, e4, st4⟩ := instY X0 hx hZ hown (hw _ (List.mem_of_getElem? (i := 9) rfl)) e0 (Ins.self EB) (g := (mkF m 8 #[.val (.ref oa), .val (.ref ob), .unset] [(.ref ob)])) rfl rfl (hb hby own_d_jdk_42_method_66_8)
    have pre5 : ∀ t, Steps p.tables e below (T4.setTop (mkF m 11 #[.val (.ref oa), .val (.ref ob), .unset] [(.int (1 : Int32))])) t → Steps p.tables e below (s₁.setTop (entryFrame m #[(.ref oa), (.ref ob)] 3)) t := fun t k => pre3 _ (st4 _ k)
    have pre6 : ∀ t, Steps p.tables e below (T4.setTop (mkF m 15 #[.val (.ref oa), .val (.ref ob), .unset] [(.ref ob)])) t → Steps p.tables e below (s₁.setTop (entryFrame m #[(.ref oa), (.ref ob)] 3)) t := fun t k => pre5 _ (by
      refine XS.ifNo X4.here hx rfl (hb hby own_d_jdk_42_method_66_11) rfl (XT.i0_eq_f (by decide)) ?_
      refine XS.aloadN X4.here hx rfl (hb hby own_d_jdk_42_method_66_14) rfl rfl ?_
      exact k)
    obtain ⟨T7, X7, e7, st7⟩ := castY X4 hx hZ hown (hw _ (List.mem_of_getElem? (i := 9) rfl)) e4 (Ins.self EB) (g := (mkF m 15 #[.val (.ref oa), .val (.ref ob), .unset] [(.ref ob)])) rfl rfl (hb hby own_d_jdk_42_method_66_15)
    have pre8 : ∀ t, Steps p.tables e below (T7.setTop (mkF m 18 #[.val (.ref oa), .val (.ref ob), .unset] [(.ref ob)])) t → Steps p.tables e below (s₁.setTop (entryFrame m #[(.ref oa), (.ref ob)] 3)) t := fun t k => pre6 _ (st7 _ k)
    have pre9 : ∀ t, Steps p.tables e below (T7.setTop (mkF m 19 #[.val (.ref oa), .val (.ref ob), .val (.ref ob)] [])) t → Steps p.tables e below (s₁.setTop (entryFrame m #[(.ref oa), (.ref ob)] 3)) t := fun t k => pre8 _ (by
      refine XS.astoreN X7.here hx rfl (hb hby own_d_jdk_42_method_66_18) rfl rfl (l' := #[.val (.ref oa), .val (.ref ob), .val (.ref ob)]) rfl ?_
      exact k)
    obtain ⟨T10, X10, e10, st10⟩ := getS X7 hx hZ hown (host := "") (hw _ (List.mem_of_getElem? (i := 4) rfl)) Via.refl e7 CS (g := (mkF m 19 #[.val (.ref oa), .val (.ref ob), .val (.ref ob)] [])) rfl (hb hby own_d_jdk_42_method_66_19)
    have pre11 : ∀ t, Steps p.tables e below (T10.setTop (mkF m 22 #[.val (.ref oa), .val (.ref ob), .val (.ref ob)] [(.int cs)])) t → Steps p.tables e below (s₁.setTop (entryFrame m #[(.ref oa), (.ref ob)] 3)) t := fun t k => pre9 _ (st10 _ k)
    have pre12 : ∀ t, Steps p.tables e below (T10.setTop (mkF m 26 #[.val (.ref oa), .val (.ref ob), .val (.ref ob)] [(.ref oa)])) t → Steps p.tables e below (s₁.setTop (entryFrame m #[(.ref oa), (.ref ob)] 3)) t := fun t k => pre11 _ (by
      refine XS.ifNo X10.here hx rfl (hb hby own_d_jdk_42_method_66_22) rfl (XT.i0_eq_f hcs) ?_
      refine XS.aloadN X10.here hx rfl (hb hby own_d_jdk_42_method_66_25) rfl rfl ?_
      exact k)
    obtain ⟨T13, X13, e13, st13⟩ := getF X10 hx hZ hown (host := "") (Or.inl (hw _ (List.mem_of_getElem? (i := 24) rfl))) Via.refl e10 CA (g := (mkF m 26 #[.val (.ref oa), .val (.ref ob), .val (.ref ob)] [(.ref oa)])) rfl rfl (hb hby own_d_jdk_42_method_66_26)
    have pre14 : ∀ t, Steps p.tables e below (T13.setTop (mkF m 29 #[.val (.ref oa), .val (.ref ob), .val (.ref ob)] [(.int (0 : Int32))])) t → Steps p.tables e below (s₁.setTop (entryFrame m #[(.ref oa), (.ref ob)] 3)) t := fun t k => pre12 _ (st13 _ k)
    have pre15 : ∀ t, Steps p.tables e below (T13.setTop (mkF m 30 #[.val (.ref oa), .val (.ref ob), .val (.ref ob)] [(.ref ob), (.int (0 : Int32))])) t → Steps p.tables e below (s₁.setTop (entryFrame m #[(.ref oa), (.ref ob)] 3)) t := fun t k => pre14 _ (by
      refine XS.aloadN X13.here hx rfl (hb hby own_d_jdk_42_method_66_29) rfl rfl ?_
      exact k)
    obtain ⟨T16, X16, e16, st16⟩ := getF X13 hx hZ hown (host := "") (Or.inl (hw _ (List.mem_of_getElem? (i := 24) rfl))) Via.refl e13 CB (g := (mkF m 30 #[.val (.ref oa), .val (.ref ob), .val (.ref ob)] [(.ref ob), (.int (0 : Int32))])) rfl rfl (hb hby own_d_jdk_42_method_66_30)
    have pre17 : ∀ t, Steps p.tables e below (T16.setTop (mkF m 33 #[.val (.ref oa), .val (.ref ob), .val (.ref ob)] [(.int (0 : Int32)), (.int (0 : Int32))])) t → Steps p.tables e below (s₁.setTop (entryFrame m #[(.ref oa), (.ref ob)] 3)) t := fun t k => pre15 _ (st16 _ k)
    have pre18 : ∀ t, Steps p.tables e below (T16.setTop (mkF m 37 #[.val (.ref oa), .val (.ref ob), .val (.ref ob)] [(.ref oa)])) t → Steps p.tables e below (s₁.setTop (entryFrame m #[(.ref oa), (.ref ob)] 3)) t := fun t k => pre17 _ (by
      refine XS.icmpNo X16.here hx rfl (hb hby own_d_jdk_42_method_66_33) rfl (XT.ii_ne_f (by decide)) ?_
      refine XS.aloadN X16.here hx rfl (hb hby own_d_jdk_42_method_66_36) rfl rfl ?_
      exact k)
    obtain ⟨T19, X19, e19, st19⟩ := getF X16 hx hZ hown (host := "") (Or.inl (hw _ (List.mem_of_getElem? (i := 22) rfl))) Via.refl e16 FA (g := (mkF m 37 #[.val (.ref oa), .val (.ref ob), .val (.ref ob)] [(.ref oa)])) rfl rfl (hb hby own_d_jdk_42_method_66_37)
    have pre20 : ∀ t, Steps p.tables e below (T19.setTop (mkF m 40 #[.val (.ref oa), .val (.ref ob), .val (.ref ob)] [(.ref va)])) t → Steps p.tables e below (s₁.setTop (entryFrame m #[(.ref oa), (.ref ob)] 3)) t := fun t k => pre18 _ (st19 _ k)
    have pre21 : ∀ t, Steps p.tables e below (T19.setTop (mkF m 41 #[.val (.ref oa), .val (.ref ob), .val (.ref ob)] [(.ref ob), (.ref va)])) t → Steps p.tables e below (s₁.setTop (entryFrame m #[(.ref oa), (.ref ob)] 3)) t := fun t k => pre20 _ (by
      refine XS.aloadN X19.here hx rfl (hb hby own_d_jdk_42_method_66_40) rfl rfl ?_
      exact k)
    obtain ⟨T22, X22, e22, st22⟩ := getF X19 hx hZ hown (host := "") (Or.inl (hw _ (List.mem_of_getElem? (i := 22) rfl))) Via.refl e19 FB (g := (mkF m 41 #[.val (.ref oa), .val (.ref ob), .val (.ref ob)] [(.ref ob), (.ref va)])) rfl rfl (hb hby own_d_jdk_42_method_66_41)
    have pre23 : ∀ t, Steps p.tables e below (T22.setTop (mkF m 44 #[.val (.ref oa), .val (.ref ob), .val (.ref ob)] [(.ref vb), (.ref va)])) t → Steps p.tables e below (s₁.setTop (entryFrame m #[(.ref oa), (.ref ob)] 3)) t := fun t k => pre21 _ (st22 _ k)
    obtain ⟨_, _, ⟨T24, L24, k24, n24⟩, -, X24, ⟨Lc24, hQ24, l24, y24, z24⟩, st24⟩ := Jvm.LawKit.callS X22 hx (y := (⟨"java/lang/StringLatin1", "equals", "([B[B)Z"⟩ : MethodName)) hown (mvT hZ (hw _ (List.mem_of_getElem? (i := 70) rfl))) (mvT hZ (hw _ (List.mem_of_getElem? (i := 71) rfl))) (mvT hZ (hw _ (List.mem_of_getElem? (i := 7) rfl))) (mvT hZ (hw _ (List.mem_of_getElem? (i := 72) rfl))) (by decide) (backOf (W := 0) (own_eqB l Z a0 hw [] va vb ka kb x y h0 n0 Z0 VA VB) hZ (hw _ (List.mem_of_getElem? (i := 72) rfl)) (hw _ (List.mem_of_getElem? (i := 7) rfl)) (by decide) (by decide)) (g := (mkF m 44 #[.val (.ref oa), .val (.ref ob), .val (.ref ob)] [(.ref vb), (.ref va)])) rfl (by rw [hml]; rfl) (argsL := [(.ref va), (.ref vb)]) (rest := []) (lenOf own_pd___B_B_Z rfl) rfl (by show 2 * 0 + _ ≤ _; exact Nat.le_of_eq rfl) (hb hby own_d_jdk_42_method_66_44) (fun _ _ => ⟨rfl, e22, (by decide : 0 + 0 ≤ _), (by decide : 0 + 0 ≤ _)⟩)
    dsimp only [Pt.U, Pt.locs, Pt.cells, Pt.slots] at X24 l24 y24 z24 st24 hQ24
    subst l24 y24 z24
    obtain ⟨rfl, N24q, e24⟩ := hQ24
    have N24 := Fr.app N0 N24q
    have pre25 : ∀ t, Steps p.tables e below (T24.setTop (mkF m 47 #[.val (.ref oa), .val (.ref ob), .val (.ref ob)] [(.int (if x = y then (1 : Int32) else (0 : Int32)))])) t → Steps p.tables e below (s₁.setTop (entryFrame m #[(.ref oa), (.ref ob)] 3)) t := fun t k => pre23 _ (st24 _ k)
    by_cases cxy : x = y
    · have pre26 : ∀ t, Steps p.tables e below (T24.setTop (mkF m 55 #[.val (.ref oa), .val (.ref ob), .val (.ref ob)] [(.int (1 : Int32))])) t → Steps p.tables e below (s₁.setTop (entryFrame m #[(.ref oa), (.ref ob)] 3)) t := fun t k => pre25 _ (by
        refine XS.ifNo X24.here hx rfl (hb hby own_d_jdk_42_method_66_47) rfl (XT.i0_eq_f (by rw [if_pos cxy]; decide)) ?_
        refine XT.iconstV X24.here hx rfl (1 : Int32) (hb hby own_d_jdk_42_method_66_50) rfl ?_
        refine XS.goto X24.here hx rfl (pc0 := 51) (pc' := 55) rfl (hb hby own_d_jdk_42_method_66_51) (by decide) (by decide) ?_
        exact k)
      obtain ⟨fs, hr, hrun, hended, hW, hsame⟩ := X24.leave (v := some (.int (1 : Int32))) (fun h => by rw [Bd.returns] at h; cases h)
      refine ⟨_, _, pre26 _ ?_, hrun, hended, _, _, rfl, ?_, ⟨_, rfl⟩, hW, hsame.mono (by decide) (by decide)⟩
      · show Steps p.tables e below (T24.setTop (mkF m 55 #[.val (.ref oa), .val (.ref ob), .val (.ref ob)] [(.int (1 : Int32))])) _
        exact retN X24 hx (t := .boolean) Bd.returns (by simp) (hb hby own_d_jdk_42_method_66_55) hr
      · show Q_own_eqS Z oa ob NN x y cs h0 n0 _ T24.heap _
        rw [e24]
        exact ⟨by rw [if_pos cxy], N24, rfl⟩
    · have pre27 : ∀ t, Steps p.tables e below (T24.setTop (mkF m 55 #[.val (.ref oa), .val (.ref ob), .val (.ref ob)] [(.int (0 : Int32))])) t → Steps p.tables e below (s₁.setTop (entryFrame m #[(.ref oa), (.ref ob)] 3)) t := fun t k => pre25 _ (by
        refine XS.ifYes X24.here hx rfl (pc0 := 47) (pc' := 54) rfl (hb hby own_d_jdk_42_method_66_47) rfl (XT.i0_eq_t (if_neg cxy)) (by decide) (by decide) ?_
        refine XT.iconstV X24.here hx rfl (0 : Int32) (hb hby own_d_jdk_42_method_66_54) rfl ?_
        exact k)
      obtain ⟨fs, hr, hrun, hended, hW, hsame⟩ := X24.leave (v := some (.int (0 : Int32))) (fun h => by rw [Bd.returns] at h; cases h)
      refine ⟨_, _, pre27 _ ?_, hrun, hended, _, _, rfl, ?_, ⟨_, rfl⟩, hW, hsame.mono (by decide) (by decide)⟩
      · show Steps p.tables e below (T24.setTop (mkF m 55 #[.val (.ref oa), .val (.ref ob), .val (.ref ob)] [(.int (0 : Int32))])) _
        exact retN X24 hx (t := .boolean) Bd.returns (by simp) (hb hby own_d_jdk_42_method_66_55) hr
      · show Q_own_eqS Z oa ob NN x y cs h0 n0 _ T24.heap _
        rw [e24]
        exact ⟨by rw [if_neg cxy], N24, rfl⟩
theorem own_ef_own_size (m : MethodId) (oa : Addr) : entryFrame m #[(.ref oa)] 1 = mkF m 0 #[.val (.ref oa)] [] := by first | (simp [entryFrame, mkF, argsToLocals, Value.category]; done) | rfl
def Q_own_size (Z : State) (oa : Addr) (z : Int32) (h0 : Heap) (n0 : Nat) (v : Option Value) (h : Heap) (L : List Loc) : Prop := v = some (.int z) ∧ Fr n0 L ∧ h = h0
theorem own_pn_com_example_erma_erma_analysis_DistinctSteps : plainName "com/example/erma/erma/analysis/DistinctSteps" = true := by first | (simp [plainName, overriddenIn]; done) | decide +kernel
theorem own_d_prog_35_method_4_0 : decode prog_35_method_4_code 0 = .ok (.aload_n 0, 1) := by decide +kernel
theorem own_d_prog_35_method_4_1 : decode prog_35_method_4_code 1 = .ok (.getfield 25, 3) := by decide +kernel
theorem own_d_prog_35_method_4_4 : decode prog_35_method_4_code 4 = .ok (.ireturn, 1) := by decide +kernel
set_option maxRecDepth 65536 in
set_option maxHeartbeats 40000000 in
theorem own_size (l : Launch) (Z : State) (a0 : Array Value) (hw : ∀ d ∈ tables_1, d.before a0 Z = true) (ws : List Jvm.Cond) (oa : Addr) (z : Int32) (h0 : Heap) (n0 : Nat) (Z0 : n0 ≤ h0.size) (F : Fld Z h0 oa "com/example/erma/erma/analysis/DistinctSteps" "size" "I" (.int z)) :
    MetFree l (⟨"com/example/erma/erma/analysis/DistinctSteps", "size", "()I"⟩ : MethodName) (head1 (Jvm.Cond.code (⟨"com/example/erma/erma/analysis/DistinctSteps", "size", "()I"⟩ : MethodName) prog_35_method_4_code 1 (some .int) :: ws) ({ frames := 0, cells := 0, slots := 0, locals := 0 } : Room)) (fun a U => a = #[(.ref oa)] ∧ Z.Warmed39 U.vm ∧ U.heap = h0) (fun _ _ _ _ _ => True) (fun _ U o U' => ∃ v L, o = .returned v ∧ Q_own_size Z oa z h0 n0 v U'.heap L ∧ FrameEnd U o U' L ({ frames := 0, cells := 0, slots := 0, locals := 0 } : Room).cells ({ frames := 0, cells := 0, slots := 0, locals := 0 } : Room).slots) := by
  refine MetFree.of_bodySF (plainFor_of_name own_pn_com_example_erma_erma_analysis_DistinctSteps) hisR ?_
  intro p e s m args below meth c s₁ Bd hml0 hP hK
  obtain ⟨rfl, hZ, hh⟩ := hP
  have hx := Bd.exec
  have hby := Bd.bytes
  have hml : c.maxLocals = 1 := hml0
  have hown : s.vm.findClass "com/example/erma/erma/analysis/DistinctSteps" = some m.cls := findClass_of_methodNamed Bd.named
  have hnm := (name_of_methodNamed Bd.named Bd.method).1
  have X0 : Stand p l e ({ frames := 0, cells := 0, slots := 0, locals := 0 } : Room) s m #[(.ref oa)] below meth c s₁ [] 0 0 := Stand.of_body Bd
  have e0 : s₁.heap = h0 := by rw [← hh, Bd.state]; rfl
  have N0 := Fr.nil n0
  have pre0 : ∀ t, Steps p.tables e below (s₁.setTop (mkF m 0 #[.val (.ref oa)] [])) t → Steps p.tables e below (s₁.setTop (entryFrame m #[(.ref oa)] 1)) t := fun t k => castTop (own_ef_own_size m oa) k
  have pre1 : ∀ t, Steps p.tables e below (s₁.setTop (mkF m 1 #[.val (.ref oa)] [(.ref oa)])) t → Steps p.tables e below (s₁.setTop (entryFrame m #[(.ref oa)] 1)) t := fun t k => pre0 _ (by
    refine XS.aloadN X0.here hx rfl (hb hby own_d_prog_35_method_4_0) rfl rfl ?_
    exact k)
  obtain ⟨T2, X2, e2, st2⟩ := getF X0 hx hZ hown (host := "") (Or.inl (hw _ (List.mem_of_getElem? (i := 49) rfl))) Via.refl e0 F (g := (mkF m 1 #[.val (.ref oa)] [(.ref oa)])) rfl rfl (hb hby own_d_prog_35_method_4_1)
  have pre3 : ∀ t, Steps p.tables e below (T2.setTop (mkF m 4 #[.val (.ref oa)] [(.int z)])) t → Steps p.tables e below (s₁.setTop (entryFrame m #[(.ref oa)] 1)) t := fun t k => pre1 _ (st2 _ k)
  obtain ⟨fs, hr, hrun, hended, hW, hsame⟩ := X2.leave (v := some (.int z)) (fun h => by rw [Bd.returns] at h; cases h)
  refine ⟨_, _, pre3 _ ?_, hrun, hended, _, _, rfl, ?_, ⟨_, rfl⟩, hW, hsame.mono (by decide) (by decide)⟩
  · show Steps p.tables e below (T2.setTop (mkF m 4 #[.val (.ref oa)] [(.int z)])) _
    exact retI X2 hx Bd.returns (hb hby own_d_prog_35_method_4_4) hr
  · show Q_own_size Z oa z h0 n0 _ T2.heap _
    rw [e2]
    exact ⟨rfl, N0, rfl⟩
theorem own_ef_own_slotFor (m : MethodId) (q0 : Int32) : entryFrame m #[(.int q0), (.int (15 : Int32))] 3 = mkF m 0 #[.val (.int q0), .val (.int (15 : Int32)), .unset] [] := by first | (simp [entryFrame, mkF, argsToLocals, Value.category]; done) | rfl
def Q_own_slotFor (Z : State) (q0 : Int32)  (h0 : Heap) (n0 : Nat) (v : Option Value) (h : Heap) (L : List Loc) : Prop := v = some (.int (own_hs q0)) ∧ Fr n0 L ∧ h = h0
theorem own_d_prog_35_method_6_0 : decode prog_35_method_6_code 0 = .ok (.iload_n 0, 1) := by decide +kernel
theorem own_d_prog_35_method_6_1 : decode prog_35_method_6_code 1 = .ok (.ldc 50, 2) := by decide +kernel
theorem own_d_prog_35_method_6_3 : decode prog_35_method_6_code 3 = .ok (.imul, 1) := by decide +kernel
theorem own_d_prog_35_method_6_4 : decode prog_35_method_6_code 4 = .ok (.istore_n 2, 1) := by decide +kernel
theorem own_d_prog_35_method_6_5 : decode prog_35_method_6_code 5 = .ok (.iload_n 2, 1) := by decide +kernel
theorem own_d_prog_35_method_6_6 : decode prog_35_method_6_code 6 = .ok (.iload_n 2, 1) := by decide +kernel
theorem own_d_prog_35_method_6_7 : decode prog_35_method_6_code 7 = .ok (.bipush 16, 2) := by decide +kernel
theorem own_d_prog_35_method_6_9 : decode prog_35_method_6_code 9 = .ok (.iushr, 1) := by decide +kernel
theorem own_d_prog_35_method_6_10 : decode prog_35_method_6_code 10 = .ok (.ixor, 1) := by decide +kernel
theorem own_d_prog_35_method_6_11 : decode prog_35_method_6_code 11 = .ok (.iload_n 1, 1) := by decide +kernel
theorem own_d_prog_35_method_6_12 : decode prog_35_method_6_code 12 = .ok (.iand, 1) := by decide +kernel
theorem own_d_prog_35_method_6_13 : decode prog_35_method_6_code 13 = .ok (.ireturn, 1) := by decide +kernel
set_option maxRecDepth 65536 in
set_option maxHeartbeats 40000000 in
theorem own_slotFor (l : Launch) (Z : State) (a0 : Array Value) (hw : ∀ d ∈ tables_1, d.before a0 Z = true) (ws : List Jvm.Cond) (q0 : Int32)  (h0 : Heap) (n0 : Nat) (Z0 : n0 ≤ h0.size)  :
    MetFree l (⟨"com/example/erma/erma/analysis/DistinctSteps", "slotFor", "(II)I"⟩ : MethodName) (head1 (Jvm.Cond.code (⟨"com/example/erma/erma/analysis/DistinctSteps", "slotFor", "(II)I"⟩ : MethodName) prog_35_method_6_code 3 (some .int) :: ws) ({ frames := 0, cells := 0, slots := 0, locals := 0 } : Room)) (fun a U => a = #[(.int q0), (.int (15 : Int32))] ∧ Z.Warmed39 U.vm ∧ U.heap = h0) (fun _ _ _ _ _ => True) (fun _ U o U' => ∃ v L, o = .returned v ∧ Q_own_slotFor Z q0 h0 n0 v U'.heap L ∧ FrameEnd U o U' L ({ frames := 0, cells := 0, slots := 0, locals := 0 } : Room).cells ({ frames := 0, cells := 0, slots := 0, locals := 0 } : Room).slots) := by
  refine MetFree.of_bodySF (plainFor_of_name own_pn_com_example_erma_erma_analysis_DistinctSteps) hisR ?_
  intro p e s m args below meth c s₁ Bd hml0 hP hK
  obtain ⟨rfl, hZ, hh⟩ := hP
  have hx := Bd.exec
  have hby := Bd.bytes
  have hml : c.maxLocals = 3 := hml0
  have hown : s.vm.findClass "com/example/erma/erma/analysis/DistinctSteps" = some m.cls := findClass_of_methodNamed Bd.named
  have hnm := (name_of_methodNamed Bd.named Bd.method).1
  have X0 : Stand p l e ({ frames := 0, cells := 0, slots := 0, locals := 0 } : Room) s m #[(.int q0), (.int (15 : Int32))] below meth c s₁ [] 0 0 := Stand.of_body Bd
  have e0 : s₁.heap = h0 := by rw [← hh, Bd.state]; rfl
  have N0 := Fr.nil n0
  have pre0 : ∀ t, Steps p.tables e below (s₁.setTop (mkF m 0 #[.val (.int q0), .val (.int (15 : Int32)), .unset] [])) t → Steps p.tables e below (s₁.setTop (entryFrame m #[(.int q0), (.int (15 : Int32))] 3)) t := fun t k => castTop (own_ef_own_slotFor m q0) k
  have pre1 : ∀ t, Steps p.tables e below (s₁.setTop (mkF m 13 #[.val (.int q0), .val (.int (15 : Int32)), .val (.int (q0 * (-1640531527 : Int32)))] [(.int (((q0 * (-1640531527 : Int32)) ^^^ (((q0 * (-1640531527 : Int32)).toUInt32 >>> ((16 : Int32) &&& 31).toUInt32).toInt32)) &&& (15 : Int32)))])) t → Steps p.tables e below (s₁.setTop (entryFrame m #[(.int q0), (.int (15 : Int32))] 3)) t := fun t k => pre0 _ (by
    refine XS.iloadN X0.here hx rfl (hb hby own_d_prog_35_method_6_0) rfl ?_
    refine X0.ldcI hx hown (mvT hZ (hw _ (List.mem_of_getElem? (i := 64) rfl))) rfl (hb hby own_d_prog_35_method_6_1) ?_
    refine XS.imul X0.here hx rfl (hb hby own_d_prog_35_method_6_3) rfl ?_
    refine XS.istoreN X0.here hx rfl (hb hby own_d_prog_35_method_6_4) rfl (l' := #[.val (.int q0), .val (.int (15 : Int32)), .val (.int (q0 * (-1640531527 : Int32)))]) rfl ?_
    refine XS.iloadN X0.here hx rfl (hb hby own_d_prog_35_method_6_5) rfl ?_
    refine XS.iloadN X0.here hx rfl (hb hby own_d_prog_35_method_6_6) rfl ?_
    refine XT.bipushV X0.here hx rfl (16 : Int32) (hb hby own_d_prog_35_method_6_7) rfl ?_
    show Steps p.tables e below (s₁.setTop (mkF m 9 #[.val (.int q0), .val (.int (15 : Int32)), .val (.int (q0 * (-1640531527 : Int32)))] [(.int (16 : Int32)), (.int (q0 * (-1640531527 : Int32))), (.int (q0 * (-1640531527 : Int32)))])) _
    refine XS.iushr X0.here hx rfl (hb hby own_d_prog_35_method_6_9) rfl ?_
    refine XS.ixor X0.here hx rfl (hb hby own_d_prog_35_method_6_10) rfl ?_
    refine XS.iloadN X0.here hx rfl (hb hby own_d_prog_35_method_6_11) rfl ?_
    refine XS.iand X0.here hx rfl (hb hby own_d_prog_35_method_6_12) rfl ?_
    exact k)
  obtain ⟨fs, hr, hrun, hended, hW, hsame⟩ := X0.leave (v := some (.int (own_hs q0))) (fun h => by rw [Bd.returns] at h; cases h)
  refine ⟨_, _, pre1 _ ?_, hrun, hended, _, _, rfl, ?_, ⟨_, rfl⟩, hW, hsame.mono (by decide) (by decide)⟩
  · show Steps p.tables e below (s₁.setTop (mkF m 13 #[.val (.int q0), .val (.int (15 : Int32)), .val (.int (q0 * (-1640531527 : Int32)))] [(.int (((q0 * (-1640531527 : Int32)) ^^^ (((q0 * (-1640531527 : Int32)).toUInt32 >>> ((16 : Int32) &&& 31).toUInt32).toInt32)) &&& (15 : Int32)))])) _
    exact retI X0 hx Bd.returns (hb hby own_d_prog_35_method_6_13) hr
  · show Q_own_slotFor Z q0 h0 n0 _ s₁.heap _
    rw [e0]
    exact ⟨rfl, N0, rfl⟩
theorem own_ef_own_ctor (m : MethodId) (da : Addr) : entryFrame m #[(.ref da)] 1 = mkF m 0 #[.val (.ref da)] [] := by first | (simp [entryFrame, mkF, argsToLocals, Value.category]; done) | rfl
def Q_own_ctor (Z : State) (da : Addr)  (h0 : Heap) (n0 : Nat) (v : Option Value) (h : Heap) (L : List Loc) : Prop := v = none ∧ Fr n0 L ∧ Keep h0 h [da] ∧ ∃ (sa ta la oa : Addr) (ka kb kc kd : ClassId), own_St Z h n0 da sa ta la oa ka kb kc kd (fun _ => 0) (fun _ => 0) (fun _ => 0) (fun _ => .null) (0 : Int32)
theorem own_d_prog_35_method_1_0 : decode prog_35_method_1_code 0 = .ok (.aload_n 0, 1) := by decide +kernel
theorem own_d_prog_35_method_1_1 : decode prog_35_method_1_code 1 = .ok (.invokespecial 1, 3) := by decide +kernel
theorem own_d_prog_35_method_1_4 : decode prog_35_method_1_code 4 = .ok (.aload_n 0, 1) := by decide +kernel
theorem own_d_prog_35_method_1_5 : decode prog_35_method_1_code 5 = .ok (.bipush 16, 2) := by decide +kernel
theorem own_d_prog_35_method_1_7 : decode prog_35_method_1_code 7 = .ok (.newarray .int, 2) := by decide +kernel
theorem own_d_prog_35_method_1_9 : decode prog_35_method_1_code 9 = .ok (.putfield 7, 3) := by decide +kernel
theorem own_d_prog_35_method_1_12 : decode prog_35_method_1_code 12 = .ok (.aload_n 0, 1) := by decide +kernel
theorem own_d_prog_35_method_1_13 : decode prog_35_method_1_code 13 = .ok (.bipush 8, 2) := by decide +kernel
theorem own_d_prog_35_method_1_15 : decode prog_35_method_1_code 15 = .ok (.newarray .int, 2) := by decide +kernel
theorem own_d_prog_35_method_1_17 : decode prog_35_method_1_code 17 = .ok (.putfield 13, 3) := by decide +kernel
theorem own_d_prog_35_method_1_20 : decode prog_35_method_1_code 20 = .ok (.aload_n 0, 1) := by decide +kernel
theorem own_d_prog_35_method_1_21 : decode prog_35_method_1_code 21 = .ok (.bipush 8, 2) := by decide +kernel
theorem own_d_prog_35_method_1_23 : decode prog_35_method_1_code 23 = .ok (.anewarray 16, 3) := by decide +kernel
theorem own_d_prog_35_method_1_26 : decode prog_35_method_1_code 26 = .ok (.putfield 18, 3) := by decide +kernel
theorem own_d_prog_35_method_1_29 : decode prog_35_method_1_code 29 = .ok (.aload_n 0, 1) := by decide +kernel
theorem own_d_prog_35_method_1_30 : decode prog_35_method_1_code 30 = .ok (.bipush 8, 2) := by decide +kernel
theorem own_d_prog_35_method_1_32 : decode prog_35_method_1_code 32 = .ok (.newarray .int, 2) := by decide +kernel
theorem own_d_prog_35_method_1_34 : decode prog_35_method_1_code 34 = .ok (.putfield 22, 3) := by decide +kernel
theorem own_d_prog_35_method_1_37 : decode prog_35_method_1_code 37 = .ok (.return_, 1) := by decide +kernel
set_option maxRecDepth 65536 in
set_option maxHeartbeats 40000000 in
theorem own_ctor (l : Launch) (Z : State) (a0 : Array Value) (hw : ∀ d ∈ tables_1, d.before a0 Z = true) (ws : List Jvm.Cond) (da : Addr)  (h0 : Heap) (n0 : Nat) (Z0 : n0 ≤ h0.size) (SE : Exa Z h0 da "com/example/erma/erma/analysis/DistinctSteps") (F_slots : Fld Z h0 da "com/example/erma/erma/analysis/DistinctSteps" "slots" "[I" .null) (F_targets : Fld Z h0 da "com/example/erma/erma/analysis/DistinctSteps" "targets" "[I" .null) (F_labels : Fld Z h0 da "com/example/erma/erma/analysis/DistinctSteps" "labels" "[Ljava/lang/String;" .null) (F_slotOf : Fld Z h0 da "com/example/erma/erma/analysis/DistinctSteps" "slotOf" "[I" .null) (F_size : Fld Z h0 da "com/example/erma/erma/analysis/DistinctSteps" "size" "I" (.int (0 : Int32))) (ge_da : n0 ≤ da) :
    MetFree l (⟨"com/example/erma/erma/analysis/DistinctSteps", "<init>", "()V"⟩ : MethodName) (head1 (Jvm.Cond.code (⟨"com/example/erma/erma/analysis/DistinctSteps", "<init>", "()V"⟩ : MethodName) prog_35_method_1_code 1 none :: ws) ({ frames := 1, cells := 4, slots := 40, locals := 14 } : Room)) (fun a U => a = #[(.ref da)] ∧ Z.Warmed39 U.vm ∧ U.heap = h0) (fun _ _ _ _ _ => True) (fun _ U o U' => ∃ v L, o = .returned v ∧ Q_own_ctor Z da h0 n0 v U'.heap L ∧ FrameEnd U o U' L ({ frames := 1, cells := 4, slots := 40, locals := 14 } : Room).cells ({ frames := 1, cells := 4, slots := 40, locals := 14 } : Room).slots) := by
  refine MetFree.of_bodySF (plainFor_of_name own_pn_com_example_erma_erma_analysis_DistinctSteps) hisR ?_
  intro p e s m args below meth c s₁ Bd hml0 hP hK
  obtain ⟨rfl, hZ, hh⟩ := hP
  have hx := Bd.exec
  have hby := Bd.bytes
  have hml : c.maxLocals = 1 := hml0
  have hown : s.vm.findClass "com/example/erma/erma/analysis/DistinctSteps" = some m.cls := findClass_of_methodNamed Bd.named
  have hnm := (name_of_methodNamed Bd.named Bd.method).1
  have X0 : Stand p l e ({ frames := 1, cells := 4, slots := 40, locals := 14 } : Room) s m #[(.ref da)] below meth c s₁ [] 0 0 := Stand.of_body Bd
  have e0 : s₁.heap = h0 := by rw [← hh, Bd.state]; rfl
  have N0 := Fr.nil n0
  have pre0 : ∀ t, Steps p.tables e below (s₁.setTop (mkF m 0 #[.val (.ref da)] [])) t → Steps p.tables e below (s₁.setTop (entryFrame m #[(.ref da)] 1)) t := fun t k => castTop (own_ef_own_ctor m da) k
  have pre1 : ∀ t, Steps p.tables e below (s₁.setTop (mkF m 1 #[.val (.ref da)] [(.ref da)])) t → Steps p.tables e below (s₁.setTop (entryFrame m #[(.ref da)] 1)) t := fun t k => pre0 _ (by
    refine XS.aloadN X0.here hx rfl (hb hby own_d_prog_35_method_1_0) rfl rfl ?_
    exact k)
  obtain ⟨T2, X2, e2, st2⟩ := initO X0 hx hZ hown (hw _ (List.mem_of_getElem? (i := 32) rfl)) (hw _ (List.mem_of_getElem? (i := 20) rfl)) (hw _ (List.mem_of_getElem? (i := 21) rfl)) e0 (g := (mkF m 1 #[.val (.ref da)] [(.ref da)])) rfl (by rw [hml]; rfl) rfl (hb hby own_d_prog_35_method_1_1) (by decide) (W := 0) (by show 2 * 0 + _ ≤ _; exact Nat.le_of_eq rfl) (by decide)
  have pre3 : ∀ t, Steps p.tables e below (T2.setTop (mkF m 4 #[.val (.ref da)] [])) t → Steps p.tables e below (s₁.setTop (entryFrame m #[(.ref da)] 1)) t := fun t k => pre1 _ (st2 _ k)
  have pre4 : ∀ t, Steps p.tables e below (T2.setTop (mkF m 7 #[.val (.ref da)] [(.int (16 : Int32)), (.ref da)])) t → Steps p.tables e below (s₁.setTop (entryFrame m #[(.ref da)] 1)) t := fun t k => pre3 _ (by
    refine XS.aloadN X2.here hx rfl (hb hby own_d_prog_35_method_1_4) rfl rfl ?_
    refine XT.bipushV X2.here hx rfl (16 : Int32) (hb hby own_d_prog_35_method_1_5) rfl ?_
    exact k)
  obtain ⟨T5, h5, cA5, X5, e5, E5, A5, st5⟩ := newP X2 hx hZ (aty := .int) (hw _ (List.mem_of_getElem? (i := 33) rfl)) e2 (g := (mkF m 7 #[.val (.ref da)] [(.int (16 : Int32)), (.ref da)])) rfl (hb hby own_d_prog_35_method_1_7) rfl (by decide) (cap := 16) (by decide) (by decide) (by decide) (by decide)
  obtain ⟨a5, ga5⟩ : ∃ z, z = h0.size := ⟨_, rfl⟩
  rw [← ga5] at A5 st5
  have lt_da_a5 : da < a5 := Nat.lt_of_lt_of_eq SE.lt ga5.symm
  have ne_da_a5 : da ≠ a5 := Nat.ne_of_lt lt_da_a5
  have ge_a5 : n0 ≤ a5 := Nat.le_trans Z0 (Nat.le_of_eq ga5.symm)
  have Z5 : n0 ≤ h5.size := Nat.le_trans Z0 E5.1
  have pre6 : ∀ t, Steps p.tables e below (T5.setTop (mkF m 9 #[.val (.ref da)] [(.ref a5), (.ref da)])) t → Steps p.tables e below (s₁.setTop (entryFrame m #[(.ref da)] 1)) t := fun t k => pre4 _ (st5 _ k)
  have V5 : Arv Z h5 a5 cA5 .int (16 : Int32) (own_ti (fun _ => (0 : Int32)) 16) (.int (0 : Int32)) := (Arv.new A5 (by decide)).pad (own_ti_pad 16)
  obtain ⟨T7, h7, X7, e7, W7, st7⟩ := putF X5 hx hZ hown (host := "") (Or.inl (hw _ (List.mem_of_getElem? (i := 34) rfl))) Via.refl e5 (F_slots.ext E5) (SE.ext E5) (Or.inl (hw _ (List.mem_of_getElem? (i := 35) rfl))) (hw _ (List.mem_of_getElem? (i := 27) rfl)) (ty := (.array .int)) (by decide) rfl rfl (g := (mkF m 9 #[.val (.ref da)] [(.ref a5), (.ref da)])) rfl rfl (hb hby own_d_prog_35_method_1_9)
  have N7 := Fr.snoc X7 N0 ge_da
  have Z7 : n0 ≤ h7.size := Nat.le_trans Z5 (Keep.of_wr W7).1
  have F7 : Fld Z h7 da "com/example/erma/erma/analysis/DistinctSteps" "slots" "[I" (.ref a5) := (F_slots.ext E5).same W7
  have pre8 : ∀ t, Steps p.tables e below (T7.setTop (mkF m 12 #[.val (.ref da)] [])) t → Steps p.tables e below (s₁.setTop (entryFrame m #[(.ref da)] 1)) t := fun t k => pre6 _ (st7 _ k)
  have pre9 : ∀ t, Steps p.tables e below (T7.setTop (mkF m 15 #[.val (.ref da)] [(.int (8 : Int32)), (.ref da)])) t → Steps p.tables e below (s₁.setTop (entryFrame m #[(.ref da)] 1)) t := fun t k => pre8 _ (by
    refine XS.aloadN X7.here hx rfl (hb hby own_d_prog_35_method_1_12) rfl rfl ?_
    refine XT.bipushV X7.here hx rfl (8 : Int32) (hb hby own_d_prog_35_method_1_13) rfl ?_
    exact k)
  obtain ⟨T10, h10, cA10, X10, e10, E10, A10, st10⟩ := newP X7 hx hZ (aty := .int) (hw _ (List.mem_of_getElem? (i := 33) rfl)) e7 (g := (mkF m 15 #[.val (.ref da)] [(.int (8 : Int32)), (.ref da)])) rfl (hb hby own_d_prog_35_method_1_15) rfl (by decide) (cap := 8) (by decide) (by decide) (by decide) (by decide)
  obtain ⟨a10, ga10⟩ : ∃ z, z = h7.size := ⟨_, rfl⟩
  rw [← ga10] at A10 st10
  have lt_da_a10 : da < a10 := Nat.lt_of_lt_of_eq ((SE.ext E5).wr W7).lt ga10.symm
  have ne_da_a10 : da ≠ a10 := Nat.ne_of_lt lt_da_a10
  have lt_a5_a10 : a5 < a10 := Nat.lt_of_lt_of_eq (V5.other W7 ne_da_a5.symm).lt ga10.symm
  have ne_a5_a10 : a5 ≠ a10 := Nat.ne_of_lt lt_a5_a10
  have ge_a10 : n0 ≤ a10 := Nat.le_trans Z7 (Nat.le_of_eq ga10.symm)
  have Z10 : n0 ≤ h10.size := Nat.le_trans Z7 E10.1
  have pre11 : ∀ t, Steps p.tables e below (T10.setTop (mkF m 17 #[.val (.ref da)] [(.ref a10), (.ref da)])) t → Steps p.tables e below (s₁.setTop (entryFrame m #[(.ref da)] 1)) t := fun t k => pre9 _ (st10 _ k)
  have V10 : Arv Z h10 a10 cA10 .int (8 : Int32) (own_ti (fun _ => (0 : Int32)) 8) (.int (0 : Int32)) := (Arv.new A10 (by decide)).pad (own_ti_pad 8)
  obtain ⟨T12, h12, X12, e12, W12, st12⟩ := putF X10 hx hZ hown (host := "") (Or.inl (hw _ (List.mem_of_getElem? (i := 36) rfl))) Via.refl e10 (((F_targets.ext E5).other W7 (Or.inr (slot_ne (C := "com/example/erma/erma/analysis/DistinctSteps") (Or.inl (hw _ (List.mem_of_getElem? (i := 37) rfl))) (Or.inl (hw _ (List.mem_of_getElem? (i := 35) rfl))) (by decide) (t := (.array .int)) (t' := (.array .int)) (by decide) (by decide)))).ext E10) (((SE.ext E5).wr W7).ext E10) (Or.inl (hw _ (List.mem_of_getElem? (i := 37) rfl))) (hw _ (List.mem_of_getElem? (i := 27) rfl)) (ty := (.array .int)) (by decide) rfl rfl (g := (mkF m 17 #[.val (.ref da)] [(.ref a10), (.ref da)])) rfl rfl (hb hby own_d_prog_35_method_1_17)
  have N12 := Fr.snoc X12 N7 ge_da
  have Z12 : n0 ≤ h12.size := Nat.le_trans Z10 (Keep.of_wr W12).1
  have F12 : Fld Z h12 da "com/example/erma/erma/analysis/DistinctSteps" "targets" "[I" (.ref a10) := (((F_targets.ext E5).other W7 (Or.inr (slot_ne (C := "com/example/erma/erma/analysis/DistinctSteps") (Or.inl (hw _ (List.mem_of_getElem? (i := 37) rfl))) (Or.inl (hw _ (List.mem_of_getElem? (i := 35) rfl))) (by decide) (t := (.array .int)) (t' := (.array .int)) (by decide) (by decide)))).ext E10).same W12
  have pre13 : ∀ t, Steps p.tables e below (T12.setTop (mkF m 20 #[.val (.ref da)] [])) t → Steps p.tables e below (s₁.setTop (entryFrame m #[(.ref da)] 1)) t := fun t k => pre11 _ (st12 _ k)
  have pre14 : ∀ t, Steps p.tables e below (T12.setTop (mkF m 23 #[.val (.ref da)] [(.int (8 : Int32)), (.ref da)])) t → Steps p.tables e below (s₁.setTop (entryFrame m #[(.ref da)] 1)) t := fun t k => pre13 _ (by
    refine XS.aloadN X12.here hx rfl (hb hby own_d_prog_35_method_1_20) rfl rfl ?_
    refine XT.bipushV X12.here hx rfl (8 : Int32) (hb hby own_d_prog_35_method_1_21) rfl ?_
    exact k)
  obtain ⟨T15, h15, cA15, X15, e15, E15, A15, O15, st15⟩ := newR X12 hx hZ hown (hw _ (List.mem_of_getElem? (i := 38) rfl)) (hw _ (List.mem_of_getElem? (i := 39) rfl)) e12 (g := (mkF m 23 #[.val (.ref da)] [(.int (8 : Int32)), (.ref da)])) rfl (hb hby own_d_prog_35_method_1_23) rfl (by decide) (cap := 8) (by decide) (by decide) (by decide) (by decide)
  obtain ⟨a15, ga15⟩ : ∃ z, z = h12.size := ⟨_, rfl⟩
  rw [← ga15] at A15 st15
  have lt_da_a15 : da < a15 := Nat.lt_of_lt_of_eq ((((SE.ext E5).wr W7).ext E10).wr W12).lt ga15.symm
  have ne_da_a15 : da ≠ a15 := Nat.ne_of_lt lt_da_a15
  have lt_a5_a15 : a5 < a15 := Nat.lt_of_lt_of_eq (((V5.other W7 ne_da_a5.symm).ext E10).other W12 ne_da_a5.symm).lt ga15.symm
  have ne_a5_a15 : a5 ≠ a15 := Nat.ne_of_lt lt_a5_a15
  have lt_a10_a15 : a10 < a15 := Nat.lt_of_lt_of_eq (V10.other W12 ne_da_a10.symm).lt ga15.symm
  have ne_a10_a15 : a10 ≠ a15 := Nat.ne_of_lt lt_a10_a15
  have ge_a15 : n0 ≤ a15 := Nat.le_trans Z12 (Nat.le_of_eq ga15.symm)
  have Z15 : n0 ≤ h15.size := Nat.le_trans Z12 E15.1
  have pre16 : ∀ t, Steps p.tables e below (T15.setTop (mkF m 26 #[.val (.ref da)] [(.ref a15), (.ref da)])) t → Steps p.tables e below (s₁.setTop (entryFrame m #[(.ref da)] 1)) t := fun t k => pre14 _ (st15 _ k)
  have Vl : Arv Z h15 a15 cA15 (.object "java/lang/String") (8 : Int32) (own_tab (fun _ => .null) 8) .null := (Arv.new A15 (by decide)).pad (own_tab_pad 8 .null)
  obtain ⟨T17, h17, X17, e17, W17, st17⟩ := putF X15 hx hZ hown (host := "") (Or.inl (hw _ (List.mem_of_getElem? (i := 40) rfl))) Via.refl e15 (((((F_labels.ext E5).other W7 (Or.inr (slot_ne (C := "com/example/erma/erma/analysis/DistinctSteps") (Or.inl (hw _ (List.mem_of_getElem? (i := 41) rfl))) (Or.inl (hw _ (List.mem_of_getElem? (i := 35) rfl))) (by decide) (t := (.array (.object "java/lang/String"))) (t' := (.array .int)) (by decide) (by decide)))).ext E10).other W12 (Or.inr (slot_ne (C := "com/example/erma/erma/analysis/DistinctSteps") (Or.inl (hw _ (List.mem_of_getElem? (i := 41) rfl))) (Or.inl (hw _ (List.mem_of_getElem? (i := 37) rfl))) (by decide) (t := (.array (.object "java/lang/String"))) (t' := (.array .int)) (by decide) (by decide)))).ext E15) (((((SE.ext E5).wr W7).ext E10).wr W12).ext E15) (Or.inl (hw _ (List.mem_of_getElem? (i := 41) rfl))) (hw _ (List.mem_of_getElem? (i := 27) rfl)) (ty := (.array (.object "java/lang/String"))) (by decide) rfl rfl (g := (mkF m 26 #[.val (.ref da)] [(.ref a15), (.ref da)])) rfl rfl (hb hby own_d_prog_35_method_1_26)
  have N17 := Fr.snoc X17 N12 ge_da
  have Z17 : n0 ≤ h17.size := Nat.le_trans Z15 (Keep.of_wr W17).1
  have F17 : Fld Z h17 da "com/example/erma/erma/analysis/DistinctSteps" "labels" "[Ljava/lang/String;" (.ref a15) := (((((F_labels.ext E5).other W7 (Or.inr (slot_ne (C := "com/example/erma/erma/analysis/DistinctSteps") (Or.inl (hw _ (List.mem_of_getElem? (i := 41) rfl))) (Or.inl (hw _ (List.mem_of_getElem? (i := 35) rfl))) (by decide) (t := (.array (.object "java/lang/String"))) (t' := (.array .int)) (by decide) (by decide)))).ext E10).other W12 (Or.inr (slot_ne (C := "com/example/erma/erma/analysis/DistinctSteps") (Or.inl (hw _ (List.mem_of_getElem? (i := 41) rfl))) (Or.inl (hw _ (List.mem_of_getElem? (i := 37) rfl))) (by decide) (t := (.array (.object "java/lang/String"))) (t' := (.array .int)) (by decide) (by decide)))).ext E15).same W17
  have pre18 : ∀ t, Steps p.tables e below (T17.setTop (mkF m 29 #[.val (.ref da)] [])) t → Steps p.tables e below (s₁.setTop (entryFrame m #[(.ref da)] 1)) t := fun t k => pre16 _ (st17 _ k)
  have pre19 : ∀ t, Steps p.tables e below (T17.setTop (mkF m 32 #[.val (.ref da)] [(.int (8 : Int32)), (.ref da)])) t → Steps p.tables e below (s₁.setTop (entryFrame m #[(.ref da)] 1)) t := fun t k => pre18 _ (by
    refine XS.aloadN X17.here hx rfl (hb hby own_d_prog_35_method_1_29) rfl rfl ?_
    refine XT.bipushV X17.here hx rfl (8 : Int32) (hb hby own_d_prog_35_method_1_30) rfl ?_
    exact k)
  obtain ⟨T20, h20, cA20, X20, e20, E20, A20, st20⟩ := newP X17 hx hZ (aty := .int) (hw _ (List.mem_of_getElem? (i := 33) rfl)) e17 (g := (mkF m 32 #[.val (.ref da)] [(.int (8 : Int32)), (.ref da)])) rfl (hb hby own_d_prog_35_method_1_32) rfl (by decide) (cap := 8) (by decide) (by decide) (by decide) (by decide)
  obtain ⟨a20, ga20⟩ : ∃ z, z = h17.size := ⟨_, rfl⟩
  rw [← ga20] at A20 st20
  have lt_da_a20 : da < a20 := Nat.lt_of_lt_of_eq ((((((SE.ext E5).wr W7).ext E10).wr W12).ext E15).wr W17).lt ga20.symm
  have ne_da_a20 : da ≠ a20 := Nat.ne_of_lt lt_da_a20
  have lt_a5_a20 : a5 < a20 := Nat.lt_of_lt_of_eq (((((V5.other W7 ne_da_a5.symm).ext E10).other W12 ne_da_a5.symm).ext E15).other W17 ne_da_a5.symm).lt ga20.symm
  have ne_a5_a20 : a5 ≠ a20 := Nat.ne_of_lt lt_a5_a20
  have lt_a10_a20 : a10 < a20 := Nat.lt_of_lt_of_eq (((V10.other W12 ne_da_a10.symm).ext E15).other W17 ne_da_a10.symm).lt ga20.symm
  have ne_a10_a20 : a10 ≠ a20 := Nat.ne_of_lt lt_a10_a20
  have lt_a15_a20 : a15 < a20 := Nat.lt_of_lt_of_eq (Vl.other W17 ne_da_a15.symm).lt ga20.symm
  have ne_a15_a20 : a15 ≠ a20 := Nat.ne_of_lt lt_a15_a20
  have ge_a20 : n0 ≤ a20 := Nat.le_trans Z17 (Nat.le_of_eq ga20.symm)
  have Z20 : n0 ≤ h20.size := Nat.le_trans Z17 E20.1
  have pre21 : ∀ t, Steps p.tables e below (T20.setTop (mkF m 34 #[.val (.ref da)] [(.ref a20), (.ref da)])) t → Steps p.tables e below (s₁.setTop (entryFrame m #[(.ref da)] 1)) t := fun t k => pre19 _ (st20 _ k)
  have V20 : Arv Z h20 a20 cA20 .int (8 : Int32) (own_ti (fun _ => (0 : Int32)) 8) (.int (0 : Int32)) := (Arv.new A20 (by decide)).pad (own_ti_pad 8)
  obtain ⟨T22, h22, X22, e22, W22, st22⟩ := putF X20 hx hZ hown (host := "") (Or.inl (hw _ (List.mem_of_getElem? (i := 42) rfl))) Via.refl e20 (((((((F_slotOf.ext E5).other W7 (Or.inr (slot_ne (C := "com/example/erma/erma/analysis/DistinctSteps") (Or.inl (hw _ (List.mem_of_getElem? (i := 43) rfl))) (Or.inl (hw _ (List.mem_of_getElem? (i := 35) rfl))) (by decide) (t := (.array .int)) (t' := (.array .int)) (by decide) (by decide)))).ext E10).other W12 (Or.inr (slot_ne (C := "com/example/erma/erma/analysis/DistinctSteps") (Or.inl (hw _ (List.mem_of_getElem? (i := 43) rfl))) (Or.inl (hw _ (List.mem_of_getElem? (i := 37) rfl))) (by decide) (t := (.array .int)) (t' := (.array .int)) (by decide) (by decide)))).ext E15).other W17 (Or.inr (slot_ne (C := "com/example/erma/erma/analysis/DistinctSteps") (Or.inl (hw _ (List.mem_of_getElem? (i := 43) rfl))) (Or.inl (hw _ (List.mem_of_getElem? (i := 41) rfl))) (by decide) (t := (.array .int)) (t' := (.array (.object "java/lang/String"))) (by decide) (by decide)))).ext E20) (((((((SE.ext E5).wr W7).ext E10).wr W12).ext E15).wr W17).ext E20) (Or.inl (hw _ (List.mem_of_getElem? (i := 43) rfl))) (hw _ (List.mem_of_getElem? (i := 27) rfl)) (ty := (.array .int)) (by decide) rfl rfl (g := (mkF m 34 #[.val (.ref da)] [(.ref a20), (.ref da)])) rfl rfl (hb hby own_d_prog_35_method_1_34)
  have N22 := Fr.snoc X22 N17 ge_da
  have Z22 : n0 ≤ h22.size := Nat.le_trans Z20 (Keep.of_wr W22).1
  have F22 : Fld Z h22 da "com/example/erma/erma/analysis/DistinctSteps" "slotOf" "[I" (.ref a20) := (((((((F_slotOf.ext E5).other W7 (Or.inr (slot_ne (C := "com/example/erma/erma/analysis/DistinctSteps") (Or.inl (hw _ (List.mem_of_getElem? (i := 43) rfl))) (Or.inl (hw _ (List.mem_of_getElem? (i := 35) rfl))) (by decide) (t := (.array .int)) (t' := (.array .int)) (by decide) (by decide)))).ext E10).other W12 (Or.inr (slot_ne (C := "com/example/erma/erma/analysis/DistinctSteps") (Or.inl (hw _ (List.mem_of_getElem? (i := 43) rfl))) (Or.inl (hw _ (List.mem_of_getElem? (i := 37) rfl))) (by decide) (t := (.array .int)) (t' := (.array .int)) (by decide) (by decide)))).ext E15).other W17 (Or.inr (slot_ne (C := "com/example/erma/erma/analysis/DistinctSteps") (Or.inl (hw _ (List.mem_of_getElem? (i := 43) rfl))) (Or.inl (hw _ (List.mem_of_getElem? (i := 41) rfl))) (by decide) (t := (.array .int)) (t' := (.array (.object "java/lang/String"))) (by decide) (by decide)))).ext E20).same W22
  have pre23 : ∀ t, Steps p.tables e below (T22.setTop (mkF m 37 #[.val (.ref da)] [])) t → Steps p.tables e below (s₁.setTop (entryFrame m #[(.ref da)] 1)) t := fun t k => pre21 _ (st22 _ k)
  obtain ⟨fs, hr, hrun, hended, hW, hsame⟩ := X22.leave (v := none) (fun _ => rfl)
  refine ⟨_, _, pre23 _ ?_, hrun, hended, _, _, rfl, ?_, ⟨_, rfl⟩, hW, hsame.mono (by decide) (by decide)⟩
  · show Steps p.tables e below (T22.setTop (mkF m 37 #[.val (.ref da)] [])) _
    exact X22.returnOut hx Bd.returns (hb hby own_d_prog_35_method_1_37) hr
  · show Q_own_ctor Z da h0 n0 _ T22.heap _
    rw [e22]
    exact ⟨rfl, N22, (((((((((Keep.refl _ _).ext E5).wr W7 (Or.inl (List.mem_of_getElem? (i := 0) rfl))).ext E10).wr W12 (Or.inl (List.mem_of_getElem? (i := 0) rfl))).ext E15).wr W17 (Or.inl (List.mem_of_getElem? (i := 0) rfl))).ext E20).wr W22 (Or.inl (List.mem_of_getElem? (i := 0) rfl))), a5, a10, a15, a20, cA5, cA10, cA15, cA20, ((((((((SE.ext E5).wr W7).ext E10).wr W12).ext E15).wr W17).ext E20).wr W22), ((((((F7.ext E10).other W12 (Or.inr (slot_ne (C := "com/example/erma/erma/analysis/DistinctSteps") (Or.inl (hw _ (List.mem_of_getElem? (i := 35) rfl))) (Or.inl (hw _ (List.mem_of_getElem? (i := 37) rfl))) (by decide) (t := (.array .int)) (t' := (.array .int)) (by decide) (by decide)))).ext E15).other W17 (Or.inr (slot_ne (C := "com/example/erma/erma/analysis/DistinctSteps") (Or.inl (hw _ (List.mem_of_getElem? (i := 35) rfl))) (Or.inl (hw _ (List.mem_of_getElem? (i := 41) rfl))) (by decide) (t := (.array .int)) (t' := (.array (.object "java/lang/String"))) (by decide) (by decide)))).ext E20).other W22 (Or.inr (slot_ne (C := "com/example/erma/erma/analysis/DistinctSteps") (Or.inl (hw _ (List.mem_of_getElem? (i := 35) rfl))) (Or.inl (hw _ (List.mem_of_getElem? (i := 43) rfl))) (by decide) (t := (.array .int)) (t' := (.array .int)) (by decide) (by decide)))), ((((F12.ext E15).other W17 (Or.inr (slot_ne (C := "com/example/erma/erma/analysis/DistinctSteps") (Or.inl (hw _ (List.mem_of_getElem? (i := 37) rfl))) (Or.inl (hw _ (List.mem_of_getElem? (i := 41) rfl))) (by decide) (t := (.array .int)) (t' := (.array (.object "java/lang/String"))) (by decide) (by decide)))).ext E20).other W22 (Or.inr (slot_ne (C := "com/example/erma/erma/analysis/DistinctSteps") (Or.inl (hw _ (List.mem_of_getElem? (i := 37) rfl))) (Or.inl (hw _ (List.mem_of_getElem? (i := 43) rfl))) (by decide) (t := (.array .int)) (t' := (.array .int)) (by decide) (by decide)))), ((F17.ext E20).other W22 (Or.inr (slot_ne (C := "com/example/erma/erma/analysis/DistinctSteps") (Or.inl (hw _ (List.mem_of_getElem? (i := 41) rfl))) (Or.inl (hw _ (List.mem_of_getElem? (i := 43) rfl))) (by decide) (t := (.array (.object "java/lang/String"))) (t' := (.array .int)) (by decide) (by decide)))), F22, ((((((((F_size.ext E5).other W7 (Or.inr (slot_ne (C := "com/example/erma/erma/analysis/DistinctSteps") (Or.inl (hw _ (List.mem_of_getElem? (i := 50) rfl))) (Or.inl (hw _ (List.mem_of_getElem? (i := 35) rfl))) (by decide) (t := .int) (t' := (.array .int)) (by decide) (by decide)))).ext E10).other W12 (Or.inr (slot_ne (C := "com/example/erma/erma/analysis/DistinctSteps") (Or.inl (hw _ (List.mem_of_getElem? (i := 50) rfl))) (Or.inl (hw _ (List.mem_of_getElem? (i := 37) rfl))) (by decide) (t := .int) (t' := (.array .int)) (by decide) (by decide)))).ext E15).other W17 (Or.inr (slot_ne (C := "com/example/erma/erma/analysis/DistinctSteps") (Or.inl (hw _ (List.mem_of_getElem? (i := 50) rfl))) (Or.inl (hw _ (List.mem_of_getElem? (i := 41) rfl))) (by decide) (t := .int) (t' := (.array (.object "java/lang/String"))) (by decide) (by decide)))).ext E20).other W22 (Or.inr (slot_ne (C := "com/example/erma/erma/analysis/DistinctSteps") (Or.inl (hw _ (List.mem_of_getElem? (i := 50) rfl))) (Or.inl (hw _ (List.mem_of_getElem? (i := 43) rfl))) (by decide) (t := .int) (t' := (.array .int)) (by decide) (by decide)))), (((((((V5.other W7 ne_da_a5.symm).ext E10).other W12 ne_da_a5.symm).ext E15).other W17 ne_da_a5.symm).ext E20).other W22 ne_da_a5.symm), (((((V10.other W12 ne_da_a10.symm).ext E15).other W17 ne_da_a10.symm).ext E20).other W22 ne_da_a10.symm), (((Vl.other W17 ne_da_a15.symm).ext E20).other W22 ne_da_a15.symm), (V20.other W22 ne_da_a20.symm), O15, ge_da, lt_da_a5, lt_a5_a10, lt_a10_a15, lt_a15_a20⟩
theorem own_ef_own_clear0 (m : MethodId) (da : Addr) : entryFrame m #[(.ref da)] 2 = mkF m 0 #[.val (.ref da), .unset] [] := by first | (simp [entryFrame, mkF, argsToLocals, Value.category]; done) | rfl
def Q_own_clear0 (Z : State) (da : Addr) (sa : Addr) (ta : Addr) (la : Addr) (oa : Addr) (ka : ClassId) (kb : ClassId) (kc : ClassId) (kd : ClassId) (Sf : Nat → Int32) (Tf : Nat → Int32) (Of : Nat → Int32) (Lf : Nat → Value) (h0 : Heap) (n0 : Nat) (v : Option Value) (h : Heap) (L : List Loc) : Prop := v = none ∧ Fr n0 L ∧ Keep h0 h [da, sa, ta, la, oa] ∧ ∃ (Sg : Nat → Int32) (Lg : Nat → Value), own_St Z h n0 da sa ta la oa ka kb kc kd Sg Tf Of Lg (0 : Int32) ∧ own_I0 Sg
theorem own_d_prog_35_method_2_0 : decode prog_35_method_2_code 0 = .ok (.iconst 0, 1) := by decide +kernel
theorem own_d_prog_35_method_2_1 : decode prog_35_method_2_code 1 = .ok (.istore_n 1, 1) := by decide +kernel
theorem own_d_prog_35_method_2_2 : decode prog_35_method_2_code 2 = .ok (.iload_n 1, 1) := by decide +kernel
theorem own_d_prog_35_method_2_3 : decode prog_35_method_2_code 3 = .ok (.aload_n 0, 1) := by decide +kernel
theorem own_d_prog_35_method_2_4 : decode prog_35_method_2_code 4 = .ok (.getfield 25, 3) := by decide +kernel
theorem own_d_prog_35_method_2_7 : decode prog_35_method_2_code 7 = .ok (.if_icmp .ge 28, 3) := by decide +kernel
theorem own_d_prog_35_method_2_35 : decode prog_35_method_2_code 35 = .ok (.aload_n 0, 1) := by decide +kernel
theorem own_d_prog_35_method_2_36 : decode prog_35_method_2_code 36 = .ok (.iconst 0, 1) := by decide +kernel
theorem own_d_prog_35_method_2_37 : decode prog_35_method_2_code 37 = .ok (.putfield 25, 3) := by decide +kernel
theorem own_d_prog_35_method_2_40 : decode prog_35_method_2_code 40 = .ok (.return_, 1) := by decide +kernel
set_option maxRecDepth 65536 in
set_option maxHeartbeats 40000000 in
theorem own_clear0 (l : Launch) (Z : State) (a0 : Array Value) (hw : ∀ d ∈ tables_1, d.before a0 Z = true) (ws : List Jvm.Cond) (da : Addr) (sa : Addr) (ta : Addr) (la : Addr) (oa : Addr) (ka : ClassId) (kb : ClassId) (kc : ClassId) (kd : ClassId) (Sf : Nat → Int32) (Tf : Nat → Int32) (Of : Nat → Int32) (Lf : Nat → Value) (h0 : Heap) (n0 : Nat) (Z0 : n0 ≤ h0.size) (HS : own_St Z h0 n0 da sa ta la oa ka kb kc kd Sf Tf Of Lf (0 : Int32)) (hS : ∀ j, j < 16 → Sf j = 0) :
    MetFree l (⟨"com/example/erma/erma/analysis/DistinctSteps", "clear", "()V"⟩ : MethodName) (head1 (Jvm.Cond.code (⟨"com/example/erma/erma/analysis/DistinctSteps", "clear", "()V"⟩ : MethodName) prog_35_method_2_code 2 none :: ws) ({ frames := 0, cells := 0, slots := 0, locals := 0 } : Room)) (fun a U => a = #[(.ref da)] ∧ Z.Warmed39 U.vm ∧ U.heap = h0) (fun _ _ _ _ _ => True) (fun _ U o U' => ∃ v L, o = .returned v ∧ Q_own_clear0 Z da sa ta la oa ka kb kc kd Sf Tf Of Lf h0 n0 v U'.heap L ∧ FrameEnd U o U' L ({ frames := 0, cells := 0, slots := 0, locals := 0 } : Room).cells ({ frames := 0, cells := 0, slots := 0, locals := 0 } : Room).slots) := by
  refine MetFree.of_bodySF (plainFor_of_name own_pn_com_example_erma_erma_analysis_DistinctSteps) hisR ?_
  intro p e s m args below meth c s₁ Bd hml0 hP hK
  obtain ⟨rfl, hZ, hh⟩ := hP
  have hx := Bd.exec
  have hby := Bd.bytes
  have hml : c.maxLocals = 2 := hml0
  have hown : s.vm.findClass "com/example/erma/erma/analysis/DistinctSteps" = some m.cls := findClass_of_methodNamed Bd.named
  have hnm := (name_of_methodNamed Bd.named Bd.method).1
  have X0 : Stand p l e ({ frames := 0, cells := 0, slots := 0, locals := 0 } : Room) s m #[(.ref da)] below meth c s₁ [] 0 0 := Stand.of_body Bd
  have e0 : s₁.heap = h0 := by rw [← hh, Bd.state]; rfl
  have N0 := Fr.nil n0
  have pre0 : ∀ t, Steps p.tables e below (s₁.setTop (mkF m 0 #[.val (.ref da), .unset] [])) t → Steps p.tables e below (s₁.setTop (entryFrame m #[(.ref da)] 2)) t := fun t k => castTop (own_ef_own_clear0 m da) k
  obtain ⟨SE, S1, S2, S3, S4, S5, V1, V2, V3, V4, OV, ge_da, o1, o2, o3, o4⟩ := HS
  have lt_da_sa : da < sa := o1
  have ne_da_sa : da ≠ sa := Nat.ne_of_lt lt_da_sa
  have lt_da_ta : da < ta := Nat.lt_trans lt_da_sa o2
  have ne_da_ta : da ≠ ta := Nat.ne_of_lt lt_da_ta
  have lt_da_la : da < la := Nat.lt_trans lt_da_ta o3
  have ne_da_la : da ≠ la := Nat.ne_of_lt lt_da_la
  have lt_da_oa : da < oa := Nat.lt_trans lt_da_la o4
  have ne_da_oa : da ≠ oa := Nat.ne_of_lt lt_da_oa
  have lt_sa_ta : sa < ta := o2
  have ne_sa_ta : sa ≠ ta := Nat.ne_of_lt lt_sa_ta
  have lt_sa_la : sa < la := Nat.lt_trans lt_sa_ta o3
  have ne_sa_la : sa ≠ la := Nat.ne_of_lt lt_sa_la
  have lt_sa_oa : sa < oa := Nat.lt_trans lt_sa_la o4
  have ne_sa_oa : sa ≠ oa := Nat.ne_of_lt lt_sa_oa
  have lt_ta_la : ta < la := o3
  have ne_ta_la : ta ≠ la := Nat.ne_of_lt lt_ta_la
  have lt_ta_oa : ta < oa := Nat.lt_trans lt_ta_la o4
  have ne_ta_oa : ta ≠ oa := Nat.ne_of_lt lt_ta_oa
  have lt_la_oa : la < oa := o4
  have ne_la_oa : la ≠ oa := Nat.ne_of_lt lt_la_oa
  have ge_sa : n0 ≤ sa := Nat.le_trans ge_da (Nat.le_of_lt lt_da_sa)
  have ge_ta : n0 ≤ ta := Nat.le_trans ge_da (Nat.le_of_lt lt_da_ta)
  have ge_la : n0 ≤ la := Nat.le_trans ge_da (Nat.le_of_lt lt_da_la)
  have ge_oa : n0 ≤ oa := Nat.le_trans ge_da (Nat.le_of_lt lt_da_oa)
  have pre1 : ∀ t, Steps p.tables e below (s₁.setTop (mkF m 4 #[.val (.ref da), .val (.int (0 : Int32))] [(.ref da), (.int (0 : Int32))])) t → Steps p.tables e below (s₁.setTop (entryFrame m #[(.ref da)] 2)) t := fun t k => pre0 _ (by
    refine XT.iconstV X0.here hx rfl (0 : Int32) (hb hby own_d_prog_35_method_2_0) rfl ?_
    refine XS.istoreN X0.here hx rfl (hb hby own_d_prog_35_method_2_1) rfl (l' := #[.val (.ref da), .val (.int (0 : Int32))]) rfl ?_
    refine XS.iloadN X0.here hx rfl (hb hby own_d_prog_35_method_2_2) rfl ?_
    refine XS.aloadN X0.here hx rfl (hb hby own_d_prog_35_method_2_3) rfl rfl ?_
    exact k)
  obtain ⟨T2, X2, e2, st2⟩ := getF X0 hx hZ hown (host := "") (Or.inl (hw _ (List.mem_of_getElem? (i := 49) rfl))) Via.refl e0 S5 (g := (mkF m 4 #[.val (.ref da), .val (.int (0 : Int32))] [(.ref da), (.int (0 : Int32))])) rfl rfl (hb hby own_d_prog_35_method_2_4)
  have pre3 : ∀ t, Steps p.tables e below (T2.setTop (mkF m 7 #[.val (.ref da), .val (.int (0 : Int32))] [(.int (0 : Int32)), (.int (0 : Int32))])) t → Steps p.tables e below (s₁.setTop (entryFrame m #[(.ref da)] 2)) t := fun t k => pre1 _ (st2 _ k)
  have pre4 : ∀ t, Steps p.tables e below (T2.setTop (mkF m 37 #[.val (.ref da), .val (.int (0 : Int32))] [(.int (0 : Int32)), (.ref da)])) t → Steps p.tables e below (s₁.setTop (entryFrame m #[(.ref da)] 2)) t := fun t k => pre3 _ (by
    refine XS.icmpYes X2.here hx rfl (pc0 := 7) (pc' := 35) rfl (hb hby own_d_prog_35_method_2_7) rfl (XT.ii_ge_t (by decide)) (by decide) (by decide) ?_
    refine XS.aloadN X2.here hx rfl (hb hby own_d_prog_35_method_2_35) rfl rfl ?_
    refine XT.iconstV X2.here hx rfl (0 : Int32) (hb hby own_d_prog_35_method_2_36) rfl ?_
    exact k)
  obtain ⟨T5, h5, X5, e5, W5, st5⟩ := putF X2 hx hZ hown (host := "") (Or.inl (hw _ (List.mem_of_getElem? (i := 49) rfl))) Via.refl e2 S5 SE (Or.inl (hw _ (List.mem_of_getElem? (i := 50) rfl))) (hw _ (List.mem_of_getElem? (i := 27) rfl)) (ty := .int) (by decide) rfl rfl (g := (mkF m 37 #[.val (.ref da), .val (.int (0 : Int32))] [(.int (0 : Int32)), (.ref da)])) rfl rfl (hb hby own_d_prog_35_method_2_37)
  have N5 := Fr.snoc X5 N0 ge_da
  have Z5 : n0 ≤ h5.size := Nat.le_trans Z0 (Keep.of_wr W5).1
  have F5 : Fld Z h5 da "com/example/erma/erma/analysis/DistinctSteps" "size" "I" (.int (0 : Int32)) := S5.same W5
  have pre6 : ∀ t, Steps p.tables e below (T5.setTop (mkF m 40 #[.val (.ref da), .val (.int (0 : Int32))] [])) t → Steps p.tables e below (s₁.setTop (entryFrame m #[(.ref da)] 2)) t := fun t k => pre4 _ (st5 _ k)
  obtain ⟨fs, hr, hrun, hended, hW, hsame⟩ := X5.leave (v := none) (fun _ => rfl)
  refine ⟨_, _, pre6 _ ?_, hrun, hended, _, _, rfl, ?_, ⟨_, rfl⟩, hW, hsame.mono (by decide) (by decide)⟩
  · show Steps p.tables e below (T5.setTop (mkF m 40 #[.val (.ref da), .val (.int (0 : Int32))] [])) _
    exact X5.returnOut hx Bd.returns (hb hby own_d_prog_35_method_2_40) hr
  · show Q_own_clear0 Z da sa ta la oa ka kb kc kd Sf Tf Of Lf h0 n0 _ T5.heap _
    rw [e5]
    exact ⟨rfl, N5, ((Keep.refl _ _).wr W5 (Or.inl (List.mem_of_getElem? (i := 0) rfl))), Sf, Lf, ⟨(SE.wr W5), (S1.other W5 (Or.inr (slot_ne (C := "com/example/erma/erma/analysis/DistinctSteps") (Or.inl (hw _ (List.mem_of_getElem? (i := 35) rfl))) (Or.inl (hw _ (List.mem_of_getElem? (i := 50) rfl))) (by decide) (t := (.array .int)) (t' := .int) (by decide) (by decide)))), (S2.other W5 (Or.inr (slot_ne (C := "com/example/erma/erma/analysis/DistinctSteps") (Or.inl (hw _ (List.mem_of_getElem? (i := 37) rfl))) (Or.inl (hw _ (List.mem_of_getElem? (i := 50) rfl))) (by decide) (t := (.array .int)) (t' := .int) (by decide) (by decide)))), (S3.other W5 (Or.inr (slot_ne (C := "com/example/erma/erma/analysis/DistinctSteps") (Or.inl (hw _ (List.mem_of_getElem? (i := 41) rfl))) (Or.inl (hw _ (List.mem_of_getElem? (i := 50) rfl))) (by decide) (t := (.array (.object "java/lang/String"))) (t' := .int) (by decide) (by decide)))), (S4.other W5 (Or.inr (slot_ne (C := "com/example/erma/erma/analysis/DistinctSteps") (Or.inl (hw _ (List.mem_of_getElem? (i := 43) rfl))) (Or.inl (hw _ (List.mem_of_getElem? (i := 50) rfl))) (by decide) (t := (.array .int)) (t' := .int) (by decide) (by decide)))), F5, (V1.other W5 ne_da_sa.symm), (V2.other W5 ne_da_ta.symm), (V3.other W5 ne_da_la.symm), (V4.other W5 ne_da_oa.symm), OV, ge_da, o1, o2, o3, o4⟩, (fun j hj => by
        have q := hS j hj
        simpa [own_up] using q)⟩
theorem own_ef_own_clear1 (m : MethodId) (da : Addr) : entryFrame m #[(.ref da)] 2 = mkF m 0 #[.val (.ref da), .unset] [] := by first | (simp [entryFrame, mkF, argsToLocals, Value.category]; done) | rfl
def Q_own_clear1 (Z : State) (da : Addr) (sa : Addr) (ta : Addr) (la : Addr) (oa : Addr) (ka : ClassId) (kb : ClassId) (kc : ClassId) (kd : ClassId) (Sf : Nat → Int32) (Tf : Nat → Int32) (Of : Nat → Int32) (Lf : Nat → Value) (p0 : Nat) (h0 : Heap) (n0 : Nat) (v : Option Value) (h : Heap) (L : List Loc) : Prop := v = none ∧ Fr n0 L ∧ Keep h0 h [da, sa, ta, la, oa] ∧ ∃ (Sg : Nat → Int32) (Lg : Nat → Value), own_St Z h n0 da sa ta la oa ka kb kc kd Sg Tf Of Lg (0 : Int32) ∧ own_I0 Sg
theorem own_d_prog_35_method_2_10 : decode prog_35_method_2_code 10 = .ok (.aload_n 0, 1) := by decide +kernel
theorem own_d_prog_35_method_2_11 : decode prog_35_method_2_code 11 = .ok (.getfield 7, 3) := by decide +kernel
theorem own_d_prog_35_method_2_14 : decode prog_35_method_2_code 14 = .ok (.aload_n 0, 1) := by decide +kernel
theorem own_d_prog_35_method_2_15 : decode prog_35_method_2_code 15 = .ok (.getfield 22, 3) := by decide +kernel
theorem own_d_prog_35_method_2_18 : decode prog_35_method_2_code 18 = .ok (.iload_n 1, 1) := by decide +kernel
theorem own_d_prog_35_method_2_19 : decode prog_35_method_2_code 19 = .ok (.iaload, 1) := by decide +kernel
theorem own_d_prog_35_method_2_20 : decode prog_35_method_2_code 20 = .ok (.iconst 0, 1) := by decide +kernel
theorem own_d_prog_35_method_2_21 : decode prog_35_method_2_code 21 = .ok (.iastore, 1) := by decide +kernel
theorem own_d_prog_35_method_2_22 : decode prog_35_method_2_code 22 = .ok (.aload_n 0, 1) := by decide +kernel
theorem own_d_prog_35_method_2_23 : decode prog_35_method_2_code 23 = .ok (.getfield 18, 3) := by decide +kernel
theorem own_d_prog_35_method_2_26 : decode prog_35_method_2_code 26 = .ok (.iload_n 1, 1) := by decide +kernel
theorem own_d_prog_35_method_2_27 : decode prog_35_method_2_code 27 = .ok (.aconst_null, 1) := by decide +kernel
theorem own_d_prog_35_method_2_28 : decode prog_35_method_2_code 28 = .ok (.aastore, 1) := by decide +kernel
theorem own_d_prog_35_method_2_29 : decode prog_35_method_2_code 29 = .ok (.iinc 1 1, 3) := by decide +kernel
theorem own_d_prog_35_method_2_32 : decode prog_35_method_2_code 32 = .ok (.goto (-30), 3) := by decide +kernel
set_option maxRecDepth 65536 in
set_option maxHeartbeats 40000000 in
theorem own_clear1 (l : Launch) (Z : State) (a0 : Array Value) (hw : ∀ d ∈ tables_1, d.before a0 Z = true) (ws : List Jvm.Cond) (da : Addr) (sa : Addr) (ta : Addr) (la : Addr) (oa : Addr) (ka : ClassId) (kb : ClassId) (kc : ClassId) (kd : ClassId) (Sf : Nat → Int32) (Tf : Nat → Int32) (Of : Nat → Int32) (Lf : Nat → Value) (p0 : Nat) (h0 : Heap) (n0 : Nat) (Z0 : n0 ≤ h0.size) (HS : own_St Z h0 n0 da sa ta la oa ka kb kc kd Sf Tf Of Lf (1 : Int32)) (hp0 : p0 < 16) (hO0 : Of 0 = Int32.ofNat p0) (hS : ∀ j, j < 16 → j ≠ p0 → Sf j = 0) :
    MetFree l (⟨"com/example/erma/erma/analysis/DistinctSteps", "clear", "()V"⟩ : MethodName) (head1 (Jvm.Cond.code (⟨"com/example/erma/erma/analysis/DistinctSteps", "clear", "()V"⟩ : MethodName) prog_35_method_2_code 2 none :: ws) ({ frames := 0, cells := 0, slots := 0, locals := 0 } : Room)) (fun a U => a = #[(.ref da)] ∧ Z.Warmed39 U.vm ∧ U.heap = h0) (fun _ _ _ _ _ => True) (fun _ U o U' => ∃ v L, o = .returned v ∧ Q_own_clear1 Z da sa ta la oa ka kb kc kd Sf Tf Of Lf p0 h0 n0 v U'.heap L ∧ FrameEnd U o U' L ({ frames := 0, cells := 0, slots := 0, locals := 0 } : Room).cells ({ frames := 0, cells := 0, slots := 0, locals := 0 } : Room).slots) := by
  refine MetFree.of_bodySF (plainFor_of_name own_pn_com_example_erma_erma_analysis_DistinctSteps) hisR ?_
  intro p e s m args below meth c s₁ Bd hml0 hP hK
  obtain ⟨rfl, hZ, hh⟩ := hP
  have hx := Bd.exec
  have hby := Bd.bytes
  have hml : c.maxLocals = 2 := hml0
  have hown : s.vm.findClass "com/example/erma/erma/analysis/DistinctSteps" = some m.cls := findClass_of_methodNamed Bd.named
  have hnm := (name_of_methodNamed Bd.named Bd.method).1
  have X0 : Stand p l e ({ frames := 0, cells := 0, slots := 0, locals := 0 } : Room) s m #[(.ref da)] below meth c s₁ [] 0 0 := Stand.of_body Bd
  have e0 : s₁.heap = h0 := by rw [← hh, Bd.state]; rfl
  have N0 := Fr.nil n0
  have pre0 : ∀ t, Steps p.tables e below (s₁.setTop (mkF m 0 #[.val (.ref da), .unset] [])) t → Steps p.tables e below (s₁.setTop (entryFrame m #[(.ref da)] 2)) t := fun t k => castTop (own_ef_own_clear1 m da) k
  obtain ⟨SE, S1, S2, S3, S4, S5, V1, V2, V3, V4, OV, ge_da, o1, o2, o3, o4⟩ := HS
  have lt_da_sa : da < sa := o1
  have ne_da_sa : da ≠ sa := Nat.ne_of_lt lt_da_sa
  have lt_da_ta : da < ta := Nat.lt_trans lt_da_sa o2
  have ne_da_ta : da ≠ ta := Nat.ne_of_lt lt_da_ta
  have lt_da_la : da < la := Nat.lt_trans lt_da_ta o3
  have ne_da_la : da ≠ la := Nat.ne_of_lt lt_da_la
  have lt_da_oa : da < oa := Nat.lt_trans lt_da_la o4
  have ne_da_oa : da ≠ oa := Nat.ne_of_lt lt_da_oa
  have lt_sa_ta : sa < ta := o2
  have ne_sa_ta : sa ≠ ta := Nat.ne_of_lt lt_sa_ta
  have lt_sa_la : sa < la := Nat.lt_trans lt_sa_ta o3
  have ne_sa_la : sa ≠ la := Nat.ne_of_lt lt_sa_la
  have lt_sa_oa : sa < oa := Nat.lt_trans lt_sa_la o4
  have ne_sa_oa : sa ≠ oa := Nat.ne_of_lt lt_sa_oa
  have lt_ta_la : ta < la := o3
  have ne_ta_la : ta ≠ la := Nat.ne_of_lt lt_ta_la
  have lt_ta_oa : ta < oa := Nat.lt_trans lt_ta_la o4
  have ne_ta_oa : ta ≠ oa := Nat.ne_of_lt lt_ta_oa
  have lt_la_oa : la < oa := o4
  have ne_la_oa : la ≠ oa := Nat.ne_of_lt lt_la_oa
  have ge_sa : n0 ≤ sa := Nat.le_trans ge_da (Nat.le_of_lt lt_da_sa)
  have ge_ta : n0 ≤ ta := Nat.le_trans ge_da (Nat.le_of_lt lt_da_ta)
  have ge_la : n0 ≤ la := Nat.le_trans ge_da (Nat.le_of_lt lt_da_la)
  have ge_oa : n0 ≤ oa := Nat.le_trans ge_da (Nat.le_of_lt lt_da_oa)
  have pre1 : ∀ t, Steps p.tables e below (s₁.setTop (mkF m 4 #[.val (.ref da), .val (.int (0 : Int32))] [(.ref da), (.int (0 : Int32))])) t → Steps p.tables e below (s₁.setTop (entryFrame m #[(.ref da)] 2)) t := fun t k => pre0 _ (by
    refine XT.iconstV X0.here hx rfl (0 : Int32) (hb hby own_d_prog_35_method_2_0) rfl ?_
    refine XS.istoreN X0.here hx rfl (hb hby own_d_prog_35_method_2_1) rfl (l' := #[.val (.ref da), .val (.int (0 : Int32))]) rfl ?_
    refine XS.iloadN X0.here hx rfl (hb hby own_d_prog_35_method_2_2) rfl ?_
    refine XS.aloadN X0.here hx rfl (hb hby own_d_prog_35_method_2_3) rfl rfl ?_
    exact k)
  obtain ⟨T2, X2, e2, st2⟩ := getF X0 hx hZ hown (host := "") (Or.inl (hw _ (List.mem_of_getElem? (i := 49) rfl))) Via.refl e0 S5 (g := (mkF m 4 #[.val (.ref da), .val (.int (0 : Int32))] [(.ref da), (.int (0 : Int32))])) rfl rfl (hb hby own_d_prog_35_method_2_4)
  have pre3 : ∀ t, Steps p.tables e below (T2.setTop (mkF m 7 #[.val (.ref da), .val (.int (0 : Int32))] [(.int (1 : Int32)), (.int (0 : Int32))])) t → Steps p.tables e below (s₁.setTop (entryFrame m #[(.ref da)] 2)) t := fun t k => pre1 _ (st2 _ k)
  have pre4 : ∀ t, Steps p.tables e below (T2.setTop (mkF m 11 #[.val (.ref da), .val (.int (0 : Int32))] [(.ref da)])) t → Steps p.tables e below (s₁.setTop (entryFrame m #[(.ref da)] 2)) t := fun t k => pre3 _ (by
    refine XS.icmpNo X2.here hx rfl (hb hby own_d_prog_35_method_2_7) rfl (XT.ii_ge_f (by decide)) ?_
    refine XS.aloadN X2.here hx rfl (hb hby own_d_prog_35_method_2_10) rfl rfl ?_
    exact k)
  obtain ⟨T5, X5, e5, st5⟩ := getF X2 hx hZ hown (host := "") (Or.inl (hw _ (List.mem_of_getElem? (i := 34) rfl))) Via.refl e2 S1 (g := (mkF m 11 #[.val (.ref da), .val (.int (0 : Int32))] [(.ref da)])) rfl rfl (hb hby own_d_prog_35_method_2_11)
  have pre6 : ∀ t, Steps p.tables e below (T5.setTop (mkF m 14 #[.val (.ref da), .val (.int (0 : Int32))] [(.ref sa)])) t → Steps p.tables e below (s₁.setTop (entryFrame m #[(.ref da)] 2)) t := fun t k => pre4 _ (st5 _ k)
  have pre7 : ∀ t, Steps p.tables e below (T5.setTop (mkF m 15 #[.val (.ref da), .val (.int (0 : Int32))] [(.ref da), (.ref sa)])) t → Steps p.tables e below (s₁.setTop (entryFrame m #[(.ref da)] 2)) t := fun t k => pre6 _ (by
    refine XS.aloadN X5.here hx rfl (hb hby own_d_prog_35_method_2_14) rfl rfl ?_
    exact k)
  obtain ⟨T8, X8, e8, st8⟩ := getF X5 hx hZ hown (host := "") (Or.inl (hw _ (List.mem_of_getElem? (i := 42) rfl))) Via.refl e5 S4 (g := (mkF m 15 #[.val (.ref da), .val (.int (0 : Int32))] [(.ref da), (.ref sa)])) rfl rfl (hb hby own_d_prog_35_method_2_15)
  have pre9 : ∀ t, Steps p.tables e below (T8.setTop (mkF m 18 #[.val (.ref da), .val (.int (0 : Int32))] [(.ref oa), (.ref sa)])) t → Steps p.tables e below (s₁.setTop (entryFrame m #[(.ref da)] 2)) t := fun t k => pre7 _ (st8 _ k)
  have pre11 : ∀ t, Steps p.tables e below (T8.setTop (mkF m 19 #[.val (.ref da), .val (.int (0 : Int32))] [(.int (0 : Int32)), (.ref oa), (.ref sa)])) t → Steps p.tables e below (s₁.setTop (entryFrame m #[(.ref da)] 2)) t := fun t k => pre9 _ (by
    refine XS.iloadN X8.here hx rfl (hb hby own_d_prog_35_method_2_18) rfl ?_
    exact k)
  obtain ⟨cl10, Ar10, qc10, Sz10, Mz10, Hs10, Uf10⟩ := (show Arv Z h0 oa kd .int (8 : Int32) (own_ti Of 8) (.int (0 : Int32)) from V4)
  have in12 : ¬ ((0 : Int32) < 0 ∨ cl10.slots.size ≤ ((0 : Int32)).toNatClampNeg) := inb_of Sz10 (by decide)
  have at12 : cl10.slots[((0 : Int32)).toNatClampNeg]? = some (.int (Int32.ofNat p0)) := Hs10.at in12 (by rw [show (0 : Int32).toNatClampNeg = 0 from by decide]; exact (own_ti_get _ (by decide) _).trans (congrArg Value.int (hO0)))
  have pre13 : ∀ t, Steps p.tables e below (T8.setTop (mkF m 21 #[.val (.ref da), .val (.int (0 : Int32))] [(.int (0 : Int32)), (.int (Int32.ofNat p0)), (.ref sa)])) t → Steps p.tables e below (s₁.setTop (entryFrame m #[(.ref da)] 2)) t := fun t k => pre11 _ (by
    refine X8.iaload hx (j := (0 : Int32)) (v := (.int (Int32.ofNat p0))) (by rw [e8]; exact Ar10.1) (State.isArrayOf_alike hZ.alike Ar10.2.1) Ar10.2.2 in12 at12 (g := (mkF m 19 #[.val (.ref da), .val (.int (0 : Int32))] [(.int (0 : Int32)), (.ref oa), (.ref sa)])) rfl rfl (hb hby own_d_prog_35_method_2_19) _ ?_
    refine XT.iconstV X8.here hx rfl (0 : Int32) (hb hby own_d_prog_35_method_2_20) rfl ?_
    exact k)
  obtain ⟨cl14, Ar14, qc14, Sz14, Mz14, Hs14, Uf14⟩ := (show Arv Z h0 sa ka .int (16 : Int32) (own_ti Sf 16) (.int (0 : Int32)) from V1)
  have in15 : ¬ ((Int32.ofNat p0) < 0 ∨ cl14.slots.size ≤ ((Int32.ofNat p0)).toNatClampNeg) := own_inb Sz14 (N := 16) (by decide) hp0 (Nat.le_trans (Nat.le_of_lt hp0) (by decide))
  obtain ⟨T15, h15, X15, e15, W15, st15⟩ := stI X8 hx hZ e8 Ar14 (j := (Int32.ofNat p0)) in15 (g := (mkF m 21 #[.val (.ref da), .val (.int (0 : Int32))] [(.int (0 : Int32)), (.int (Int32.ofNat p0)), (.ref sa)])) rfl rfl (hb hby own_d_prog_35_method_2_21)
  have N15 := Fr.snoc X15 N0 ge_sa
  have Z15 : n0 ≤ h15.size := Nat.le_trans Z0 (Keep.of_wr W15).1
  have V15 := Arv.set Ar14 qc14 Sz14 Mz14 Hs14 Uf14 (v := (.int (0 : Int32))) rfl W15 p0 (by rw [own_n32 (Nat.le_trans (Nat.le_of_lt hp0) (by decide))]) (by rw [own_ti_len]; exact hp0)
  rw [own_ti_set] at V15
  have Va15 : Arv Z h15 sa ka .int (16 : Int32) (own_ti (own_up Sf p0 (0 : Int32)) 16) (.int (0 : Int32)) := V15
  have pre16 : ∀ t, Steps p.tables e below (T15.setTop (mkF m 22 #[.val (.ref da), .val (.int (0 : Int32))] [])) t → Steps p.tables e below (s₁.setTop (entryFrame m #[(.ref da)] 2)) t := fun t k => pre13 _ (st15 _ k)
  have pre17 : ∀ t, Steps p.tables e below (T15.setTop (mkF m 23 #[.val (.ref da), .val (.int (0 : Int32))] [(.ref da)])) t → Steps p.tables e below (s₁.setTop (entryFrame m #[(.ref da)] 2)) t := fun t k => pre16 _ (by
    refine XS.aloadN X15.here hx rfl (hb hby own_d_prog_35_method_2_22) rfl rfl ?_
    exact k)
  obtain ⟨T18, X18, e18, st18⟩ := getF X15 hx hZ hown (host := "") (Or.inl (hw _ (List.mem_of_getElem? (i := 40) rfl))) Via.refl e15 (S3.other W15 (Or.inl ne_da_sa)) (g := (mkF m 23 #[.val (.ref da), .val (.int (0 : Int32))] [(.ref da)])) rfl rfl (hb hby own_d_prog_35_method_2_23)
  have pre19 : ∀ t, Steps p.tables e below (T18.setTop (mkF m 26 #[.val (.ref da), .val (.int (0 : Int32))] [(.ref la)])) t → Steps p.tables e below (s₁.setTop (entryFrame m #[(.ref da)] 2)) t := fun t k => pre17 _ (st18 _ k)
  have pre20 : ∀ t, Steps p.tables e below (T18.setTop (mkF m 28 #[.val (.ref da), .val (.int (0 : Int32))] [.null, (.int (0 : Int32)), (.ref la)])) t → Steps p.tables e below (s₁.setTop (entryFrame m #[(.ref da)] 2)) t := fun t k => pre19 _ (by
    refine XS.iloadN X18.here hx rfl (hb hby own_d_prog_35_method_2_26) rfl ?_
    refine XS.aconstNull X18.here hx rfl (hb hby own_d_prog_35_method_2_27) ?_
    exact k)
  obtain ⟨cl21, Ar21, qc21, Sz21, Mz21, Hs21, Uf21⟩ := (show Arv Z h15 la kc (.object "java/lang/String") (8 : Int32) (own_tab Lf 8) .null from (V3.other W15 ne_sa_la.symm))
  have in22 : ¬ ((0 : Int32) < 0 ∨ cl21.slots.size ≤ ((0 : Int32)).toNatClampNeg) := inb_of Sz21 (by decide)
  obtain ⟨T22, h22, X22, e22, W22, st22⟩ := stR X18 hx hZ e18 Ar21 (j := (0 : Int32)) (v := .null) in22 rfl (Or.inl rfl) (g := (mkF m 28 #[.val (.ref da), .val (.int (0 : Int32))] [.null, (.int (0 : Int32)), (.ref la)])) rfl rfl (hb hby own_d_prog_35_method_2_28)
  have N22 := Fr.snoc X22 N15 ge_la
  have Z22 : n0 ≤ h22.size := Nat.le_trans Z15 (Keep.of_wr W22).1
  have V22 := Arv.set Ar21 qc21 Sz21 Mz21 Hs21 Uf21 (v := .null) rfl W22 0 (by decide) (by rw [own_tab_len]; exact (by decide))
  rw [own_tabv_set] at V22
  have Va22 : Arv Z h22 la kc (.object "java/lang/String") (8 : Int32) (own_tab (own_upV Lf 0 .null) 8) .null := V22
  have pre23 : ∀ t, Steps p.tables e below (T22.setTop (mkF m 29 #[.val (.ref da), .val (.int (0 : Int32))] [])) t → Steps p.tables e below (s₁.setTop (entryFrame m #[(.ref da)] 2)) t := fun t k => pre20 _ (st22 _ k)
  have pre24 : ∀ t, Steps p.tables e below (T22.setTop (mkF m 4 #[.val (.ref da), .val (.int (1 : Int32))] [(.ref da), (.int (1 : Int32))])) t → Steps p.tables e below (s₁.setTop (entryFrame m #[(.ref da)] 2)) t := fun t k => pre23 _ (by
    refine XT.iincV X22.here hx rfl (1 : Int32) (hb hby own_d_prog_35_method_2_29) rfl rfl (l' := #[.val (.ref da), .val (.int (1 : Int32))]) rfl ?_
    refine XS.goto X22.here hx rfl (pc0 := 32) (pc' := 2) rfl (hb hby own_d_prog_35_method_2_32) (by decide) (by decide) ?_
    refine XS.iloadN X22.here hx rfl (hb hby own_d_prog_35_method_2_2) rfl ?_
    refine XS.aloadN X22.here hx rfl (hb hby own_d_prog_35_method_2_3) rfl rfl ?_
    exact k)
  obtain ⟨T25, X25, e25, st25⟩ := getF X22 hx hZ hown (host := "") (Or.inl (hw _ (List.mem_of_getElem? (i := 49) rfl))) Via.refl e22 ((S5.other W15 (Or.inl ne_da_sa)).other W22 (Or.inl ne_da_la)) (g := (mkF m 4 #[.val (.ref da), .val (.int (1 : Int32))] [(.ref da), (.int (1 : Int32))])) rfl rfl (hb hby own_d_prog_35_method_2_4)
  have pre26 : ∀ t, Steps p.tables e below (T25.setTop (mkF m 7 #[.val (.ref da), .val (.int (1 : Int32))] [(.int (1 : Int32)), (.int (1 : Int32))])) t → Steps p.tables e below (s₁.setTop (entryFrame m #[(.ref da)] 2)) t := fun t k => pre24 _ (st25 _ k)
  have pre27 : ∀ t, Steps p.tables e below (T25.setTop (mkF m 37 #[.val (.ref da), .val (.int (1 : Int32))] [(.int (0 : Int32)), (.ref da)])) t → Steps p.tables e below (s₁.setTop (entryFrame m #[(.ref da)] 2)) t := fun t k => pre26 _ (by
    refine XS.icmpYes X25.here hx rfl (pc0 := 7) (pc' := 35) rfl (hb hby own_d_prog_35_method_2_7) rfl (XT.ii_ge_t (by decide)) (by decide) (by decide) ?_
    refine XS.aloadN X25.here hx rfl (hb hby own_d_prog_35_method_2_35) rfl rfl ?_
    refine XT.iconstV X25.here hx rfl (0 : Int32) (hb hby own_d_prog_35_method_2_36) rfl ?_
    exact k)
  obtain ⟨T28, h28, X28, e28, W28, st28⟩ := putF X25 hx hZ hown (host := "") (Or.inl (hw _ (List.mem_of_getElem? (i := 49) rfl))) Via.refl e25 ((S5.other W15 (Or.inl ne_da_sa)).other W22 (Or.inl ne_da_la)) ((SE.wr W15).wr W22) (Or.inl (hw _ (List.mem_of_getElem? (i := 50) rfl))) (hw _ (List.mem_of_getElem? (i := 27) rfl)) (ty := .int) (by decide) rfl rfl (g := (mkF m 37 #[.val (.ref da), .val (.int (1 : Int32))] [(.int (0 : Int32)), (.ref da)])) rfl rfl (hb hby own_d_prog_35_method_2_37)
  have N28 := Fr.snoc X28 N22 ge_da
  have Z28 : n0 ≤ h28.size := Nat.le_trans Z22 (Keep.of_wr W28).1
  have F28 : Fld Z h28 da "com/example/erma/erma/analysis/DistinctSteps" "size" "I" (.int (0 : Int32)) := ((S5.other W15 (Or.inl ne_da_sa)).other W22 (Or.inl ne_da_la)).same W28
  have pre29 : ∀ t, Steps p.tables e below (T28.setTop (mkF m 40 #[.val (.ref da), .val (.int (1 : Int32))] [])) t → Steps p.tables e below (s₁.setTop (entryFrame m #[(.ref da)] 2)) t := fun t k => pre27 _ (st28 _ k)
  obtain ⟨fs, hr, hrun, hended, hW, hsame⟩ := X28.leave (v := none) (fun _ => rfl)
  refine ⟨_, _, pre29 _ ?_, hrun, hended, _, _, rfl, ?_, ⟨_, rfl⟩, hW, hsame.mono (by decide) (by decide)⟩
  · show Steps p.tables e below (T28.setTop (mkF m 40 #[.val (.ref da), .val (.int (1 : Int32))] [])) _
    exact X28.returnOut hx Bd.returns (hb hby own_d_prog_35_method_2_40) hr
  · show Q_own_clear1 Z da sa ta la oa ka kb kc kd Sf Tf Of Lf p0 h0 n0 _ T28.heap _
    rw [e28]
    exact ⟨rfl, N28, ((((Keep.refl _ _).wr W15 (Or.inl (List.mem_of_getElem? (i := 1) rfl))).wr W22 (Or.inl (List.mem_of_getElem? (i := 3) rfl))).wr W28 (Or.inl (List.mem_of_getElem? (i := 0) rfl))), (own_up Sf p0 (0 : Int32)), (own_upV Lf 0 .null), ⟨(((SE.wr W15).wr W22).wr W28), (((S1.other W15 (Or.inl ne_da_sa)).other W22 (Or.inl ne_da_la)).other W28 (Or.inr (slot_ne (C := "com/example/erma/erma/analysis/DistinctSteps") (Or.inl (hw _ (List.mem_of_getElem? (i := 35) rfl))) (Or.inl (hw _ (List.mem_of_getElem? (i := 50) rfl))) (by decide) (t := (.array .int)) (t' := .int) (by decide) (by decide)))), (((S2.other W15 (Or.inl ne_da_sa)).other W22 (Or.inl ne_da_la)).other W28 (Or.inr (slot_ne (C := "com/example/erma/erma/analysis/DistinctSteps") (Or.inl (hw _ (List.mem_of_getElem? (i := 37) rfl))) (Or.inl (hw _ (List.mem_of_getElem? (i := 50) rfl))) (by decide) (t := (.array .int)) (t' := .int) (by decide) (by decide)))), (((S3.other W15 (Or.inl ne_da_sa)).other W22 (Or.inl ne_da_la)).other W28 (Or.inr (slot_ne (C := "com/example/erma/erma/analysis/DistinctSteps") (Or.inl (hw _ (List.mem_of_getElem? (i := 41) rfl))) (Or.inl (hw _ (List.mem_of_getElem? (i := 50) rfl))) (by decide) (t := (.array (.object "java/lang/String"))) (t' := .int) (by decide) (by decide)))), (((S4.other W15 (Or.inl ne_da_sa)).other W22 (Or.inl ne_da_la)).other W28 (Or.inr (slot_ne (C := "com/example/erma/erma/analysis/DistinctSteps") (Or.inl (hw _ (List.mem_of_getElem? (i := 43) rfl))) (Or.inl (hw _ (List.mem_of_getElem? (i := 50) rfl))) (by decide) (t := (.array .int)) (t' := .int) (by decide) (by decide)))), F28, ((Va15.other W22 ne_sa_la).other W28 ne_da_sa.symm), (((V2.other W15 ne_sa_ta.symm).other W22 ne_ta_la).other W28 ne_da_ta.symm), (Va22.other W28 ne_da_la.symm), (((V4.other W15 ne_sa_oa.symm).other W22 ne_la_oa.symm).other W28 ne_da_oa.symm), OV, ge_da, o1, o2, o3, o4⟩, (fun j hj => by
        have q := hS j hj
        by_cases b0 : j = p0
        · simp [own_up, b0]
        simpa [own_up, b0] using q b0)⟩
theorem own_ef_own_clear2 (m : MethodId) (da : Addr) : entryFrame m #[(.ref da)] 2 = mkF m 0 #[.val (.ref da), .unset] [] := by first | (simp [entryFrame, mkF, argsToLocals, Value.category]; done) | rfl
def Q_own_clear2 (Z : State) (da : Addr) (sa : Addr) (ta : Addr) (la : Addr) (oa : Addr) (ka : ClassId) (kb : ClassId) (kc : ClassId) (kd : ClassId) (Sf : Nat → Int32) (Tf : Nat → Int32) (Of : Nat → Int32) (Lf : Nat → Value) (p0 : Nat) (p1 : Nat) (h0 : Heap) (n0 : Nat) (v : Option Value) (h : Heap) (L : List Loc) : Prop := v = none ∧ Fr n0 L ∧ Keep h0 h [da, sa, ta, la, oa] ∧ ∃ (Sg : Nat → Int32) (Lg : Nat → Value), own_St Z h n0 da sa ta la oa ka kb kc kd Sg Tf Of Lg (0 : Int32) ∧ own_I0 Sg
set_option maxRecDepth 65536 in
set_option maxHeartbeats 40000000 in
theorem own_clear2 (l : Launch) (Z : State) (a0 : Array Value) (hw : ∀ d ∈ tables_1, d.before a0 Z = true) (ws : List Jvm.Cond) (da : Addr) (sa : Addr) (ta : Addr) (la : Addr) (oa : Addr) (ka : ClassId) (kb : ClassId) (kc : ClassId) (kd : ClassId) (Sf : Nat → Int32) (Tf : Nat → Int32) (Of : Nat → Int32) (Lf : Nat → Value) (p0 : Nat) (p1 : Nat) (h0 : Heap) (n0 : Nat) (Z0 : n0 ≤ h0.size) (HS : own_St Z h0 n0 da sa ta la oa ka kb kc kd Sf Tf Of Lf (2 : Int32)) (hp0 : p0 < 16) (hp1 : p1 < 16) (hO0 : Of 0 = Int32.ofNat p0) (hO1 : Of 1 = Int32.ofNat p1) (hS : ∀ j, j < 16 → j ≠ p0 → j ≠ p1 → Sf j = 0) :
    MetFree l (⟨"com/example/erma/erma/analysis/DistinctSteps", "clear", "()V"⟩ : MethodName) (head1 (Jvm.Cond.code (⟨"com/example/erma/erma/analysis/DistinctSteps", "clear", "()V"⟩ : MethodName) prog_35_method_2_code 2 none :: ws) ({ frames := 0, cells := 0, slots := 0, locals := 0 } : Room)) (fun a U => a = #[(.ref da)] ∧ Z.Warmed39 U.vm ∧ U.heap = h0) (fun _ _ _ _ _ => True) (fun _ U o U' => ∃ v L, o = .returned v ∧ Q_own_clear2 Z da sa ta la oa ka kb kc kd Sf Tf Of Lf p0 p1 h0 n0 v U'.heap L ∧ FrameEnd U o U' L ({ frames := 0, cells := 0, slots := 0, locals := 0 } : Room).cells ({ frames := 0, cells := 0, slots := 0, locals := 0 } : Room).slots) := by
  refine MetFree.of_bodySF (plainFor_of_name own_pn_com_example_erma_erma_analysis_DistinctSteps) hisR ?_
  intro p e s m args below meth c s₁ Bd hml0 hP hK
  obtain ⟨rfl, hZ, hh⟩ := hP
  have hx := Bd.exec
  have hby := Bd.bytes
  have hml : c.maxLocals = 2 := hml0
  have hown : s.vm.findClass "com/example/erma/erma/analysis/DistinctSteps" = some m.cls := findClass_of_methodNamed Bd.named
  have hnm := (name_of_methodNamed Bd.named Bd.method).1
  have X0 : Stand p l e ({ frames := 0, cells := 0, slots := 0, locals := 0 } : Room) s m #[(.ref da)] below meth c s₁ [] 0 0 := Stand.of_body Bd
  have e0 : s₁.heap = h0 := by rw [← hh, Bd.state]; rfl
  have N0 := Fr.nil n0
  have pre0 : ∀ t, Steps p.tables e below (s₁.setTop (mkF m 0 #[.val (.ref da), .unset] [])) t → Steps p.tables e below (s₁.setTop (entryFrame m #[(.ref da)] 2)) t := fun t k => castTop (own_ef_own_clear2 m da) k
  obtain ⟨SE, S1, S2, S3, S4, S5, V1, V2, V3, V4, OV, ge_da, o1, o2, o3, o4⟩ := HS
  have lt_da_sa : da < sa := o1
  have ne_da_sa : da ≠ sa := Nat.ne_of_lt lt_da_sa
  have lt_da_ta : da < ta := Nat.lt_trans lt_da_sa o2
  have ne_da_ta : da ≠ ta := Nat.ne_of_lt lt_da_ta
  have lt_da_la : da < la := Nat.lt_trans lt_da_ta o3
  have ne_da_la : da ≠ la := Nat.ne_of_lt lt_da_la
  have lt_da_oa : da < oa := Nat.lt_trans lt_da_la o4
  have ne_da_oa : da ≠ oa := Nat.ne_of_lt lt_da_oa
  have lt_sa_ta : sa < ta := o2
  have ne_sa_ta : sa ≠ ta := Nat.ne_of_lt lt_sa_ta
  have lt_sa_la : sa < la := Nat.lt_trans lt_sa_ta o3
  have ne_sa_la : sa ≠ la := Nat.ne_of_lt lt_sa_la
  have lt_sa_oa : sa < oa := Nat.lt_trans lt_sa_la o4
  have ne_sa_oa : sa ≠ oa := Nat.ne_of_lt lt_sa_oa
  have lt_ta_la : ta < la := o3
  have ne_ta_la : ta ≠ la := Nat.ne_of_lt lt_ta_la
  have lt_ta_oa : ta < oa := Nat.lt_trans lt_ta_la o4
  have ne_ta_oa : ta ≠ oa := Nat.ne_of_lt lt_ta_oa
  have lt_la_oa : la < oa := o4
  have ne_la_oa : la ≠ oa := Nat.ne_of_lt lt_la_oa
  have ge_sa : n0 ≤ sa := Nat.le_trans ge_da (Nat.le_of_lt lt_da_sa)
  have ge_ta : n0 ≤ ta := Nat.le_trans ge_da (Nat.le_of_lt lt_da_ta)
  have ge_la : n0 ≤ la := Nat.le_trans ge_da (Nat.le_of_lt lt_da_la)
  have ge_oa : n0 ≤ oa := Nat.le_trans ge_da (Nat.le_of_lt lt_da_oa)
  have pre1 : ∀ t, Steps p.tables e below (s₁.setTop (mkF m 4 #[.val (.ref da), .val (.int (0 : Int32))] [(.ref da), (.int (0 : Int32))])) t → Steps p.tables e below (s₁.setTop (entryFrame m #[(.ref da)] 2)) t := fun t k => pre0 _ (by
    refine XT.iconstV X0.here hx rfl (0 : Int32) (hb hby own_d_prog_35_method_2_0) rfl ?_
    refine XS.istoreN X0.here hx rfl (hb hby own_d_prog_35_method_2_1) rfl (l' := #[.val (.ref da), .val (.int (0 : Int32))]) rfl ?_
    refine XS.iloadN X0.here hx rfl (hb hby own_d_prog_35_method_2_2) rfl ?_
    refine XS.aloadN X0.here hx rfl (hb hby own_d_prog_35_method_2_3) rfl rfl ?_
    exact k)
  obtain ⟨T2, X2, e2, st2⟩ := getF X0 hx hZ hown (host := "") (Or.inl (hw _ (List.mem_of_getElem? (i := 49) rfl))) Via.refl e0 S5 (g := (mkF m 4 #[.val (.ref da), .val (.int (0 : Int32))] [(.ref da), (.int (0 : Int32))])) rfl rfl (hb hby own_d_prog_35_method_2_4)
  have pre3 : ∀ t, Steps p.tables e below (T2.setTop (mkF m 7 #[.val (.ref da), .val (.int (0 : Int32))] [(.int (2 : Int32)), (.int (0 : Int32))])) t → Steps p.tables e below (s₁.setTop (entryFrame m #[(.ref da)] 2)) t := fun t k => pre1 _ (st2 _ k)
  have pre4 : ∀ t, Steps p.tables e below (T2.setTop (mkF m 11 #[.val (.ref da), .val (.int (0 : Int32))] [(.ref da)])) t → Steps p.tables e below (s₁.setTop (entryFrame m #[(.ref da)] 2)) t := fun t k => pre3 _ (by
    refine XS.icmpNo X2.here hx rfl (hb hby own_d_prog_35_method_2_7) rfl (XT.ii_ge_f (by decide)) ?_
    refine XS.aloadN X2.here hx rfl (hb hby own_d_prog_35_method_2_10) rfl rfl ?_
    exact k)
  obtain ⟨T5, X5, e5, st5⟩ := getF X2 hx hZ hown (host := "") (Or.inl (hw _ (List.mem_of_getElem? (i := 34) rfl))) Via.refl e2 S1 (g := (mkF m 11 #[.val (.ref da), .val (.int (0 : Int32))] [(.ref da)])) rfl rfl (hb hby own_d_prog_35_method_2_11)
  have pre6 : ∀ t, Steps p.tables e below (T5.setTop (mkF m 14 #[.val (.ref da), .val (.int (0 : Int32))] [(.ref sa)])) t → Steps p.tables e below (s₁.setTop (entryFrame m #[(.ref da)] 2)) t := fun t k => pre4 _ (st5 _ k)
  have pre7 : ∀ t, Steps p.tables e below (T5.setTop (mkF m 15 #[.val (.ref da), .val (.int (0 : Int32))] [(.ref da), (.ref sa)])) t → Steps p.tables e below (s₁.setTop (entryFrame m #[(.ref da)] 2)) t := fun t k => pre6 _ (by
    refine XS.aloadN X5.here hx rfl (hb hby own_d_prog_35_method_2_14) rfl rfl ?_
    exact k)
  obtain ⟨T8, X8, e8, st8⟩ := getF X5 hx hZ hown (host := "") (Or.inl (hw _ (List.mem_of_getElem? (i := 42) rfl))) Via.refl e5 S4 (g := (mkF m 15 #[.val (.ref da), .val (.int (0 : Int32))] [(.ref da), (.ref sa)])) rfl rfl (hb hby own_d_prog_35_method_2_15)
  have pre9 : ∀ t, Steps p.tables e below (T8.setTop (mkF m 18 #[.val (.ref da), .val (.int (0 : Int32))] [(.ref oa), (.ref sa)])) t → Steps p.tables e below (s₁.setTop (entryFrame m #[(.ref da)] 2)) t := fun t k => pre7 _ (st8 _ k)
  have pre11 : ∀ t, Steps p.tables e below (T8.setTop (mkF m 19 #[.val (.ref da), .val (.int (0 : Int32))] [(.int (0 : Int32)), (.ref oa), (.ref sa)])) t → Steps p.tables e below (s₁.setTop (entryFrame m #[(.ref da)] 2)) t := fun t k => pre9 _ (by
    refine XS.iloadN X8.here hx rfl (hb hby own_d_prog_35_method_2_18) rfl ?_
    exact k)
  obtain ⟨cl10, Ar10, qc10, Sz10, Mz10, Hs10, Uf10⟩ := (show Arv Z h0 oa kd .int (8 : Int32) (own_ti Of 8) (.int (0 : Int32)) from V4)
  have in12 : ¬ ((0 : Int32) < 0 ∨ cl10.slots.size ≤ ((0 : Int32)).toNatClampNeg) := inb_of Sz10 (by decide)
  have at12 : cl10.slots[((0 : Int32)).toNatClampNeg]? = some (.int (Int32.ofNat p0)) := Hs10.at in12 (by rw [show (0 : Int32).toNatClampNeg = 0 from by decide]; exact (own_ti_get _ (by decide) _).trans (congrArg Value.int (hO0)))
  have pre13 : ∀ t, Steps p.tables e below (T8.setTop (mkF m 21 #[.val (.ref da), .val (.int (0 : Int32))] [(.int (0 : Int32)), (.int (Int32.ofNat p0)), (.ref sa)])) t → Steps p.tables e below (s₁.setTop (entryFrame m #[(.ref da)] 2)) t := fun t k => pre11 _ (by
    refine X8.iaload hx (j := (0 : Int32)) (v := (.int (Int32.ofNat p0))) (by rw [e8]; exact Ar10.1) (State.isArrayOf_alike hZ.alike Ar10.2.1) Ar10.2.2 in12 at12 (g := (mkF m 19 #[.val (.ref da), .val (.int (0 : Int32))] [(.int (0 : Int32)), (.ref oa), (.ref sa)])) rfl rfl (hb hby own_d_prog_35_method_2_19) _ ?_
    refine XT.iconstV X8.here hx rfl (0 : Int32) (hb hby own_d_prog_35_method_2_20) rfl ?_
    exact k)
  obtain ⟨cl14, Ar14, qc14, Sz14, Mz14, Hs14, Uf14⟩ := (show Arv Z h0 sa ka .int (16 : Int32) (own_ti Sf 16) (.int (0 : Int32)) from V1)
  have in15 : ¬ ((Int32.ofNat p0) < 0 ∨ cl14.slots.size ≤ ((Int32.ofNat p0)).toNatClampNeg) := own_inb Sz14 (N := 16) (by decide) hp0 (Nat.le_trans (Nat.le_of_lt hp0) (by decide))
  obtain ⟨T15, h15, X15, e15, W15, st15⟩ := stI X8 hx hZ e8 Ar14 (j := (Int32.ofNat p0)) in15 (g := (mkF m 21 #[.val (.ref da), .val (.int (0 : Int32))] [(.int (0 : Int32)), (.int (Int32.ofNat p0)), (.ref sa)])) rfl rfl (hb hby own_d_prog_35_method_2_21)
  have N15 := Fr.snoc X15 N0 ge_sa
  have Z15 : n0 ≤ h15.size := Nat.le_trans Z0 (Keep.of_wr W15).1
  have V15 := Arv.set Ar14 qc14 Sz14 Mz14 Hs14 Uf14 (v := (.int (0 : Int32))) rfl W15 p0 (by rw [own_n32 (Nat.le_trans (Nat.le_of_lt hp0) (by decide))]) (by rw [own_ti_len]; exact hp0)
  rw [own_ti_set] at V15
  have Va15 : Arv Z h15 sa ka .int (16 : Int32) (own_ti (own_up Sf p0 (0 : Int32)) 16) (.int (0 : Int32)) := V15
  have pre16 : ∀ t, Steps p.tables e below (T15.setTop (mkF m 22 #[.val (.ref da), .val (.int (0 : Int32))] [])) t → Steps p.tables e below (s₁.setTop (entryFrame m #[(.ref da)] 2)) t := fun t k => pre13 _ (st15 _ k)
  have pre17 : ∀ t, Steps p.tables e below (T15.setTop (mkF m 23 #[.val (.ref da), .val (.int (0 : Int32))] [(.ref da)])) t → Steps p.tables e below (s₁.setTop (entryFrame m #[(.ref da)] 2)) t := fun t k => pre16 _ (by
    refine XS.aloadN X15.here hx rfl (hb hby own_d_prog_35_method_2_22) rfl rfl ?_
    exact k)
  obtain ⟨T18, X18, e18, st18⟩ := getF X15 hx hZ hown (host := "") (Or.inl (hw _ (List.mem_of_getElem? (i := 40) rfl))) Via.refl e15 (S3.other W15 (Or.inl ne_da_sa)) (g := (mkF m 23 #[.val (.ref da), .val (.int (0 : Int32))] [(.ref da)])) rfl rfl (hb hby own_d_prog_35_method_2_23)
  have pre19 : ∀ t, Steps p.tables e below (T18.setTop (mkF m 26 #[.val (.ref da), .val (.int (0 : Int32))] [(.ref la)])) t → Steps p.tables e below (s₁.setTop (entryFrame m #[(.ref da)] 2)) t := fun t k => pre17 _ (st18 _ k)
  have pre20 : ∀ t, Steps p.tables e below (T18.setTop (mkF m 28 #[.val (.ref da), .val (.int (0 : Int32))] [.null, (.int (0 : Int32)), (.ref la)])) t → Steps p.tables e below (s₁.setTop (entryFrame m #[(.ref da)] 2)) t := fun t k => pre19 _ (by
    refine XS.iloadN X18.here hx rfl (hb hby own_d_prog_35_method_2_26) rfl ?_
    refine XS.aconstNull X18.here hx rfl (hb hby own_d_prog_35_method_2_27) ?_
    exact k)
  obtain ⟨cl21, Ar21, qc21, Sz21, Mz21, Hs21, Uf21⟩ := (show Arv Z h15 la kc (.object "java/lang/String") (8 : Int32) (own_tab Lf 8) .null from (V3.other W15 ne_sa_la.symm))
  have in22 : ¬ ((0 : Int32) < 0 ∨ cl21.slots.size ≤ ((0 : Int32)).toNatClampNeg) := inb_of Sz21 (by decide)
  obtain ⟨T22, h22, X22, e22, W22, st22⟩ := stR X18 hx hZ e18 Ar21 (j := (0 : Int32)) (v := .null) in22 rfl (Or.inl rfl) (g := (mkF m 28 #[.val (.ref da), .val (.int (0 : Int32))] [.null, (.int (0 : Int32)), (.ref la)])) rfl rfl (hb hby own_d_prog_35_method_2_28)
  have N22 := Fr.snoc X22 N15 ge_la
  have Z22 : n0 ≤ h22.size := Nat.le_trans Z15 (Keep.of_wr W22).1
  have V22 := Arv.set Ar21 qc21 Sz21 Mz21 Hs21 Uf21 (v := .null) rfl W22 0 (by decide) (by rw [own_tab_len]; exact (by decide))
  rw [own_tabv_set] at V22
  have Va22 : Arv Z h22 la kc (.object "java/lang/String") (8 : Int32) (own_tab (own_upV Lf 0 .null) 8) .null := V22
  have pre23 : ∀ t, Steps p.tables e below (T22.setTop (mkF m 29 #[.val (.ref da), .val (.int (0 : Int32))] [])) t → Steps p.tables e below (s₁.setTop (entryFrame m #[(.ref da)] 2)) t := fun t k => pre20 _ (st22 _ k)
  have pre24 : ∀ t, Steps p.tables e below (T22.setTop (mkF m 4 #[.val (.ref da), .val (.int (1 : Int32))] [(.ref da), (.int (1 : Int32))])) t → Steps p.tables e below (s₁.setTop (entryFrame m #[(.ref da)] 2)) t := fun t k => pre23 _ (by
    refine XT.iincV X22.here hx rfl (1 : Int32) (hb hby own_d_prog_35_method_2_29) rfl rfl (l' := #[.val (.ref da), .val (.int (1 : Int32))]) rfl ?_
    refine XS.goto X22.here hx rfl (pc0 := 32) (pc' := 2) rfl (hb hby own_d_prog_35_method_2_32) (by decide) (by decide) ?_
    refine XS.iloadN X22.here hx rfl (hb hby own_d_prog_35_method_2_2) rfl ?_
    refine XS.aloadN X22.here hx rfl (hb hby own_d_prog_35_method_2_3) rfl rfl ?_
    exact k)
  obtain ⟨T25, X25, e25, st25⟩ := getF X22 hx hZ hown (host := "") (Or.inl (hw _ (List.mem_of_getElem? (i := 49) rfl))) Via.refl e22 ((S5.other W15 (Or.inl ne_da_sa)).other W22 (Or.inl ne_da_la)) (g := (mkF m 4 #[.val (.ref da), .val (.int (1 : Int32))] [(.ref da), (.int (1 : Int32))])) rfl rfl (hb hby own_d_prog_35_method_2_4)
  have pre26 : ∀ t, Steps p.tables e below (T25.setTop (mkF m 7 #[.val (.ref da), .val (.int (1 : Int32))] [(.int (2 : Int32)), (.int (1 : Int32))])) t → Steps p.tables e below (s₁.setTop (entryFrame m #[(.ref da)] 2)) t := fun t k => pre24 _ (st25 _ k)
  have pre27 : ∀ t, Steps p.tables e below (T25.setTop (mkF m 11 #[.val (.ref da), .val (.int (1 : Int32))] [(.ref da)])) t → Steps p.tables e below (s₁.setTop (entryFrame m #[(.ref da)] 2)) t := fun t k => pre26 _ (by
    refine XS.icmpNo X25.here hx rfl (hb hby own_d_prog_35_method_2_7) rfl (XT.ii_ge_f (by decide)) ?_
    refine XS.aloadN X25.here hx rfl (hb hby own_d_prog_35_method_2_10) rfl rfl ?_
    exact k)
  obtain ⟨T28, X28, e28, st28⟩ := getF X25 hx hZ hown (host := "") (Or.inl (hw _ (List.mem_of_getElem? (i := 34) rfl))) Via.refl e25 ((S1.other W15 (Or.inl ne_da_sa)).other W22 (Or.inl ne_da_la)) (g := (mkF m 11 #[.val (.ref da), .val (.int (1 : Int32))] [(.ref da)])) rfl rfl (hb hby own_d_prog_35_method_2_11)
  have pre29 : ∀ t, Steps p.tables e below (T28.setTop (mkF m 14 #[.val (.ref da), .val (.int (1 : Int32))] [(.ref sa)])) t → Steps p.tables e below (s₁.setTop (entryFrame m #[(.ref da)] 2)) t := fun t k => pre27 _ (st28 _ k)
  have pre30 : ∀ t, Steps p.tables e below (T28.setTop (mkF m 15 #[.val (.ref da), .val (.int (1 : Int32))] [(.ref da), (.ref sa)])) t → Steps p.tables e below (s₁.setTop (entryFrame m #[(.ref da)] 2)) t := fun t k => pre29 _ (by
    refine XS.aloadN X28.here hx rfl (hb hby own_d_prog_35_method_2_14) rfl rfl ?_
    exact k)
  obtain ⟨T31, X31, e31, st31⟩ := getF X28 hx hZ hown (host := "") (Or.inl (hw _ (List.mem_of_getElem? (i := 42) rfl))) Via.refl e28 ((S4.other W15 (Or.inl ne_da_sa)).other W22 (Or.inl ne_da_la)) (g := (mkF m 15 #[.val (.ref da), .val (.int (1 : Int32))] [(.ref da), (.ref sa)])) rfl rfl (hb hby own_d_prog_35_method_2_15)
  have pre32 : ∀ t, Steps p.tables e below (T31.setTop (mkF m 18 #[.val (.ref da), .val (.int (1 : Int32))] [(.ref oa), (.ref sa)])) t → Steps p.tables e below (s₁.setTop (entryFrame m #[(.ref da)] 2)) t := fun t k => pre30 _ (st31 _ k)
  have pre34 : ∀ t, Steps p.tables e below (T31.setTop (mkF m 19 #[.val (.ref da), .val (.int (1 : Int32))] [(.int (1 : Int32)), (.ref oa), (.ref sa)])) t → Steps p.tables e below (s₁.setTop (entryFrame m #[(.ref da)] 2)) t := fun t k => pre32 _ (by
    refine XS.iloadN X31.here hx rfl (hb hby own_d_prog_35_method_2_18) rfl ?_
    exact k)
  obtain ⟨cl33, Ar33, qc33, Sz33, Mz33, Hs33, Uf33⟩ := (show Arv Z h22 oa kd .int (8 : Int32) (own_ti Of 8) (.int (0 : Int32)) from ((V4.other W15 ne_sa_oa.symm).other W22 ne_la_oa.symm))
  have in35 : ¬ ((1 : Int32) < 0 ∨ cl33.slots.size ≤ ((1 : Int32)).toNatClampNeg) := inb_of Sz33 (by decide)
  have at35 : cl33.slots[((1 : Int32)).toNatClampNeg]? = some (.int (Int32.ofNat p1)) := Hs33.at in35 (by rw [show (1 : Int32).toNatClampNeg = 1 from by decide]; exact (own_ti_get _ (by decide) _).trans (congrArg Value.int (hO1)))
  have pre36 : ∀ t, Steps p.tables e below (T31.setTop (mkF m 21 #[.val (.ref da), .val (.int (1 : Int32))] [(.int (0 : Int32)), (.int (Int32.ofNat p1)), (.ref sa)])) t → Steps p.tables e below (s₁.setTop (entryFrame m #[(.ref da)] 2)) t := fun t k => pre34 _ (by
    refine X31.iaload hx (j := (1 : Int32)) (v := (.int (Int32.ofNat p1))) (by rw [e31]; exact Ar33.1) (State.isArrayOf_alike hZ.alike Ar33.2.1) Ar33.2.2 in35 at35 (g := (mkF m 19 #[.val (.ref da), .val (.int (1 : Int32))] [(.int (1 : Int32)), (.ref oa), (.ref sa)])) rfl rfl (hb hby own_d_prog_35_method_2_19) _ ?_
    refine XT.iconstV X31.here hx rfl (0 : Int32) (hb hby own_d_prog_35_method_2_20) rfl ?_
    exact k)
  obtain ⟨cl37, Ar37, qc37, Sz37, Mz37, Hs37, Uf37⟩ := (show Arv Z h22 sa ka .int (16 : Int32) (own_ti (own_up Sf p0 (0 : Int32)) 16) (.int (0 : Int32)) from (Va15.other W22 ne_sa_la))
  have in38 : ¬ ((Int32.ofNat p1) < 0 ∨ cl37.slots.size ≤ ((Int32.ofNat p1)).toNatClampNeg) := own_inb Sz37 (N := 16) (by decide) hp1 (Nat.le_trans (Nat.le_of_lt hp1) (by decide))
  obtain ⟨T38, h38, X38, e38, W38, st38⟩ := stI X31 hx hZ e31 Ar37 (j := (Int32.ofNat p1)) in38 (g := (mkF m 21 #[.val (.ref da), .val (.int (1 : Int32))] [(.int (0 : Int32)), (.int (Int32.ofNat p1)), (.ref sa)])) rfl rfl (hb hby own_d_prog_35_method_2_21)
  have N38 := Fr.snoc X38 N22 ge_sa
  have Z38 : n0 ≤ h38.size := Nat.le_trans Z22 (Keep.of_wr W38).1
  have V38 := Arv.set Ar37 qc37 Sz37 Mz37 Hs37 Uf37 (v := (.int (0 : Int32))) rfl W38 p1 (by rw [own_n32 (Nat.le_trans (Nat.le_of_lt hp1) (by decide))]) (by rw [own_ti_len]; exact hp1)
  rw [own_ti_set] at V38
  have Va38 : Arv Z h38 sa ka .int (16 : Int32) (own_ti (own_up (own_up Sf p0 (0 : Int32)) p1 (0 : Int32)) 16) (.int (0 : Int32)) := V38
  have pre39 : ∀ t, Steps p.tables e below (T38.setTop (mkF m 22 #[.val (.ref da), .val (.int (1 : Int32))] [])) t → Steps p.tables e below (s₁.setTop (entryFrame m #[(.ref da)] 2)) t := fun t k => pre36 _ (st38 _ k)
  have pre40 : ∀ t, Steps p.tables e below (T38.setTop (mkF m 23 #[.val (.ref da), .val (.int (1 : Int32))] [(.ref da)])) t → Steps p.tables e below (s₁.setTop (entryFrame m #[(.ref da)] 2)) t := fun t k => pre39 _ (by
    refine XS.aloadN X38.here hx rfl (hb hby own_d_prog_35_method_2_22) rfl rfl ?_
    exact k)
  obtain ⟨T41, X41, e41, st41⟩ := getF X38 hx hZ hown (host := "") (Or.inl (hw _ (List.mem_of_getElem? (i := 40) rfl))) Via.refl e38 (((S3.other W15 (Or.inl ne_da_sa)).other W22 (Or.inl ne_da_la)).other W38 (Or.inl ne_da_sa)) (g := (mkF m 23 #[.val (.ref da), .val (.int (1 : Int32))] [(.ref da)])) rfl rfl (hb hby own_d_prog_35_method_2_23)
  have pre42 : ∀ t, Steps p.tables e below (T41.setTop (mkF m 26 #[.val (.ref da), .val (.int (1 : Int32))] [(.ref la)])) t → Steps p.tables e below (s₁.setTop (entryFrame m #[(.ref da)] 2)) t := fun t k => pre40 _ (st41 _ k)
  have pre43 : ∀ t, Steps p.tables e below (T41.setTop (mkF m 28 #[.val (.ref da), .val (.int (1 : Int32))] [.null, (.int (1 : Int32)), (.ref la)])) t → Steps p.tables e below (s₁.setTop (entryFrame m #[(.ref da)] 2)) t := fun t k => pre42 _ (by
    refine XS.iloadN X41.here hx rfl (hb hby own_d_prog_35_method_2_26) rfl ?_
    refine XS.aconstNull X41.here hx rfl (hb hby own_d_prog_35_method_2_27) ?_
    exact k)
  obtain ⟨cl44, Ar44, qc44, Sz44, Mz44, Hs44, Uf44⟩ := (show Arv Z h38 la kc (.object "java/lang/String") (8 : Int32) (own_tab (own_upV Lf 0 .null) 8) .null from (Va22.other W38 ne_sa_la.symm))
  have in45 : ¬ ((1 : Int32) < 0 ∨ cl44.slots.size ≤ ((1 : Int32)).toNatClampNeg) := inb_of Sz44 (by decide)
  obtain ⟨T45, h45, X45, e45, W45, st45⟩ := stR X41 hx hZ e41 Ar44 (j := (1 : Int32)) (v := .null) in45 rfl (Or.inl rfl) (g := (mkF m 28 #[.val (.ref da), .val (.int (1 : Int32))] [.null, (.int (1 : Int32)), (.ref la)])) rfl rfl (hb hby own_d_prog_35_method_2_28)
  have N45 := Fr.snoc X45 N38 ge_la
  have Z45 : n0 ≤ h45.size := Nat.le_trans Z38 (Keep.of_wr W45).1
  have V45 := Arv.set Ar44 qc44 Sz44 Mz44 Hs44 Uf44 (v := .null) rfl W45 1 (by decide) (by rw [own_tab_len]; exact (by decide))
  rw [own_tabv_set] at V45
  have Va45 : Arv Z h45 la kc (.object "java/lang/String") (8 : Int32) (own_tab (own_upV (own_upV Lf 0 .null) 1 .null) 8) .null := V45
  have pre46 : ∀ t, Steps p.tables e below (T45.setTop (mkF m 29 #[.val (.ref da), .val (.int (1 : Int32))] [])) t → Steps p.tables e below (s₁.setTop (entryFrame m #[(.ref da)] 2)) t := fun t k => pre43 _ (st45 _ k)
  have pre47 : ∀ t, Steps p.tables e below (T45.setTop (mkF m 4 #[.val (.ref da), .val (.int (2 : Int32))] [(.ref da), (.int (2 : Int32))])) t → Steps p.tables e below (s₁.setTop (entryFrame m #[(.ref da)] 2)) t := fun t k => pre46 _ (by
    refine XT.iincV X45.here hx rfl (1 : Int32) (hb hby own_d_prog_35_method_2_29) rfl rfl (l' := #[.val (.ref da), .val (.int (2 : Int32))]) rfl ?_
    refine XS.goto X45.here hx rfl (pc0 := 32) (pc' := 2) rfl (hb hby own_d_prog_35_method_2_32) (by decide) (by decide) ?_
    refine XS.iloadN X45.here hx rfl (hb hby own_d_prog_35_method_2_2) rfl ?_
    refine XS.aloadN X45.here hx rfl (hb hby own_d_prog_35_method_2_3) rfl rfl ?_
    exact k)
  obtain ⟨T48, X48, e48, st48⟩ := getF X45 hx hZ hown (host := "") (Or.inl (hw _ (List.mem_of_getElem? (i := 49) rfl))) Via.refl e45 ((((S5.other W15 (Or.inl ne_da_sa)).other W22 (Or.inl ne_da_la)).other W38 (Or.inl ne_da_sa)).other W45 (Or.inl ne_da_la)) (g := (mkF m 4 #[.val (.ref da), .val (.int (2 : Int32))] [(.ref da), (.int (2 : Int32))])) rfl rfl (hb hby own_d_prog_35_method_2_4)
  have pre49 : ∀ t, Steps p.tables e below (T48.setTop (mkF m 7 #[.val (.ref da), .val (.int (2 : Int32))] [(.int (2 : Int32)), (.int (2 : Int32))])) t → Steps p.tables e below (s₁.setTop (entryFrame m #[(.ref da)] 2)) t := fun t k => pre47 _ (st48 _ k)
  have pre50 : ∀ t, Steps p.tables e below (T48.setTop (mkF m 37 #[.val (.ref da), .val (.int (2 : Int32))] [(.int (0 : Int32)), (.ref da)])) t → Steps p.tables e below (s₁.setTop (entryFrame m #[(.ref da)] 2)) t := fun t k => pre49 _ (by
    refine XS.icmpYes X48.here hx rfl (pc0 := 7) (pc' := 35) rfl (hb hby own_d_prog_35_method_2_7) rfl (XT.ii_ge_t (by decide)) (by decide) (by decide) ?_
    refine XS.aloadN X48.here hx rfl (hb hby own_d_prog_35_method_2_35) rfl rfl ?_
    refine XT.iconstV X48.here hx rfl (0 : Int32) (hb hby own_d_prog_35_method_2_36) rfl ?_
    exact k)
  obtain ⟨T51, h51, X51, e51, W51, st51⟩ := putF X48 hx hZ hown (host := "") (Or.inl (hw _ (List.mem_of_getElem? (i := 49) rfl))) Via.refl e48 ((((S5.other W15 (Or.inl ne_da_sa)).other W22 (Or.inl ne_da_la)).other W38 (Or.inl ne_da_sa)).other W45 (Or.inl ne_da_la)) ((((SE.wr W15).wr W22).wr W38).wr W45) (Or.inl (hw _ (List.mem_of_getElem? (i := 50) rfl))) (hw _ (List.mem_of_getElem? (i := 27) rfl)) (ty := .int) (by decide) rfl rfl (g := (mkF m 37 #[.val (.ref da), .val (.int (2 : Int32))] [(.int (0 : Int32)), (.ref da)])) rfl rfl (hb hby own_d_prog_35_method_2_37)
  have N51 := Fr.snoc X51 N45 ge_da
  have Z51 : n0 ≤ h51.size := Nat.le_trans Z45 (Keep.of_wr W51).1
  have F51 : Fld Z h51 da "com/example/erma/erma/analysis/DistinctSteps" "size" "I" (.int (0 : Int32)) := ((((S5.other W15 (Or.inl ne_da_sa)).other W22 (Or.inl ne_da_la)).other W38 (Or.inl ne_da_sa)).other W45 (Or.inl ne_da_la)).same W51
  have pre52 : ∀ t, Steps p.tables e below (T51.setTop (mkF m 40 #[.val (.ref da), .val (.int (2 : Int32))] [])) t → Steps p.tables e below (s₁.setTop (entryFrame m #[(.ref da)] 2)) t := fun t k => pre50 _ (st51 _ k)
  obtain ⟨fs, hr, hrun, hended, hW, hsame⟩ := X51.leave (v := none) (fun _ => rfl)
  refine ⟨_, _, pre52 _ ?_, hrun, hended, _, _, rfl, ?_, ⟨_, rfl⟩, hW, hsame.mono (by decide) (by decide)⟩
  · show Steps p.tables e below (T51.setTop (mkF m 40 #[.val (.ref da), .val (.int (2 : Int32))] [])) _
    exact X51.returnOut hx Bd.returns (hb hby own_d_prog_35_method_2_40) hr
  · show Q_own_clear2 Z da sa ta la oa ka kb kc kd Sf Tf Of Lf p0 p1 h0 n0 _ T51.heap _
    rw [e51]
    exact ⟨rfl, N51, ((((((Keep.refl _ _).wr W15 (Or.inl (List.mem_of_getElem? (i := 1) rfl))).wr W22 (Or.inl (List.mem_of_getElem? (i := 3) rfl))).wr W38 (Or.inl (List.mem_of_getElem? (i := 1) rfl))).wr W45 (Or.inl (List.mem_of_getElem? (i := 3) rfl))).wr W51 (Or.inl (List.mem_of_getElem? (i := 0) rfl))), (own_up (own_up Sf p0 (0 : Int32)) p1 (0 : Int32)), (own_upV (own_upV Lf 0 .null) 1 .null), ⟨(((((SE.wr W15).wr W22).wr W38).wr W45).wr W51), (((((S1.other W15 (Or.inl ne_da_sa)).other W22 (Or.inl ne_da_la)).other W38 (Or.inl ne_da_sa)).other W45 (Or.inl ne_da_la)).other W51 (Or.inr (slot_ne (C := "com/example/erma/erma/analysis/DistinctSteps") (Or.inl (hw _ (List.mem_of_getElem? (i := 35) rfl))) (Or.inl (hw _ (List.mem_of_getElem? (i := 50) rfl))) (by decide) (t := (.array .int)) (t' := .int) (by decide) (by decide)))), (((((S2.other W15 (Or.inl ne_da_sa)).other W22 (Or.inl ne_da_la)).other W38 (Or.inl ne_da_sa)).other W45 (Or.inl ne_da_la)).other W51 (Or.inr (slot_ne (C := "com/example/erma/erma/analysis/DistinctSteps") (Or.inl (hw _ (List.mem_of_getElem? (i := 37) rfl))) (Or.inl (hw _ (List.mem_of_getElem? (i := 50) rfl))) (by decide) (t := (.array .int)) (t' := .int) (by decide) (by decide)))), (((((S3.other W15 (Or.inl ne_da_sa)).other W22 (Or.inl ne_da_la)).other W38 (Or.inl ne_da_sa)).other W45 (Or.inl ne_da_la)).other W51 (Or.inr (slot_ne (C := "com/example/erma/erma/analysis/DistinctSteps") (Or.inl (hw _ (List.mem_of_getElem? (i := 41) rfl))) (Or.inl (hw _ (List.mem_of_getElem? (i := 50) rfl))) (by decide) (t := (.array (.object "java/lang/String"))) (t' := .int) (by decide) (by decide)))), (((((S4.other W15 (Or.inl ne_da_sa)).other W22 (Or.inl ne_da_la)).other W38 (Or.inl ne_da_sa)).other W45 (Or.inl ne_da_la)).other W51 (Or.inr (slot_ne (C := "com/example/erma/erma/analysis/DistinctSteps") (Or.inl (hw _ (List.mem_of_getElem? (i := 43) rfl))) (Or.inl (hw _ (List.mem_of_getElem? (i := 50) rfl))) (by decide) (t := (.array .int)) (t' := .int) (by decide) (by decide)))), F51, ((Va38.other W45 ne_sa_la).other W51 ne_da_sa.symm), (((((V2.other W15 ne_sa_ta.symm).other W22 ne_ta_la).other W38 ne_sa_ta.symm).other W45 ne_ta_la).other W51 ne_da_ta.symm), (Va45.other W51 ne_da_la.symm), (((((V4.other W15 ne_sa_oa.symm).other W22 ne_la_oa.symm).other W38 ne_sa_oa.symm).other W45 ne_la_oa.symm).other W51 ne_da_oa.symm), OV, ge_da, o1, o2, o3, o4⟩, (fun j hj => by
        have q := hS j hj
        by_cases b0 : j = p0
        · simp [own_up, b0]
        by_cases b1 : j = p1
        · simp [own_up, b1]
        simpa [own_up, b0, b1] using q b0 b1)⟩
theorem own_ef_own_clear3 (m : MethodId) (da : Addr) : entryFrame m #[(.ref da)] 2 = mkF m 0 #[.val (.ref da), .unset] [] := by first | (simp [entryFrame, mkF, argsToLocals, Value.category]; done) | rfl
def Q_own_clear3 (Z : State) (da : Addr) (sa : Addr) (ta : Addr) (la : Addr) (oa : Addr) (ka : ClassId) (kb : ClassId) (kc : ClassId) (kd : ClassId) (Sf : Nat → Int32) (Tf : Nat → Int32) (Of : Nat → Int32) (Lf : Nat → Value) (p0 : Nat) (p1 : Nat) (p2 : Nat) (h0 : Heap) (n0 : Nat) (v : Option Value) (h : Heap) (L : List Loc) : Prop := v = none ∧ Fr n0 L ∧ Keep h0 h [da, sa, ta, la, oa] ∧ ∃ (Sg : Nat → Int32) (Lg : Nat → Value), own_St Z h n0 da sa ta la oa ka kb kc kd Sg Tf Of Lg (0 : Int32) ∧ own_I0 Sg
set_option maxRecDepth 65536 in
set_option maxHeartbeats 40000000 in
theorem own_clear3 (l : Launch) (Z : State) (a0 : Array Value) (hw : ∀ d ∈ tables_1, d.before a0 Z = true) (ws : List Jvm.Cond) (da : Addr) (sa : Addr) (ta : Addr) (la : Addr) (oa : Addr) (ka : ClassId) (kb : ClassId) (kc : ClassId) (kd : ClassId) (Sf : Nat → Int32) (Tf : Nat → Int32) (Of : Nat → Int32) (Lf : Nat → Value) (p0 : Nat) (p1 : Nat) (p2 : Nat) (h0 : Heap) (n0 : Nat) (Z0 : n0 ≤ h0.size) (HS : own_St Z h0 n0 da sa ta la oa ka kb kc kd Sf Tf Of Lf (3 : Int32)) (hp0 : p0 < 16) (hp1 : p1 < 16) (hp2 : p2 < 16) (hO0 : Of 0 = Int32.ofNat p0) (hO1 : Of 1 = Int32.ofNat p1) (hO2 : Of 2 = Int32.ofNat p2) (hS : ∀ j, j < 16 → j ≠ p0 → j ≠ p1 → j ≠ p2 → Sf j = 0) :
    MetFree l (⟨"com/example/erma/erma/analysis/DistinctSteps", "clear", "()V"⟩ : MethodName) (head1 (Jvm.Cond.code (⟨"com/example/erma/erma/analysis/DistinctSteps", "clear", "()V"⟩ : MethodName) prog_35_method_2_code 2 none :: ws) ({ frames := 0, cells := 0, slots := 0, locals := 0 } : Room)) (fun a U => a = #[(.ref da)] ∧ Z.Warmed39 U.vm ∧ U.heap = h0) (fun _ _ _ _ _ => True) (fun _ U o U' => ∃ v L, o = .returned v ∧ Q_own_clear3 Z da sa ta la oa ka kb kc kd Sf Tf Of Lf p0 p1 p2 h0 n0 v U'.heap L ∧ FrameEnd U o U' L ({ frames := 0, cells := 0, slots := 0, locals := 0 } : Room).cells ({ frames := 0, cells := 0, slots := 0, locals := 0 } : Room).slots) := by
  refine MetFree.of_bodySF (plainFor_of_name own_pn_com_example_erma_erma_analysis_DistinctSteps) hisR ?_
  intro p e s m args below meth c s₁ Bd hml0 hP hK
  obtain ⟨rfl, hZ, hh⟩ := hP
  have hx := Bd.exec
  have hby := Bd.bytes
  have hml : c.maxLocals = 2 := hml0
  have hown : s.vm.findClass "com/example/erma/erma/analysis/DistinctSteps" = some m.cls := findClass_of_methodNamed Bd.named
  have hnm := (name_of_methodNamed Bd.named Bd.method).1
  have X0 : Stand p l e ({ frames := 0, cells := 0, slots := 0, locals := 0 } : Room) s m #[(.ref da)] below meth c s₁ [] 0 0 := Stand.of_body Bd
  have e0 : s₁.heap = h0 := by rw [← hh, Bd.state]; rfl
  have N0 := Fr.nil n0
  have pre0 : ∀ t, Steps p.tables e below (s₁.setTop (mkF m 0 #[.val (.ref da), .unset] [])) t → Steps p.tables e below (s₁.setTop (entryFrame m #[(.ref da)] 2)) t := fun t k => castTop (own_ef_own_clear3 m da) k
  obtain ⟨SE, S1, S2, S3, S4, S5, V1, V2, V3, V4, OV, ge_da, o1, o2, o3, o4⟩ := HS
  have lt_da_sa : da < sa := o1
  have ne_da_sa : da ≠ sa := Nat.ne_of_lt lt_da_sa
  have lt_da_ta : da < ta := Nat.lt_trans lt_da_sa o2
  have ne_da_ta : da ≠ ta := Nat.ne_of_lt lt_da_ta
  have lt_da_la : da < la := Nat.lt_trans lt_da_ta o3
  have ne_da_la : da ≠ la := Nat.ne_of_lt lt_da_la
  have lt_da_oa : da < oa := Nat.lt_trans lt_da_la o4
  have ne_da_oa : da ≠ oa := Nat.ne_of_lt lt_da_oa
  have lt_sa_ta : sa < ta := o2
  have ne_sa_ta : sa ≠ ta := Nat.ne_of_lt lt_sa_ta
  have lt_sa_la : sa < la := Nat.lt_trans lt_sa_ta o3
  have ne_sa_la : sa ≠ la := Nat.ne_of_lt lt_sa_la
  have lt_sa_oa : sa < oa := Nat.lt_trans lt_sa_la o4
  have ne_sa_oa : sa ≠ oa := Nat.ne_of_lt lt_sa_oa
  have lt_ta_la : ta < la := o3
  have ne_ta_la : ta ≠ la := Nat.ne_of_lt lt_ta_la
  have lt_ta_oa : ta < oa := Nat.lt_trans lt_ta_la o4
  have ne_ta_oa : ta ≠ oa := Nat.ne_of_lt lt_ta_oa
  have lt_la_oa : la < oa := o4
  have ne_la_oa : la ≠ oa := Nat.ne_of_lt lt_la_oa
  have ge_sa : n0 ≤ sa := Nat.le_trans ge_da (Nat.le_of_lt lt_da_sa)
  have ge_ta : n0 ≤ ta := Nat.le_trans ge_da (Nat.le_of_lt lt_da_ta)
  have ge_la : n0 ≤ la := Nat.le_trans ge_da (Nat.le_of_lt lt_da_la)
  have ge_oa : n0 ≤ oa := Nat.le_trans ge_da (Nat.le_of_lt lt_da_oa)
  have pre1 : ∀ t, Steps p.tables e below (s₁.setTop (mkF m 4 #[.val (.ref da), .val (.int (0 : Int32))] [(.ref da), (.int (0 : Int32))])) t → Steps p.tables e below (s₁.setTop (entryFrame m #[(.ref da)] 2)) t := fun t k => pre0 _ (by
    refine XT.iconstV X0.here hx rfl (0 : Int32) (hb hby own_d_prog_35_method_2_0) rfl ?_
    refine XS.istoreN X0.here hx rfl (hb hby own_d_prog_35_method_2_1) rfl (l' := #[.val (.ref da), .val (.int (0 : Int32))]) rfl ?_
    refine XS.iloadN X0.here hx rfl (hb hby own_d_prog_35_method_2_2) rfl ?_
    refine XS.aloadN X0.here hx rfl (hb hby own_d_prog_35_method_2_3) rfl rfl ?_
    exact k)
  obtain ⟨T2, X2, e2, st2⟩ := getF X0 hx hZ hown (host := "") (Or.inl (hw _ (List.mem_of_getElem? (i := 49) rfl))) Via.refl e0 S5 (g := (mkF m 4 #[.val (.ref da), .val (.int (0 : Int32))] [(.ref da), (.int (0 : Int32))])) rfl rfl (hb hby own_d_prog_35_method_2_4)
  have pre3 : ∀ t, Steps p.tables e below (T2.setTop (mkF m 7 #[.val (.ref da), .val (.int (0 : Int32))] [(.int (3 : Int32)), (.int (0 : Int32))])) t → Steps p.tables e below (s₁.setTop (entryFrame m #[(.ref da)] 2)) t := fun t k => pre1 _ (st2 _ k)
  have pre4 : ∀ t, Steps p.tables e below (T2.setTop (mkF m 11 #[.val (.ref da), .val (.int (0 : Int32))] [(.ref da)])) t → Steps p.tables e below (s₁.setTop (entryFrame m #[(.ref da)] 2)) t := fun t k => pre3 _ (by
    refine XS.icmpNo X2.here hx rfl (hb hby own_d_prog_35_method_2_7) rfl (XT.ii_ge_f (by decide)) ?_
    refine XS.aloadN X2.here hx rfl (hb hby own_d_prog_35_method_2_10) rfl rfl ?_
    exact k)
  obtain ⟨T5, X5, e5, st5⟩ := getF X2 hx hZ hown (host := "") (Or.inl (hw _ (List.mem_of_getElem? (i := 34) rfl))) Via.refl e2 S1 (g := (mkF m 11 #[.val (.ref da), .val (.int (0 : Int32))] [(.ref da)])) rfl rfl (hb hby own_d_prog_35_method_2_11)
  have pre6 : ∀ t, Steps p.tables e below (T5.setTop (mkF m 14 #[.val (.ref da), .val (.int (0 : Int32))] [(.ref sa)])) t → Steps p.tables e below (s₁.setTop (entryFrame m #[(.ref da)] 2)) t := fun t k => pre4 _ (st5 _ k)
  have pre7 : ∀ t, Steps p.tables e below (T5.setTop (mkF m 15 #[.val (.ref da), .val (.int (0 : Int32))] [(.ref da), (.ref sa)])) t → Steps p.tables e below (s₁.setTop (entryFrame m #[(.ref da)] 2)) t := fun t k => pre6 _ (by
    refine XS.aloadN X5.here hx rfl (hb hby own_d_prog_35_method_2_14) rfl rfl ?_
    exact k)
  obtain ⟨T8, X8, e8, st8⟩ := getF X5 hx hZ hown (host := "") (Or.inl (hw _ (List.mem_of_getElem? (i := 42) rfl))) Via.refl e5 S4 (g := (mkF m 15 #[.val (.ref da), .val (.int (0 : Int32))] [(.ref da), (.ref sa)])) rfl rfl (hb hby own_d_prog_35_method_2_15)
  have pre9 : ∀ t, Steps p.tables e below (T8.setTop (mkF m 18 #[.val (.ref da), .val (.int (0 : Int32))] [(.ref oa), (.ref sa)])) t → Steps p.tables e below (s₁.setTop (entryFrame m #[(.ref da)] 2)) t := fun t k => pre7 _ (st8 _ k)
  have pre11 : ∀ t, Steps p.tables e below (T8.setTop (mkF m 19 #[.val (.ref da), .val (.int (0 : Int32))] [(.int (0 : Int32)), (.ref oa), (.ref sa)])) t → Steps p.tables e below (s₁.setTop (entryFrame m #[(.ref da)] 2)) t := fun t k => pre9 _ (by
    refine XS.iloadN X8.here hx rfl (hb hby own_d_prog_35_method_2_18) rfl ?_
    exact k)
  obtain ⟨cl10, Ar10, qc10, Sz10, Mz10, Hs10, Uf10⟩ := (show Arv Z h0 oa kd .int (8 : Int32) (own_ti Of 8) (.int (0 : Int32)) from V4)
  have in12 : ¬ ((0 : Int32) < 0 ∨ cl10.slots.size ≤ ((0 : Int32)).toNatClampNeg) := inb_of Sz10 (by decide)
  have at12 : cl10.slots[((0 : Int32)).toNatClampNeg]? = some (.int (Int32.ofNat p0)) := Hs10.at in12 (by rw [show (0 : Int32).toNatClampNeg = 0 from by decide]; exact (own_ti_get _ (by decide) _).trans (congrArg Value.int (hO0)))
  have pre13 : ∀ t, Steps p.tables e below (T8.setTop (mkF m 21 #[.val (.ref da), .val (.int (0 : Int32))] [(.int (0 : Int32)), (.int (Int32.ofNat p0)), (.ref sa)])) t → Steps p.tables e below (s₁.setTop (entryFrame m #[(.ref da)] 2)) t := fun t k => pre11 _ (by
    refine X8.iaload hx (j := (0 : Int32)) (v := (.int (Int32.ofNat p0))) (by rw [e8]; exact Ar10.1) (State.isArrayOf_alike hZ.alike Ar10.2.1) Ar10.2.2 in12 at12 (g := (mkF m 19 #[.val (.ref da), .val (.int (0 : Int32))] [(.int (0 : Int32)), (.ref oa), (.ref sa)])) rfl rfl (hb hby own_d_prog_35_method_2_19) _ ?_
    refine XT.iconstV X8.here hx rfl (0 : Int32) (hb hby own_d_prog_35_method_2_20) rfl ?_
    exact k)
  obtain ⟨cl14, Ar14, qc14, Sz14, Mz14, Hs14, Uf14⟩ := (show Arv Z h0 sa ka .int (16 : Int32) (own_ti Sf 16) (.int (0 : Int32)) from V1)
  have in15 : ¬ ((Int32.ofNat p0) < 0 ∨ cl14.slots.size ≤ ((Int32.ofNat p0)).toNatClampNeg) := own_inb Sz14 (N := 16) (by decide) hp0 (Nat.le_trans (Nat.le_of_lt hp0) (by decide))
  obtain ⟨T15, h15, X15, e15, W15, st15⟩ := stI X8 hx hZ e8 Ar14 (j := (Int32.ofNat p0)) in15 (g := (mkF m 21 #[.val (.ref da), .val (.int (0 : Int32))] [(.int (0 : Int32)), (.int (Int32.ofNat p0)), (.ref sa)])) rfl rfl (hb hby own_d_prog_35_method_2_21)
  have N15 := Fr.snoc X15 N0 ge_sa
  have Z15 : n0 ≤ h15.size := Nat.le_trans Z0 (Keep.of_wr W15).1
  have V15 := Arv.set Ar14 qc14 Sz14 Mz14 Hs14 Uf14 (v := (.int (0 : Int32))) rfl W15 p0 (by rw [own_n32 (Nat.le_trans (Nat.le_of_lt hp0) (by decide))]) (by rw [own_ti_len]; exact hp0)
  rw [own_ti_set] at V15
  have Va15 : Arv Z h15 sa ka .int (16 : Int32) (own_ti (own_up Sf p0 (0 : Int32)) 16) (.int (0 : Int32)) := V15
  have pre16 : ∀ t, Steps p.tables e below (T15.setTop (mkF m 22 #[.val (.ref da), .val (.int (0 : Int32))] [])) t → Steps p.tables e below (s₁.setTop (entryFrame m #[(.ref da)] 2)) t := fun t k => pre13 _ (st15 _ k)
  have pre17 : ∀ t, Steps p.tables e below (T15.setTop (mkF m 23 #[.val (.ref da), .val (.int (0 : Int32))] [(.ref da)])) t → Steps p.tables e below (s₁.setTop (entryFrame m #[(.ref da)] 2)) t := fun t k => pre16 _ (by
    refine XS.aloadN X15.here hx rfl (hb hby own_d_prog_35_method_2_22) rfl rfl ?_
    exact k)
  obtain ⟨T18, X18, e18, st18⟩ := getF X15 hx hZ hown (host := "") (Or.inl (hw _ (List.mem_of_getElem? (i := 40) rfl))) Via.refl e15 (S3.other W15 (Or.inl ne_da_sa)) (g := (mkF m 23 #[.val (.ref da), .val (.int (0 : Int32))] [(.ref da)])) rfl rfl (hb hby own_d_prog_35_method_2_23)
  have pre19 : ∀ t, Steps p.tables e below (T18.setTop (mkF m 26 #[.val (.ref da), .val (.int (0 : Int32))] [(.ref la)])) t → Steps p.tables e below (s₁.setTop (entryFrame m #[(.ref da)] 2)) t := fun t k => pre17 _ (st18 _ k)
  have pre20 : ∀ t, Steps p.tables e below (T18.setTop (mkF m 28 #[.val (.ref da), .val (.int (0 : Int32))] [.null, (.int (0 : Int32)), (.ref la)])) t → Steps p.tables e below (s₁.setTop (entryFrame m #[(.ref da)] 2)) t := fun t k => pre19 _ (by
    refine XS.iloadN X18.here hx rfl (hb hby own_d_prog_35_method_2_26) rfl ?_
    refine XS.aconstNull X18.here hx rfl (hb hby own_d_prog_35_method_2_27) ?_
    exact k)
  obtain ⟨cl21, Ar21, qc21, Sz21, Mz21, Hs21, Uf21⟩ := (show Arv Z h15 la kc (.object "java/lang/String") (8 : Int32) (own_tab Lf 8) .null from (V3.other W15 ne_sa_la.symm))
  have in22 : ¬ ((0 : Int32) < 0 ∨ cl21.slots.size ≤ ((0 : Int32)).toNatClampNeg) := inb_of Sz21 (by decide)
  obtain ⟨T22, h22, X22, e22, W22, st22⟩ := stR X18 hx hZ e18 Ar21 (j := (0 : Int32)) (v := .null) in22 rfl (Or.inl rfl) (g := (mkF m 28 #[.val (.ref da), .val (.int (0 : Int32))] [.null, (.int (0 : Int32)), (.ref la)])) rfl rfl (hb hby own_d_prog_35_method_2_28)
  have N22 := Fr.snoc X22 N15 ge_la
  have Z22 : n0 ≤ h22.size := Nat.le_trans Z15 (Keep.of_wr W22).1
  have V22 := Arv.set Ar21 qc21 Sz21 Mz21 Hs21 Uf21 (v := .null) rfl W22 0 (by decide) (by rw [own_tab_len]; exact (by decide))
  rw [own_tabv_set] at V22
  have Va22 : Arv Z h22 la kc (.object "java/lang/String") (8 : Int32) (own_tab (own_upV Lf 0 .null) 8) .null := V22
  have pre23 : ∀ t, Steps p.tables e below (T22.setTop (mkF m 29 #[.val (.ref da), .val (.int (0 : Int32))] [])) t → Steps p.tables e below (s₁.setTop (entryFrame m #[(.ref da)] 2)) t := fun t k => pre20 _ (st22 _ k)
  have pre24 : ∀ t, Steps p.tables e below (T22.setTop (mkF m 4 #[.val (.ref da), .val (.int (1 : Int32))] [(.ref da), (.int (1 : Int32))])) t → Steps p.tables e below (s₁.setTop (entryFrame m #[(.ref da)] 2)) t := fun t k => pre23 _ (by
    refine XT.iincV X22.here hx rfl (1 : Int32) (hb hby own_d_prog_35_method_2_29) rfl rfl (l' := #[.val (.ref da), .val (.int (1 : Int32))]) rfl ?_
    refine XS.goto X22.here hx rfl (pc0 := 32) (pc' := 2) rfl (hb hby own_d_prog_35_method_2_32) (by decide) (by decide) ?_
    refine XS.iloadN X22.here hx rfl (hb hby own_d_prog_35_method_2_2) rfl ?_
    refine XS.aloadN X22.here hx rfl (hb hby own_d_prog_35_method_2_3) rfl rfl ?_
    exact k)
  obtain ⟨T25, X25, e25, st25⟩ := getF X22 hx hZ hown (host := "") (Or.inl (hw _ (List.mem_of_getElem? (i := 49) rfl))) Via.refl e22 ((S5.other W15 (Or.inl ne_da_sa)).other W22 (Or.inl ne_da_la)) (g := (mkF m 4 #[.val (.ref da), .val (.int (1 : Int32))] [(.ref da), (.int (1 : Int32))])) rfl rfl (hb hby own_d_prog_35_method_2_4)
  have pre26 : ∀ t, Steps p.tables e below (T25.setTop (mkF m 7 #[.val (.ref da), .val (.int (1 : Int32))] [(.int (3 : Int32)), (.int (1 : Int32))])) t → Steps p.tables e below (s₁.setTop (entryFrame m #[(.ref da)] 2)) t := fun t k => pre24 _ (st25 _ k)
  have pre27 : ∀ t, Steps p.tables e below (T25.setTop (mkF m 11 #[.val (.ref da), .val (.int (1 : Int32))] [(.ref da)])) t → Steps p.tables e below (s₁.setTop (entryFrame m #[(.ref da)] 2)) t := fun t k => pre26 _ (by
    refine XS.icmpNo X25.here hx rfl (hb hby own_d_prog_35_method_2_7) rfl (XT.ii_ge_f (by decide)) ?_
    refine XS.aloadN X25.here hx rfl (hb hby own_d_prog_35_method_2_10) rfl rfl ?_
    exact k)
  obtain ⟨T28, X28, e28, st28⟩ := getF X25 hx hZ hown (host := "") (Or.inl (hw _ (List.mem_of_getElem? (i := 34) rfl))) Via.refl e25 ((S1.other W15 (Or.inl ne_da_sa)).other W22 (Or.inl ne_da_la)) (g := (mkF m 11 #[.val (.ref da), .val (.int (1 : Int32))] [(.ref da)])) rfl rfl (hb hby own_d_prog_35_method_2_11)
  have pre29 : ∀ t, Steps p.tables e below (T28.setTop (mkF m 14 #[.val (.ref da), .val (.int (1 : Int32))] [(.ref sa)])) t → Steps p.tables e below (s₁.setTop (entryFrame m #[(.ref da)] 2)) t := fun t k => pre27 _ (st28 _ k)
  have pre30 : ∀ t, Steps p.tables e below (T28.setTop (mkF m 15 #[.val (.ref da), .val (.int (1 : Int32))] [(.ref da), (.ref sa)])) t → Steps p.tables e below (s₁.setTop (entryFrame m #[(.ref da)] 2)) t := fun t k => pre29 _ (by
    refine XS.aloadN X28.here hx rfl (hb hby own_d_prog_35_method_2_14) rfl rfl ?_
    exact k)
  obtain ⟨T31, X31, e31, st31⟩ := getF X28 hx hZ hown (host := "") (Or.inl (hw _ (List.mem_of_getElem? (i := 42) rfl))) Via.refl e28 ((S4.other W15 (Or.inl ne_da_sa)).other W22 (Or.inl ne_da_la)) (g := (mkF m 15 #[.val (.ref da), .val (.int (1 : Int32))] [(.ref da), (.ref sa)])) rfl rfl (hb hby own_d_prog_35_method_2_15)
  have pre32 : ∀ t, Steps p.tables e below (T31.setTop (mkF m 18 #[.val (.ref da), .val (.int (1 : Int32))] [(.ref oa), (.ref sa)])) t → Steps p.tables e below (s₁.setTop (entryFrame m #[(.ref da)] 2)) t := fun t k => pre30 _ (st31 _ k)
  have pre34 : ∀ t, Steps p.tables e below (T31.setTop (mkF m 19 #[.val (.ref da), .val (.int (1 : Int32))] [(.int (1 : Int32)), (.ref oa), (.ref sa)])) t → Steps p.tables e below (s₁.setTop (entryFrame m #[(.ref da)] 2)) t := fun t k => pre32 _ (by
    refine XS.iloadN X31.here hx rfl (hb hby own_d_prog_35_method_2_18) rfl ?_
    exact k)
  obtain ⟨cl33, Ar33, qc33, Sz33, Mz33, Hs33, Uf33⟩ := (show Arv Z h22 oa kd .int (8 : Int32) (own_ti Of 8) (.int (0 : Int32)) from ((V4.other W15 ne_sa_oa.symm).other W22 ne_la_oa.symm))
  have in35 : ¬ ((1 : Int32) < 0 ∨ cl33.slots.size ≤ ((1 : Int32)).toNatClampNeg) := inb_of Sz33 (by decide)
  have at35 : cl33.slots[((1 : Int32)).toNatClampNeg]? = some (.int (Int32.ofNat p1)) := Hs33.at in35 (by rw [show (1 : Int32).toNatClampNeg = 1 from by decide]; exact (own_ti_get _ (by decide) _).trans (congrArg Value.int (hO1)))
  have pre36 : ∀ t, Steps p.tables e below (T31.setTop (mkF m 21 #[.val (.ref da), .val (.int (1 : Int32))] [(.int (0 : Int32)), (.int (Int32.ofNat p1)), (.ref sa)])) t → Steps p.tables e below (s₁.setTop (entryFrame m #[(.ref da)] 2)) t := fun t k => pre34 _ (by
    refine X31.iaload hx (j := (1 : Int32)) (v := (.int (Int32.ofNat p1))) (by rw [e31]; exact Ar33.1) (State.isArrayOf_alike hZ.alike Ar33.2.1) Ar33.2.2 in35 at35 (g := (mkF m 19 #[.val (.ref da), .val (.int (1 : Int32))] [(.int (1 : Int32)), (.ref oa), (.ref sa)])) rfl rfl (hb hby own_d_prog_35_method_2_19) _ ?_
    refine XT.iconstV X31.here hx rfl (0 : Int32) (hb hby own_d_prog_35_method_2_20) rfl ?_
    exact k)
  obtain ⟨cl37, Ar37, qc37, Sz37, Mz37, Hs37, Uf37⟩ := (show Arv Z h22 sa ka .int (16 : Int32) (own_ti (own_up Sf p0 (0 : Int32)) 16) (.int (0 : Int32)) from (Va15.other W22 ne_sa_la))
  have in38 : ¬ ((Int32.ofNat p1) < 0 ∨ cl37.slots.size ≤ ((Int32.ofNat p1)).toNatClampNeg) := own_inb Sz37 (N := 16) (by decide) hp1 (Nat.le_trans (Nat.le_of_lt hp1) (by decide))
  obtain ⟨T38, h38, X38, e38, W38, st38⟩ := stI X31 hx hZ e31 Ar37 (j := (Int32.ofNat p1)) in38 (g := (mkF m 21 #[.val (.ref da), .val (.int (1 : Int32))] [(.int (0 : Int32)), (.int (Int32.ofNat p1)), (.ref sa)])) rfl rfl (hb hby own_d_prog_35_method_2_21)
  have N38 := Fr.snoc X38 N22 ge_sa
  have Z38 : n0 ≤ h38.size := Nat.le_trans Z22 (Keep.of_wr W38).1
  have V38 := Arv.set Ar37 qc37 Sz37 Mz37 Hs37 Uf37 (v := (.int (0 : Int32))) rfl W38 p1 (by rw [own_n32 (Nat.le_trans (Nat.le_of_lt hp1) (by decide))]) (by rw [own_ti_len]; exact hp1)
  rw [own_ti_set] at V38
  have Va38 : Arv Z h38 sa ka .int (16 : Int32) (own_ti (own_up (own_up Sf p0 (0 : Int32)) p1 (0 : Int32)) 16) (.int (0 : Int32)) := V38
  have pre39 : ∀ t, Steps p.tables e below (T38.setTop (mkF m 22 #[.val (.ref da), .val (.int (1 : Int32))] [])) t → Steps p.tables e below (s₁.setTop (entryFrame m #[(.ref da)] 2)) t := fun t k => pre36 _ (st38 _ k)
  have pre40 : ∀ t, Steps p.tables e below (T38.setTop (mkF m 23 #[.val (.ref da), .val (.int (1 : Int32))] [(.ref da)])) t → Steps p.tables e below (s₁.setTop (entryFrame m #[(.ref da)] 2)) t := fun t k => pre39 _ (by
    refine XS.aloadN X38.here hx rfl (hb hby own_d_prog_35_method_2_22) rfl rfl ?_
    exact k)
  obtain ⟨T41, X41, e41, st41⟩ := getF X38 hx hZ hown (host := "") (Or.inl (hw _ (List.mem_of_getElem? (i := 40) rfl))) Via.refl e38 (((S3.other W15 (Or.inl ne_da_sa)).other W22 (Or.inl ne_da_la)).other W38 (Or.inl ne_da_sa)) (g := (mkF m 23 #[.val (.ref da), .val (.int (1 : Int32))] [(.ref da)])) rfl rfl (hb hby own_d_prog_35_method_2_23)
  have pre42 : ∀ t, Steps p.tables e below (T41.setTop (mkF m 26 #[.val (.ref da), .val (.int (1 : Int32))] [(.ref la)])) t → Steps p.tables e below (s₁.setTop (entryFrame m #[(.ref da)] 2)) t := fun t k => pre40 _ (st41 _ k)
  have pre43 : ∀ t, Steps p.tables e below (T41.setTop (mkF m 28 #[.val (.ref da), .val (.int (1 : Int32))] [.null, (.int (1 : Int32)), (.ref la)])) t → Steps p.tables e below (s₁.setTop (entryFrame m #[(.ref da)] 2)) t := fun t k => pre42 _ (by
    refine XS.iloadN X41.here hx rfl (hb hby own_d_prog_35_method_2_26) rfl ?_
    refine XS.aconstNull X41.here hx rfl (hb hby own_d_prog_35_method_2_27) ?_
    exact k)
  obtain ⟨cl44, Ar44, qc44, Sz44, Mz44, Hs44, Uf44⟩ := (show Arv Z h38 la kc (.object "java/lang/String") (8 : Int32) (own_tab (own_upV Lf 0 .null) 8) .null from (Va22.other W38 ne_sa_la.symm))
  have in45 : ¬ ((1 : Int32) < 0 ∨ cl44.slots.size ≤ ((1 : Int32)).toNatClampNeg) := inb_of Sz44 (by decide)
  obtain ⟨T45, h45, X45, e45, W45, st45⟩ := stR X41 hx hZ e41 Ar44 (j := (1 : Int32)) (v := .null) in45 rfl (Or.inl rfl) (g := (mkF m 28 #[.val (.ref da), .val (.int (1 : Int32))] [.null, (.int (1 : Int32)), (.ref la)])) rfl rfl (hb hby own_d_prog_35_method_2_28)
  have N45 := Fr.snoc X45 N38 ge_la
  have Z45 : n0 ≤ h45.size := Nat.le_trans Z38 (Keep.of_wr W45).1
  have V45 := Arv.set Ar44 qc44 Sz44 Mz44 Hs44 Uf44 (v := .null) rfl W45 1 (by decide) (by rw [own_tab_len]; exact (by decide))
  rw [own_tabv_set] at V45
  have Va45 : Arv Z h45 la kc (.object "java/lang/String") (8 : Int32) (own_tab (own_upV (own_upV Lf 0 .null) 1 .null) 8) .null := V45
  have pre46 : ∀ t, Steps p.tables e below (T45.setTop (mkF m 29 #[.val (.ref da), .val (.int (1 : Int32))] [])) t → Steps p.tables e below (s₁.setTop (entryFrame m #[(.ref da)] 2)) t := fun t k => pre43 _ (st45 _ k)
  have pre47 : ∀ t, Steps p.tables e below (T45.setTop (mkF m 4 #[.val (.ref da), .val (.int (2 : Int32))] [(.ref da), (.int (2 : Int32))])) t → Steps p.tables e below (s₁.setTop (entryFrame m #[(.ref da)] 2)) t := fun t k => pre46 _ (by
    refine XT.iincV X45.here hx rfl (1 : Int32) (hb hby own_d_prog_35_method_2_29) rfl rfl (l' := #[.val (.ref da), .val (.int (2 : Int32))]) rfl ?_
    refine XS.goto X45.here hx rfl (pc0 := 32) (pc' := 2) rfl (hb hby own_d_prog_35_method_2_32) (by decide) (by decide) ?_
    refine XS.iloadN X45.here hx rfl (hb hby own_d_prog_35_method_2_2) rfl ?_
    refine XS.aloadN X45.here hx rfl (hb hby own_d_prog_35_method_2_3) rfl rfl ?_
    exact k)
  obtain ⟨T48, X48, e48, st48⟩ := getF X45 hx hZ hown (host := "") (Or.inl (hw _ (List.mem_of_getElem? (i := 49) rfl))) Via.refl e45 ((((S5.other W15 (Or.inl ne_da_sa)).other W22 (Or.inl ne_da_la)).other W38 (Or.inl ne_da_sa)).other W45 (Or.inl ne_da_la)) (g := (mkF m 4 #[.val (.ref da), .val (.int (2 : Int32))] [(.ref da), (.int (2 : Int32))])) rfl rfl (hb hby own_d_prog_35_method_2_4)
  have pre49 : ∀ t, Steps p.tables e below (T48.setTop (mkF m 7 #[.val (.ref da), .val (.int (2 : Int32))] [(.int (3 : Int32)), (.int (2 : Int32))])) t → Steps p.tables e below (s₁.setTop (entryFrame m #[(.ref da)] 2)) t := fun t k => pre47 _ (st48 _ k)
  have pre50 : ∀ t, Steps p.tables e below (T48.setTop (mkF m 11 #[.val (.ref da), .val (.int (2 : Int32))] [(.ref da)])) t → Steps p.tables e below (s₁.setTop (entryFrame m #[(.ref da)] 2)) t := fun t k => pre49 _ (by
    refine XS.icmpNo X48.here hx rfl (hb hby own_d_prog_35_method_2_7) rfl (XT.ii_ge_f (by decide)) ?_
    refine XS.aloadN X48.here hx rfl (hb hby own_d_prog_35_method_2_10) rfl rfl ?_
    exact k)
  obtain ⟨T51, X51, e51, st51⟩ := getF X48 hx hZ hown (host := "") (Or.inl (hw _ (List.mem_of_getElem? (i := 34) rfl))) Via.refl e48 ((((S1.other W15 (Or.inl ne_da_sa)).other W22 (Or.inl ne_da_la)).other W38 (Or.inl ne_da_sa)).other W45 (Or.inl ne_da_la)) (g := (mkF m 11 #[.val (.ref da), .val (.int (2 : Int32))] [(.ref da)])) rfl rfl (hb hby own_d_prog_35_method_2_11)
  have pre52 : ∀ t, Steps p.tables e below (T51.setTop (mkF m 14 #[.val (.ref da), .val (.int (2 : Int32))] [(.ref sa)])) t → Steps p.tables e below (s₁.setTop (entryFrame m #[(.ref da)] 2)) t := fun t k => pre50 _ (st51 _ k)
  have pre53 : ∀ t, Steps p.tables e below (T51.setTop (mkF m 15 #[.val (.ref da), .val (.int (2 : Int32))] [(.ref da), (.ref sa)])) t → Steps p.tables e below (s₁.setTop (entryFrame m #[(.ref da)] 2)) t := fun t k => pre52 _ (by
    refine XS.aloadN X51.here hx rfl (hb hby own_d_prog_35_method_2_14) rfl rfl ?_
    exact k)
  obtain ⟨T54, X54, e54, st54⟩ := getF X51 hx hZ hown (host := "") (Or.inl (hw _ (List.mem_of_getElem? (i := 42) rfl))) Via.refl e51 ((((S4.other W15 (Or.inl ne_da_sa)).other W22 (Or.inl ne_da_la)).other W38 (Or.inl ne_da_sa)).other W45 (Or.inl ne_da_la)) (g := (mkF m 15 #[.val (.ref da), .val (.int (2 : Int32))] [(.ref da), (.ref sa)])) rfl rfl (hb hby own_d_prog_35_method_2_15)
  have pre55 : ∀ t, Steps p.tables e below (T54.setTop (mkF m 18 #[.val (.ref da), .val (.int (2 : Int32))] [(.ref oa), (.ref sa)])) t → Steps p.tables e below (s₁.setTop (entryFrame m #[(.ref da)] 2)) t := fun t k => pre53 _ (st54 _ k)
  have pre57 : ∀ t, Steps p.tables e below (T54.setTop (mkF m 19 #[.val (.ref da), .val (.int (2 : Int32))] [(.int (2 : Int32)), (.ref oa), (.ref sa)])) t → Steps p.tables e below (s₁.setTop (entryFrame m #[(.ref da)] 2)) t := fun t k => pre55 _ (by
    refine XS.iloadN X54.here hx rfl (hb hby own_d_prog_35_method_2_18) rfl ?_
    exact k)
  obtain ⟨cl56, Ar56, qc56, Sz56, Mz56, Hs56, Uf56⟩ := (show Arv Z h45 oa kd .int (8 : Int32) (own_ti Of 8) (.int (0 : Int32)) from ((((V4.other W15 ne_sa_oa.symm).other W22 ne_la_oa.symm).other W38 ne_sa_oa.symm).other W45 ne_la_oa.symm))
  have in58 : ¬ ((2 : Int32) < 0 ∨ cl56.slots.size ≤ ((2 : Int32)).toNatClampNeg) := inb_of Sz56 (by decide)
  have at58 : cl56.slots[((2 : Int32)).toNatClampNeg]? = some (.int (Int32.ofNat p2)) := Hs56.at in58 (by rw [show (2 : Int32).toNatClampNeg = 2 from by decide]; exact (own_ti_get _ (by decide) _).trans (congrArg Value.int (hO2)))
  have pre59 : ∀ t, Steps p.tables e below (T54.setTop (mkF m 21 #[.val (.ref da), .val (.int (2 : Int32))] [(.int (0 : Int32)), (.int (Int32.ofNat p2)), (.ref sa)])) t → Steps p.tables e below (s₁.setTop (entryFrame m #[(.ref da)] 2)) t := fun t k => pre57 _ (by
    refine X54.iaload hx (j := (2 : Int32)) (v := (.int (Int32.ofNat p2))) (by rw [e54]; exact Ar56.1) (State.isArrayOf_alike hZ.alike Ar56.2.1) Ar56.2.2 in58 at58 (g := (mkF m 19 #[.val (.ref da), .val (.int (2 : Int32))] [(.int (2 : Int32)), (.ref oa), (.ref sa)])) rfl rfl (hb hby own_d_prog_35_method_2_19) _ ?_
    refine XT.iconstV X54.here hx rfl (0 : Int32) (hb hby own_d_prog_35_method_2_20) rfl ?_
    exact k)
  obtain ⟨cl60, Ar60, qc60, Sz60, Mz60, Hs60, Uf60⟩ := (show Arv Z h45 sa ka .int (16 : Int32) (own_ti (own_up (own_up Sf p0 (0 : Int32)) p1 (0 : Int32)) 16) (.int (0 : Int32)) from (Va38.other W45 ne_sa_la))
  have in61 : ¬ ((Int32.ofNat p2) < 0 ∨ cl60.slots.size ≤ ((Int32.ofNat p2)).toNatClampNeg) := own_inb Sz60 (N := 16) (by decide) hp2 (Nat.le_trans (Nat.le_of_lt hp2) (by decide))
  obtain ⟨T61, h61, X61, e61, W61, st61⟩ := stI X54 hx hZ e54 Ar60 (j := (Int32.ofNat p2)) in61 (g := (mkF m 21 #[.val (.ref da), .val (.int (2 : Int32))] [(.int (0 : Int32)), (.int (Int32.ofNat p2)), (.ref sa)])) rfl rfl (hb hby own_d_prog_35_method_2_21)
  have N61 := Fr.snoc X61 N45 ge_sa
  have Z61 : n0 ≤ h61.size := Nat.le_trans Z45 (Keep.of_wr W61).1
  have V61 := Arv.set Ar60 qc60 Sz60 Mz60 Hs60 Uf60 (v := (.int (0 : Int32))) rfl W61 p2 (by rw [own_n32 (Nat.le_trans (Nat.le_of_lt hp2) (by decide))]) (by rw [own_ti_len]; exact hp2)
  rw [own_ti_set] at V61
  have Va61 : Arv Z h61 sa ka .int (16 : Int32) (own_ti (own_up (own_up (own_up Sf p0 (0 : Int32)) p1 (0 : Int32)) p2 (0 : Int32)) 16) (.int (0 : Int32)) := V61
  have pre62 : ∀ t, Steps p.tables e below (T61.setTop (mkF m 22 #[.val (.ref da), .val (.int (2 : Int32))] [])) t → Steps p.tables e below (s₁.setTop (entryFrame m #[(.ref da)] 2)) t := fun t k => pre59 _ (st61 _ k)
  have pre63 : ∀ t, Steps p.tables e below (T61.setTop (mkF m 23 #[.val (.ref da), .val (.int (2 : Int32))] [(.ref da)])) t → Steps p.tables e below (s₁.setTop (entryFrame m #[(.ref da)] 2)) t := fun t k => pre62 _ (by
    refine XS.aloadN X61.here hx rfl (hb hby own_d_prog_35_method_2_22) rfl rfl ?_
    exact k)
  obtain ⟨T64, X64, e64, st64⟩ := getF X61 hx hZ hown (host := "") (Or.inl (hw _ (List.mem_of_getElem? (i := 40) rfl))) Via.refl e61 (((((S3.other W15 (Or.inl ne_da_sa)).other W22 (Or.inl ne_da_la)).other W38 (Or.inl ne_da_sa)).other W45 (Or.inl ne_da_la)).other W61 (Or.inl ne_da_sa)) (g := (mkF m 23 #[.val (.ref da), .val (.int (2 : Int32))] [(.ref da)])) rfl rfl (hb hby own_d_prog_35_method_2_23)
  have pre65 : ∀ t, Steps p.tables e below (T64.setTop (mkF m 26 #[.val (.ref da), .val (.int (2 : Int32))] [(.ref la)])) t → Steps p.tables e below (s₁.setTop (entryFrame m #[(.ref da)] 2)) t := fun t k => pre63 _ (st64 _ k)
  have pre66 : ∀ t, Steps p.tables e below (T64.setTop (mkF m 28 #[.val (.ref da), .val (.int (2 : Int32))] [.null, (.int (2 : Int32)), (.ref la)])) t → Steps p.tables e below (s₁.setTop (entryFrame m #[(.ref da)] 2)) t := fun t k => pre65 _ (by
    refine XS.iloadN X64.here hx rfl (hb hby own_d_prog_35_method_2_26) rfl ?_
    refine XS.aconstNull X64.here hx rfl (hb hby own_d_prog_35_method_2_27) ?_
    exact k)
  obtain ⟨cl67, Ar67, qc67, Sz67, Mz67, Hs67, Uf67⟩ := (show Arv Z h61 la kc (.object "java/lang/String") (8 : Int32) (own_tab (own_upV (own_upV Lf 0 .null) 1 .null) 8) .null from (Va45.other W61 ne_sa_la.symm))
  have in68 : ¬ ((2 : Int32) < 0 ∨ cl67.slots.size ≤ ((2 : Int32)).toNatClampNeg) := inb_of Sz67 (by decide)
  obtain ⟨T68, h68, X68, e68, W68, st68⟩ := stR X64 hx hZ e64 Ar67 (j := (2 : Int32)) (v := .null) in68 rfl (Or.inl rfl) (g := (mkF m 28 #[.val (.ref da), .val (.int (2 : Int32))] [.null, (.int (2 : Int32)), (.ref la)])) rfl rfl (hb hby own_d_prog_35_method_2_28)
  have N68 := Fr.snoc X68 N61 ge_la
  have Z68 : n0 ≤ h68.size := Nat.le_trans Z61 (Keep.of_wr W68).1
  have V68 := Arv.set Ar67 qc67 Sz67 Mz67 Hs67 Uf67 (v := .null) rfl W68 2 (by decide) (by rw [own_tab_len]; exact (by decide))
  rw [own_tabv_set] at V68
  have Va68 : Arv Z h68 la kc (.object "java/lang/String") (8 : Int32) (own_tab (own_upV (own_upV (own_upV Lf 0 .null) 1 .null) 2 .null) 8) .null := V68
  have pre69 : ∀ t, Steps p.tables e below (T68.setTop (mkF m 29 #[.val (.ref da), .val (.int (2 : Int32))] [])) t → Steps p.tables e below (s₁.setTop (entryFrame m #[(.ref da)] 2)) t := fun t k => pre66 _ (st68 _ k)
  have pre70 : ∀ t, Steps p.tables e below (T68.setTop (mkF m 4 #[.val (.ref da), .val (.int (3 : Int32))] [(.ref da), (.int (3 : Int32))])) t → Steps p.tables e below (s₁.setTop (entryFrame m #[(.ref da)] 2)) t := fun t k => pre69 _ (by
    refine XT.iincV X68.here hx rfl (1 : Int32) (hb hby own_d_prog_35_method_2_29) rfl rfl (l' := #[.val (.ref da), .val (.int (3 : Int32))]) rfl ?_
    refine XS.goto X68.here hx rfl (pc0 := 32) (pc' := 2) rfl (hb hby own_d_prog_35_method_2_32) (by decide) (by decide) ?_
    refine XS.iloadN X68.here hx rfl (hb hby own_d_prog_35_method_2_2) rfl ?_
    refine XS.aloadN X68.here hx rfl (hb hby own_d_prog_35_method_2_3) rfl rfl ?_
    exact k)
  obtain ⟨T71, X71, e71, st71⟩ := getF X68 hx hZ hown (host := "") (Or.inl (hw _ (List.mem_of_getElem? (i := 49) rfl))) Via.refl e68 ((((((S5.other W15 (Or.inl ne_da_sa)).other W22 (Or.inl ne_da_la)).other W38 (Or.inl ne_da_sa)).other W45 (Or.inl ne_da_la)).other W61 (Or.inl ne_da_sa)).other W68 (Or.inl ne_da_la)) (g := (mkF m 4 #[.val (.ref da), .val (.int (3 : Int32))] [(.ref da), (.int (3 : Int32))])) rfl rfl (hb hby own_d_prog_35_method_2_4)
  have pre72 : ∀ t, Steps p.tables e below (T71.setTop (mkF m 7 #[.val (.ref da), .val (.int (3 : Int32))] [(.int (3 : Int32)), (.int (3 : Int32))])) t → Steps p.tables e below (s₁.setTop (entryFrame m #[(.ref da)] 2)) t := fun t k => pre70 _ (st71 _ k)
  have pre73 : ∀ t, Steps p.tables e below (T71.setTop (mkF m 37 #[.val (.ref da), .val (.int (3 : Int32))] [(.int (0 : Int32)), (.ref da)])) t → Steps p.tables e below (s₁.setTop (entryFrame m #[(.ref da)] 2)) t := fun t k => pre72 _ (by
    refine XS.icmpYes X71.here hx rfl (pc0 := 7) (pc' := 35) rfl (hb hby own_d_prog_35_method_2_7) rfl (XT.ii_ge_t (by decide)) (by decide) (by decide) ?_
    refine XS.aloadN X71.here hx rfl (hb hby own_d_prog_35_method_2_35) rfl rfl ?_
    refine XT.iconstV X71.here hx rfl (0 : Int32) (hb hby own_d_prog_35_method_2_36) rfl ?_
    exact k)
  obtain ⟨T74, h74, X74, e74, W74, st74⟩ := putF X71 hx hZ hown (host := "") (Or.inl (hw _ (List.mem_of_getElem? (i := 49) rfl))) Via.refl e71 ((((((S5.other W15 (Or.inl ne_da_sa)).other W22 (Or.inl ne_da_la)).other W38 (Or.inl ne_da_sa)).other W45 (Or.inl ne_da_la)).other W61 (Or.inl ne_da_sa)).other W68 (Or.inl ne_da_la)) ((((((SE.wr W15).wr W22).wr W38).wr W45).wr W61).wr W68) (Or.inl (hw _ (List.mem_of_getElem? (i := 50) rfl))) (hw _ (List.mem_of_getElem? (i := 27) rfl)) (ty := .int) (by decide) rfl rfl (g := (mkF m 37 #[.val (.ref da), .val (.int (3 : Int32))] [(.int (0 : Int32)), (.ref da)])) rfl rfl (hb hby own_d_prog_35_method_2_37)
  have N74 := Fr.snoc X74 N68 ge_da
  have Z74 : n0 ≤ h74.size := Nat.le_trans Z68 (Keep.of_wr W74).1
  have F74 : Fld Z h74 da "com/example/erma/erma/analysis/DistinctSteps" "size" "I" (.int (0 : Int32)) := ((((((S5.other W15 (Or.inl ne_da_sa)).other W22 (Or.inl ne_da_la)).other W38 (Or.inl ne_da_sa)).other W45 (Or.inl ne_da_la)).other W61 (Or.inl ne_da_sa)).other W68 (Or.inl ne_da_la)).same W74
  have pre75 : ∀ t, Steps p.tables e below (T74.setTop (mkF m 40 #[.val (.ref da), .val (.int (3 : Int32))] [])) t → Steps p.tables e below (s₁.setTop (entryFrame m #[(.ref da)] 2)) t := fun t k => pre73 _ (st74 _ k)
  obtain ⟨fs, hr, hrun, hended, hW, hsame⟩ := X74.leave (v := none) (fun _ => rfl)
  refine ⟨_, _, pre75 _ ?_, hrun, hended, _, _, rfl, ?_, ⟨_, rfl⟩, hW, hsame.mono (by decide) (by decide)⟩
  · show Steps p.tables e below (T74.setTop (mkF m 40 #[.val (.ref da), .val (.int (3 : Int32))] [])) _
    exact X74.returnOut hx Bd.returns (hb hby own_d_prog_35_method_2_40) hr
  · show Q_own_clear3 Z da sa ta la oa ka kb kc kd Sf Tf Of Lf p0 p1 p2 h0 n0 _ T74.heap _
    rw [e74]
    exact ⟨rfl, N74, ((((((((Keep.refl _ _).wr W15 (Or.inl (List.mem_of_getElem? (i := 1) rfl))).wr W22 (Or.inl (List.mem_of_getElem? (i := 3) rfl))).wr W38 (Or.inl (List.mem_of_getElem? (i := 1) rfl))).wr W45 (Or.inl (List.mem_of_getElem? (i := 3) rfl))).wr W61 (Or.inl (List.mem_of_getElem? (i := 1) rfl))).wr W68 (Or.inl (List.mem_of_getElem? (i := 3) rfl))).wr W74 (Or.inl (List.mem_of_getElem? (i := 0) rfl))), (own_up (own_up (own_up Sf p0 (0 : Int32)) p1 (0 : Int32)) p2 (0 : Int32)), (own_upV (own_upV (own_upV Lf 0 .null) 1 .null) 2 .null), ⟨(((((((SE.wr W15).wr W22).wr W38).wr W45).wr W61).wr W68).wr W74), (((((((S1.other W15 (Or.inl ne_da_sa)).other W22 (Or.inl ne_da_la)).other W38 (Or.inl ne_da_sa)).other W45 (Or.inl ne_da_la)).other W61 (Or.inl ne_da_sa)).other W68 (Or.inl ne_da_la)).other W74 (Or.inr (slot_ne (C := "com/example/erma/erma/analysis/DistinctSteps") (Or.inl (hw _ (List.mem_of_getElem? (i := 35) rfl))) (Or.inl (hw _ (List.mem_of_getElem? (i := 50) rfl))) (by decide) (t := (.array .int)) (t' := .int) (by decide) (by decide)))), (((((((S2.other W15 (Or.inl ne_da_sa)).other W22 (Or.inl ne_da_la)).other W38 (Or.inl ne_da_sa)).other W45 (Or.inl ne_da_la)).other W61 (Or.inl ne_da_sa)).other W68 (Or.inl ne_da_la)).other W74 (Or.inr (slot_ne (C := "com/example/erma/erma/analysis/DistinctSteps") (Or.inl (hw _ (List.mem_of_getElem? (i := 37) rfl))) (Or.inl (hw _ (List.mem_of_getElem? (i := 50) rfl))) (by decide) (t := (.array .int)) (t' := .int) (by decide) (by decide)))), (((((((S3.other W15 (Or.inl ne_da_sa)).other W22 (Or.inl ne_da_la)).other W38 (Or.inl ne_da_sa)).other W45 (Or.inl ne_da_la)).other W61 (Or.inl ne_da_sa)).other W68 (Or.inl ne_da_la)).other W74 (Or.inr (slot_ne (C := "com/example/erma/erma/analysis/DistinctSteps") (Or.inl (hw _ (List.mem_of_getElem? (i := 41) rfl))) (Or.inl (hw _ (List.mem_of_getElem? (i := 50) rfl))) (by decide) (t := (.array (.object "java/lang/String"))) (t' := .int) (by decide) (by decide)))), (((((((S4.other W15 (Or.inl ne_da_sa)).other W22 (Or.inl ne_da_la)).other W38 (Or.inl ne_da_sa)).other W45 (Or.inl ne_da_la)).other W61 (Or.inl ne_da_sa)).other W68 (Or.inl ne_da_la)).other W74 (Or.inr (slot_ne (C := "com/example/erma/erma/analysis/DistinctSteps") (Or.inl (hw _ (List.mem_of_getElem? (i := 43) rfl))) (Or.inl (hw _ (List.mem_of_getElem? (i := 50) rfl))) (by decide) (t := (.array .int)) (t' := .int) (by decide) (by decide)))), F74, ((Va61.other W68 ne_sa_la).other W74 ne_da_sa.symm), (((((((V2.other W15 ne_sa_ta.symm).other W22 ne_ta_la).other W38 ne_sa_ta.symm).other W45 ne_ta_la).other W61 ne_sa_ta.symm).other W68 ne_ta_la).other W74 ne_da_ta.symm), (Va68.other W74 ne_da_la.symm), (((((((V4.other W15 ne_sa_oa.symm).other W22 ne_la_oa.symm).other W38 ne_sa_oa.symm).other W45 ne_la_oa.symm).other W61 ne_sa_oa.symm).other W68 ne_la_oa.symm).other W74 ne_da_oa.symm), OV, ge_da, o1, o2, o3, o4⟩, (fun j hj => by
        have q := hS j hj
        by_cases b0 : j = p0
        · simp [own_up, b0]
        by_cases b1 : j = p1
        · simp [own_up, b1]
        by_cases b2 : j = p2
        · simp [own_up, b2]
        simpa [own_up, b0, b1, b2] using q b0 b1 b2)⟩
theorem own_d_prog_35_method_3_45 : decode prog_35_method_3_code 45 = .ok (.aload_n 0, 1) := by decide +kernel
theorem own_d_prog_35_method_3_46 : decode prog_35_method_3_code 46 = .ok (.getfield 7, 3) := by decide +kernel
theorem own_d_prog_35_method_3_49 : decode prog_35_method_3_code 49 = .ok (.iload 4, 2) := by decide +kernel
theorem own_d_prog_35_method_3_51 : decode prog_35_method_3_code 51 = .ok (.iaload, 1) := by decide +kernel
theorem own_d_prog_35_method_3_52 : decode prog_35_method_3_code 52 = .ok (.iconst 1, 1) := by decide +kernel
theorem own_d_prog_35_method_3_53 : decode prog_35_method_3_code 53 = .ok (.isub, 1) := by decide +kernel
theorem own_d_prog_35_method_3_54 : decode prog_35_method_3_code 54 = .ok (.istore 5, 2) := by decide +kernel
theorem own_d_prog_35_method_3_56 : decode prog_35_method_3_code 56 = .ok (.aload_n 0, 1) := by decide +kernel
theorem own_d_prog_35_method_3_57 : decode prog_35_method_3_code 57 = .ok (.getfield 13, 3) := by decide +kernel
theorem own_d_prog_35_method_3_60 : decode prog_35_method_3_code 60 = .ok (.iload 5, 2) := by decide +kernel
theorem own_d_prog_35_method_3_62 : decode prog_35_method_3_code 62 = .ok (.iaload, 1) := by decide +kernel
theorem own_d_prog_35_method_3_63 : decode prog_35_method_3_code 63 = .ok (.iload_n 2, 1) := by decide +kernel
theorem own_d_prog_35_method_3_64 : decode prog_35_method_3_code 64 = .ok (.if_icmp .ne 19, 3) := by decide +kernel
theorem own_d_prog_35_method_3_67 : decode prog_35_method_3_code 67 = .ok (.aload_n 0, 1) := by decide +kernel
theorem own_d_prog_35_method_3_68 : decode prog_35_method_3_code 68 = .ok (.getfield 18, 3) := by decide +kernel
theorem own_d_prog_35_method_3_71 : decode prog_35_method_3_code 71 = .ok (.iload 5, 2) := by decide +kernel
theorem own_d_prog_35_method_3_73 : decode prog_35_method_3_code 73 = .ok (.aaload, 1) := by decide +kernel
theorem own_d_prog_35_method_3_74 : decode prog_35_method_3_code 74 = .ok (.aload_n 1, 1) := by decide +kernel
theorem own_pd__Ljava_lang_Object__Z : parseMethodDescriptor "(Ljava/lang/Object;)Z" = some ⟨[(.object "java/lang/Object")], some .boolean⟩ := by decide +kernel
theorem own_d_prog_35_method_3_75 : decode prog_35_method_3_code 75 = .ok (.invokevirtual 36, 3) := by decide +kernel
theorem own_d_prog_35_method_3_78 : decode prog_35_method_3_code 78 = .ok (.ifCond .eq 5, 3) := by decide +kernel
theorem own_d_prog_35_method_3_81 : decode prog_35_method_3_code 81 = .ok (.iconst 0, 1) := by decide +kernel
set_option maxRecDepth 65536 in
set_option maxHeartbeats 40000000 in
theorem own_probe0 {p : Program} {l : Launch} {e : Env} {s : State} {m : MethodId} {args : Array Value} {below : List Frame} {meth : Method} {c : Code} {T0 : State} {locs : List Loc} {Z : State} {a0 : Array Value} {h0 : Heap}  (da sa ta la oa : Addr) (ka kb kc kd : ClassId) (Sf Tf Of : Nat → Int32) (Lf : Nat → Value) (lb bi : Addr) (tt xx ti xi cs sz : Int32) (q : Nat) (s5 : Slot) (n0 : Nat)
    (X0 : Stand p l e ({ frames := 2, cells := 0, slots := 0, locals := 40 } : Room) s m args below meth c T0 locs 0 0) (hx : p.tables.exec = Jvm.exec) (hZ : Z.Warmed39 s.vm) (hw : ∀ d ∈ tables_1, d.before a0 Z = true) (hby : c.code = prog_35_method_3_code) (hml : c.maxLocals = 6) (hown : s.vm.findClass "com/example/erma/erma/analysis/DistinctSteps" = some m.cls) (e0 : T0.heap = h0) (Z0 : n0 ≤ h0.size) (N0 : Fr n0 locs) (HS : own_St Z h0 n0 da sa ta la oa ka kb kc kd Sf Tf Of Lf sz) (hs5 : One s5) (hq : q < 16) (hSq : Sf q = (1 : Int32)) (hT : Tf 0 = ti) (hL : Lf 0 = .ref bi) (SB : own_Str Z h0 da bi xi) (SA : own_Str Z h0 da lb xx) (CS : Sta Z h0 "java/lang/String" "COMPACT_STRINGS" "Z" (.int cs)) (hcs : ¬ cs = 0) :
    (∃ (T' : State) (locs' : List Loc) (Ls : Array Slot), Stand p l e ({ frames := 2, cells := 0, slots := 0, locals := 40 } : Room) s m args below meth c T' locs' 0 0 ∧ T'.heap = h0 ∧ Fr n0 locs' ∧ (ti = tt ∧ xi = xx) ∧ ∀ t, Steps p.tables e below (T'.setTop (mkF m 82 Ls [(.int (0 : Int32))])) t → Steps p.tables e below (T0.setTop (mkF m 45 #[.val (.ref da), .val (.ref lb), .val (.int tt), .val (.int (15 : Int32)), .val (.int (Int32.ofNat q)), s5] [])) t) ∨ (∃ (T' : State) (locs' : List Loc), Stand p l e ({ frames := 2, cells := 0, slots := 0, locals := 40 } : Room) s m args below meth c T' locs' 0 0 ∧ T'.heap = h0 ∧ Fr n0 locs' ∧ ¬ (ti = tt ∧ xi = xx) ∧ ∀ t, Steps p.tables e below (T'.setTop (mkF m 83 #[.val (.ref da), .val (.ref lb), .val (.int tt), .val (.int (15 : Int32)), .val (.int (Int32.ofNat q)), .val (.int (0 : Int32))] [])) t → Steps p.tables e below (T0.setTop (mkF m 45 #[.val (.ref da), .val (.ref lb), .val (.int tt), .val (.int (15 : Int32)), .val (.int (Int32.ofNat q)), s5] [])) t) := by
  have pre0 : ∀ t, Steps p.tables e below (T0.setTop (mkF m 45 #[.val (.ref da), .val (.ref lb), .val (.int tt), .val (.int (15 : Int32)), .val (.int (Int32.ofNat q)), s5] [])) t → Steps p.tables e below (T0.setTop (mkF m 45 #[.val (.ref da), .val (.ref lb), .val (.int tt), .val (.int (15 : Int32)), .val (.int (Int32.ofNat q)), s5] [])) t := fun t k => k
  obtain ⟨SE, S1, S2, S3, S4, S5, V1, V2, V3, V4, OV, ge_da, o1, o2, o3, o4⟩ := HS
  have lt_da_sa : da < sa := o1
  have ne_da_sa : da ≠ sa := Nat.ne_of_lt lt_da_sa
  have lt_da_ta : da < ta := Nat.lt_trans lt_da_sa o2
  have ne_da_ta : da ≠ ta := Nat.ne_of_lt lt_da_ta
  have lt_da_la : da < la := Nat.lt_trans lt_da_ta o3
  have ne_da_la : da ≠ la := Nat.ne_of_lt lt_da_la
  have lt_da_oa : da < oa := Nat.lt_trans lt_da_la o4
  have ne_da_oa : da ≠ oa := Nat.ne_of_lt lt_da_oa
  have lt_sa_ta : sa < ta := o2
  have ne_sa_ta : sa ≠ ta := Nat.ne_of_lt lt_sa_ta
  have lt_sa_la : sa < la := Nat.lt_trans lt_sa_ta o3
  have ne_sa_la : sa ≠ la := Nat.ne_of_lt lt_sa_la
  have lt_sa_oa : sa < oa := Nat.lt_trans lt_sa_la o4
  have ne_sa_oa : sa ≠ oa := Nat.ne_of_lt lt_sa_oa
  have lt_ta_la : ta < la := o3
  have ne_ta_la : ta ≠ la := Nat.ne_of_lt lt_ta_la
  have lt_ta_oa : ta < oa := Nat.lt_trans lt_ta_la o4
  have ne_ta_oa : ta ≠ oa := Nat.ne_of_lt lt_ta_oa
  have lt_la_oa : la < oa := o4
  have ne_la_oa : la ≠ oa := Nat.ne_of_lt lt_la_oa
  have ge_sa : n0 ≤ sa := Nat.le_trans ge_da (Nat.le_of_lt lt_da_sa)
  have ge_ta : n0 ≤ ta := Nat.le_trans ge_da (Nat.le_of_lt lt_da_ta)
  have ge_la : n0 ≤ la := Nat.le_trans ge_da (Nat.le_of_lt lt_da_la)
  have ge_oa : n0 ≤ oa := Nat.le_trans ge_da (Nat.le_of_lt lt_da_oa)
  have pre1 : ∀ t, Steps p.tables e below (T0.setTop (mkF m 46 #[.val (.ref da), .val (.ref lb), .val (.int tt), .val (.int (15 : Int32)), .val (.int (Int32.ofNat q)), s5] [(.ref da)])) t → Steps p.tables e below (T0.setTop (mkF m 45 #[.val (.ref da), .val (.ref lb), .val (.int tt), .val (.int (15 : Int32)), .val (.int (Int32.ofNat q)), s5] [])) t := fun t k => pre0 _ (by
    refine XS.aloadN X0.here hx rfl (hb hby own_d_prog_35_method_3_45) rfl rfl ?_
    exact k)
  obtain ⟨T2, X2, e2, st2⟩ := getF X0 hx hZ hown (host := "") (Or.inl (hw _ (List.mem_of_getElem? (i := 34) rfl))) Via.refl e0 S1 (g := (mkF m 46 #[.val (.ref da), .val (.ref lb), .val (.int tt), .val (.int (15 : Int32)), .val (.int (Int32.ofNat q)), s5] [(.ref da)])) rfl rfl (hb hby own_d_prog_35_method_3_46)
  have pre3 : ∀ t, Steps p.tables e below (T2.setTop (mkF m 49 #[.val (.ref da), .val (.ref lb), .val (.int tt), .val (.int (15 : Int32)), .val (.int (Int32.ofNat q)), s5] [(.ref sa)])) t → Steps p.tables e below (T0.setTop (mkF m 45 #[.val (.ref da), .val (.ref lb), .val (.int tt), .val (.int (15 : Int32)), .val (.int (Int32.ofNat q)), s5] [])) t := fun t k => pre1 _ (st2 _ k)
  have pre5 : ∀ t, Steps p.tables e below (T2.setTop (mkF m 51 #[.val (.ref da), .val (.ref lb), .val (.int tt), .val (.int (15 : Int32)), .val (.int (Int32.ofNat q)), s5] [(.int (Int32.ofNat q)), (.ref sa)])) t → Steps p.tables e below (T0.setTop (mkF m 45 #[.val (.ref da), .val (.ref lb), .val (.int tt), .val (.int (15 : Int32)), .val (.int (Int32.ofNat q)), s5] [])) t := fun t k => pre3 _ (by
    refine XS.iload X2.here hx rfl (hb hby own_d_prog_35_method_3_49) rfl ?_
    exact k)
  obtain ⟨cl4, Ar4, qc4, Sz4, Mz4, Hs4, Uf4⟩ := (show Arv Z h0 sa ka .int (16 : Int32) (own_ti Sf 16) (.int (0 : Int32)) from V1)
  have in6 : ¬ ((Int32.ofNat q) < 0 ∨ cl4.slots.size ≤ ((Int32.ofNat q)).toNatClampNeg) := own_inb Sz4 (N := 16) (by decide) hq (Nat.le_trans (Nat.le_of_lt hq) (by decide))
  have at6 : cl4.slots[((Int32.ofNat q)).toNatClampNeg]? = some (.int (1 : Int32)) := Hs4.at in6 (by rw [own_n32 (Nat.le_trans (Nat.le_of_lt hq) (by decide))]; exact (own_ti_get _ hq _).trans (congrArg Value.int (hSq)))
  have pre7 : ∀ t, Steps p.tables e below (T2.setTop (mkF m 57 #[.val (.ref da), .val (.ref lb), .val (.int tt), .val (.int (15 : Int32)), .val (.int (Int32.ofNat q)), .val (.int (0 : Int32))] [(.ref da)])) t → Steps p.tables e below (T0.setTop (mkF m 45 #[.val (.ref da), .val (.ref lb), .val (.int tt), .val (.int (15 : Int32)), .val (.int (Int32.ofNat q)), s5] [])) t := fun t k => pre5 _ (by
    refine X2.iaload hx (j := (Int32.ofNat q)) (v := (.int (1 : Int32))) (by rw [e2]; exact Ar4.1) (State.isArrayOf_alike hZ.alike Ar4.2.1) Ar4.2.2 in6 at6 (g := (mkF m 51 #[.val (.ref da), .val (.ref lb), .val (.int tt), .val (.int (15 : Int32)), .val (.int (Int32.ofNat q)), s5] [(.int (Int32.ofNat q)), (.ref sa)])) rfl rfl (hb hby own_d_prog_35_method_3_51) _ ?_
    refine XT.iconstV X2.here hx rfl (1 : Int32) (hb hby own_d_prog_35_method_3_52) rfl ?_
    refine XS.isub X2.here hx rfl (hb hby own_d_prog_35_method_3_53) rfl ?_
    refine XS.istore X2.here hx rfl (hb hby own_d_prog_35_method_3_54) rfl (l' := #[.val (.ref da), .val (.ref lb), .val (.int tt), .val (.int (15 : Int32)), .val (.int (Int32.ofNat q)), .val (.int (0 : Int32))]) (XS.store1 (o := s5) rfl hs5 rfl) ?_
    refine XS.aloadN X2.here hx rfl (hb hby own_d_prog_35_method_3_56) rfl rfl ?_
    exact k)
  obtain ⟨T8, X8, e8, st8⟩ := getF X2 hx hZ hown (host := "") (Or.inl (hw _ (List.mem_of_getElem? (i := 36) rfl))) Via.refl e2 S2 (g := (mkF m 57 #[.val (.ref da), .val (.ref lb), .val (.int tt), .val (.int (15 : Int32)), .val (.int (Int32.ofNat q)), .val (.int (0 : Int32))] [(.ref da)])) rfl rfl (hb hby own_d_prog_35_method_3_57)
  have pre9 : ∀ t, Steps p.tables e below (T8.setTop (mkF m 60 #[.val (.ref da), .val (.ref lb), .val (.int tt), .val (.int (15 : Int32)), .val (.int (Int32.ofNat q)), .val (.int (0 : Int32))] [(.ref ta)])) t → Steps p.tables e below (T0.setTop (mkF m 45 #[.val (.ref da), .val (.ref lb), .val (.int tt), .val (.int (15 : Int32)), .val (.int (Int32.ofNat q)), s5] [])) t := fun t k => pre7 _ (st8 _ k)
  have pre11 : ∀ t, Steps p.tables e below (T8.setTop (mkF m 62 #[.val (.ref da), .val (.ref lb), .val (.int tt), .val (.int (15 : Int32)), .val (.int (Int32.ofNat q)), .val (.int (0 : Int32))] [(.int (0 : Int32)), (.ref ta)])) t → Steps p.tables e below (T0.setTop (mkF m 45 #[.val (.ref da), .val (.ref lb), .val (.int tt), .val (.int (15 : Int32)), .val (.int (Int32.ofNat q)), s5] [])) t := fun t k => pre9 _ (by
    refine XS.iload X8.here hx rfl (hb hby own_d_prog_35_method_3_60) rfl ?_
    exact k)
  obtain ⟨cl10, Ar10, qc10, Sz10, Mz10, Hs10, Uf10⟩ := (show Arv Z h0 ta kb .int (8 : Int32) (own_ti Tf 8) (.int (0 : Int32)) from V2)
  have in12 : ¬ ((0 : Int32) < 0 ∨ cl10.slots.size ≤ ((0 : Int32)).toNatClampNeg) := inb_of Sz10 (by decide)
  have at12 : cl10.slots[((0 : Int32)).toNatClampNeg]? = some (.int ti) := Hs10.at in12 (by rw [show (0 : Int32).toNatClampNeg = 0 from by decide]; exact (own_ti_get _ (by decide) _).trans (congrArg Value.int (hT)))
  have pre13 : ∀ t, Steps p.tables e below (T8.setTop (mkF m 64 #[.val (.ref da), .val (.ref lb), .val (.int tt), .val (.int (15 : Int32)), .val (.int (Int32.ofNat q)), .val (.int (0 : Int32))] [(.int tt), (.int ti)])) t → Steps p.tables e below (T0.setTop (mkF m 45 #[.val (.ref da), .val (.ref lb), .val (.int tt), .val (.int (15 : Int32)), .val (.int (Int32.ofNat q)), s5] [])) t := fun t k => pre11 _ (by
    refine X8.iaload hx (j := (0 : Int32)) (v := (.int ti)) (by rw [e8]; exact Ar10.1) (State.isArrayOf_alike hZ.alike Ar10.2.1) Ar10.2.2 in12 at12 (g := (mkF m 62 #[.val (.ref da), .val (.ref lb), .val (.int tt), .val (.int (15 : Int32)), .val (.int (Int32.ofNat q)), .val (.int (0 : Int32))] [(.int (0 : Int32)), (.ref ta)])) rfl rfl (hb hby own_d_prog_35_method_3_62) _ ?_
    refine XS.iloadN X8.here hx rfl (hb hby own_d_prog_35_method_3_63) rfl ?_
    exact k)
  by_cases c64 : ti = tt
  · have pre14 : ∀ t, Steps p.tables e below (T8.setTop (mkF m 68 #[.val (.ref da), .val (.ref lb), .val (.int tt), .val (.int (15 : Int32)), .val (.int (Int32.ofNat q)), .val (.int (0 : Int32))] [(.ref da)])) t → Steps p.tables e below (T0.setTop (mkF m 45 #[.val (.ref da), .val (.ref lb), .val (.int tt), .val (.int (15 : Int32)), .val (.int (Int32.ofNat q)), s5] [])) t := fun t k => pre13 _ (by
      refine XS.icmpNo X8.here hx rfl (hb hby own_d_prog_35_method_3_64) rfl (XT.ii_ne_f c64) ?_
      refine XS.aloadN X8.here hx rfl (hb hby own_d_prog_35_method_3_67) rfl rfl ?_
      exact k)
    obtain ⟨T15, X15, e15, st15⟩ := getF X8 hx hZ hown (host := "") (Or.inl (hw _ (List.mem_of_getElem? (i := 40) rfl))) Via.refl e8 S3 (g := (mkF m 68 #[.val (.ref da), .val (.ref lb), .val (.int tt), .val (.int (15 : Int32)), .val (.int (Int32.ofNat q)), .val (.int (0 : Int32))] [(.ref da)])) rfl rfl (hb hby own_d_prog_35_method_3_68)
    have pre16 : ∀ t, Steps p.tables e below (T15.setTop (mkF m 71 #[.val (.ref da), .val (.ref lb), .val (.int tt), .val (.int (15 : Int32)), .val (.int (Int32.ofNat q)), .val (.int (0 : Int32))] [(.ref la)])) t → Steps p.tables e below (T0.setTop (mkF m 45 #[.val (.ref da), .val (.ref lb), .val (.int tt), .val (.int (15 : Int32)), .val (.int (Int32.ofNat q)), s5] [])) t := fun t k => pre14 _ (st15 _ k)
    have pre18 : ∀ t, Steps p.tables e below (T15.setTop (mkF m 73 #[.val (.ref da), .val (.ref lb), .val (.int tt), .val (.int (15 : Int32)), .val (.int (Int32.ofNat q)), .val (.int (0 : Int32))] [(.int (0 : Int32)), (.ref la)])) t → Steps p.tables e below (T0.setTop (mkF m 45 #[.val (.ref da), .val (.ref lb), .val (.int tt), .val (.int (15 : Int32)), .val (.int (Int32.ofNat q)), s5] [])) t := fun t k => pre16 _ (by
      refine XS.iload X15.here hx rfl (hb hby own_d_prog_35_method_3_71) rfl ?_
      exact k)
    obtain ⟨cl17, Ar17, qc17, Sz17, Mz17, Hs17, Uf17⟩ := (show Arv Z h0 la kc (.object "java/lang/String") (8 : Int32) (own_tab Lf 8) .null from V3)
    have in19 : ¬ ((0 : Int32) < 0 ∨ cl17.slots.size ≤ ((0 : Int32)).toNatClampNeg) := inb_of Sz17 (by decide)
    have at19 : cl17.slots[((0 : Int32)).toNatClampNeg]? = some (.ref bi) := Hs17.at in19 (by rw [show (0 : Int32).toNatClampNeg = 0 from by decide]; exact (own_tab_get _ (by decide) _).trans (hL))
    have pre20 : ∀ t, Steps p.tables e below (T15.setTop (mkF m 75 #[.val (.ref da), .val (.ref lb), .val (.int tt), .val (.int (15 : Int32)), .val (.int (Int32.ofNat q)), .val (.int (0 : Int32))] [(.ref lb), (.ref bi)])) t → Steps p.tables e below (T0.setTop (mkF m 45 #[.val (.ref da), .val (.ref lb), .val (.int tt), .val (.int (15 : Int32)), .val (.int (Int32.ofNat q)), s5] [])) t := fun t k => pre18 _ (by
      refine X15.aaload hx (j := (0 : Int32)) (v := (.ref bi)) (by rw [e15]; exact Ar17.1) (State.isArrayOf_alike hZ.alike Ar17.2.1) rfl Ar17.2.2 in19 at19 (g := (mkF m 73 #[.val (.ref da), .val (.ref lb), .val (.int tt), .val (.int (15 : Int32)), .val (.int (Int32.ofNat q)), .val (.int (0 : Int32))] [(.int (0 : Int32)), (.ref la)])) rfl rfl (hb hby own_d_prog_35_method_3_73) _ ?_
      refine XS.aloadN X15.here hx rfl (hb hby own_d_prog_35_method_3_74) rfl rfl ?_
      exact k)
    obtain ⟨cq21, kq21, q21a, q21b, q21c⟩ := isOf hZ e15 SB.2.1
    obtain ⟨_, _, ⟨T21, L21, k21, n21⟩, -, X21, ⟨Lc21, hQ21, l21, y21, z21⟩, st21⟩ := X15.virtualBack hx (y := (⟨"java/lang/String", "equals", "(Ljava/lang/Object;)Z"⟩ : MethodName)) (z := (⟨"java/lang/String", "equals", "(Ljava/lang/Object;)Z"⟩ : MethodName)) hown (mvT hZ (hw _ (List.mem_of_getElem? (i := 65) rfl))) (mvT hZ (hw _ (List.mem_of_getElem? (i := 66) rfl))) (notFace_of_selects (args := #[]) (mvT hZ (hw _ (List.mem_of_getElem? (i := 68) rfl)))) (mvT hZ (hw _ (List.mem_of_getElem? (i := 68) rfl))) (mvT hZ (hw _ (List.mem_of_getElem? (i := 67) rfl))) (by decide) (backOf (W := 0) (own_eqS l Z a0 hw [] bi lb da xi xx cs h0 n0 Z0 CS hcs SB SA) hZ (hw _ (List.mem_of_getElem? (i := 69) rfl)) (hw _ (List.mem_of_getElem? (i := 2) rfl)) (by decide) (by decide)) q21a q21c (g := (mkF m 75 #[.val (.ref da), .val (.ref lb), .val (.int tt), .val (.int (15 : Int32)), .val (.int (Int32.ofNat q)), .val (.int (0 : Int32))] [(.ref lb), (.ref bi)])) rfl (by rw [hml]; rfl) (Steps.refl _) (argsL := [(.ref lb)]) (rest := []) (lenOf own_pd__Ljava_lang_Object__Z rfl) rfl (by show 2 * 0 + _ ≤ _; exact Nat.le_of_eq rfl) (hb hby own_d_prog_35_method_3_75) (fun _ _ => ⟨rfl, e15, (by decide : 0 + 0 ≤ _), (by decide : 0 + 0 ≤ _)⟩)
    dsimp only [Pt.U, Pt.locs, Pt.cells, Pt.slots] at X21 l21 y21 z21 st21 hQ21
    subst l21 y21 z21
    obtain ⟨rfl, N21q, e21⟩ := hQ21
    have N21 := Fr.app N0 N21q
    have pre22 : ∀ t, Steps p.tables e below (T21.setTop (mkF m 78 #[.val (.ref da), .val (.ref lb), .val (.int tt), .val (.int (15 : Int32)), .val (.int (Int32.ofNat q)), .val (.int (0 : Int32))] [(.int (if xi = xx then (1 : Int32) else (0 : Int32)))])) t → Steps p.tables e below (T0.setTop (mkF m 45 #[.val (.ref da), .val (.ref lb), .val (.int tt), .val (.int (15 : Int32)), .val (.int (Int32.ofNat q)), s5] [])) t := fun t k => pre20 _ (st21.trans k)
    by_cases cx : xi = xx
    · have pre23 : ∀ t, Steps p.tables e below (T21.setTop (mkF m 82 #[.val (.ref da), .val (.ref lb), .val (.int tt), .val (.int (15 : Int32)), .val (.int (Int32.ofNat q)), .val (.int (0 : Int32))] [(.int (0 : Int32))])) t → Steps p.tables e below (T0.setTop (mkF m 45 #[.val (.ref da), .val (.ref lb), .val (.int tt), .val (.int (15 : Int32)), .val (.int (Int32.ofNat q)), s5] [])) t := fun t k => pre22 _ (by
        refine XS.ifNo X21.here hx rfl (hb hby own_d_prog_35_method_3_78) rfl (XT.i0_eq_f (by rw [if_pos cx]; decide)) ?_
        refine XT.iconstV X21.here hx rfl (0 : Int32) (hb hby own_d_prog_35_method_3_81) rfl ?_
        exact k)
      exact Or.inl ⟨T21, _, _, X21, e21, N21, ⟨c64, cx⟩, pre23⟩
    · have pre24 : ∀ t, Steps p.tables e below (T21.setTop (mkF m 83 #[.val (.ref da), .val (.ref lb), .val (.int tt), .val (.int (15 : Int32)), .val (.int (Int32.ofNat q)), .val (.int (0 : Int32))] [])) t → Steps p.tables e below (T0.setTop (mkF m 45 #[.val (.ref da), .val (.ref lb), .val (.int tt), .val (.int (15 : Int32)), .val (.int (Int32.ofNat q)), s5] [])) t := fun t k => pre22 _ (by
        refine XS.ifYes X21.here hx rfl (pc0 := 78) (pc' := 83) rfl (hb hby own_d_prog_35_method_3_78) rfl (XT.i0_eq_t (if_neg cx)) (by decide) (by decide) ?_
        exact k)
      exact Or.inr ⟨T21, _, X21, e21, N21, fun z => cx z.2, pre24⟩
  · have pre25 : ∀ t, Steps p.tables e below (T8.setTop (mkF m 83 #[.val (.ref da), .val (.ref lb), .val (.int tt), .val (.int (15 : Int32)), .val (.int (Int32.ofNat q)), .val (.int (0 : Int32))] [])) t → Steps p.tables e below (T0.setTop (mkF m 45 #[.val (.ref da), .val (.ref lb), .val (.int tt), .val (.int (15 : Int32)), .val (.int (Int32.ofNat q)), s5] [])) t := fun t k => pre13 _ (by
      refine XS.icmpYes X8.here hx rfl (pc0 := 64) (pc' := 83) rfl (hb hby own_d_prog_35_method_3_64) rfl (XT.ii_ne_t c64) (by decide) (by decide) ?_
      exact k)
    exact Or.inr ⟨T8, _, X8, e8, N0, fun z => c64 z.1, pre25⟩
set_option maxRecDepth 65536 in
set_option maxHeartbeats 40000000 in
theorem own_probe1 {p : Program} {l : Launch} {e : Env} {s : State} {m : MethodId} {args : Array Value} {below : List Frame} {meth : Method} {c : Code} {T0 : State} {locs : List Loc} {Z : State} {a0 : Array Value} {h0 : Heap}  (da sa ta la oa : Addr) (ka kb kc kd : ClassId) (Sf Tf Of : Nat → Int32) (Lf : Nat → Value) (lb bi : Addr) (tt xx ti xi cs sz : Int32) (q : Nat) (s5 : Slot) (n0 : Nat)
    (X0 : Stand p l e ({ frames := 2, cells := 0, slots := 0, locals := 40 } : Room) s m args below meth c T0 locs 0 0) (hx : p.tables.exec = Jvm.exec) (hZ : Z.Warmed39 s.vm) (hw : ∀ d ∈ tables_1, d.before a0 Z = true) (hby : c.code = prog_35_method_3_code) (hml : c.maxLocals = 6) (hown : s.vm.findClass "com/example/erma/erma/analysis/DistinctSteps" = some m.cls) (e0 : T0.heap = h0) (Z0 : n0 ≤ h0.size) (N0 : Fr n0 locs) (HS : own_St Z h0 n0 da sa ta la oa ka kb kc kd Sf Tf Of Lf sz) (hs5 : One s5) (hq : q < 16) (hSq : Sf q = (2 : Int32)) (hT : Tf 1 = ti) (hL : Lf 1 = .ref bi) (SB : own_Str Z h0 da bi xi) (SA : own_Str Z h0 da lb xx) (CS : Sta Z h0 "java/lang/String" "COMPACT_STRINGS" "Z" (.int cs)) (hcs : ¬ cs = 0) :
    (∃ (T' : State) (locs' : List Loc) (Ls : Array Slot), Stand p l e ({ frames := 2, cells := 0, slots := 0, locals := 40 } : Room) s m args below meth c T' locs' 0 0 ∧ T'.heap = h0 ∧ Fr n0 locs' ∧ (ti = tt ∧ xi = xx) ∧ ∀ t, Steps p.tables e below (T'.setTop (mkF m 82 Ls [(.int (0 : Int32))])) t → Steps p.tables e below (T0.setTop (mkF m 45 #[.val (.ref da), .val (.ref lb), .val (.int tt), .val (.int (15 : Int32)), .val (.int (Int32.ofNat q)), s5] [])) t) ∨ (∃ (T' : State) (locs' : List Loc), Stand p l e ({ frames := 2, cells := 0, slots := 0, locals := 40 } : Room) s m args below meth c T' locs' 0 0 ∧ T'.heap = h0 ∧ Fr n0 locs' ∧ ¬ (ti = tt ∧ xi = xx) ∧ ∀ t, Steps p.tables e below (T'.setTop (mkF m 83 #[.val (.ref da), .val (.ref lb), .val (.int tt), .val (.int (15 : Int32)), .val (.int (Int32.ofNat q)), .val (.int (1 : Int32))] [])) t → Steps p.tables e below (T0.setTop (mkF m 45 #[.val (.ref da), .val (.ref lb), .val (.int tt), .val (.int (15 : Int32)), .val (.int (Int32.ofNat q)), s5] [])) t) := by
  have pre0 : ∀ t, Steps p.tables e below (T0.setTop (mkF m 45 #[.val (.ref da), .val (.ref lb), .val (.int tt), .val (.int (15 : Int32)), .val (.int (Int32.ofNat q)), s5] [])) t → Steps p.tables e below (T0.setTop (mkF m 45 #[.val (.ref da), .val (.ref lb), .val (.int tt), .val (.int (15 : Int32)), .val (.int (Int32.ofNat q)), s5] [])) t := fun t k => k
  obtain ⟨SE, S1, S2, S3, S4, S5, V1, V2, V3, V4, OV, ge_da, o1, o2, o3, o4⟩ := HS
  have lt_da_sa : da < sa := o1
  have ne_da_sa : da ≠ sa := Nat.ne_of_lt lt_da_sa
  have lt_da_ta : da < ta := Nat.lt_trans lt_da_sa o2
  have ne_da_ta : da ≠ ta := Nat.ne_of_lt lt_da_ta
  have lt_da_la : da < la := Nat.lt_trans lt_da_ta o3
  have ne_da_la : da ≠ la := Nat.ne_of_lt lt_da_la
  have lt_da_oa : da < oa := Nat.lt_trans lt_da_la o4
  have ne_da_oa : da ≠ oa := Nat.ne_of_lt lt_da_oa
  have lt_sa_ta : sa < ta := o2
  have ne_sa_ta : sa ≠ ta := Nat.ne_of_lt lt_sa_ta
  have lt_sa_la : sa < la := Nat.lt_trans lt_sa_ta o3
  have ne_sa_la : sa ≠ la := Nat.ne_of_lt lt_sa_la
  have lt_sa_oa : sa < oa := Nat.lt_trans lt_sa_la o4
  have ne_sa_oa : sa ≠ oa := Nat.ne_of_lt lt_sa_oa
  have lt_ta_la : ta < la := o3
  have ne_ta_la : ta ≠ la := Nat.ne_of_lt lt_ta_la
  have lt_ta_oa : ta < oa := Nat.lt_trans lt_ta_la o4
  have ne_ta_oa : ta ≠ oa := Nat.ne_of_lt lt_ta_oa
  have lt_la_oa : la < oa := o4
  have ne_la_oa : la ≠ oa := Nat.ne_of_lt lt_la_oa
  have ge_sa : n0 ≤ sa := Nat.le_trans ge_da (Nat.le_of_lt lt_da_sa)
  have ge_ta : n0 ≤ ta := Nat.le_trans ge_da (Nat.le_of_lt lt_da_ta)
  have ge_la : n0 ≤ la := Nat.le_trans ge_da (Nat.le_of_lt lt_da_la)
  have ge_oa : n0 ≤ oa := Nat.le_trans ge_da (Nat.le_of_lt lt_da_oa)
  have pre1 : ∀ t, Steps p.tables e below (T0.setTop (mkF m 46 #[.val (.ref da), .val (.ref lb), .val (.int tt), .val (.int (15 : Int32)), .val (.int (Int32.ofNat q)), s5] [(.ref da)])) t → Steps p.tables e below (T0.setTop (mkF m 45 #[.val (.ref da), .val (.ref lb), .val (.int tt), .val (.int (15 : Int32)), .val (.int (Int32.ofNat q)), s5] [])) t := fun t k => pre0 _ (by
    refine XS.aloadN X0.here hx rfl (hb hby own_d_prog_35_method_3_45) rfl rfl ?_
    exact k)
  obtain ⟨T2, X2, e2, st2⟩ := getF X0 hx hZ hown (host := "") (Or.inl (hw _ (List.mem_of_getElem? (i := 34) rfl))) Via.refl e0 S1 (g := (mkF m 46 #[.val (.ref da), .val (.ref lb), .val (.int tt), .val (.int (15 : Int32)), .val (.int (Int32.ofNat q)), s5] [(.ref da)])) rfl rfl (hb hby own_d_prog_35_method_3_46)
  have pre3 : ∀ t, Steps p.tables e below (T2.setTop (mkF m 49 #[.val (.ref da), .val (.ref lb), .val (.int tt), .val (.int (15 : Int32)), .val (.int (Int32.ofNat q)), s5] [(.ref sa)])) t → Steps p.tables e below (T0.setTop (mkF m 45 #[.val (.ref da), .val (.ref lb), .val (.int tt), .val (.int (15 : Int32)), .val (.int (Int32.ofNat q)), s5] [])) t := fun t k => pre1 _ (st2 _ k)
  have pre5 : ∀ t, Steps p.tables e below (T2.setTop (mkF m 51 #[.val (.ref da), .val (.ref lb), .val (.int tt), .val (.int (15 : Int32)), .val (.int (Int32.ofNat q)), s5] [(.int (Int32.ofNat q)), (.ref sa)])) t → Steps p.tables e below (T0.setTop (mkF m 45 #[.val (.ref da), .val (.ref lb), .val (.int tt), .val (.int (15 : Int32)), .val (.int (Int32.ofNat q)), s5] [])) t := fun t k => pre3 _ (by
    refine XS.iload X2.here hx rfl (hb hby own_d_prog_35_method_3_49) rfl ?_
    exact k)
  obtain ⟨cl4, Ar4, qc4, Sz4, Mz4, Hs4, Uf4⟩ := (show Arv Z h0 sa ka .int (16 : Int32) (own_ti Sf 16) (.int (0 : Int32)) from V1)
  have in6 : ¬ ((Int32.ofNat q) < 0 ∨ cl4.slots.size ≤ ((Int32.ofNat q)).toNatClampNeg) := own_inb Sz4 (N := 16) (by decide) hq (Nat.le_trans (Nat.le_of_lt hq) (by decide))
  have at6 : cl4.slots[((Int32.ofNat q)).toNatClampNeg]? = some (.int (2 : Int32)) := Hs4.at in6 (by rw [own_n32 (Nat.le_trans (Nat.le_of_lt hq) (by decide))]; exact (own_ti_get _ hq _).trans (congrArg Value.int (hSq)))
  have pre7 : ∀ t, Steps p.tables e below (T2.setTop (mkF m 57 #[.val (.ref da), .val (.ref lb), .val (.int tt), .val (.int (15 : Int32)), .val (.int (Int32.ofNat q)), .val (.int (1 : Int32))] [(.ref da)])) t → Steps p.tables e below (T0.setTop (mkF m 45 #[.val (.ref da), .val (.ref lb), .val (.int tt), .val (.int (15 : Int32)), .val (.int (Int32.ofNat q)), s5] [])) t := fun t k => pre5 _ (by
    refine X2.iaload hx (j := (Int32.ofNat q)) (v := (.int (2 : Int32))) (by rw [e2]; exact Ar4.1) (State.isArrayOf_alike hZ.alike Ar4.2.1) Ar4.2.2 in6 at6 (g := (mkF m 51 #[.val (.ref da), .val (.ref lb), .val (.int tt), .val (.int (15 : Int32)), .val (.int (Int32.ofNat q)), s5] [(.int (Int32.ofNat q)), (.ref sa)])) rfl rfl (hb hby own_d_prog_35_method_3_51) _ ?_
    refine XT.iconstV X2.here hx rfl (1 : Int32) (hb hby own_d_prog_35_method_3_52) rfl ?_
    refine XS.isub X2.here hx rfl (hb hby own_d_prog_35_method_3_53) rfl ?_
    refine XS.istore X2.here hx rfl (hb hby own_d_prog_35_method_3_54) rfl (l' := #[.val (.ref da), .val (.ref lb), .val (.int tt), .val (.int (15 : Int32)), .val (.int (Int32.ofNat q)), .val (.int (1 : Int32))]) (XS.store1 (o := s5) rfl hs5 rfl) ?_
    refine XS.aloadN X2.here hx rfl (hb hby own_d_prog_35_method_3_56) rfl rfl ?_
    exact k)
  obtain ⟨T8, X8, e8, st8⟩ := getF X2 hx hZ hown (host := "") (Or.inl (hw _ (List.mem_of_getElem? (i := 36) rfl))) Via.refl e2 S2 (g := (mkF m 57 #[.val (.ref da), .val (.ref lb), .val (.int tt), .val (.int (15 : Int32)), .val (.int (Int32.ofNat q)), .val (.int (1 : Int32))] [(.ref da)])) rfl rfl (hb hby own_d_prog_35_method_3_57)
  have pre9 : ∀ t, Steps p.tables e below (T8.setTop (mkF m 60 #[.val (.ref da), .val (.ref lb), .val (.int tt), .val (.int (15 : Int32)), .val (.int (Int32.ofNat q)), .val (.int (1 : Int32))] [(.ref ta)])) t → Steps p.tables e below (T0.setTop (mkF m 45 #[.val (.ref da), .val (.ref lb), .val (.int tt), .val (.int (15 : Int32)), .val (.int (Int32.ofNat q)), s5] [])) t := fun t k => pre7 _ (st8 _ k)
  have pre11 : ∀ t, Steps p.tables e below (T8.setTop (mkF m 62 #[.val (.ref da), .val (.ref lb), .val (.int tt), .val (.int (15 : Int32)), .val (.int (Int32.ofNat q)), .val (.int (1 : Int32))] [(.int (1 : Int32)), (.ref ta)])) t → Steps p.tables e below (T0.setTop (mkF m 45 #[.val (.ref da), .val (.ref lb), .val (.int tt), .val (.int (15 : Int32)), .val (.int (Int32.ofNat q)), s5] [])) t := fun t k => pre9 _ (by
    refine XS.iload X8.here hx rfl (hb hby own_d_prog_35_method_3_60) rfl ?_
    exact k)
  obtain ⟨cl10, Ar10, qc10, Sz10, Mz10, Hs10, Uf10⟩ := (show Arv Z h0 ta kb .int (8 : Int32) (own_ti Tf 8) (.int (0 : Int32)) from V2)
  have in12 : ¬ ((1 : Int32) < 0 ∨ cl10.slots.size ≤ ((1 : Int32)).toNatClampNeg) := inb_of Sz10 (by decide)
  have at12 : cl10.slots[((1 : Int32)).toNatClampNeg]? = some (.int ti) := Hs10.at in12 (by rw [show (1 : Int32).toNatClampNeg = 1 from by decide]; exact (own_ti_get _ (by decide) _).trans (congrArg Value.int (hT)))
  have pre13 : ∀ t, Steps p.tables e below (T8.setTop (mkF m 64 #[.val (.ref da), .val (.ref lb), .val (.int tt), .val (.int (15 : Int32)), .val (.int (Int32.ofNat q)), .val (.int (1 : Int32))] [(.int tt), (.int ti)])) t → Steps p.tables e below (T0.setTop (mkF m 45 #[.val (.ref da), .val (.ref lb), .val (.int tt), .val (.int (15 : Int32)), .val (.int (Int32.ofNat q)), s5] [])) t := fun t k => pre11 _ (by
    refine X8.iaload hx (j := (1 : Int32)) (v := (.int ti)) (by rw [e8]; exact Ar10.1) (State.isArrayOf_alike hZ.alike Ar10.2.1) Ar10.2.2 in12 at12 (g := (mkF m 62 #[.val (.ref da), .val (.ref lb), .val (.int tt), .val (.int (15 : Int32)), .val (.int (Int32.ofNat q)), .val (.int (1 : Int32))] [(.int (1 : Int32)), (.ref ta)])) rfl rfl (hb hby own_d_prog_35_method_3_62) _ ?_
    refine XS.iloadN X8.here hx rfl (hb hby own_d_prog_35_method_3_63) rfl ?_
    exact k)
  by_cases c64 : ti = tt
  · have pre14 : ∀ t, Steps p.tables e below (T8.setTop (mkF m 68 #[.val (.ref da), .val (.ref lb), .val (.int tt), .val (.int (15 : Int32)), .val (.int (Int32.ofNat q)), .val (.int (1 : Int32))] [(.ref da)])) t → Steps p.tables e below (T0.setTop (mkF m 45 #[.val (.ref da), .val (.ref lb), .val (.int tt), .val (.int (15 : Int32)), .val (.int (Int32.ofNat q)), s5] [])) t := fun t k => pre13 _ (by
      refine XS.icmpNo X8.here hx rfl (hb hby own_d_prog_35_method_3_64) rfl (XT.ii_ne_f c64) ?_
      refine XS.aloadN X8.here hx rfl (hb hby own_d_prog_35_method_3_67) rfl rfl ?_
      exact k)
    obtain ⟨T15, X15, e15, st15⟩ := getF X8 hx hZ hown (host := "") (Or.inl (hw _ (List.mem_of_getElem? (i := 40) rfl))) Via.refl e8 S3 (g := (mkF m 68 #[.val (.ref da), .val (.ref lb), .val (.int tt), .val (.int (15 : Int32)), .val (.int (Int32.ofNat q)), .val (.int (1 : Int32))] [(.ref da)])) rfl rfl (hb hby own_d_prog_35_method_3_68)
    have pre16 : ∀ t, Steps p.tables e below (T15.setTop (mkF m 71 #[.val (.ref da), .val (.ref lb), .val (.int tt), .val (.int (15 : Int32)), .val (.int (Int32.ofNat q)), .val (.int (1 : Int32))] [(.ref la)])) t → Steps p.tables e below (T0.setTop (mkF m 45 #[.val (.ref da), .val (.ref lb), .val (.int tt), .val (.int (15 : Int32)), .val (.int (Int32.ofNat q)), s5] [])) t := fun t k => pre14 _ (st15 _ k)
    have pre18 : ∀ t, Steps p.tables e below (T15.setTop (mkF m 73 #[.val (.ref da), .val (.ref lb), .val (.int tt), .val (.int (15 : Int32)), .val (.int (Int32.ofNat q)), .val (.int (1 : Int32))] [(.int (1 : Int32)), (.ref la)])) t → Steps p.tables e below (T0.setTop (mkF m 45 #[.val (.ref da), .val (.ref lb), .val (.int tt), .val (.int (15 : Int32)), .val (.int (Int32.ofNat q)), s5] [])) t := fun t k => pre16 _ (by
      refine XS.iload X15.here hx rfl (hb hby own_d_prog_35_method_3_71) rfl ?_
      exact k)
    obtain ⟨cl17, Ar17, qc17, Sz17, Mz17, Hs17, Uf17⟩ := (show Arv Z h0 la kc (.object "java/lang/String") (8 : Int32) (own_tab Lf 8) .null from V3)
    have in19 : ¬ ((1 : Int32) < 0 ∨ cl17.slots.size ≤ ((1 : Int32)).toNatClampNeg) := inb_of Sz17 (by decide)
    have at19 : cl17.slots[((1 : Int32)).toNatClampNeg]? = some (.ref bi) := Hs17.at in19 (by rw [show (1 : Int32).toNatClampNeg = 1 from by decide]; exact (own_tab_get _ (by decide) _).trans (hL))
    have pre20 : ∀ t, Steps p.tables e below (T15.setTop (mkF m 75 #[.val (.ref da), .val (.ref lb), .val (.int tt), .val (.int (15 : Int32)), .val (.int (Int32.ofNat q)), .val (.int (1 : Int32))] [(.ref lb), (.ref bi)])) t → Steps p.tables e below (T0.setTop (mkF m 45 #[.val (.ref da), .val (.ref lb), .val (.int tt), .val (.int (15 : Int32)), .val (.int (Int32.ofNat q)), s5] [])) t := fun t k => pre18 _ (by
      refine X15.aaload hx (j := (1 : Int32)) (v := (.ref bi)) (by rw [e15]; exact Ar17.1) (State.isArrayOf_alike hZ.alike Ar17.2.1) rfl Ar17.2.2 in19 at19 (g := (mkF m 73 #[.val (.ref da), .val (.ref lb), .val (.int tt), .val (.int (15 : Int32)), .val (.int (Int32.ofNat q)), .val (.int (1 : Int32))] [(.int (1 : Int32)), (.ref la)])) rfl rfl (hb hby own_d_prog_35_method_3_73) _ ?_
      refine XS.aloadN X15.here hx rfl (hb hby own_d_prog_35_method_3_74) rfl rfl ?_
      exact k)
    obtain ⟨cq21, kq21, q21a, q21b, q21c⟩ := isOf hZ e15 SB.2.1
    obtain ⟨_, _, ⟨T21, L21, k21, n21⟩, -, X21, ⟨Lc21, hQ21, l21, y21, z21⟩, st21⟩ := X15.virtualBack hx (y := (⟨"java/lang/String", "equals", "(Ljava/lang/Object;)Z"⟩ : MethodName)) (z := (⟨"java/lang/String", "equals", "(Ljava/lang/Object;)Z"⟩ : MethodName)) hown (mvT hZ (hw _ (List.mem_of_getElem? (i := 65) rfl))) (mvT hZ (hw _ (List.mem_of_getElem? (i := 66) rfl))) (notFace_of_selects (args := #[]) (mvT hZ (hw _ (List.mem_of_getElem? (i := 68) rfl)))) (mvT hZ (hw _ (List.mem_of_getElem? (i := 68) rfl))) (mvT hZ (hw _ (List.mem_of_getElem? (i := 67) rfl))) (by decide) (backOf (W := 0) (own_eqS l Z a0 hw [] bi lb da xi xx cs h0 n0 Z0 CS hcs SB SA) hZ (hw _ (List.mem_of_getElem? (i := 69) rfl)) (hw _ (List.mem_of_getElem? (i := 2) rfl)) (by decide) (by decide)) q21a q21c (g := (mkF m 75 #[.val (.ref da), .val (.ref lb), .val (.int tt), .val (.int (15 : Int32)), .val (.int (Int32.ofNat q)), .val (.int (1 : Int32))] [(.ref lb), (.ref bi)])) rfl (by rw [hml]; rfl) (Steps.refl _) (argsL := [(.ref lb)]) (rest := []) (lenOf own_pd__Ljava_lang_Object__Z rfl) rfl (by show 2 * 0 + _ ≤ _; exact Nat.le_of_eq rfl) (hb hby own_d_prog_35_method_3_75) (fun _ _ => ⟨rfl, e15, (by decide : 0 + 0 ≤ _), (by decide : 0 + 0 ≤ _)⟩)
    dsimp only [Pt.U, Pt.locs, Pt.cells, Pt.slots] at X21 l21 y21 z21 st21 hQ21
    subst l21 y21 z21
    obtain ⟨rfl, N21q, e21⟩ := hQ21
    have N21 := Fr.app N0 N21q
    have pre22 : ∀ t, Steps p.tables e below (T21.setTop (mkF m 78 #[.val (.ref da), .val (.ref lb), .val (.int tt), .val (.int (15 : Int32)), .val (.int (Int32.ofNat q)), .val (.int (1 : Int32))] [(.int (if xi = xx then (1 : Int32) else (0 : Int32)))])) t → Steps p.tables e below (T0.setTop (mkF m 45 #[.val (.ref da), .val (.ref lb), .val (.int tt), .val (.int (15 : Int32)), .val (.int (Int32.ofNat q)), s5] [])) t := fun t k => pre20 _ (st21.trans k)
    by_cases cx : xi = xx
    · have pre23 : ∀ t, Steps p.tables e below (T21.setTop (mkF m 82 #[.val (.ref da), .val (.ref lb), .val (.int tt), .val (.int (15 : Int32)), .val (.int (Int32.ofNat q)), .val (.int (1 : Int32))] [(.int (0 : Int32))])) t → Steps p.tables e below (T0.setTop (mkF m 45 #[.val (.ref da), .val (.ref lb), .val (.int tt), .val (.int (15 : Int32)), .val (.int (Int32.ofNat q)), s5] [])) t := fun t k => pre22 _ (by
        refine XS.ifNo X21.here hx rfl (hb hby own_d_prog_35_method_3_78) rfl (XT.i0_eq_f (by rw [if_pos cx]; decide)) ?_
        refine XT.iconstV X21.here hx rfl (0 : Int32) (hb hby own_d_prog_35_method_3_81) rfl ?_
        exact k)
      exact Or.inl ⟨T21, _, _, X21, e21, N21, ⟨c64, cx⟩, pre23⟩
    · have pre24 : ∀ t, Steps p.tables e below (T21.setTop (mkF m 83 #[.val (.ref da), .val (.ref lb), .val (.int tt), .val (.int (15 : Int32)), .val (.int (Int32.ofNat q)), .val (.int (1 : Int32))] [])) t → Steps p.tables e below (T0.setTop (mkF m 45 #[.val (.ref da), .val (.ref lb), .val (.int tt), .val (.int (15 : Int32)), .val (.int (Int32.ofNat q)), s5] [])) t := fun t k => pre22 _ (by
        refine XS.ifYes X21.here hx rfl (pc0 := 78) (pc' := 83) rfl (hb hby own_d_prog_35_method_3_78) rfl (XT.i0_eq_t (if_neg cx)) (by decide) (by decide) ?_
        exact k)
      exact Or.inr ⟨T21, _, X21, e21, N21, fun z => cx z.2, pre24⟩
  · have pre25 : ∀ t, Steps p.tables e below (T8.setTop (mkF m 83 #[.val (.ref da), .val (.ref lb), .val (.int tt), .val (.int (15 : Int32)), .val (.int (Int32.ofNat q)), .val (.int (1 : Int32))] [])) t → Steps p.tables e below (T0.setTop (mkF m 45 #[.val (.ref da), .val (.ref lb), .val (.int tt), .val (.int (15 : Int32)), .val (.int (Int32.ofNat q)), s5] [])) t := fun t k => pre13 _ (by
      refine XS.icmpYes X8.here hx rfl (pc0 := 64) (pc' := 83) rfl (hb hby own_d_prog_35_method_3_64) rfl (XT.ii_ne_t c64) (by decide) (by decide) ?_
      exact k)
    exact Or.inr ⟨T8, _, X8, e8, N0, fun z => c64 z.1, pre25⟩
theorem own_d_prog_35_method_3_94 : decode prog_35_method_3_code 94 = .ok (.aload_n 0, 1) := by decide +kernel
theorem own_d_prog_35_method_3_95 : decode prog_35_method_3_code 95 = .ok (.getfield 7, 3) := by decide +kernel
theorem own_d_prog_35_method_3_98 : decode prog_35_method_3_code 98 = .ok (.iload 4, 2) := by decide +kernel
theorem own_d_prog_35_method_3_100 : decode prog_35_method_3_code 100 = .ok (.aload_n 0, 1) := by decide +kernel
theorem own_d_prog_35_method_3_101 : decode prog_35_method_3_code 101 = .ok (.getfield 25, 3) := by decide +kernel
theorem own_d_prog_35_method_3_104 : decode prog_35_method_3_code 104 = .ok (.iconst 1, 1) := by decide +kernel
theorem own_d_prog_35_method_3_105 : decode prog_35_method_3_code 105 = .ok (.iadd, 1) := by decide +kernel
theorem own_d_prog_35_method_3_106 : decode prog_35_method_3_code 106 = .ok (.iastore, 1) := by decide +kernel
theorem own_d_prog_35_method_3_107 : decode prog_35_method_3_code 107 = .ok (.aload_n 0, 1) := by decide +kernel
theorem own_d_prog_35_method_3_108 : decode prog_35_method_3_code 108 = .ok (.getfield 13, 3) := by decide +kernel
theorem own_d_prog_35_method_3_111 : decode prog_35_method_3_code 111 = .ok (.aload_n 0, 1) := by decide +kernel
theorem own_d_prog_35_method_3_112 : decode prog_35_method_3_code 112 = .ok (.getfield 25, 3) := by decide +kernel
theorem own_d_prog_35_method_3_115 : decode prog_35_method_3_code 115 = .ok (.iload_n 2, 1) := by decide +kernel
theorem own_d_prog_35_method_3_116 : decode prog_35_method_3_code 116 = .ok (.iastore, 1) := by decide +kernel
theorem own_d_prog_35_method_3_117 : decode prog_35_method_3_code 117 = .ok (.aload_n 0, 1) := by decide +kernel
theorem own_d_prog_35_method_3_118 : decode prog_35_method_3_code 118 = .ok (.getfield 18, 3) := by decide +kernel
theorem own_d_prog_35_method_3_121 : decode prog_35_method_3_code 121 = .ok (.aload_n 0, 1) := by decide +kernel
theorem own_d_prog_35_method_3_122 : decode prog_35_method_3_code 122 = .ok (.getfield 25, 3) := by decide +kernel
theorem own_d_prog_35_method_3_125 : decode prog_35_method_3_code 125 = .ok (.aload_n 1, 1) := by decide +kernel
theorem own_d_prog_35_method_3_126 : decode prog_35_method_3_code 126 = .ok (.aastore, 1) := by decide +kernel
theorem own_d_prog_35_method_3_127 : decode prog_35_method_3_code 127 = .ok (.aload_n 0, 1) := by decide +kernel
theorem own_d_prog_35_method_3_128 : decode prog_35_method_3_code 128 = .ok (.getfield 22, 3) := by decide +kernel
theorem own_d_prog_35_method_3_131 : decode prog_35_method_3_code 131 = .ok (.aload_n 0, 1) := by decide +kernel
theorem own_d_prog_35_method_3_132 : decode prog_35_method_3_code 132 = .ok (.getfield 25, 3) := by decide +kernel
theorem own_d_prog_35_method_3_135 : decode prog_35_method_3_code 135 = .ok (.iload 4, 2) := by decide +kernel
theorem own_d_prog_35_method_3_137 : decode prog_35_method_3_code 137 = .ok (.iastore, 1) := by decide +kernel
theorem own_d_prog_35_method_3_138 : decode prog_35_method_3_code 138 = .ok (.aload_n 0, 1) := by decide +kernel
theorem own_d_prog_35_method_3_139 : decode prog_35_method_3_code 139 = .ok (.dup, 1) := by decide +kernel
theorem own_d_prog_35_method_3_140 : decode prog_35_method_3_code 140 = .ok (.getfield 25, 3) := by decide +kernel
theorem own_d_prog_35_method_3_143 : decode prog_35_method_3_code 143 = .ok (.iconst 1, 1) := by decide +kernel
theorem own_d_prog_35_method_3_144 : decode prog_35_method_3_code 144 = .ok (.iadd, 1) := by decide +kernel
theorem own_d_prog_35_method_3_145 : decode prog_35_method_3_code 145 = .ok (.putfield 25, 3) := by decide +kernel
theorem own_d_prog_35_method_3_148 : decode prog_35_method_3_code 148 = .ok (.iconst 1, 1) := by decide +kernel
set_option maxRecDepth 65536 in
set_option maxHeartbeats 40000000 in
theorem own_ins0 {p : Program} {l : Launch} {e : Env} {s : State} {m : MethodId} {args : Array Value} {below : List Frame} {meth : Method} {c : Code} {T0 : State} {locs : List Loc} {Z : State} {a0 : Array Value} {h0 : Heap}  (da sa ta la oa : Addr) (ka kb kc kd : ClassId) (Sf Tf Of : Nat → Int32) (Lf : Nat → Value) (lb : Addr) (tt xx : Int32) (q : Nat) (s5 : Slot) (n0 : Nat)
    (X0 : Stand p l e ({ frames := 2, cells := 0, slots := 0, locals := 40 } : Room) s m args below meth c T0 locs 0 0) (hx : p.tables.exec = Jvm.exec) (hZ : Z.Warmed39 s.vm) (hw : ∀ d ∈ tables_1, d.before a0 Z = true) (hby : c.code = prog_35_method_3_code) (hml : c.maxLocals = 6) (hown : s.vm.findClass "com/example/erma/erma/analysis/DistinctSteps" = some m.cls) (e0 : T0.heap = h0) (Z0 : n0 ≤ h0.size) (N0 : Fr n0 locs) (HS : own_St Z h0 n0 da sa ta la oa ka kb kc kd Sf Tf Of Lf (0 : Int32)) (hq : q < 16) (SA : own_Str Z h0 da lb xx) :
    ∃ (T' : State) (h' : Heap) (locs' : List Loc) (Ls : Array Slot) , Stand p l e ({ frames := 2, cells := 0, slots := 0, locals := 40 } : Room) s m args below meth c T' locs' 0 0 ∧ T'.heap = h' ∧ Fr n0 locs' ∧ n0 ≤ h'.size ∧ (Keep h0 h' [da, sa, ta, la, oa] ∧ own_St Z h' n0 da sa ta la oa ka kb kc kd (own_up Sf q (1 : Int32)) (own_up Tf 0 tt) (own_up Of 0 (Int32.ofNat q)) (own_upV Lf 0 (.ref lb)) (1 : Int32)) ∧
      ∀ t, Steps p.tables e below (T'.setTop (mkF m 149 Ls [(.int (1 : Int32))])) t → Steps p.tables e below (T0.setTop (mkF m 94 #[.val (.ref da), .val (.ref lb), .val (.int tt), .val (.int (15 : Int32)), .val (.int (Int32.ofNat q)), s5] [])) t := by
  have pre0 : ∀ t, Steps p.tables e below (T0.setTop (mkF m 94 #[.val (.ref da), .val (.ref lb), .val (.int tt), .val (.int (15 : Int32)), .val (.int (Int32.ofNat q)), s5] [])) t → Steps p.tables e below (T0.setTop (mkF m 94 #[.val (.ref da), .val (.ref lb), .val (.int tt), .val (.int (15 : Int32)), .val (.int (Int32.ofNat q)), s5] [])) t := fun t k => k
  obtain ⟨SE, S1, S2, S3, S4, S5, V1, V2, V3, V4, OV, ge_da, o1, o2, o3, o4⟩ := HS
  have lt_da_sa : da < sa := o1
  have ne_da_sa : da ≠ sa := Nat.ne_of_lt lt_da_sa
  have lt_da_ta : da < ta := Nat.lt_trans lt_da_sa o2
  have ne_da_ta : da ≠ ta := Nat.ne_of_lt lt_da_ta
  have lt_da_la : da < la := Nat.lt_trans lt_da_ta o3
  have ne_da_la : da ≠ la := Nat.ne_of_lt lt_da_la
  have lt_da_oa : da < oa := Nat.lt_trans lt_da_la o4
  have ne_da_oa : da ≠ oa := Nat.ne_of_lt lt_da_oa
  have lt_sa_ta : sa < ta := o2
  have ne_sa_ta : sa ≠ ta := Nat.ne_of_lt lt_sa_ta
  have lt_sa_la : sa < la := Nat.lt_trans lt_sa_ta o3
  have ne_sa_la : sa ≠ la := Nat.ne_of_lt lt_sa_la
  have lt_sa_oa : sa < oa := Nat.lt_trans lt_sa_la o4
  have ne_sa_oa : sa ≠ oa := Nat.ne_of_lt lt_sa_oa
  have lt_ta_la : ta < la := o3
  have ne_ta_la : ta ≠ la := Nat.ne_of_lt lt_ta_la
  have lt_ta_oa : ta < oa := Nat.lt_trans lt_ta_la o4
  have ne_ta_oa : ta ≠ oa := Nat.ne_of_lt lt_ta_oa
  have lt_la_oa : la < oa := o4
  have ne_la_oa : la ≠ oa := Nat.ne_of_lt lt_la_oa
  have ge_sa : n0 ≤ sa := Nat.le_trans ge_da (Nat.le_of_lt lt_da_sa)
  have ge_ta : n0 ≤ ta := Nat.le_trans ge_da (Nat.le_of_lt lt_da_ta)
  have ge_la : n0 ≤ la := Nat.le_trans ge_da (Nat.le_of_lt lt_da_la)
  have ge_oa : n0 ≤ oa := Nat.le_trans ge_da (Nat.le_of_lt lt_da_oa)
  have pre1 : ∀ t, Steps p.tables e below (T0.setTop (mkF m 95 #[.val (.ref da), .val (.ref lb), .val (.int tt), .val (.int (15 : Int32)), .val (.int (Int32.ofNat q)), s5] [(.ref da)])) t → Steps p.tables e below (T0.setTop (mkF m 94 #[.val (.ref da), .val (.ref lb), .val (.int tt), .val (.int (15 : Int32)), .val (.int (Int32.ofNat q)), s5] [])) t := fun t k => pre0 _ (by
    refine XS.aloadN X0.here hx rfl (hb hby own_d_prog_35_method_3_94) rfl rfl ?_
    exact k)
  obtain ⟨T2, X2, e2, st2⟩ := getF X0 hx hZ hown (host := "") (Or.inl (hw _ (List.mem_of_getElem? (i := 34) rfl))) Via.refl e0 S1 (g := (mkF m 95 #[.val (.ref da), .val (.ref lb), .val (.int tt), .val (.int (15 : Int32)), .val (.int (Int32.ofNat q)), s5] [(.ref da)])) rfl rfl (hb hby own_d_prog_35_method_3_95)
  have pre3 : ∀ t, Steps p.tables e below (T2.setTop (mkF m 98 #[.val (.ref da), .val (.ref lb), .val (.int tt), .val (.int (15 : Int32)), .val (.int (Int32.ofNat q)), s5] [(.ref sa)])) t → Steps p.tables e below (T0.setTop (mkF m 94 #[.val (.ref da), .val (.ref lb), .val (.int tt), .val (.int (15 : Int32)), .val (.int (Int32.ofNat q)), s5] [])) t := fun t k => pre1 _ (st2 _ k)
  have pre4 : ∀ t, Steps p.tables e below (T2.setTop (mkF m 101 #[.val (.ref da), .val (.ref lb), .val (.int tt), .val (.int (15 : Int32)), .val (.int (Int32.ofNat q)), s5] [(.ref da), (.int (Int32.ofNat q)), (.ref sa)])) t → Steps p.tables e below (T0.setTop (mkF m 94 #[.val (.ref da), .val (.ref lb), .val (.int tt), .val (.int (15 : Int32)), .val (.int (Int32.ofNat q)), s5] [])) t := fun t k => pre3 _ (by
    refine XS.iload X2.here hx rfl (hb hby own_d_prog_35_method_3_98) rfl ?_
    refine XS.aloadN X2.here hx rfl (hb hby own_d_prog_35_method_3_100) rfl rfl ?_
    exact k)
  obtain ⟨T5, X5, e5, st5⟩ := getF X2 hx hZ hown (host := "") (Or.inl (hw _ (List.mem_of_getElem? (i := 49) rfl))) Via.refl e2 S5 (g := (mkF m 101 #[.val (.ref da), .val (.ref lb), .val (.int tt), .val (.int (15 : Int32)), .val (.int (Int32.ofNat q)), s5] [(.ref da), (.int (Int32.ofNat q)), (.ref sa)])) rfl rfl (hb hby own_d_prog_35_method_3_101)
  have pre6 : ∀ t, Steps p.tables e below (T5.setTop (mkF m 104 #[.val (.ref da), .val (.ref lb), .val (.int tt), .val (.int (15 : Int32)), .val (.int (Int32.ofNat q)), s5] [(.int (0 : Int32)), (.int (Int32.ofNat q)), (.ref sa)])) t → Steps p.tables e below (T0.setTop (mkF m 94 #[.val (.ref da), .val (.ref lb), .val (.int tt), .val (.int (15 : Int32)), .val (.int (Int32.ofNat q)), s5] [])) t := fun t k => pre4 _ (st5 _ k)
  have pre7 : ∀ t, Steps p.tables e below (T5.setTop (mkF m 106 #[.val (.ref da), .val (.ref lb), .val (.int tt), .val (.int (15 : Int32)), .val (.int (Int32.ofNat q)), s5] [(.int (1 : Int32)), (.int (Int32.ofNat q)), (.ref sa)])) t → Steps p.tables e below (T0.setTop (mkF m 94 #[.val (.ref da), .val (.ref lb), .val (.int tt), .val (.int (15 : Int32)), .val (.int (Int32.ofNat q)), s5] [])) t := fun t k => pre6 _ (by
    refine XT.iconstV X5.here hx rfl (1 : Int32) (hb hby own_d_prog_35_method_3_104) rfl ?_
    refine XS.iadd X5.here hx rfl (hb hby own_d_prog_35_method_3_105) rfl ?_
    exact k)
  obtain ⟨cl8, Ar8, qc8, Sz8, Mz8, Hs8, Uf8⟩ := (show Arv Z h0 sa ka .int (16 : Int32) (own_ti Sf 16) (.int (0 : Int32)) from V1)
  have in9 : ¬ ((Int32.ofNat q) < 0 ∨ cl8.slots.size ≤ ((Int32.ofNat q)).toNatClampNeg) := own_inb Sz8 (N := 16) (by decide) hq (Nat.le_trans (Nat.le_of_lt hq) (by decide))
  obtain ⟨T9, h9, X9, e9, W9, st9⟩ := stI X5 hx hZ e5 Ar8 (j := (Int32.ofNat q)) in9 (g := (mkF m 106 #[.val (.ref da), .val (.ref lb), .val (.int tt), .val (.int (15 : Int32)), .val (.int (Int32.ofNat q)), s5] [(.int (1 : Int32)), (.int (Int32.ofNat q)), (.ref sa)])) rfl rfl (hb hby own_d_prog_35_method_3_106)
  have N9 := Fr.snoc X9 N0 ge_sa
  have Z9 : n0 ≤ h9.size := Nat.le_trans Z0 (Keep.of_wr W9).1
  have V9 := Arv.set Ar8 qc8 Sz8 Mz8 Hs8 Uf8 (v := (.int (1 : Int32))) rfl W9 q (by rw [own_n32 (Nat.le_trans (Nat.le_of_lt hq) (by decide))]) (by rw [own_ti_len]; exact hq)
  rw [own_ti_set] at V9
  have Va9 : Arv Z h9 sa ka .int (16 : Int32) (own_ti (own_up Sf q (1 : Int32)) 16) (.int (0 : Int32)) := V9
  have pre10 : ∀ t, Steps p.tables e below (T9.setTop (mkF m 107 #[.val (.ref da), .val (.ref lb), .val (.int tt), .val (.int (15 : Int32)), .val (.int (Int32.ofNat q)), s5] [])) t → Steps p.tables e below (T0.setTop (mkF m 94 #[.val (.ref da), .val (.ref lb), .val (.int tt), .val (.int (15 : Int32)), .val (.int (Int32.ofNat q)), s5] [])) t := fun t k => pre7 _ (st9 _ k)
  have pre11 : ∀ t, Steps p.tables e below (T9.setTop (mkF m 108 #[.val (.ref da), .val (.ref lb), .val (.int tt), .val (.int (15 : Int32)), .val (.int (Int32.ofNat q)), s5] [(.ref da)])) t → Steps p.tables e below (T0.setTop (mkF m 94 #[.val (.ref da), .val (.ref lb), .val (.int tt), .val (.int (15 : Int32)), .val (.int (Int32.ofNat q)), s5] [])) t := fun t k => pre10 _ (by
    refine XS.aloadN X9.here hx rfl (hb hby own_d_prog_35_method_3_107) rfl rfl ?_
    exact k)
  obtain ⟨T12, X12, e12, st12⟩ := getF X9 hx hZ hown (host := "") (Or.inl (hw _ (List.mem_of_getElem? (i := 36) rfl))) Via.refl e9 (S2.other W9 (Or.inl ne_da_sa)) (g := (mkF m 108 #[.val (.ref da), .val (.ref lb), .val (.int tt), .val (.int (15 : Int32)), .val (.int (Int32.ofNat q)), s5] [(.ref da)])) rfl rfl (hb hby own_d_prog_35_method_3_108)
  have pre13 : ∀ t, Steps p.tables e below (T12.setTop (mkF m 111 #[.val (.ref da), .val (.ref lb), .val (.int tt), .val (.int (15 : Int32)), .val (.int (Int32.ofNat q)), s5] [(.ref ta)])) t → Steps p.tables e below (T0.setTop (mkF m 94 #[.val (.ref da), .val (.ref lb), .val (.int tt), .val (.int (15 : Int32)), .val (.int (Int32.ofNat q)), s5] [])) t := fun t k => pre11 _ (st12 _ k)
  have pre14 : ∀ t, Steps p.tables e below (T12.setTop (mkF m 112 #[.val (.ref da), .val (.ref lb), .val (.int tt), .val (.int (15 : Int32)), .val (.int (Int32.ofNat q)), s5] [(.ref da), (.ref ta)])) t → Steps p.tables e below (T0.setTop (mkF m 94 #[.val (.ref da), .val (.ref lb), .val (.int tt), .val (.int (15 : Int32)), .val (.int (Int32.ofNat q)), s5] [])) t := fun t k => pre13 _ (by
    refine XS.aloadN X12.here hx rfl (hb hby own_d_prog_35_method_3_111) rfl rfl ?_
    exact k)
  obtain ⟨T15, X15, e15, st15⟩ := getF X12 hx hZ hown (host := "") (Or.inl (hw _ (List.mem_of_getElem? (i := 49) rfl))) Via.refl e12 (S5.other W9 (Or.inl ne_da_sa)) (g := (mkF m 112 #[.val (.ref da), .val (.ref lb), .val (.int tt), .val (.int (15 : Int32)), .val (.int (Int32.ofNat q)), s5] [(.ref da), (.ref ta)])) rfl rfl (hb hby own_d_prog_35_method_3_112)
  have pre16 : ∀ t, Steps p.tables e below (T15.setTop (mkF m 115 #[.val (.ref da), .val (.ref lb), .val (.int tt), .val (.int (15 : Int32)), .val (.int (Int32.ofNat q)), s5] [(.int (0 : Int32)), (.ref ta)])) t → Steps p.tables e below (T0.setTop (mkF m 94 #[.val (.ref da), .val (.ref lb), .val (.int tt), .val (.int (15 : Int32)), .val (.int (Int32.ofNat q)), s5] [])) t := fun t k => pre14 _ (st15 _ k)
  have pre17 : ∀ t, Steps p.tables e below (T15.setTop (mkF m 116 #[.val (.ref da), .val (.ref lb), .val (.int tt), .val (.int (15 : Int32)), .val (.int (Int32.ofNat q)), s5] [(.int tt), (.int (0 : Int32)), (.ref ta)])) t → Steps p.tables e below (T0.setTop (mkF m 94 #[.val (.ref da), .val (.ref lb), .val (.int tt), .val (.int (15 : Int32)), .val (.int (Int32.ofNat q)), s5] [])) t := fun t k => pre16 _ (by
    refine XS.iloadN X15.here hx rfl (hb hby own_d_prog_35_method_3_115) rfl ?_
    exact k)
  obtain ⟨cl18, Ar18, qc18, Sz18, Mz18, Hs18, Uf18⟩ := (show Arv Z h9 ta kb .int (8 : Int32) (own_ti Tf 8) (.int (0 : Int32)) from (V2.other W9 ne_sa_ta.symm))
  have in19 : ¬ ((0 : Int32) < 0 ∨ cl18.slots.size ≤ ((0 : Int32)).toNatClampNeg) := inb_of Sz18 (by decide)
  obtain ⟨T19, h19, X19, e19, W19, st19⟩ := stI X15 hx hZ e15 Ar18 (j := (0 : Int32)) in19 (g := (mkF m 116 #[.val (.ref da), .val (.ref lb), .val (.int tt), .val (.int (15 : Int32)), .val (.int (Int32.ofNat q)), s5] [(.int tt), (.int (0 : Int32)), (.ref ta)])) rfl rfl (hb hby own_d_prog_35_method_3_116)
  have N19 := Fr.snoc X19 N9 ge_ta
  have Z19 : n0 ≤ h19.size := Nat.le_trans Z9 (Keep.of_wr W19).1
  have V19 := Arv.set Ar18 qc18 Sz18 Mz18 Hs18 Uf18 (v := (.int tt)) rfl W19 0 (by decide) (by rw [own_ti_len]; exact (by decide))
  rw [own_ti_set] at V19
  have Va19 : Arv Z h19 ta kb .int (8 : Int32) (own_ti (own_up Tf 0 tt) 8) (.int (0 : Int32)) := V19
  have pre20 : ∀ t, Steps p.tables e below (T19.setTop (mkF m 117 #[.val (.ref da), .val (.ref lb), .val (.int tt), .val (.int (15 : Int32)), .val (.int (Int32.ofNat q)), s5] [])) t → Steps p.tables e below (T0.setTop (mkF m 94 #[.val (.ref da), .val (.ref lb), .val (.int tt), .val (.int (15 : Int32)), .val (.int (Int32.ofNat q)), s5] [])) t := fun t k => pre17 _ (st19 _ k)
  have pre21 : ∀ t, Steps p.tables e below (T19.setTop (mkF m 118 #[.val (.ref da), .val (.ref lb), .val (.int tt), .val (.int (15 : Int32)), .val (.int (Int32.ofNat q)), s5] [(.ref da)])) t → Steps p.tables e below (T0.setTop (mkF m 94 #[.val (.ref da), .val (.ref lb), .val (.int tt), .val (.int (15 : Int32)), .val (.int (Int32.ofNat q)), s5] [])) t := fun t k => pre20 _ (by
    refine XS.aloadN X19.here hx rfl (hb hby own_d_prog_35_method_3_117) rfl rfl ?_
    exact k)
  obtain ⟨T22, X22, e22, st22⟩ := getF X19 hx hZ hown (host := "") (Or.inl (hw _ (List.mem_of_getElem? (i := 40) rfl))) Via.refl e19 ((S3.other W9 (Or.inl ne_da_sa)).other W19 (Or.inl ne_da_ta)) (g := (mkF m 118 #[.val (.ref da), .val (.ref lb), .val (.int tt), .val (.int (15 : Int32)), .val (.int (Int32.ofNat q)), s5] [(.ref da)])) rfl rfl (hb hby own_d_prog_35_method_3_118)
  have pre23 : ∀ t, Steps p.tables e below (T22.setTop (mkF m 121 #[.val (.ref da), .val (.ref lb), .val (.int tt), .val (.int (15 : Int32)), .val (.int (Int32.ofNat q)), s5] [(.ref la)])) t → Steps p.tables e below (T0.setTop (mkF m 94 #[.val (.ref da), .val (.ref lb), .val (.int tt), .val (.int (15 : Int32)), .val (.int (Int32.ofNat q)), s5] [])) t := fun t k => pre21 _ (st22 _ k)
  have pre24 : ∀ t, Steps p.tables e below (T22.setTop (mkF m 122 #[.val (.ref da), .val (.ref lb), .val (.int tt), .val (.int (15 : Int32)), .val (.int (Int32.ofNat q)), s5] [(.ref da), (.ref la)])) t → Steps p.tables e below (T0.setTop (mkF m 94 #[.val (.ref da), .val (.ref lb), .val (.int tt), .val (.int (15 : Int32)), .val (.int (Int32.ofNat q)), s5] [])) t := fun t k => pre23 _ (by
    refine XS.aloadN X22.here hx rfl (hb hby own_d_prog_35_method_3_121) rfl rfl ?_
    exact k)
  obtain ⟨T25, X25, e25, st25⟩ := getF X22 hx hZ hown (host := "") (Or.inl (hw _ (List.mem_of_getElem? (i := 49) rfl))) Via.refl e22 ((S5.other W9 (Or.inl ne_da_sa)).other W19 (Or.inl ne_da_ta)) (g := (mkF m 122 #[.val (.ref da), .val (.ref lb), .val (.int tt), .val (.int (15 : Int32)), .val (.int (Int32.ofNat q)), s5] [(.ref da), (.ref la)])) rfl rfl (hb hby own_d_prog_35_method_3_122)
  have pre26 : ∀ t, Steps p.tables e below (T25.setTop (mkF m 125 #[.val (.ref da), .val (.ref lb), .val (.int tt), .val (.int (15 : Int32)), .val (.int (Int32.ofNat q)), s5] [(.int (0 : Int32)), (.ref la)])) t → Steps p.tables e below (T0.setTop (mkF m 94 #[.val (.ref da), .val (.ref lb), .val (.int tt), .val (.int (15 : Int32)), .val (.int (Int32.ofNat q)), s5] [])) t := fun t k => pre24 _ (st25 _ k)
  have pre27 : ∀ t, Steps p.tables e below (T25.setTop (mkF m 126 #[.val (.ref da), .val (.ref lb), .val (.int tt), .val (.int (15 : Int32)), .val (.int (Int32.ofNat q)), s5] [(.ref lb), (.int (0 : Int32)), (.ref la)])) t → Steps p.tables e below (T0.setTop (mkF m 94 #[.val (.ref da), .val (.ref lb), .val (.int tt), .val (.int (15 : Int32)), .val (.int (Int32.ofNat q)), s5] [])) t := fun t k => pre26 _ (by
    refine XS.aloadN X25.here hx rfl (hb hby own_d_prog_35_method_3_125) rfl rfl ?_
    exact k)
  obtain ⟨cl28, Ar28, qc28, Sz28, Mz28, Hs28, Uf28⟩ := (show Arv Z h19 la kc (.object "java/lang/String") (8 : Int32) (own_tab Lf 8) .null from ((V3.other W9 ne_sa_la.symm).other W19 ne_ta_la.symm))
  have in29 : ¬ ((0 : Int32) < 0 ∨ cl28.slots.size ≤ ((0 : Int32)).toNatClampNeg) := inb_of Sz28 (by decide)
  obtain ⟨T29, h29, X29, e29, W29, st29⟩ := stR X25 hx hZ e25 Ar28 (j := (0 : Int32)) (v := (.ref lb)) in29 rfl (Sto.ofV Ar28 qc28 OV (Ins.self ((SA.2.1.wr W9).wr W19))) (g := (mkF m 126 #[.val (.ref da), .val (.ref lb), .val (.int tt), .val (.int (15 : Int32)), .val (.int (Int32.ofNat q)), s5] [(.ref lb), (.int (0 : Int32)), (.ref la)])) rfl rfl (hb hby own_d_prog_35_method_3_126)
  have N29 := Fr.snoc X29 N19 ge_la
  have Z29 : n0 ≤ h29.size := Nat.le_trans Z19 (Keep.of_wr W29).1
  have V29 := Arv.set Ar28 qc28 Sz28 Mz28 Hs28 Uf28 (v := (.ref lb)) rfl W29 0 (by decide) (by rw [own_tab_len]; exact (by decide))
  rw [own_tabv_set] at V29
  have Va29 : Arv Z h29 la kc (.object "java/lang/String") (8 : Int32) (own_tab (own_upV Lf 0 (.ref lb)) 8) .null := V29
  have pre30 : ∀ t, Steps p.tables e below (T29.setTop (mkF m 127 #[.val (.ref da), .val (.ref lb), .val (.int tt), .val (.int (15 : Int32)), .val (.int (Int32.ofNat q)), s5] [])) t → Steps p.tables e below (T0.setTop (mkF m 94 #[.val (.ref da), .val (.ref lb), .val (.int tt), .val (.int (15 : Int32)), .val (.int (Int32.ofNat q)), s5] [])) t := fun t k => pre27 _ (st29 _ k)
  have pre31 : ∀ t, Steps p.tables e below (T29.setTop (mkF m 128 #[.val (.ref da), .val (.ref lb), .val (.int tt), .val (.int (15 : Int32)), .val (.int (Int32.ofNat q)), s5] [(.ref da)])) t → Steps p.tables e below (T0.setTop (mkF m 94 #[.val (.ref da), .val (.ref lb), .val (.int tt), .val (.int (15 : Int32)), .val (.int (Int32.ofNat q)), s5] [])) t := fun t k => pre30 _ (by
    refine XS.aloadN X29.here hx rfl (hb hby own_d_prog_35_method_3_127) rfl rfl ?_
    exact k)
  obtain ⟨T32, X32, e32, st32⟩ := getF X29 hx hZ hown (host := "") (Or.inl (hw _ (List.mem_of_getElem? (i := 42) rfl))) Via.refl e29 (((S4.other W9 (Or.inl ne_da_sa)).other W19 (Or.inl ne_da_ta)).other W29 (Or.inl ne_da_la)) (g := (mkF m 128 #[.val (.ref da), .val (.ref lb), .val (.int tt), .val (.int (15 : Int32)), .val (.int (Int32.ofNat q)), s5] [(.ref da)])) rfl rfl (hb hby own_d_prog_35_method_3_128)
  have pre33 : ∀ t, Steps p.tables e below (T32.setTop (mkF m 131 #[.val (.ref da), .val (.ref lb), .val (.int tt), .val (.int (15 : Int32)), .val (.int (Int32.ofNat q)), s5] [(.ref oa)])) t → Steps p.tables e below (T0.setTop (mkF m 94 #[.val (.ref da), .val (.ref lb), .val (.int tt), .val (.int (15 : Int32)), .val (.int (Int32.ofNat q)), s5] [])) t := fun t k => pre31 _ (st32 _ k)
  have pre34 : ∀ t, Steps p.tables e below (T32.setTop (mkF m 132 #[.val (.ref da), .val (.ref lb), .val (.int tt), .val (.int (15 : Int32)), .val (.int (Int32.ofNat q)), s5] [(.ref da), (.ref oa)])) t → Steps p.tables e below (T0.setTop (mkF m 94 #[.val (.ref da), .val (.ref lb), .val (.int tt), .val (.int (15 : Int32)), .val (.int (Int32.ofNat q)), s5] [])) t := fun t k => pre33 _ (by
    refine XS.aloadN X32.here hx rfl (hb hby own_d_prog_35_method_3_131) rfl rfl ?_
    exact k)
  obtain ⟨T35, X35, e35, st35⟩ := getF X32 hx hZ hown (host := "") (Or.inl (hw _ (List.mem_of_getElem? (i := 49) rfl))) Via.refl e32 (((S5.other W9 (Or.inl ne_da_sa)).other W19 (Or.inl ne_da_ta)).other W29 (Or.inl ne_da_la)) (g := (mkF m 132 #[.val (.ref da), .val (.ref lb), .val (.int tt), .val (.int (15 : Int32)), .val (.int (Int32.ofNat q)), s5] [(.ref da), (.ref oa)])) rfl rfl (hb hby own_d_prog_35_method_3_132)
  have pre36 : ∀ t, Steps p.tables e below (T35.setTop (mkF m 135 #[.val (.ref da), .val (.ref lb), .val (.int tt), .val (.int (15 : Int32)), .val (.int (Int32.ofNat q)), s5] [(.int (0 : Int32)), (.ref oa)])) t → Steps p.tables e below (T0.setTop (mkF m 94 #[.val (.ref da), .val (.ref lb), .val (.int tt), .val (.int (15 : Int32)), .val (.int (Int32.ofNat q)), s5] [])) t := fun t k => pre34 _ (st35 _ k)
  have pre37 : ∀ t, Steps p.tables e below (T35.setTop (mkF m 137 #[.val (.ref da), .val (.ref lb), .val (.int tt), .val (.int (15 : Int32)), .val (.int (Int32.ofNat q)), s5] [(.int (Int32.ofNat q)), (.int (0 : Int32)), (.ref oa)])) t → Steps p.tables e below (T0.setTop (mkF m 94 #[.val (.ref da), .val (.ref lb), .val (.int tt), .val (.int (15 : Int32)), .val (.int (Int32.ofNat q)), s5] [])) t := fun t k => pre36 _ (by
    refine XS.iload X35.here hx rfl (hb hby own_d_prog_35_method_3_135) rfl ?_
    exact k)
  obtain ⟨cl38, Ar38, qc38, Sz38, Mz38, Hs38, Uf38⟩ := (show Arv Z h29 oa kd .int (8 : Int32) (own_ti Of 8) (.int (0 : Int32)) from (((V4.other W9 ne_sa_oa.symm).other W19 ne_ta_oa.symm).other W29 ne_la_oa.symm))
  have in39 : ¬ ((0 : Int32) < 0 ∨ cl38.slots.size ≤ ((0 : Int32)).toNatClampNeg) := inb_of Sz38 (by decide)
  obtain ⟨T39, h39, X39, e39, W39, st39⟩ := stI X35 hx hZ e35 Ar38 (j := (0 : Int32)) in39 (g := (mkF m 137 #[.val (.ref da), .val (.ref lb), .val (.int tt), .val (.int (15 : Int32)), .val (.int (Int32.ofNat q)), s5] [(.int (Int32.ofNat q)), (.int (0 : Int32)), (.ref oa)])) rfl rfl (hb hby own_d_prog_35_method_3_137)
  have N39 := Fr.snoc X39 N29 ge_oa
  have Z39 : n0 ≤ h39.size := Nat.le_trans Z29 (Keep.of_wr W39).1
  have V39 := Arv.set Ar38 qc38 Sz38 Mz38 Hs38 Uf38 (v := (.int (Int32.ofNat q))) rfl W39 0 (by decide) (by rw [own_ti_len]; exact (by decide))
  rw [own_ti_set] at V39
  have Va39 : Arv Z h39 oa kd .int (8 : Int32) (own_ti (own_up Of 0 (Int32.ofNat q)) 8) (.int (0 : Int32)) := V39
  have pre40 : ∀ t, Steps p.tables e below (T39.setTop (mkF m 138 #[.val (.ref da), .val (.ref lb), .val (.int tt), .val (.int (15 : Int32)), .val (.int (Int32.ofNat q)), s5] [])) t → Steps p.tables e below (T0.setTop (mkF m 94 #[.val (.ref da), .val (.ref lb), .val (.int tt), .val (.int (15 : Int32)), .val (.int (Int32.ofNat q)), s5] [])) t := fun t k => pre37 _ (st39 _ k)
  have pre41 : ∀ t, Steps p.tables e below (T39.setTop (mkF m 140 #[.val (.ref da), .val (.ref lb), .val (.int tt), .val (.int (15 : Int32)), .val (.int (Int32.ofNat q)), s5] [(.ref da), (.ref da)])) t → Steps p.tables e below (T0.setTop (mkF m 94 #[.val (.ref da), .val (.ref lb), .val (.int tt), .val (.int (15 : Int32)), .val (.int (Int32.ofNat q)), s5] [])) t := fun t k => pre40 _ (by
    refine XS.aloadN X39.here hx rfl (hb hby own_d_prog_35_method_3_138) rfl rfl ?_
    refine XS.dup X39.here hx rfl (hb hby own_d_prog_35_method_3_139) rfl rfl ?_
    exact k)
  obtain ⟨T42, X42, e42, st42⟩ := getF X39 hx hZ hown (host := "") (Or.inl (hw _ (List.mem_of_getElem? (i := 49) rfl))) Via.refl e39 ((((S5.other W9 (Or.inl ne_da_sa)).other W19 (Or.inl ne_da_ta)).other W29 (Or.inl ne_da_la)).other W39 (Or.inl ne_da_oa)) (g := (mkF m 140 #[.val (.ref da), .val (.ref lb), .val (.int tt), .val (.int (15 : Int32)), .val (.int (Int32.ofNat q)), s5] [(.ref da), (.ref da)])) rfl rfl (hb hby own_d_prog_35_method_3_140)
  have pre43 : ∀ t, Steps p.tables e below (T42.setTop (mkF m 143 #[.val (.ref da), .val (.ref lb), .val (.int tt), .val (.int (15 : Int32)), .val (.int (Int32.ofNat q)), s5] [(.int (0 : Int32)), (.ref da)])) t → Steps p.tables e below (T0.setTop (mkF m 94 #[.val (.ref da), .val (.ref lb), .val (.int tt), .val (.int (15 : Int32)), .val (.int (Int32.ofNat q)), s5] [])) t := fun t k => pre41 _ (st42 _ k)
  have pre44 : ∀ t, Steps p.tables e below (T42.setTop (mkF m 145 #[.val (.ref da), .val (.ref lb), .val (.int tt), .val (.int (15 : Int32)), .val (.int (Int32.ofNat q)), s5] [(.int (1 : Int32)), (.ref da)])) t → Steps p.tables e below (T0.setTop (mkF m 94 #[.val (.ref da), .val (.ref lb), .val (.int tt), .val (.int (15 : Int32)), .val (.int (Int32.ofNat q)), s5] [])) t := fun t k => pre43 _ (by
    refine XT.iconstV X42.here hx rfl (1 : Int32) (hb hby own_d_prog_35_method_3_143) rfl ?_
    refine XS.iadd X42.here hx rfl (hb hby own_d_prog_35_method_3_144) rfl ?_
    exact k)
  obtain ⟨T45, h45, X45, e45, W45, st45⟩ := putF X42 hx hZ hown (host := "") (Or.inl (hw _ (List.mem_of_getElem? (i := 49) rfl))) Via.refl e42 ((((S5.other W9 (Or.inl ne_da_sa)).other W19 (Or.inl ne_da_ta)).other W29 (Or.inl ne_da_la)).other W39 (Or.inl ne_da_oa)) ((((SE.wr W9).wr W19).wr W29).wr W39) (Or.inl (hw _ (List.mem_of_getElem? (i := 50) rfl))) (hw _ (List.mem_of_getElem? (i := 27) rfl)) (ty := .int) (by decide) rfl rfl (g := (mkF m 145 #[.val (.ref da), .val (.ref lb), .val (.int tt), .val (.int (15 : Int32)), .val (.int (Int32.ofNat q)), s5] [(.int (1 : Int32)), (.ref da)])) rfl rfl (hb hby own_d_prog_35_method_3_145)
  have N45 := Fr.snoc X45 N39 ge_da
  have Z45 : n0 ≤ h45.size := Nat.le_trans Z39 (Keep.of_wr W45).1
  have F45 : Fld Z h45 da "com/example/erma/erma/analysis/DistinctSteps" "size" "I" (.int (1 : Int32)) := ((((S5.other W9 (Or.inl ne_da_sa)).other W19 (Or.inl ne_da_ta)).other W29 (Or.inl ne_da_la)).other W39 (Or.inl ne_da_oa)).same W45
  have pre46 : ∀ t, Steps p.tables e below (T45.setTop (mkF m 148 #[.val (.ref da), .val (.ref lb), .val (.int tt), .val (.int (15 : Int32)), .val (.int (Int32.ofNat q)), s5] [])) t → Steps p.tables e below (T0.setTop (mkF m 94 #[.val (.ref da), .val (.ref lb), .val (.int tt), .val (.int (15 : Int32)), .val (.int (Int32.ofNat q)), s5] [])) t := fun t k => pre44 _ (st45 _ k)
  have pre47 : ∀ t, Steps p.tables e below (T45.setTop (mkF m 149 #[.val (.ref da), .val (.ref lb), .val (.int tt), .val (.int (15 : Int32)), .val (.int (Int32.ofNat q)), s5] [(.int (1 : Int32))])) t → Steps p.tables e below (T0.setTop (mkF m 94 #[.val (.ref da), .val (.ref lb), .val (.int tt), .val (.int (15 : Int32)), .val (.int (Int32.ofNat q)), s5] [])) t := fun t k => pre46 _ (by
    refine XT.iconstV X45.here hx rfl (1 : Int32) (hb hby own_d_prog_35_method_3_148) rfl ?_
    exact k)
  exact ⟨T45, h45, _, #[.val (.ref da), .val (.ref lb), .val (.int tt), .val (.int (15 : Int32)), .val (.int (Int32.ofNat q)), s5], X45, e45, N45, Z45, ⟨((((((Keep.refl _ _).wr W9 (Or.inl (List.mem_of_getElem? (i := 1) rfl))).wr W19 (Or.inl (List.mem_of_getElem? (i := 2) rfl))).wr W29 (Or.inl (List.mem_of_getElem? (i := 3) rfl))).wr W39 (Or.inl (List.mem_of_getElem? (i := 4) rfl))).wr W45 (Or.inl (List.mem_of_getElem? (i := 0) rfl))), ⟨(((((SE.wr W9).wr W19).wr W29).wr W39).wr W45), (((((S1.other W9 (Or.inl ne_da_sa)).other W19 (Or.inl ne_da_ta)).other W29 (Or.inl ne_da_la)).other W39 (Or.inl ne_da_oa)).other W45 (Or.inr (slot_ne (C := "com/example/erma/erma/analysis/DistinctSteps") (Or.inl (hw _ (List.mem_of_getElem? (i := 35) rfl))) (Or.inl (hw _ (List.mem_of_getElem? (i := 50) rfl))) (by decide) (t := (.array .int)) (t' := .int) (by decide) (by decide)))), (((((S2.other W9 (Or.inl ne_da_sa)).other W19 (Or.inl ne_da_ta)).other W29 (Or.inl ne_da_la)).other W39 (Or.inl ne_da_oa)).other W45 (Or.inr (slot_ne (C := "com/example/erma/erma/analysis/DistinctSteps") (Or.inl (hw _ (List.mem_of_getElem? (i := 37) rfl))) (Or.inl (hw _ (List.mem_of_getElem? (i := 50) rfl))) (by decide) (t := (.array .int)) (t' := .int) (by decide) (by decide)))), (((((S3.other W9 (Or.inl ne_da_sa)).other W19 (Or.inl ne_da_ta)).other W29 (Or.inl ne_da_la)).other W39 (Or.inl ne_da_oa)).other W45 (Or.inr (slot_ne (C := "com/example/erma/erma/analysis/DistinctSteps") (Or.inl (hw _ (List.mem_of_getElem? (i := 41) rfl))) (Or.inl (hw _ (List.mem_of_getElem? (i := 50) rfl))) (by decide) (t := (.array (.object "java/lang/String"))) (t' := .int) (by decide) (by decide)))), (((((S4.other W9 (Or.inl ne_da_sa)).other W19 (Or.inl ne_da_ta)).other W29 (Or.inl ne_da_la)).other W39 (Or.inl ne_da_oa)).other W45 (Or.inr (slot_ne (C := "com/example/erma/erma/analysis/DistinctSteps") (Or.inl (hw _ (List.mem_of_getElem? (i := 43) rfl))) (Or.inl (hw _ (List.mem_of_getElem? (i := 50) rfl))) (by decide) (t := (.array .int)) (t' := .int) (by decide) (by decide)))), F45, ((((Va9.other W19 ne_sa_ta).other W29 ne_sa_la).other W39 ne_sa_oa).other W45 ne_da_sa.symm), (((Va19.other W29 ne_ta_la).other W39 ne_ta_oa).other W45 ne_da_ta.symm), ((Va29.other W39 ne_la_oa).other W45 ne_da_la.symm), (Va39.other W45 ne_da_oa.symm), OV, ge_da, o1, o2, o3, o4⟩⟩, pre47⟩
set_option maxRecDepth 65536 in
set_option maxHeartbeats 40000000 in
theorem own_ins1 {p : Program} {l : Launch} {e : Env} {s : State} {m : MethodId} {args : Array Value} {below : List Frame} {meth : Method} {c : Code} {T0 : State} {locs : List Loc} {Z : State} {a0 : Array Value} {h0 : Heap}  (da sa ta la oa : Addr) (ka kb kc kd : ClassId) (Sf Tf Of : Nat → Int32) (Lf : Nat → Value) (lb : Addr) (tt xx : Int32) (q : Nat) (s5 : Slot) (n0 : Nat)
    (X0 : Stand p l e ({ frames := 2, cells := 0, slots := 0, locals := 40 } : Room) s m args below meth c T0 locs 0 0) (hx : p.tables.exec = Jvm.exec) (hZ : Z.Warmed39 s.vm) (hw : ∀ d ∈ tables_1, d.before a0 Z = true) (hby : c.code = prog_35_method_3_code) (hml : c.maxLocals = 6) (hown : s.vm.findClass "com/example/erma/erma/analysis/DistinctSteps" = some m.cls) (e0 : T0.heap = h0) (Z0 : n0 ≤ h0.size) (N0 : Fr n0 locs) (HS : own_St Z h0 n0 da sa ta la oa ka kb kc kd Sf Tf Of Lf (1 : Int32)) (hq : q < 16) (SA : own_Str Z h0 da lb xx) :
    ∃ (T' : State) (h' : Heap) (locs' : List Loc) (Ls : Array Slot) , Stand p l e ({ frames := 2, cells := 0, slots := 0, locals := 40 } : Room) s m args below meth c T' locs' 0 0 ∧ T'.heap = h' ∧ Fr n0 locs' ∧ n0 ≤ h'.size ∧ (Keep h0 h' [da, sa, ta, la, oa] ∧ own_St Z h' n0 da sa ta la oa ka kb kc kd (own_up Sf q (2 : Int32)) (own_up Tf 1 tt) (own_up Of 1 (Int32.ofNat q)) (own_upV Lf 1 (.ref lb)) (2 : Int32)) ∧
      ∀ t, Steps p.tables e below (T'.setTop (mkF m 149 Ls [(.int (1 : Int32))])) t → Steps p.tables e below (T0.setTop (mkF m 94 #[.val (.ref da), .val (.ref lb), .val (.int tt), .val (.int (15 : Int32)), .val (.int (Int32.ofNat q)), s5] [])) t := by
  have pre0 : ∀ t, Steps p.tables e below (T0.setTop (mkF m 94 #[.val (.ref da), .val (.ref lb), .val (.int tt), .val (.int (15 : Int32)), .val (.int (Int32.ofNat q)), s5] [])) t → Steps p.tables e below (T0.setTop (mkF m 94 #[.val (.ref da), .val (.ref lb), .val (.int tt), .val (.int (15 : Int32)), .val (.int (Int32.ofNat q)), s5] [])) t := fun t k => k
  obtain ⟨SE, S1, S2, S3, S4, S5, V1, V2, V3, V4, OV, ge_da, o1, o2, o3, o4⟩ := HS
  have lt_da_sa : da < sa := o1
  have ne_da_sa : da ≠ sa := Nat.ne_of_lt lt_da_sa
  have lt_da_ta : da < ta := Nat.lt_trans lt_da_sa o2
  have ne_da_ta : da ≠ ta := Nat.ne_of_lt lt_da_ta
  have lt_da_la : da < la := Nat.lt_trans lt_da_ta o3
  have ne_da_la : da ≠ la := Nat.ne_of_lt lt_da_la
  have lt_da_oa : da < oa := Nat.lt_trans lt_da_la o4
  have ne_da_oa : da ≠ oa := Nat.ne_of_lt lt_da_oa
  have lt_sa_ta : sa < ta := o2
  have ne_sa_ta : sa ≠ ta := Nat.ne_of_lt lt_sa_ta
  have lt_sa_la : sa < la := Nat.lt_trans lt_sa_ta o3
  have ne_sa_la : sa ≠ la := Nat.ne_of_lt lt_sa_la
  have lt_sa_oa : sa < oa := Nat.lt_trans lt_sa_la o4
  have ne_sa_oa : sa ≠ oa := Nat.ne_of_lt lt_sa_oa
  have lt_ta_la : ta < la := o3
  have ne_ta_la : ta ≠ la := Nat.ne_of_lt lt_ta_la
  have lt_ta_oa : ta < oa := Nat.lt_trans lt_ta_la o4
  have ne_ta_oa : ta ≠ oa := Nat.ne_of_lt lt_ta_oa
  have lt_la_oa : la < oa := o4
  have ne_la_oa : la ≠ oa := Nat.ne_of_lt lt_la_oa
  have ge_sa : n0 ≤ sa := Nat.le_trans ge_da (Nat.le_of_lt lt_da_sa)
  have ge_ta : n0 ≤ ta := Nat.le_trans ge_da (Nat.le_of_lt lt_da_ta)
  have ge_la : n0 ≤ la := Nat.le_trans ge_da (Nat.le_of_lt lt_da_la)
  have ge_oa : n0 ≤ oa := Nat.le_trans ge_da (Nat.le_of_lt lt_da_oa)
  have pre1 : ∀ t, Steps p.tables e below (T0.setTop (mkF m 95 #[.val (.ref da), .val (.ref lb), .val (.int tt), .val (.int (15 : Int32)), .val (.int (Int32.ofNat q)), s5] [(.ref da)])) t → Steps p.tables e below (T0.setTop (mkF m 94 #[.val (.ref da), .val (.ref lb), .val (.int tt), .val (.int (15 : Int32)), .val (.int (Int32.ofNat q)), s5] [])) t := fun t k => pre0 _ (by
    refine XS.aloadN X0.here hx rfl (hb hby own_d_prog_35_method_3_94) rfl rfl ?_
    exact k)
  obtain ⟨T2, X2, e2, st2⟩ := getF X0 hx hZ hown (host := "") (Or.inl (hw _ (List.mem_of_getElem? (i := 34) rfl))) Via.refl e0 S1 (g := (mkF m 95 #[.val (.ref da), .val (.ref lb), .val (.int tt), .val (.int (15 : Int32)), .val (.int (Int32.ofNat q)), s5] [(.ref da)])) rfl rfl (hb hby own_d_prog_35_method_3_95)
  have pre3 : ∀ t, Steps p.tables e below (T2.setTop (mkF m 98 #[.val (.ref da), .val (.ref lb), .val (.int tt), .val (.int (15 : Int32)), .val (.int (Int32.ofNat q)), s5] [(.ref sa)])) t → Steps p.tables e below (T0.setTop (mkF m 94 #[.val (.ref da), .val (.ref lb), .val (.int tt), .val (.int (15 : Int32)), .val (.int (Int32.ofNat q)), s5] [])) t := fun t k => pre1 _ (st2 _ k)
  have pre4 : ∀ t, Steps p.tables e below (T2.setTop (mkF m 101 #[.val (.ref da), .val (.ref lb), .val (.int tt), .val (.int (15 : Int32)), .val (.int (Int32.ofNat q)), s5] [(.ref da), (.int (Int32.ofNat q)), (.ref sa)])) t → Steps p.tables e below (T0.setTop (mkF m 94 #[.val (.ref da), .val (.ref lb), .val (.int tt), .val (.int (15 : Int32)), .val (.int (Int32.ofNat q)), s5] [])) t := fun t k => pre3 _ (by
    refine XS.iload X2.here hx rfl (hb hby own_d_prog_35_method_3_98) rfl ?_
    refine XS.aloadN X2.here hx rfl (hb hby own_d_prog_35_method_3_100) rfl rfl ?_
    exact k)
  obtain ⟨T5, X5, e5, st5⟩ := getF X2 hx hZ hown (host := "") (Or.inl (hw _ (List.mem_of_getElem? (i := 49) rfl))) Via.refl e2 S5 (g := (mkF m 101 #[.val (.ref da), .val (.ref lb), .val (.int tt), .val (.int (15 : Int32)), .val (.int (Int32.ofNat q)), s5] [(.ref da), (.int (Int32.ofNat q)), (.ref sa)])) rfl rfl (hb hby own_d_prog_35_method_3_101)
  have pre6 : ∀ t, Steps p.tables e below (T5.setTop (mkF m 104 #[.val (.ref da), .val (.ref lb), .val (.int tt), .val (.int (15 : Int32)), .val (.int (Int32.ofNat q)), s5] [(.int (1 : Int32)), (.int (Int32.ofNat q)), (.ref sa)])) t → Steps p.tables e below (T0.setTop (mkF m 94 #[.val (.ref da), .val (.ref lb), .val (.int tt), .val (.int (15 : Int32)), .val (.int (Int32.ofNat q)), s5] [])) t := fun t k => pre4 _ (st5 _ k)
  have pre7 : ∀ t, Steps p.tables e below (T5.setTop (mkF m 106 #[.val (.ref da), .val (.ref lb), .val (.int tt), .val (.int (15 : Int32)), .val (.int (Int32.ofNat q)), s5] [(.int (2 : Int32)), (.int (Int32.ofNat q)), (.ref sa)])) t → Steps p.tables e below (T0.setTop (mkF m 94 #[.val (.ref da), .val (.ref lb), .val (.int tt), .val (.int (15 : Int32)), .val (.int (Int32.ofNat q)), s5] [])) t := fun t k => pre6 _ (by
    refine XT.iconstV X5.here hx rfl (1 : Int32) (hb hby own_d_prog_35_method_3_104) rfl ?_
    refine XS.iadd X5.here hx rfl (hb hby own_d_prog_35_method_3_105) rfl ?_
    exact k)
  obtain ⟨cl8, Ar8, qc8, Sz8, Mz8, Hs8, Uf8⟩ := (show Arv Z h0 sa ka .int (16 : Int32) (own_ti Sf 16) (.int (0 : Int32)) from V1)
  have in9 : ¬ ((Int32.ofNat q) < 0 ∨ cl8.slots.size ≤ ((Int32.ofNat q)).toNatClampNeg) := own_inb Sz8 (N := 16) (by decide) hq (Nat.le_trans (Nat.le_of_lt hq) (by decide))
  obtain ⟨T9, h9, X9, e9, W9, st9⟩ := stI X5 hx hZ e5 Ar8 (j := (Int32.ofNat q)) in9 (g := (mkF m 106 #[.val (.ref da), .val (.ref lb), .val (.int tt), .val (.int (15 : Int32)), .val (.int (Int32.ofNat q)), s5] [(.int (2 : Int32)), (.int (Int32.ofNat q)), (.ref sa)])) rfl rfl (hb hby own_d_prog_35_method_3_106)
  have N9 := Fr.snoc X9 N0 ge_sa
  have Z9 : n0 ≤ h9.size := Nat.le_trans Z0 (Keep.of_wr W9).1
  have V9 := Arv.set Ar8 qc8 Sz8 Mz8 Hs8 Uf8 (v := (.int (2 : Int32))) rfl W9 q (by rw [own_n32 (Nat.le_trans (Nat.le_of_lt hq) (by decide))]) (by rw [own_ti_len]; exact hq)
  rw [own_ti_set] at V9
  have Va9 : Arv Z h9 sa ka .int (16 : Int32) (own_ti (own_up Sf q (2 : Int32)) 16) (.int (0 : Int32)) := V9
  have pre10 : ∀ t, Steps p.tables e below (T9.setTop (mkF m 107 #[.val (.ref da), .val (.ref lb), .val (.int tt), .val (.int (15 : Int32)), .val (.int (Int32.ofNat q)), s5] [])) t → Steps p.tables e below (T0.setTop (mkF m 94 #[.val (.ref da), .val (.ref lb), .val (.int tt), .val (.int (15 : Int32)), .val (.int (Int32.ofNat q)), s5] [])) t := fun t k => pre7 _ (st9 _ k)
  have pre11 : ∀ t, Steps p.tables e below (T9.setTop (mkF m 108 #[.val (.ref da), .val (.ref lb), .val (.int tt), .val (.int (15 : Int32)), .val (.int (Int32.ofNat q)), s5] [(.ref da)])) t → Steps p.tables e below (T0.setTop (mkF m 94 #[.val (.ref da), .val (.ref lb), .val (.int tt), .val (.int (15 : Int32)), .val (.int (Int32.ofNat q)), s5] [])) t := fun t k => pre10 _ (by
    refine XS.aloadN X9.here hx rfl (hb hby own_d_prog_35_method_3_107) rfl rfl ?_
    exact k)
  obtain ⟨T12, X12, e12, st12⟩ := getF X9 hx hZ hown (host := "") (Or.inl (hw _ (List.mem_of_getElem? (i := 36) rfl))) Via.refl e9 (S2.other W9 (Or.inl ne_da_sa)) (g := (mkF m 108 #[.val (.ref da), .val (.ref lb), .val (.int tt), .val (.int (15 : Int32)), .val (.int (Int32.ofNat q)), s5] [(.ref da)])) rfl rfl (hb hby own_d_prog_35_method_3_108)
  have pre13 : ∀ t, Steps p.tables e below (T12.setTop (mkF m 111 #[.val (.ref da), .val (.ref lb), .val (.int tt), .val (.int (15 : Int32)), .val (.int (Int32.ofNat q)), s5] [(.ref ta)])) t → Steps p.tables e below (T0.setTop (mkF m 94 #[.val (.ref da), .val (.ref lb), .val (.int tt), .val (.int (15 : Int32)), .val (.int (Int32.ofNat q)), s5] [])) t := fun t k => pre11 _ (st12 _ k)
  have pre14 : ∀ t, Steps p.tables e below (T12.setTop (mkF m 112 #[.val (.ref da), .val (.ref lb), .val (.int tt), .val (.int (15 : Int32)), .val (.int (Int32.ofNat q)), s5] [(.ref da), (.ref ta)])) t → Steps p.tables e below (T0.setTop (mkF m 94 #[.val (.ref da), .val (.ref lb), .val (.int tt), .val (.int (15 : Int32)), .val (.int (Int32.ofNat q)), s5] [])) t := fun t k => pre13 _ (by
    refine XS.aloadN X12.here hx rfl (hb hby own_d_prog_35_method_3_111) rfl rfl ?_
    exact k)
  obtain ⟨T15, X15, e15, st15⟩ := getF X12 hx hZ hown (host := "") (Or.inl (hw _ (List.mem_of_getElem? (i := 49) rfl))) Via.refl e12 (S5.other W9 (Or.inl ne_da_sa)) (g := (mkF m 112 #[.val (.ref da), .val (.ref lb), .val (.int tt), .val (.int (15 : Int32)), .val (.int (Int32.ofNat q)), s5] [(.ref da), (.ref ta)])) rfl rfl (hb hby own_d_prog_35_method_3_112)
  have pre16 : ∀ t, Steps p.tables e below (T15.setTop (mkF m 115 #[.val (.ref da), .val (.ref lb), .val (.int tt), .val (.int (15 : Int32)), .val (.int (Int32.ofNat q)), s5] [(.int (1 : Int32)), (.ref ta)])) t → Steps p.tables e below (T0.setTop (mkF m 94 #[.val (.ref da), .val (.ref lb), .val (.int tt), .val (.int (15 : Int32)), .val (.int (Int32.ofNat q)), s5] [])) t := fun t k => pre14 _ (st15 _ k)
  have pre17 : ∀ t, Steps p.tables e below (T15.setTop (mkF m 116 #[.val (.ref da), .val (.ref lb), .val (.int tt), .val (.int (15 : Int32)), .val (.int (Int32.ofNat q)), s5] [(.int tt), (.int (1 : Int32)), (.ref ta)])) t → Steps p.tables e below (T0.setTop (mkF m 94 #[.val (.ref da), .val (.ref lb), .val (.int tt), .val (.int (15 : Int32)), .val (.int (Int32.ofNat q)), s5] [])) t := fun t k => pre16 _ (by
    refine XS.iloadN X15.here hx rfl (hb hby own_d_prog_35_method_3_115) rfl ?_
    exact k)
  obtain ⟨cl18, Ar18, qc18, Sz18, Mz18, Hs18, Uf18⟩ := (show Arv Z h9 ta kb .int (8 : Int32) (own_ti Tf 8) (.int (0 : Int32)) from (V2.other W9 ne_sa_ta.symm))
  have in19 : ¬ ((1 : Int32) < 0 ∨ cl18.slots.size ≤ ((1 : Int32)).toNatClampNeg) := inb_of Sz18 (by decide)
  obtain ⟨T19, h19, X19, e19, W19, st19⟩ := stI X15 hx hZ e15 Ar18 (j := (1 : Int32)) in19 (g := (mkF m 116 #[.val (.ref da), .val (.ref lb), .val (.int tt), .val (.int (15 : Int32)), .val (.int (Int32.ofNat q)), s5] [(.int tt), (.int (1 : Int32)), (.ref ta)])) rfl rfl (hb hby own_d_prog_35_method_3_116)
  have N19 := Fr.snoc X19 N9 ge_ta
  have Z19 : n0 ≤ h19.size := Nat.le_trans Z9 (Keep.of_wr W19).1
  have V19 := Arv.set Ar18 qc18 Sz18 Mz18 Hs18 Uf18 (v := (.int tt)) rfl W19 1 (by decide) (by rw [own_ti_len]; exact (by decide))
  rw [own_ti_set] at V19
  have Va19 : Arv Z h19 ta kb .int (8 : Int32) (own_ti (own_up Tf 1 tt) 8) (.int (0 : Int32)) := V19
  have pre20 : ∀ t, Steps p.tables e below (T19.setTop (mkF m 117 #[.val (.ref da), .val (.ref lb), .val (.int tt), .val (.int (15 : Int32)), .val (.int (Int32.ofNat q)), s5] [])) t → Steps p.tables e below (T0.setTop (mkF m 94 #[.val (.ref da), .val (.ref lb), .val (.int tt), .val (.int (15 : Int32)), .val (.int (Int32.ofNat q)), s5] [])) t := fun t k => pre17 _ (st19 _ k)
  have pre21 : ∀ t, Steps p.tables e below (T19.setTop (mkF m 118 #[.val (.ref da), .val (.ref lb), .val (.int tt), .val (.int (15 : Int32)), .val (.int (Int32.ofNat q)), s5] [(.ref da)])) t → Steps p.tables e below (T0.setTop (mkF m 94 #[.val (.ref da), .val (.ref lb), .val (.int tt), .val (.int (15 : Int32)), .val (.int (Int32.ofNat q)), s5] [])) t := fun t k => pre20 _ (by
    refine XS.aloadN X19.here hx rfl (hb hby own_d_prog_35_method_3_117) rfl rfl ?_
    exact k)
  obtain ⟨T22, X22, e22, st22⟩ := getF X19 hx hZ hown (host := "") (Or.inl (hw _ (List.mem_of_getElem? (i := 40) rfl))) Via.refl e19 ((S3.other W9 (Or.inl ne_da_sa)).other W19 (Or.inl ne_da_ta)) (g := (mkF m 118 #[.val (.ref da), .val (.ref lb), .val (.int tt), .val (.int (15 : Int32)), .val (.int (Int32.ofNat q)), s5] [(.ref da)])) rfl rfl (hb hby own_d_prog_35_method_3_118)
  have pre23 : ∀ t, Steps p.tables e below (T22.setTop (mkF m 121 #[.val (.ref da), .val (.ref lb), .val (.int tt), .val (.int (15 : Int32)), .val (.int (Int32.ofNat q)), s5] [(.ref la)])) t → Steps p.tables e below (T0.setTop (mkF m 94 #[.val (.ref da), .val (.ref lb), .val (.int tt), .val (.int (15 : Int32)), .val (.int (Int32.ofNat q)), s5] [])) t := fun t k => pre21 _ (st22 _ k)
  have pre24 : ∀ t, Steps p.tables e below (T22.setTop (mkF m 122 #[.val (.ref da), .val (.ref lb), .val (.int tt), .val (.int (15 : Int32)), .val (.int (Int32.ofNat q)), s5] [(.ref da), (.ref la)])) t → Steps p.tables e below (T0.setTop (mkF m 94 #[.val (.ref da), .val (.ref lb), .val (.int tt), .val (.int (15 : Int32)), .val (.int (Int32.ofNat q)), s5] [])) t := fun t k => pre23 _ (by
    refine XS.aloadN X22.here hx rfl (hb hby own_d_prog_35_method_3_121) rfl rfl ?_
    exact k)
  obtain ⟨T25, X25, e25, st25⟩ := getF X22 hx hZ hown (host := "") (Or.inl (hw _ (List.mem_of_getElem? (i := 49) rfl))) Via.refl e22 ((S5.other W9 (Or.inl ne_da_sa)).other W19 (Or.inl ne_da_ta)) (g := (mkF m 122 #[.val (.ref da), .val (.ref lb), .val (.int tt), .val (.int (15 : Int32)), .val (.int (Int32.ofNat q)), s5] [(.ref da), (.ref la)])) rfl rfl (hb hby own_d_prog_35_method_3_122)
  have pre26 : ∀ t, Steps p.tables e below (T25.setTop (mkF m 125 #[.val (.ref da), .val (.ref lb), .val (.int tt), .val (.int (15 : Int32)), .val (.int (Int32.ofNat q)), s5] [(.int (1 : Int32)), (.ref la)])) t → Steps p.tables e below (T0.setTop (mkF m 94 #[.val (.ref da), .val (.ref lb), .val (.int tt), .val (.int (15 : Int32)), .val (.int (Int32.ofNat q)), s5] [])) t := fun t k => pre24 _ (st25 _ k)
  have pre27 : ∀ t, Steps p.tables e below (T25.setTop (mkF m 126 #[.val (.ref da), .val (.ref lb), .val (.int tt), .val (.int (15 : Int32)), .val (.int (Int32.ofNat q)), s5] [(.ref lb), (.int (1 : Int32)), (.ref la)])) t → Steps p.tables e below (T0.setTop (mkF m 94 #[.val (.ref da), .val (.ref lb), .val (.int tt), .val (.int (15 : Int32)), .val (.int (Int32.ofNat q)), s5] [])) t := fun t k => pre26 _ (by
    refine XS.aloadN X25.here hx rfl (hb hby own_d_prog_35_method_3_125) rfl rfl ?_
    exact k)
  obtain ⟨cl28, Ar28, qc28, Sz28, Mz28, Hs28, Uf28⟩ := (show Arv Z h19 la kc (.object "java/lang/String") (8 : Int32) (own_tab Lf 8) .null from ((V3.other W9 ne_sa_la.symm).other W19 ne_ta_la.symm))
  have in29 : ¬ ((1 : Int32) < 0 ∨ cl28.slots.size ≤ ((1 : Int32)).toNatClampNeg) := inb_of Sz28 (by decide)
  obtain ⟨T29, h29, X29, e29, W29, st29⟩ := stR X25 hx hZ e25 Ar28 (j := (1 : Int32)) (v := (.ref lb)) in29 rfl (Sto.ofV Ar28 qc28 OV (Ins.self ((SA.2.1.wr W9).wr W19))) (g := (mkF m 126 #[.val (.ref da), .val (.ref lb), .val (.int tt), .val (.int (15 : Int32)), .val (.int (Int32.ofNat q)), s5] [(.ref lb), (.int (1 : Int32)), (.ref la)])) rfl rfl (hb hby own_d_prog_35_method_3_126)
  have N29 := Fr.snoc X29 N19 ge_la
  have Z29 : n0 ≤ h29.size := Nat.le_trans Z19 (Keep.of_wr W29).1
  have V29 := Arv.set Ar28 qc28 Sz28 Mz28 Hs28 Uf28 (v := (.ref lb)) rfl W29 1 (by decide) (by rw [own_tab_len]; exact (by decide))
  rw [own_tabv_set] at V29
  have Va29 : Arv Z h29 la kc (.object "java/lang/String") (8 : Int32) (own_tab (own_upV Lf 1 (.ref lb)) 8) .null := V29
  have pre30 : ∀ t, Steps p.tables e below (T29.setTop (mkF m 127 #[.val (.ref da), .val (.ref lb), .val (.int tt), .val (.int (15 : Int32)), .val (.int (Int32.ofNat q)), s5] [])) t → Steps p.tables e below (T0.setTop (mkF m 94 #[.val (.ref da), .val (.ref lb), .val (.int tt), .val (.int (15 : Int32)), .val (.int (Int32.ofNat q)), s5] [])) t := fun t k => pre27 _ (st29 _ k)
  have pre31 : ∀ t, Steps p.tables e below (T29.setTop (mkF m 128 #[.val (.ref da), .val (.ref lb), .val (.int tt), .val (.int (15 : Int32)), .val (.int (Int32.ofNat q)), s5] [(.ref da)])) t → Steps p.tables e below (T0.setTop (mkF m 94 #[.val (.ref da), .val (.ref lb), .val (.int tt), .val (.int (15 : Int32)), .val (.int (Int32.ofNat q)), s5] [])) t := fun t k => pre30 _ (by
    refine XS.aloadN X29.here hx rfl (hb hby own_d_prog_35_method_3_127) rfl rfl ?_
    exact k)
  obtain ⟨T32, X32, e32, st32⟩ := getF X29 hx hZ hown (host := "") (Or.inl (hw _ (List.mem_of_getElem? (i := 42) rfl))) Via.refl e29 (((S4.other W9 (Or.inl ne_da_sa)).other W19 (Or.inl ne_da_ta)).other W29 (Or.inl ne_da_la)) (g := (mkF m 128 #[.val (.ref da), .val (.ref lb), .val (.int tt), .val (.int (15 : Int32)), .val (.int (Int32.ofNat q)), s5] [(.ref da)])) rfl rfl (hb hby own_d_prog_35_method_3_128)
  have pre33 : ∀ t, Steps p.tables e below (T32.setTop (mkF m 131 #[.val (.ref da), .val (.ref lb), .val (.int tt), .val (.int (15 : Int32)), .val (.int (Int32.ofNat q)), s5] [(.ref oa)])) t → Steps p.tables e below (T0.setTop (mkF m 94 #[.val (.ref da), .val (.ref lb), .val (.int tt), .val (.int (15 : Int32)), .val (.int (Int32.ofNat q)), s5] [])) t := fun t k => pre31 _ (st32 _ k)
  have pre34 : ∀ t, Steps p.tables e below (T32.setTop (mkF m 132 #[.val (.ref da), .val (.ref lb), .val (.int tt), .val (.int (15 : Int32)), .val (.int (Int32.ofNat q)), s5] [(.ref da), (.ref oa)])) t → Steps p.tables e below (T0.setTop (mkF m 94 #[.val (.ref da), .val (.ref lb), .val (.int tt), .val (.int (15 : Int32)), .val (.int (Int32.ofNat q)), s5] [])) t := fun t k => pre33 _ (by
    refine XS.aloadN X32.here hx rfl (hb hby own_d_prog_35_method_3_131) rfl rfl ?_
    exact k)
  obtain ⟨T35, X35, e35, st35⟩ := getF X32 hx hZ hown (host := "") (Or.inl (hw _ (List.mem_of_getElem? (i := 49) rfl))) Via.refl e32 (((S5.other W9 (Or.inl ne_da_sa)).other W19 (Or.inl ne_da_ta)).other W29 (Or.inl ne_da_la)) (g := (mkF m 132 #[.val (.ref da), .val (.ref lb), .val (.int tt), .val (.int (15 : Int32)), .val (.int (Int32.ofNat q)), s5] [(.ref da), (.ref oa)])) rfl rfl (hb hby own_d_prog_35_method_3_132)
  have pre36 : ∀ t, Steps p.tables e below (T35.setTop (mkF m 135 #[.val (.ref da), .val (.ref lb), .val (.int tt), .val (.int (15 : Int32)), .val (.int (Int32.ofNat q)), s5] [(.int (1 : Int32)), (.ref oa)])) t → Steps p.tables e below (T0.setTop (mkF m 94 #[.val (.ref da), .val (.ref lb), .val (.int tt), .val (.int (15 : Int32)), .val (.int (Int32.ofNat q)), s5] [])) t := fun t k => pre34 _ (st35 _ k)
  have pre37 : ∀ t, Steps p.tables e below (T35.setTop (mkF m 137 #[.val (.ref da), .val (.ref lb), .val (.int tt), .val (.int (15 : Int32)), .val (.int (Int32.ofNat q)), s5] [(.int (Int32.ofNat q)), (.int (1 : Int32)), (.ref oa)])) t → Steps p.tables e below (T0.setTop (mkF m 94 #[.val (.ref da), .val (.ref lb), .val (.int tt), .val (.int (15 : Int32)), .val (.int (Int32.ofNat q)), s5] [])) t := fun t k => pre36 _ (by
    refine XS.iload X35.here hx rfl (hb hby own_d_prog_35_method_3_135) rfl ?_
    exact k)
  obtain ⟨cl38, Ar38, qc38, Sz38, Mz38, Hs38, Uf38⟩ := (show Arv Z h29 oa kd .int (8 : Int32) (own_ti Of 8) (.int (0 : Int32)) from (((V4.other W9 ne_sa_oa.symm).other W19 ne_ta_oa.symm).other W29 ne_la_oa.symm))
  have in39 : ¬ ((1 : Int32) < 0 ∨ cl38.slots.size ≤ ((1 : Int32)).toNatClampNeg) := inb_of Sz38 (by decide)
  obtain ⟨T39, h39, X39, e39, W39, st39⟩ := stI X35 hx hZ e35 Ar38 (j := (1 : Int32)) in39 (g := (mkF m 137 #[.val (.ref da), .val (.ref lb), .val (.int tt), .val (.int (15 : Int32)), .val (.int (Int32.ofNat q)), s5] [(.int (Int32.ofNat q)), (.int (1 : Int32)), (.ref oa)])) rfl rfl (hb hby own_d_prog_35_method_3_137)
  have N39 := Fr.snoc X39 N29 ge_oa
  have Z39 : n0 ≤ h39.size := Nat.le_trans Z29 (Keep.of_wr W39).1
  have V39 := Arv.set Ar38 qc38 Sz38 Mz38 Hs38 Uf38 (v := (.int (Int32.ofNat q))) rfl W39 1 (by decide) (by rw [own_ti_len]; exact (by decide))
  rw [own_ti_set] at V39
  have Va39 : Arv Z h39 oa kd .int (8 : Int32) (own_ti (own_up Of 1 (Int32.ofNat q)) 8) (.int (0 : Int32)) := V39
  have pre40 : ∀ t, Steps p.tables e below (T39.setTop (mkF m 138 #[.val (.ref da), .val (.ref lb), .val (.int tt), .val (.int (15 : Int32)), .val (.int (Int32.ofNat q)), s5] [])) t → Steps p.tables e below (T0.setTop (mkF m 94 #[.val (.ref da), .val (.ref lb), .val (.int tt), .val (.int (15 : Int32)), .val (.int (Int32.ofNat q)), s5] [])) t := fun t k => pre37 _ (st39 _ k)
  have pre41 : ∀ t, Steps p.tables e below (T39.setTop (mkF m 140 #[.val (.ref da), .val (.ref lb), .val (.int tt), .val (.int (15 : Int32)), .val (.int (Int32.ofNat q)), s5] [(.ref da), (.ref da)])) t → Steps p.tables e below (T0.setTop (mkF m 94 #[.val (.ref da), .val (.ref lb), .val (.int tt), .val (.int (15 : Int32)), .val (.int (Int32.ofNat q)), s5] [])) t := fun t k => pre40 _ (by
    refine XS.aloadN X39.here hx rfl (hb hby own_d_prog_35_method_3_138) rfl rfl ?_
    refine XS.dup X39.here hx rfl (hb hby own_d_prog_35_method_3_139) rfl rfl ?_
    exact k)
  obtain ⟨T42, X42, e42, st42⟩ := getF X39 hx hZ hown (host := "") (Or.inl (hw _ (List.mem_of_getElem? (i := 49) rfl))) Via.refl e39 ((((S5.other W9 (Or.inl ne_da_sa)).other W19 (Or.inl ne_da_ta)).other W29 (Or.inl ne_da_la)).other W39 (Or.inl ne_da_oa)) (g := (mkF m 140 #[.val (.ref da), .val (.ref lb), .val (.int tt), .val (.int (15 : Int32)), .val (.int (Int32.ofNat q)), s5] [(.ref da), (.ref da)])) rfl rfl (hb hby own_d_prog_35_method_3_140)
  have pre43 : ∀ t, Steps p.tables e below (T42.setTop (mkF m 143 #[.val (.ref da), .val (.ref lb), .val (.int tt), .val (.int (15 : Int32)), .val (.int (Int32.ofNat q)), s5] [(.int (1 : Int32)), (.ref da)])) t → Steps p.tables e below (T0.setTop (mkF m 94 #[.val (.ref da), .val (.ref lb), .val (.int tt), .val (.int (15 : Int32)), .val (.int (Int32.ofNat q)), s5] [])) t := fun t k => pre41 _ (st42 _ k)
  have pre44 : ∀ t, Steps p.tables e below (T42.setTop (mkF m 145 #[.val (.ref da), .val (.ref lb), .val (.int tt), .val (.int (15 : Int32)), .val (.int (Int32.ofNat q)), s5] [(.int (2 : Int32)), (.ref da)])) t → Steps p.tables e below (T0.setTop (mkF m 94 #[.val (.ref da), .val (.ref lb), .val (.int tt), .val (.int (15 : Int32)), .val (.int (Int32.ofNat q)), s5] [])) t := fun t k => pre43 _ (by
    refine XT.iconstV X42.here hx rfl (1 : Int32) (hb hby own_d_prog_35_method_3_143) rfl ?_
    refine XS.iadd X42.here hx rfl (hb hby own_d_prog_35_method_3_144) rfl ?_
    exact k)
  obtain ⟨T45, h45, X45, e45, W45, st45⟩ := putF X42 hx hZ hown (host := "") (Or.inl (hw _ (List.mem_of_getElem? (i := 49) rfl))) Via.refl e42 ((((S5.other W9 (Or.inl ne_da_sa)).other W19 (Or.inl ne_da_ta)).other W29 (Or.inl ne_da_la)).other W39 (Or.inl ne_da_oa)) ((((SE.wr W9).wr W19).wr W29).wr W39) (Or.inl (hw _ (List.mem_of_getElem? (i := 50) rfl))) (hw _ (List.mem_of_getElem? (i := 27) rfl)) (ty := .int) (by decide) rfl rfl (g := (mkF m 145 #[.val (.ref da), .val (.ref lb), .val (.int tt), .val (.int (15 : Int32)), .val (.int (Int32.ofNat q)), s5] [(.int (2 : Int32)), (.ref da)])) rfl rfl (hb hby own_d_prog_35_method_3_145)
  have N45 := Fr.snoc X45 N39 ge_da
  have Z45 : n0 ≤ h45.size := Nat.le_trans Z39 (Keep.of_wr W45).1
  have F45 : Fld Z h45 da "com/example/erma/erma/analysis/DistinctSteps" "size" "I" (.int (2 : Int32)) := ((((S5.other W9 (Or.inl ne_da_sa)).other W19 (Or.inl ne_da_ta)).other W29 (Or.inl ne_da_la)).other W39 (Or.inl ne_da_oa)).same W45
  have pre46 : ∀ t, Steps p.tables e below (T45.setTop (mkF m 148 #[.val (.ref da), .val (.ref lb), .val (.int tt), .val (.int (15 : Int32)), .val (.int (Int32.ofNat q)), s5] [])) t → Steps p.tables e below (T0.setTop (mkF m 94 #[.val (.ref da), .val (.ref lb), .val (.int tt), .val (.int (15 : Int32)), .val (.int (Int32.ofNat q)), s5] [])) t := fun t k => pre44 _ (st45 _ k)
  have pre47 : ∀ t, Steps p.tables e below (T45.setTop (mkF m 149 #[.val (.ref da), .val (.ref lb), .val (.int tt), .val (.int (15 : Int32)), .val (.int (Int32.ofNat q)), s5] [(.int (1 : Int32))])) t → Steps p.tables e below (T0.setTop (mkF m 94 #[.val (.ref da), .val (.ref lb), .val (.int tt), .val (.int (15 : Int32)), .val (.int (Int32.ofNat q)), s5] [])) t := fun t k => pre46 _ (by
    refine XT.iconstV X45.here hx rfl (1 : Int32) (hb hby own_d_prog_35_method_3_148) rfl ?_
    exact k)
  exact ⟨T45, h45, _, #[.val (.ref da), .val (.ref lb), .val (.int tt), .val (.int (15 : Int32)), .val (.int (Int32.ofNat q)), s5], X45, e45, N45, Z45, ⟨((((((Keep.refl _ _).wr W9 (Or.inl (List.mem_of_getElem? (i := 1) rfl))).wr W19 (Or.inl (List.mem_of_getElem? (i := 2) rfl))).wr W29 (Or.inl (List.mem_of_getElem? (i := 3) rfl))).wr W39 (Or.inl (List.mem_of_getElem? (i := 4) rfl))).wr W45 (Or.inl (List.mem_of_getElem? (i := 0) rfl))), ⟨(((((SE.wr W9).wr W19).wr W29).wr W39).wr W45), (((((S1.other W9 (Or.inl ne_da_sa)).other W19 (Or.inl ne_da_ta)).other W29 (Or.inl ne_da_la)).other W39 (Or.inl ne_da_oa)).other W45 (Or.inr (slot_ne (C := "com/example/erma/erma/analysis/DistinctSteps") (Or.inl (hw _ (List.mem_of_getElem? (i := 35) rfl))) (Or.inl (hw _ (List.mem_of_getElem? (i := 50) rfl))) (by decide) (t := (.array .int)) (t' := .int) (by decide) (by decide)))), (((((S2.other W9 (Or.inl ne_da_sa)).other W19 (Or.inl ne_da_ta)).other W29 (Or.inl ne_da_la)).other W39 (Or.inl ne_da_oa)).other W45 (Or.inr (slot_ne (C := "com/example/erma/erma/analysis/DistinctSteps") (Or.inl (hw _ (List.mem_of_getElem? (i := 37) rfl))) (Or.inl (hw _ (List.mem_of_getElem? (i := 50) rfl))) (by decide) (t := (.array .int)) (t' := .int) (by decide) (by decide)))), (((((S3.other W9 (Or.inl ne_da_sa)).other W19 (Or.inl ne_da_ta)).other W29 (Or.inl ne_da_la)).other W39 (Or.inl ne_da_oa)).other W45 (Or.inr (slot_ne (C := "com/example/erma/erma/analysis/DistinctSteps") (Or.inl (hw _ (List.mem_of_getElem? (i := 41) rfl))) (Or.inl (hw _ (List.mem_of_getElem? (i := 50) rfl))) (by decide) (t := (.array (.object "java/lang/String"))) (t' := .int) (by decide) (by decide)))), (((((S4.other W9 (Or.inl ne_da_sa)).other W19 (Or.inl ne_da_ta)).other W29 (Or.inl ne_da_la)).other W39 (Or.inl ne_da_oa)).other W45 (Or.inr (slot_ne (C := "com/example/erma/erma/analysis/DistinctSteps") (Or.inl (hw _ (List.mem_of_getElem? (i := 43) rfl))) (Or.inl (hw _ (List.mem_of_getElem? (i := 50) rfl))) (by decide) (t := (.array .int)) (t' := .int) (by decide) (by decide)))), F45, ((((Va9.other W19 ne_sa_ta).other W29 ne_sa_la).other W39 ne_sa_oa).other W45 ne_da_sa.symm), (((Va19.other W29 ne_ta_la).other W39 ne_ta_oa).other W45 ne_da_ta.symm), ((Va29.other W39 ne_la_oa).other W45 ne_da_la.symm), (Va39.other W45 ne_da_oa.symm), OV, ge_da, o1, o2, o3, o4⟩⟩, pre47⟩
set_option maxRecDepth 65536 in
set_option maxHeartbeats 40000000 in
theorem own_ins2 {p : Program} {l : Launch} {e : Env} {s : State} {m : MethodId} {args : Array Value} {below : List Frame} {meth : Method} {c : Code} {T0 : State} {locs : List Loc} {Z : State} {a0 : Array Value} {h0 : Heap}  (da sa ta la oa : Addr) (ka kb kc kd : ClassId) (Sf Tf Of : Nat → Int32) (Lf : Nat → Value) (lb : Addr) (tt xx : Int32) (q : Nat) (s5 : Slot) (n0 : Nat)
    (X0 : Stand p l e ({ frames := 2, cells := 0, slots := 0, locals := 40 } : Room) s m args below meth c T0 locs 0 0) (hx : p.tables.exec = Jvm.exec) (hZ : Z.Warmed39 s.vm) (hw : ∀ d ∈ tables_1, d.before a0 Z = true) (hby : c.code = prog_35_method_3_code) (hml : c.maxLocals = 6) (hown : s.vm.findClass "com/example/erma/erma/analysis/DistinctSteps" = some m.cls) (e0 : T0.heap = h0) (Z0 : n0 ≤ h0.size) (N0 : Fr n0 locs) (HS : own_St Z h0 n0 da sa ta la oa ka kb kc kd Sf Tf Of Lf (2 : Int32)) (hq : q < 16) (SA : own_Str Z h0 da lb xx) :
    ∃ (T' : State) (h' : Heap) (locs' : List Loc) (Ls : Array Slot) , Stand p l e ({ frames := 2, cells := 0, slots := 0, locals := 40 } : Room) s m args below meth c T' locs' 0 0 ∧ T'.heap = h' ∧ Fr n0 locs' ∧ n0 ≤ h'.size ∧ (Keep h0 h' [da, sa, ta, la, oa] ∧ own_St Z h' n0 da sa ta la oa ka kb kc kd (own_up Sf q (3 : Int32)) (own_up Tf 2 tt) (own_up Of 2 (Int32.ofNat q)) (own_upV Lf 2 (.ref lb)) (3 : Int32)) ∧
      ∀ t, Steps p.tables e below (T'.setTop (mkF m 149 Ls [(.int (1 : Int32))])) t → Steps p.tables e below (T0.setTop (mkF m 94 #[.val (.ref da), .val (.ref lb), .val (.int tt), .val (.int (15 : Int32)), .val (.int (Int32.ofNat q)), s5] [])) t := by
  have pre0 : ∀ t, Steps p.tables e below (T0.setTop (mkF m 94 #[.val (.ref da), .val (.ref lb), .val (.int tt), .val (.int (15 : Int32)), .val (.int (Int32.ofNat q)), s5] [])) t → Steps p.tables e below (T0.setTop (mkF m 94 #[.val (.ref da), .val (.ref lb), .val (.int tt), .val (.int (15 : Int32)), .val (.int (Int32.ofNat q)), s5] [])) t := fun t k => k
  obtain ⟨SE, S1, S2, S3, S4, S5, V1, V2, V3, V4, OV, ge_da, o1, o2, o3, o4⟩ := HS
  have lt_da_sa : da < sa := o1
  have ne_da_sa : da ≠ sa := Nat.ne_of_lt lt_da_sa
  have lt_da_ta : da < ta := Nat.lt_trans lt_da_sa o2
  have ne_da_ta : da ≠ ta := Nat.ne_of_lt lt_da_ta
  have lt_da_la : da < la := Nat.lt_trans lt_da_ta o3
  have ne_da_la : da ≠ la := Nat.ne_of_lt lt_da_la
  have lt_da_oa : da < oa := Nat.lt_trans lt_da_la o4
  have ne_da_oa : da ≠ oa := Nat.ne_of_lt lt_da_oa
  have lt_sa_ta : sa < ta := o2
  have ne_sa_ta : sa ≠ ta := Nat.ne_of_lt lt_sa_ta
  have lt_sa_la : sa < la := Nat.lt_trans lt_sa_ta o3
  have ne_sa_la : sa ≠ la := Nat.ne_of_lt lt_sa_la
  have lt_sa_oa : sa < oa := Nat.lt_trans lt_sa_la o4
  have ne_sa_oa : sa ≠ oa := Nat.ne_of_lt lt_sa_oa
  have lt_ta_la : ta < la := o3
  have ne_ta_la : ta ≠ la := Nat.ne_of_lt lt_ta_la
  have lt_ta_oa : ta < oa := Nat.lt_trans lt_ta_la o4
  have ne_ta_oa : ta ≠ oa := Nat.ne_of_lt lt_ta_oa
  have lt_la_oa : la < oa := o4
  have ne_la_oa : la ≠ oa := Nat.ne_of_lt lt_la_oa
  have ge_sa : n0 ≤ sa := Nat.le_trans ge_da (Nat.le_of_lt lt_da_sa)
  have ge_ta : n0 ≤ ta := Nat.le_trans ge_da (Nat.le_of_lt lt_da_ta)
  have ge_la : n0 ≤ la := Nat.le_trans ge_da (Nat.le_of_lt lt_da_la)
  have ge_oa : n0 ≤ oa := Nat.le_trans ge_da (Nat.le_of_lt lt_da_oa)
  have pre1 : ∀ t, Steps p.tables e below (T0.setTop (mkF m 95 #[.val (.ref da), .val (.ref lb), .val (.int tt), .val (.int (15 : Int32)), .val (.int (Int32.ofNat q)), s5] [(.ref da)])) t → Steps p.tables e below (T0.setTop (mkF m 94 #[.val (.ref da), .val (.ref lb), .val (.int tt), .val (.int (15 : Int32)), .val (.int (Int32.ofNat q)), s5] [])) t := fun t k => pre0 _ (by
    refine XS.aloadN X0.here hx rfl (hb hby own_d_prog_35_method_3_94) rfl rfl ?_
    exact k)
  obtain ⟨T2, X2, e2, st2⟩ := getF X0 hx hZ hown (host := "") (Or.inl (hw _ (List.mem_of_getElem? (i := 34) rfl))) Via.refl e0 S1 (g := (mkF m 95 #[.val (.ref da), .val (.ref lb), .val (.int tt), .val (.int (15 : Int32)), .val (.int (Int32.ofNat q)), s5] [(.ref da)])) rfl rfl (hb hby own_d_prog_35_method_3_95)
  have pre3 : ∀ t, Steps p.tables e below (T2.setTop (mkF m 98 #[.val (.ref da), .val (.ref lb), .val (.int tt), .val (.int (15 : Int32)), .val (.int (Int32.ofNat q)), s5] [(.ref sa)])) t → Steps p.tables e below (T0.setTop (mkF m 94 #[.val (.ref da), .val (.ref lb), .val (.int tt), .val (.int (15 : Int32)), .val (.int (Int32.ofNat q)), s5] [])) t := fun t k => pre1 _ (st2 _ k)
  have pre4 : ∀ t, Steps p.tables e below (T2.setTop (mkF m 101 #[.val (.ref da), .val (.ref lb), .val (.int tt), .val (.int (15 : Int32)), .val (.int (Int32.ofNat q)), s5] [(.ref da), (.int (Int32.ofNat q)), (.ref sa)])) t → Steps p.tables e below (T0.setTop (mkF m 94 #[.val (.ref da), .val (.ref lb), .val (.int tt), .val (.int (15 : Int32)), .val (.int (Int32.ofNat q)), s5] [])) t := fun t k => pre3 _ (by
    refine XS.iload X2.here hx rfl (hb hby own_d_prog_35_method_3_98) rfl ?_
    refine XS.aloadN X2.here hx rfl (hb hby own_d_prog_35_method_3_100) rfl rfl ?_
    exact k)
  obtain ⟨T5, X5, e5, st5⟩ := getF X2 hx hZ hown (host := "") (Or.inl (hw _ (List.mem_of_getElem? (i := 49) rfl))) Via.refl e2 S5 (g := (mkF m 101 #[.val (.ref da), .val (.ref lb), .val (.int tt), .val (.int (15 : Int32)), .val (.int (Int32.ofNat q)), s5] [(.ref da), (.int (Int32.ofNat q)), (.ref sa)])) rfl rfl (hb hby own_d_prog_35_method_3_101)
  have pre6 : ∀ t, Steps p.tables e below (T5.setTop (mkF m 104 #[.val (.ref da), .val (.ref lb), .val (.int tt), .val (.int (15 : Int32)), .val (.int (Int32.ofNat q)), s5] [(.int (2 : Int32)), (.int (Int32.ofNat q)), (.ref sa)])) t → Steps p.tables e below (T0.setTop (mkF m 94 #[.val (.ref da), .val (.ref lb), .val (.int tt), .val (.int (15 : Int32)), .val (.int (Int32.ofNat q)), s5] [])) t := fun t k => pre4 _ (st5 _ k)
  have pre7 : ∀ t, Steps p.tables e below (T5.setTop (mkF m 106 #[.val (.ref da), .val (.ref lb), .val (.int tt), .val (.int (15 : Int32)), .val (.int (Int32.ofNat q)), s5] [(.int (3 : Int32)), (.int (Int32.ofNat q)), (.ref sa)])) t → Steps p.tables e below (T0.setTop (mkF m 94 #[.val (.ref da), .val (.ref lb), .val (.int tt), .val (.int (15 : Int32)), .val (.int (Int32.ofNat q)), s5] [])) t := fun t k => pre6 _ (by
    refine XT.iconstV X5.here hx rfl (1 : Int32) (hb hby own_d_prog_35_method_3_104) rfl ?_
    refine XS.iadd X5.here hx rfl (hb hby own_d_prog_35_method_3_105) rfl ?_
    exact k)
  obtain ⟨cl8, Ar8, qc8, Sz8, Mz8, Hs8, Uf8⟩ := (show Arv Z h0 sa ka .int (16 : Int32) (own_ti Sf 16) (.int (0 : Int32)) from V1)
  have in9 : ¬ ((Int32.ofNat q) < 0 ∨ cl8.slots.size ≤ ((Int32.ofNat q)).toNatClampNeg) := own_inb Sz8 (N := 16) (by decide) hq (Nat.le_trans (Nat.le_of_lt hq) (by decide))
  obtain ⟨T9, h9, X9, e9, W9, st9⟩ := stI X5 hx hZ e5 Ar8 (j := (Int32.ofNat q)) in9 (g := (mkF m 106 #[.val (.ref da), .val (.ref lb), .val (.int tt), .val (.int (15 : Int32)), .val (.int (Int32.ofNat q)), s5] [(.int (3 : Int32)), (.int (Int32.ofNat q)), (.ref sa)])) rfl rfl (hb hby own_d_prog_35_method_3_106)
  have N9 := Fr.snoc X9 N0 ge_sa
  have Z9 : n0 ≤ h9.size := Nat.le_trans Z0 (Keep.of_wr W9).1
  have V9 := Arv.set Ar8 qc8 Sz8 Mz8 Hs8 Uf8 (v := (.int (3 : Int32))) rfl W9 q (by rw [own_n32 (Nat.le_trans (Nat.le_of_lt hq) (by decide))]) (by rw [own_ti_len]; exact hq)
  rw [own_ti_set] at V9
  have Va9 : Arv Z h9 sa ka .int (16 : Int32) (own_ti (own_up Sf q (3 : Int32)) 16) (.int (0 : Int32)) := V9
  have pre10 : ∀ t, Steps p.tables e below (T9.setTop (mkF m 107 #[.val (.ref da), .val (.ref lb), .val (.int tt), .val (.int (15 : Int32)), .val (.int (Int32.ofNat q)), s5] [])) t → Steps p.tables e below (T0.setTop (mkF m 94 #[.val (.ref da), .val (.ref lb), .val (.int tt), .val (.int (15 : Int32)), .val (.int (Int32.ofNat q)), s5] [])) t := fun t k => pre7 _ (st9 _ k)
  have pre11 : ∀ t, Steps p.tables e below (T9.setTop (mkF m 108 #[.val (.ref da), .val (.ref lb), .val (.int tt), .val (.int (15 : Int32)), .val (.int (Int32.ofNat q)), s5] [(.ref da)])) t → Steps p.tables e below (T0.setTop (mkF m 94 #[.val (.ref da), .val (.ref lb), .val (.int tt), .val (.int (15 : Int32)), .val (.int (Int32.ofNat q)), s5] [])) t := fun t k => pre10 _ (by
    refine XS.aloadN X9.here hx rfl (hb hby own_d_prog_35_method_3_107) rfl rfl ?_
    exact k)
  obtain ⟨T12, X12, e12, st12⟩ := getF X9 hx hZ hown (host := "") (Or.inl (hw _ (List.mem_of_getElem? (i := 36) rfl))) Via.refl e9 (S2.other W9 (Or.inl ne_da_sa)) (g := (mkF m 108 #[.val (.ref da), .val (.ref lb), .val (.int tt), .val (.int (15 : Int32)), .val (.int (Int32.ofNat q)), s5] [(.ref da)])) rfl rfl (hb hby own_d_prog_35_method_3_108)
  have pre13 : ∀ t, Steps p.tables e below (T12.setTop (mkF m 111 #[.val (.ref da), .val (.ref lb), .val (.int tt), .val (.int (15 : Int32)), .val (.int (Int32.ofNat q)), s5] [(.ref ta)])) t → Steps p.tables e below (T0.setTop (mkF m 94 #[.val (.ref da), .val (.ref lb), .val (.int tt), .val (.int (15 : Int32)), .val (.int (Int32.ofNat q)), s5] [])) t := fun t k => pre11 _ (st12 _ k)
  have pre14 : ∀ t, Steps p.tables e below (T12.setTop (mkF m 112 #[.val (.ref da), .val (.ref lb), .val (.int tt), .val (.int (15 : Int32)), .val (.int (Int32.ofNat q)), s5] [(.ref da), (.ref ta)])) t → Steps p.tables e below (T0.setTop (mkF m 94 #[.val (.ref da), .val (.ref lb), .val (.int tt), .val (.int (15 : Int32)), .val (.int (Int32.ofNat q)), s5] [])) t := fun t k => pre13 _ (by
    refine XS.aloadN X12.here hx rfl (hb hby own_d_prog_35_method_3_111) rfl rfl ?_
    exact k)
  obtain ⟨T15, X15, e15, st15⟩ := getF X12 hx hZ hown (host := "") (Or.inl (hw _ (List.mem_of_getElem? (i := 49) rfl))) Via.refl e12 (S5.other W9 (Or.inl ne_da_sa)) (g := (mkF m 112 #[.val (.ref da), .val (.ref lb), .val (.int tt), .val (.int (15 : Int32)), .val (.int (Int32.ofNat q)), s5] [(.ref da), (.ref ta)])) rfl rfl (hb hby own_d_prog_35_method_3_112)
  have pre16 : ∀ t, Steps p.tables e below (T15.setTop (mkF m 115 #[.val (.ref da), .val (.ref lb), .val (.int tt), .val (.int (15 : Int32)), .val (.int (Int32.ofNat q)), s5] [(.int (2 : Int32)), (.ref ta)])) t → Steps p.tables e below (T0.setTop (mkF m 94 #[.val (.ref da), .val (.ref lb), .val (.int tt), .val (.int (15 : Int32)), .val (.int (Int32.ofNat q)), s5] [])) t := fun t k => pre14 _ (st15 _ k)
  have pre17 : ∀ t, Steps p.tables e below (T15.setTop (mkF m 116 #[.val (.ref da), .val (.ref lb), .val (.int tt), .val (.int (15 : Int32)), .val (.int (Int32.ofNat q)), s5] [(.int tt), (.int (2 : Int32)), (.ref ta)])) t → Steps p.tables e below (T0.setTop (mkF m 94 #[.val (.ref da), .val (.ref lb), .val (.int tt), .val (.int (15 : Int32)), .val (.int (Int32.ofNat q)), s5] [])) t := fun t k => pre16 _ (by
    refine XS.iloadN X15.here hx rfl (hb hby own_d_prog_35_method_3_115) rfl ?_
    exact k)
  obtain ⟨cl18, Ar18, qc18, Sz18, Mz18, Hs18, Uf18⟩ := (show Arv Z h9 ta kb .int (8 : Int32) (own_ti Tf 8) (.int (0 : Int32)) from (V2.other W9 ne_sa_ta.symm))
  have in19 : ¬ ((2 : Int32) < 0 ∨ cl18.slots.size ≤ ((2 : Int32)).toNatClampNeg) := inb_of Sz18 (by decide)
  obtain ⟨T19, h19, X19, e19, W19, st19⟩ := stI X15 hx hZ e15 Ar18 (j := (2 : Int32)) in19 (g := (mkF m 116 #[.val (.ref da), .val (.ref lb), .val (.int tt), .val (.int (15 : Int32)), .val (.int (Int32.ofNat q)), s5] [(.int tt), (.int (2 : Int32)), (.ref ta)])) rfl rfl (hb hby own_d_prog_35_method_3_116)
  have N19 := Fr.snoc X19 N9 ge_ta
  have Z19 : n0 ≤ h19.size := Nat.le_trans Z9 (Keep.of_wr W19).1
  have V19 := Arv.set Ar18 qc18 Sz18 Mz18 Hs18 Uf18 (v := (.int tt)) rfl W19 2 (by decide) (by rw [own_ti_len]; exact (by decide))
  rw [own_ti_set] at V19
  have Va19 : Arv Z h19 ta kb .int (8 : Int32) (own_ti (own_up Tf 2 tt) 8) (.int (0 : Int32)) := V19
  have pre20 : ∀ t, Steps p.tables e below (T19.setTop (mkF m 117 #[.val (.ref da), .val (.ref lb), .val (.int tt), .val (.int (15 : Int32)), .val (.int (Int32.ofNat q)), s5] [])) t → Steps p.tables e below (T0.setTop (mkF m 94 #[.val (.ref da), .val (.ref lb), .val (.int tt), .val (.int (15 : Int32)), .val (.int (Int32.ofNat q)), s5] [])) t := fun t k => pre17 _ (st19 _ k)
  have pre21 : ∀ t, Steps p.tables e below (T19.setTop (mkF m 118 #[.val (.ref da), .val (.ref lb), .val (.int tt), .val (.int (15 : Int32)), .val (.int (Int32.ofNat q)), s5] [(.ref da)])) t → Steps p.tables e below (T0.setTop (mkF m 94 #[.val (.ref da), .val (.ref lb), .val (.int tt), .val (.int (15 : Int32)), .val (.int (Int32.ofNat q)), s5] [])) t := fun t k => pre20 _ (by
    refine XS.aloadN X19.here hx rfl (hb hby own_d_prog_35_method_3_117) rfl rfl ?_
    exact k)
  obtain ⟨T22, X22, e22, st22⟩ := getF X19 hx hZ hown (host := "") (Or.inl (hw _ (List.mem_of_getElem? (i := 40) rfl))) Via.refl e19 ((S3.other W9 (Or.inl ne_da_sa)).other W19 (Or.inl ne_da_ta)) (g := (mkF m 118 #[.val (.ref da), .val (.ref lb), .val (.int tt), .val (.int (15 : Int32)), .val (.int (Int32.ofNat q)), s5] [(.ref da)])) rfl rfl (hb hby own_d_prog_35_method_3_118)
  have pre23 : ∀ t, Steps p.tables e below (T22.setTop (mkF m 121 #[.val (.ref da), .val (.ref lb), .val (.int tt), .val (.int (15 : Int32)), .val (.int (Int32.ofNat q)), s5] [(.ref la)])) t → Steps p.tables e below (T0.setTop (mkF m 94 #[.val (.ref da), .val (.ref lb), .val (.int tt), .val (.int (15 : Int32)), .val (.int (Int32.ofNat q)), s5] [])) t := fun t k => pre21 _ (st22 _ k)
  have pre24 : ∀ t, Steps p.tables e below (T22.setTop (mkF m 122 #[.val (.ref da), .val (.ref lb), .val (.int tt), .val (.int (15 : Int32)), .val (.int (Int32.ofNat q)), s5] [(.ref da), (.ref la)])) t → Steps p.tables e below (T0.setTop (mkF m 94 #[.val (.ref da), .val (.ref lb), .val (.int tt), .val (.int (15 : Int32)), .val (.int (Int32.ofNat q)), s5] [])) t := fun t k => pre23 _ (by
    refine XS.aloadN X22.here hx rfl (hb hby own_d_prog_35_method_3_121) rfl rfl ?_
    exact k)
  obtain ⟨T25, X25, e25, st25⟩ := getF X22 hx hZ hown (host := "") (Or.inl (hw _ (List.mem_of_getElem? (i := 49) rfl))) Via.refl e22 ((S5.other W9 (Or.inl ne_da_sa)).other W19 (Or.inl ne_da_ta)) (g := (mkF m 122 #[.val (.ref da), .val (.ref lb), .val (.int tt), .val (.int (15 : Int32)), .val (.int (Int32.ofNat q)), s5] [(.ref da), (.ref la)])) rfl rfl (hb hby own_d_prog_35_method_3_122)
  have pre26 : ∀ t, Steps p.tables e below (T25.setTop (mkF m 125 #[.val (.ref da), .val (.ref lb), .val (.int tt), .val (.int (15 : Int32)), .val (.int (Int32.ofNat q)), s5] [(.int (2 : Int32)), (.ref la)])) t → Steps p.tables e below (T0.setTop (mkF m 94 #[.val (.ref da), .val (.ref lb), .val (.int tt), .val (.int (15 : Int32)), .val (.int (Int32.ofNat q)), s5] [])) t := fun t k => pre24 _ (st25 _ k)
  have pre27 : ∀ t, Steps p.tables e below (T25.setTop (mkF m 126 #[.val (.ref da), .val (.ref lb), .val (.int tt), .val (.int (15 : Int32)), .val (.int (Int32.ofNat q)), s5] [(.ref lb), (.int (2 : Int32)), (.ref la)])) t → Steps p.tables e below (T0.setTop (mkF m 94 #[.val (.ref da), .val (.ref lb), .val (.int tt), .val (.int (15 : Int32)), .val (.int (Int32.ofNat q)), s5] [])) t := fun t k => pre26 _ (by
    refine XS.aloadN X25.here hx rfl (hb hby own_d_prog_35_method_3_125) rfl rfl ?_
    exact k)
  obtain ⟨cl28, Ar28, qc28, Sz28, Mz28, Hs28, Uf28⟩ := (show Arv Z h19 la kc (.object "java/lang/String") (8 : Int32) (own_tab Lf 8) .null from ((V3.other W9 ne_sa_la.symm).other W19 ne_ta_la.symm))
  have in29 : ¬ ((2 : Int32) < 0 ∨ cl28.slots.size ≤ ((2 : Int32)).toNatClampNeg) := inb_of Sz28 (by decide)
  obtain ⟨T29, h29, X29, e29, W29, st29⟩ := stR X25 hx hZ e25 Ar28 (j := (2 : Int32)) (v := (.ref lb)) in29 rfl (Sto.ofV Ar28 qc28 OV (Ins.self ((SA.2.1.wr W9).wr W19))) (g := (mkF m 126 #[.val (.ref da), .val (.ref lb), .val (.int tt), .val (.int (15 : Int32)), .val (.int (Int32.ofNat q)), s5] [(.ref lb), (.int (2 : Int32)), (.ref la)])) rfl rfl (hb hby own_d_prog_35_method_3_126)
  have N29 := Fr.snoc X29 N19 ge_la
  have Z29 : n0 ≤ h29.size := Nat.le_trans Z19 (Keep.of_wr W29).1
  have V29 := Arv.set Ar28 qc28 Sz28 Mz28 Hs28 Uf28 (v := (.ref lb)) rfl W29 2 (by decide) (by rw [own_tab_len]; exact (by decide))
  rw [own_tabv_set] at V29
  have Va29 : Arv Z h29 la kc (.object "java/lang/String") (8 : Int32) (own_tab (own_upV Lf 2 (.ref lb)) 8) .null := V29
  have pre30 : ∀ t, Steps p.tables e below (T29.setTop (mkF m 127 #[.val (.ref da), .val (.ref lb), .val (.int tt), .val (.int (15 : Int32)), .val (.int (Int32.ofNat q)), s5] [])) t → Steps p.tables e below (T0.setTop (mkF m 94 #[.val (.ref da), .val (.ref lb), .val (.int tt), .val (.int (15 : Int32)), .val (.int (Int32.ofNat q)), s5] [])) t := fun t k => pre27 _ (st29 _ k)
  have pre31 : ∀ t, Steps p.tables e below (T29.setTop (mkF m 128 #[.val (.ref da), .val (.ref lb), .val (.int tt), .val (.int (15 : Int32)), .val (.int (Int32.ofNat q)), s5] [(.ref da)])) t → Steps p.tables e below (T0.setTop (mkF m 94 #[.val (.ref da), .val (.ref lb), .val (.int tt), .val (.int (15 : Int32)), .val (.int (Int32.ofNat q)), s5] [])) t := fun t k => pre30 _ (by
    refine XS.aloadN X29.here hx rfl (hb hby own_d_prog_35_method_3_127) rfl rfl ?_
    exact k)
  obtain ⟨T32, X32, e32, st32⟩ := getF X29 hx hZ hown (host := "") (Or.inl (hw _ (List.mem_of_getElem? (i := 42) rfl))) Via.refl e29 (((S4.other W9 (Or.inl ne_da_sa)).other W19 (Or.inl ne_da_ta)).other W29 (Or.inl ne_da_la)) (g := (mkF m 128 #[.val (.ref da), .val (.ref lb), .val (.int tt), .val (.int (15 : Int32)), .val (.int (Int32.ofNat q)), s5] [(.ref da)])) rfl rfl (hb hby own_d_prog_35_method_3_128)
  have pre33 : ∀ t, Steps p.tables e below (T32.setTop (mkF m 131 #[.val (.ref da), .val (.ref lb), .val (.int tt), .val (.int (15 : Int32)), .val (.int (Int32.ofNat q)), s5] [(.ref oa)])) t → Steps p.tables e below (T0.setTop (mkF m 94 #[.val (.ref da), .val (.ref lb), .val (.int tt), .val (.int (15 : Int32)), .val (.int (Int32.ofNat q)), s5] [])) t := fun t k => pre31 _ (st32 _ k)
  have pre34 : ∀ t, Steps p.tables e below (T32.setTop (mkF m 132 #[.val (.ref da), .val (.ref lb), .val (.int tt), .val (.int (15 : Int32)), .val (.int (Int32.ofNat q)), s5] [(.ref da), (.ref oa)])) t → Steps p.tables e below (T0.setTop (mkF m 94 #[.val (.ref da), .val (.ref lb), .val (.int tt), .val (.int (15 : Int32)), .val (.int (Int32.ofNat q)), s5] [])) t := fun t k => pre33 _ (by
    refine XS.aloadN X32.here hx rfl (hb hby own_d_prog_35_method_3_131) rfl rfl ?_
    exact k)
  obtain ⟨T35, X35, e35, st35⟩ := getF X32 hx hZ hown (host := "") (Or.inl (hw _ (List.mem_of_getElem? (i := 49) rfl))) Via.refl e32 (((S5.other W9 (Or.inl ne_da_sa)).other W19 (Or.inl ne_da_ta)).other W29 (Or.inl ne_da_la)) (g := (mkF m 132 #[.val (.ref da), .val (.ref lb), .val (.int tt), .val (.int (15 : Int32)), .val (.int (Int32.ofNat q)), s5] [(.ref da), (.ref oa)])) rfl rfl (hb hby own_d_prog_35_method_3_132)
  have pre36 : ∀ t, Steps p.tables e below (T35.setTop (mkF m 135 #[.val (.ref da), .val (.ref lb), .val (.int tt), .val (.int (15 : Int32)), .val (.int (Int32.ofNat q)), s5] [(.int (2 : Int32)), (.ref oa)])) t → Steps p.tables e below (T0.setTop (mkF m 94 #[.val (.ref da), .val (.ref lb), .val (.int tt), .val (.int (15 : Int32)), .val (.int (Int32.ofNat q)), s5] [])) t := fun t k => pre34 _ (st35 _ k)
  have pre37 : ∀ t, Steps p.tables e below (T35.setTop (mkF m 137 #[.val (.ref da), .val (.ref lb), .val (.int tt), .val (.int (15 : Int32)), .val (.int (Int32.ofNat q)), s5] [(.int (Int32.ofNat q)), (.int (2 : Int32)), (.ref oa)])) t → Steps p.tables e below (T0.setTop (mkF m 94 #[.val (.ref da), .val (.ref lb), .val (.int tt), .val (.int (15 : Int32)), .val (.int (Int32.ofNat q)), s5] [])) t := fun t k => pre36 _ (by
    refine XS.iload X35.here hx rfl (hb hby own_d_prog_35_method_3_135) rfl ?_
    exact k)
  obtain ⟨cl38, Ar38, qc38, Sz38, Mz38, Hs38, Uf38⟩ := (show Arv Z h29 oa kd .int (8 : Int32) (own_ti Of 8) (.int (0 : Int32)) from (((V4.other W9 ne_sa_oa.symm).other W19 ne_ta_oa.symm).other W29 ne_la_oa.symm))
  have in39 : ¬ ((2 : Int32) < 0 ∨ cl38.slots.size ≤ ((2 : Int32)).toNatClampNeg) := inb_of Sz38 (by decide)
  obtain ⟨T39, h39, X39, e39, W39, st39⟩ := stI X35 hx hZ e35 Ar38 (j := (2 : Int32)) in39 (g := (mkF m 137 #[.val (.ref da), .val (.ref lb), .val (.int tt), .val (.int (15 : Int32)), .val (.int (Int32.ofNat q)), s5] [(.int (Int32.ofNat q)), (.int (2 : Int32)), (.ref oa)])) rfl rfl (hb hby own_d_prog_35_method_3_137)
  have N39 := Fr.snoc X39 N29 ge_oa
  have Z39 : n0 ≤ h39.size := Nat.le_trans Z29 (Keep.of_wr W39).1
  have V39 := Arv.set Ar38 qc38 Sz38 Mz38 Hs38 Uf38 (v := (.int (Int32.ofNat q))) rfl W39 2 (by decide) (by rw [own_ti_len]; exact (by decide))
  rw [own_ti_set] at V39
  have Va39 : Arv Z h39 oa kd .int (8 : Int32) (own_ti (own_up Of 2 (Int32.ofNat q)) 8) (.int (0 : Int32)) := V39
  have pre40 : ∀ t, Steps p.tables e below (T39.setTop (mkF m 138 #[.val (.ref da), .val (.ref lb), .val (.int tt), .val (.int (15 : Int32)), .val (.int (Int32.ofNat q)), s5] [])) t → Steps p.tables e below (T0.setTop (mkF m 94 #[.val (.ref da), .val (.ref lb), .val (.int tt), .val (.int (15 : Int32)), .val (.int (Int32.ofNat q)), s5] [])) t := fun t k => pre37 _ (st39 _ k)
  have pre41 : ∀ t, Steps p.tables e below (T39.setTop (mkF m 140 #[.val (.ref da), .val (.ref lb), .val (.int tt), .val (.int (15 : Int32)), .val (.int (Int32.ofNat q)), s5] [(.ref da), (.ref da)])) t → Steps p.tables e below (T0.setTop (mkF m 94 #[.val (.ref da), .val (.ref lb), .val (.int tt), .val (.int (15 : Int32)), .val (.int (Int32.ofNat q)), s5] [])) t := fun t k => pre40 _ (by
    refine XS.aloadN X39.here hx rfl (hb hby own_d_prog_35_method_3_138) rfl rfl ?_
    refine XS.dup X39.here hx rfl (hb hby own_d_prog_35_method_3_139) rfl rfl ?_
    exact k)
  obtain ⟨T42, X42, e42, st42⟩ := getF X39 hx hZ hown (host := "") (Or.inl (hw _ (List.mem_of_getElem? (i := 49) rfl))) Via.refl e39 ((((S5.other W9 (Or.inl ne_da_sa)).other W19 (Or.inl ne_da_ta)).other W29 (Or.inl ne_da_la)).other W39 (Or.inl ne_da_oa)) (g := (mkF m 140 #[.val (.ref da), .val (.ref lb), .val (.int tt), .val (.int (15 : Int32)), .val (.int (Int32.ofNat q)), s5] [(.ref da), (.ref da)])) rfl rfl (hb hby own_d_prog_35_method_3_140)
  have pre43 : ∀ t, Steps p.tables e below (T42.setTop (mkF m 143 #[.val (.ref da), .val (.ref lb), .val (.int tt), .val (.int (15 : Int32)), .val (.int (Int32.ofNat q)), s5] [(.int (2 : Int32)), (.ref da)])) t → Steps p.tables e below (T0.setTop (mkF m 94 #[.val (.ref da), .val (.ref lb), .val (.int tt), .val (.int (15 : Int32)), .val (.int (Int32.ofNat q)), s5] [])) t := fun t k => pre41 _ (st42 _ k)
  have pre44 : ∀ t, Steps p.tables e below (T42.setTop (mkF m 145 #[.val (.ref da), .val (.ref lb), .val (.int tt), .val (.int (15 : Int32)), .val (.int (Int32.ofNat q)), s5] [(.int (3 : Int32)), (.ref da)])) t → Steps p.tables e below (T0.setTop (mkF m 94 #[.val (.ref da), .val (.ref lb), .val (.int tt), .val (.int (15 : Int32)), .val (.int (Int32.ofNat q)), s5] [])) t := fun t k => pre43 _ (by
    refine XT.iconstV X42.here hx rfl (1 : Int32) (hb hby own_d_prog_35_method_3_143) rfl ?_
    refine XS.iadd X42.here hx rfl (hb hby own_d_prog_35_method_3_144) rfl ?_
    exact k)
  obtain ⟨T45, h45, X45, e45, W45, st45⟩ := putF X42 hx hZ hown (host := "") (Or.inl (hw _ (List.mem_of_getElem? (i := 49) rfl))) Via.refl e42 ((((S5.other W9 (Or.inl ne_da_sa)).other W19 (Or.inl ne_da_ta)).other W29 (Or.inl ne_da_la)).other W39 (Or.inl ne_da_oa)) ((((SE.wr W9).wr W19).wr W29).wr W39) (Or.inl (hw _ (List.mem_of_getElem? (i := 50) rfl))) (hw _ (List.mem_of_getElem? (i := 27) rfl)) (ty := .int) (by decide) rfl rfl (g := (mkF m 145 #[.val (.ref da), .val (.ref lb), .val (.int tt), .val (.int (15 : Int32)), .val (.int (Int32.ofNat q)), s5] [(.int (3 : Int32)), (.ref da)])) rfl rfl (hb hby own_d_prog_35_method_3_145)
  have N45 := Fr.snoc X45 N39 ge_da
  have Z45 : n0 ≤ h45.size := Nat.le_trans Z39 (Keep.of_wr W45).1
  have F45 : Fld Z h45 da "com/example/erma/erma/analysis/DistinctSteps" "size" "I" (.int (3 : Int32)) := ((((S5.other W9 (Or.inl ne_da_sa)).other W19 (Or.inl ne_da_ta)).other W29 (Or.inl ne_da_la)).other W39 (Or.inl ne_da_oa)).same W45
  have pre46 : ∀ t, Steps p.tables e below (T45.setTop (mkF m 148 #[.val (.ref da), .val (.ref lb), .val (.int tt), .val (.int (15 : Int32)), .val (.int (Int32.ofNat q)), s5] [])) t → Steps p.tables e below (T0.setTop (mkF m 94 #[.val (.ref da), .val (.ref lb), .val (.int tt), .val (.int (15 : Int32)), .val (.int (Int32.ofNat q)), s5] [])) t := fun t k => pre44 _ (st45 _ k)
  have pre47 : ∀ t, Steps p.tables e below (T45.setTop (mkF m 149 #[.val (.ref da), .val (.ref lb), .val (.int tt), .val (.int (15 : Int32)), .val (.int (Int32.ofNat q)), s5] [(.int (1 : Int32))])) t → Steps p.tables e below (T0.setTop (mkF m 94 #[.val (.ref da), .val (.ref lb), .val (.int tt), .val (.int (15 : Int32)), .val (.int (Int32.ofNat q)), s5] [])) t := fun t k => pre46 _ (by
    refine XT.iconstV X45.here hx rfl (1 : Int32) (hb hby own_d_prog_35_method_3_148) rfl ?_
    exact k)
  exact ⟨T45, h45, _, #[.val (.ref da), .val (.ref lb), .val (.int tt), .val (.int (15 : Int32)), .val (.int (Int32.ofNat q)), s5], X45, e45, N45, Z45, ⟨((((((Keep.refl _ _).wr W9 (Or.inl (List.mem_of_getElem? (i := 1) rfl))).wr W19 (Or.inl (List.mem_of_getElem? (i := 2) rfl))).wr W29 (Or.inl (List.mem_of_getElem? (i := 3) rfl))).wr W39 (Or.inl (List.mem_of_getElem? (i := 4) rfl))).wr W45 (Or.inl (List.mem_of_getElem? (i := 0) rfl))), ⟨(((((SE.wr W9).wr W19).wr W29).wr W39).wr W45), (((((S1.other W9 (Or.inl ne_da_sa)).other W19 (Or.inl ne_da_ta)).other W29 (Or.inl ne_da_la)).other W39 (Or.inl ne_da_oa)).other W45 (Or.inr (slot_ne (C := "com/example/erma/erma/analysis/DistinctSteps") (Or.inl (hw _ (List.mem_of_getElem? (i := 35) rfl))) (Or.inl (hw _ (List.mem_of_getElem? (i := 50) rfl))) (by decide) (t := (.array .int)) (t' := .int) (by decide) (by decide)))), (((((S2.other W9 (Or.inl ne_da_sa)).other W19 (Or.inl ne_da_ta)).other W29 (Or.inl ne_da_la)).other W39 (Or.inl ne_da_oa)).other W45 (Or.inr (slot_ne (C := "com/example/erma/erma/analysis/DistinctSteps") (Or.inl (hw _ (List.mem_of_getElem? (i := 37) rfl))) (Or.inl (hw _ (List.mem_of_getElem? (i := 50) rfl))) (by decide) (t := (.array .int)) (t' := .int) (by decide) (by decide)))), (((((S3.other W9 (Or.inl ne_da_sa)).other W19 (Or.inl ne_da_ta)).other W29 (Or.inl ne_da_la)).other W39 (Or.inl ne_da_oa)).other W45 (Or.inr (slot_ne (C := "com/example/erma/erma/analysis/DistinctSteps") (Or.inl (hw _ (List.mem_of_getElem? (i := 41) rfl))) (Or.inl (hw _ (List.mem_of_getElem? (i := 50) rfl))) (by decide) (t := (.array (.object "java/lang/String"))) (t' := .int) (by decide) (by decide)))), (((((S4.other W9 (Or.inl ne_da_sa)).other W19 (Or.inl ne_da_ta)).other W29 (Or.inl ne_da_la)).other W39 (Or.inl ne_da_oa)).other W45 (Or.inr (slot_ne (C := "com/example/erma/erma/analysis/DistinctSteps") (Or.inl (hw _ (List.mem_of_getElem? (i := 43) rfl))) (Or.inl (hw _ (List.mem_of_getElem? (i := 50) rfl))) (by decide) (t := (.array .int)) (t' := .int) (by decide) (by decide)))), F45, ((((Va9.other W19 ne_sa_ta).other W29 ne_sa_la).other W39 ne_sa_oa).other W45 ne_da_sa.symm), (((Va19.other W29 ne_ta_la).other W39 ne_ta_oa).other W45 ne_da_ta.symm), ((Va29.other W39 ne_la_oa).other W45 ne_da_la.symm), (Va39.other W45 ne_da_oa.symm), OV, ge_da, o1, o2, o3, o4⟩⟩, pre47⟩
theorem own_ef_own_add0 (m : MethodId) (da : Addr) (lb : Addr) (tt : Int32) : entryFrame m #[(.ref da), (.ref lb), (.int tt)] 6 = mkF m 0 #[.val (.ref da), .val (.ref lb), .val (.int tt), .unset, .unset, .unset] [] := by first | (simp [entryFrame, mkF, argsToLocals, Value.category]; done) | rfl
def Q_own_add0 (Z : State) (da : Addr) (lb : Addr) (tt : Int32) (sa : Addr) (ta : Addr) (la : Addr) (oa : Addr) (ka : ClassId) (kb : ClassId) (kc : ClassId) (kd : ClassId) (Sf : Nat → Int32) (Tf : Nat → Int32) (Of : Nat → Int32) (Lf : Nat → Value) (xx : Int32) (cs : Int32) (h0 : Heap) (n0 : Nat) (v : Option Value) (h : Heap) (L : List Loc) : Prop := v = some (.int (1 : Int32)) ∧ Fr n0 L ∧ Keep h0 h [da, sa, ta, la, oa] ∧ ∃ (Sg Tg Og : Nat → Int32) (Lg : Nat → Value), own_St Z h n0 da sa ta la oa ka kb kc kd Sg Tg Og Lg (1 : Int32) ∧ own_I1 Z h da Sg Tg Og Lg tt xx
theorem own_d_prog_35_method_3_0 : decode prog_35_method_3_code 0 = .ok (.iconst 2, 1) := by decide +kernel
theorem own_d_prog_35_method_3_1 : decode prog_35_method_3_code 1 = .ok (.aload_n 0, 1) := by decide +kernel
theorem own_d_prog_35_method_3_2 : decode prog_35_method_3_code 2 = .ok (.getfield 25, 3) := by decide +kernel
theorem own_d_prog_35_method_3_5 : decode prog_35_method_3_code 5 = .ok (.iconst 1, 1) := by decide +kernel
theorem own_d_prog_35_method_3_6 : decode prog_35_method_3_code 6 = .ok (.iadd, 1) := by decide +kernel
theorem own_d_prog_35_method_3_7 : decode prog_35_method_3_code 7 = .ok (.imul, 1) := by decide +kernel
theorem own_d_prog_35_method_3_8 : decode prog_35_method_3_code 8 = .ok (.aload_n 0, 1) := by decide +kernel
theorem own_d_prog_35_method_3_9 : decode prog_35_method_3_code 9 = .ok (.getfield 7, 3) := by decide +kernel
theorem own_d_prog_35_method_3_12 : decode prog_35_method_3_code 12 = .ok (.arraylength, 1) := by decide +kernel
theorem own_d_prog_35_method_3_13 : decode prog_35_method_3_code 13 = .ok (.if_icmp .le 7, 3) := by decide +kernel
theorem own_d_prog_35_method_3_20 : decode prog_35_method_3_code 20 = .ok (.aload_n 0, 1) := by decide +kernel
theorem own_d_prog_35_method_3_21 : decode prog_35_method_3_code 21 = .ok (.getfield 7, 3) := by decide +kernel
theorem own_d_prog_35_method_3_24 : decode prog_35_method_3_code 24 = .ok (.arraylength, 1) := by decide +kernel
theorem own_d_prog_35_method_3_25 : decode prog_35_method_3_code 25 = .ok (.iconst 1, 1) := by decide +kernel
theorem own_d_prog_35_method_3_26 : decode prog_35_method_3_code 26 = .ok (.isub, 1) := by decide +kernel
theorem own_d_prog_35_method_3_27 : decode prog_35_method_3_code 27 = .ok (.istore_n 3, 1) := by decide +kernel
theorem own_d_prog_35_method_3_28 : decode prog_35_method_3_code 28 = .ok (.iload_n 2, 1) := by decide +kernel
theorem own_d_prog_35_method_3_29 : decode prog_35_method_3_code 29 = .ok (.iload_n 3, 1) := by decide +kernel
theorem own_pd__II_I : parseMethodDescriptor "(II)I" = some ⟨[.int, .int], some .int⟩ := by decide +kernel
theorem own_d_prog_35_method_3_30 : decode prog_35_method_3_code 30 = .ok (.invokestatic 32, 3) := by decide +kernel
theorem own_d_prog_35_method_3_33 : decode prog_35_method_3_code 33 = .ok (.istore 4, 2) := by decide +kernel
theorem own_d_prog_35_method_3_35 : decode prog_35_method_3_code 35 = .ok (.aload_n 0, 1) := by decide +kernel
theorem own_d_prog_35_method_3_36 : decode prog_35_method_3_code 36 = .ok (.getfield 7, 3) := by decide +kernel
theorem own_d_prog_35_method_3_39 : decode prog_35_method_3_code 39 = .ok (.iload 4, 2) := by decide +kernel
theorem own_d_prog_35_method_3_41 : decode prog_35_method_3_code 41 = .ok (.iaload, 1) := by decide +kernel
theorem own_d_prog_35_method_3_42 : decode prog_35_method_3_code 42 = .ok (.ifCond .eq 52, 3) := by decide +kernel
theorem own_d_prog_35_method_3_149 : decode prog_35_method_3_code 149 = .ok (.ireturn, 1) := by decide +kernel
set_option maxRecDepth 65536 in
set_option maxHeartbeats 40000000 in
theorem own_add0 (l : Launch) (Z : State) (a0 : Array Value) (hw : ∀ d ∈ tables_1, d.before a0 Z = true) (ws : List Jvm.Cond) (da : Addr) (lb : Addr) (tt : Int32) (sa : Addr) (ta : Addr) (la : Addr) (oa : Addr) (ka : ClassId) (kb : ClassId) (kc : ClassId) (kd : ClassId) (Sf : Nat → Int32) (Tf : Nat → Int32) (Of : Nat → Int32) (Lf : Nat → Value) (xx : Int32) (cs : Int32) (h0 : Heap) (n0 : Nat) (Z0 : n0 ≤ h0.size) (HS : own_St Z h0 n0 da sa ta la oa ka kb kc kd Sf Tf Of Lf (0 : Int32)) (HI : own_I0 Sf) (CS : Sta Z h0 "java/lang/String" "COMPACT_STRINGS" "Z" (.int cs)) (hcs : ¬ cs = 0) (SA : own_Str Z h0 da lb xx) :
    MetFree l (⟨"com/example/erma/erma/analysis/DistinctSteps", "add", "(Ljava/lang/String;I)Z"⟩ : MethodName) (head1 (Jvm.Cond.code (⟨"com/example/erma/erma/analysis/DistinctSteps", "add", "(Ljava/lang/String;I)Z"⟩ : MethodName) prog_35_method_3_code 6 (some .boolean) :: ws) ({ frames := 2, cells := 0, slots := 0, locals := 40 } : Room)) (fun a U => a = #[(.ref da), (.ref lb), (.int tt)] ∧ Z.Warmed39 U.vm ∧ U.heap = h0) (fun _ _ _ _ _ => True) (fun _ U o U' => ∃ v L, o = .returned v ∧ Q_own_add0 Z da lb tt sa ta la oa ka kb kc kd Sf Tf Of Lf xx cs h0 n0 v U'.heap L ∧ FrameEnd U o U' L ({ frames := 2, cells := 0, slots := 0, locals := 40 } : Room).cells ({ frames := 2, cells := 0, slots := 0, locals := 40 } : Room).slots) := by
  refine MetFree.of_bodySF (plainFor_of_name own_pn_com_example_erma_erma_analysis_DistinctSteps) hisR ?_
  intro p e s m args below meth c s₁ Bd hml0 hP hK
  obtain ⟨rfl, hZ, hh⟩ := hP
  have hx := Bd.exec
  have hby := Bd.bytes
  have hml : c.maxLocals = 6 := hml0
  have hown : s.vm.findClass "com/example/erma/erma/analysis/DistinctSteps" = some m.cls := findClass_of_methodNamed Bd.named
  have hnm := (name_of_methodNamed Bd.named Bd.method).1
  have X0 : Stand p l e ({ frames := 2, cells := 0, slots := 0, locals := 40 } : Room) s m #[(.ref da), (.ref lb), (.int tt)] below meth c s₁ [] 0 0 := Stand.of_body Bd
  have e0 : s₁.heap = h0 := by rw [← hh, Bd.state]; rfl
  have N0 := Fr.nil n0
  have pre0 : ∀ t, Steps p.tables e below (s₁.setTop (mkF m 0 #[.val (.ref da), .val (.ref lb), .val (.int tt), .unset, .unset, .unset] [])) t → Steps p.tables e below (s₁.setTop (entryFrame m #[(.ref da), (.ref lb), (.int tt)] 6)) t := fun t k => castTop (own_ef_own_add0 m da lb tt) k
  have HS0 := HS
  obtain ⟨SE, S1, S2, S3, S4, S5, V1, V2, V3, V4, OV, ge_da, o1, o2, o3, o4⟩ := HS
  have lt_da_sa : da < sa := o1
  have ne_da_sa : da ≠ sa := Nat.ne_of_lt lt_da_sa
  have lt_da_ta : da < ta := Nat.lt_trans lt_da_sa o2
  have ne_da_ta : da ≠ ta := Nat.ne_of_lt lt_da_ta
  have lt_da_la : da < la := Nat.lt_trans lt_da_ta o3
  have ne_da_la : da ≠ la := Nat.ne_of_lt lt_da_la
  have lt_da_oa : da < oa := Nat.lt_trans lt_da_la o4
  have ne_da_oa : da ≠ oa := Nat.ne_of_lt lt_da_oa
  have lt_sa_ta : sa < ta := o2
  have ne_sa_ta : sa ≠ ta := Nat.ne_of_lt lt_sa_ta
  have lt_sa_la : sa < la := Nat.lt_trans lt_sa_ta o3
  have ne_sa_la : sa ≠ la := Nat.ne_of_lt lt_sa_la
  have lt_sa_oa : sa < oa := Nat.lt_trans lt_sa_la o4
  have ne_sa_oa : sa ≠ oa := Nat.ne_of_lt lt_sa_oa
  have lt_ta_la : ta < la := o3
  have ne_ta_la : ta ≠ la := Nat.ne_of_lt lt_ta_la
  have lt_ta_oa : ta < oa := Nat.lt_trans lt_ta_la o4
  have ne_ta_oa : ta ≠ oa := Nat.ne_of_lt lt_ta_oa
  have lt_la_oa : la < oa := o4
  have ne_la_oa : la ≠ oa := Nat.ne_of_lt lt_la_oa
  have ge_sa : n0 ≤ sa := Nat.le_trans ge_da (Nat.le_of_lt lt_da_sa)
  have ge_ta : n0 ≤ ta := Nat.le_trans ge_da (Nat.le_of_lt lt_da_ta)
  have ge_la : n0 ≤ la := Nat.le_trans ge_da (Nat.le_of_lt lt_da_la)
  have ge_oa : n0 ≤ oa := Nat.le_trans ge_da (Nat.le_of_lt lt_da_oa)
  have hS := HI
  have pre1 : ∀ t, Steps p.tables e below (s₁.setTop (mkF m 2 #[.val (.ref da), .val (.ref lb), .val (.int tt), .unset, .unset, .unset] [(.ref da), (.int (2 : Int32))])) t → Steps p.tables e below (s₁.setTop (entryFrame m #[(.ref da), (.ref lb), (.int tt)] 6)) t := fun t k => pre0 _ (by
    refine XT.iconstV X0.here hx rfl (2 : Int32) (hb hby own_d_prog_35_method_3_0) rfl ?_
    refine XS.aloadN X0.here hx rfl (hb hby own_d_prog_35_method_3_1) rfl rfl ?_
    exact k)
  obtain ⟨T2, X2, e2, st2⟩ := getF X0 hx hZ hown (host := "") (Or.inl (hw _ (List.mem_of_getElem? (i := 49) rfl))) Via.refl e0 S5 (g := (mkF m 2 #[.val (.ref da), .val (.ref lb), .val (.int tt), .unset, .unset, .unset] [(.ref da), (.int (2 : Int32))])) rfl rfl (hb hby own_d_prog_35_method_3_2)
  have pre3 : ∀ t, Steps p.tables e below (T2.setTop (mkF m 5 #[.val (.ref da), .val (.ref lb), .val (.int tt), .unset, .unset, .unset] [(.int (0 : Int32)), (.int (2 : Int32))])) t → Steps p.tables e below (s₁.setTop (entryFrame m #[(.ref da), (.ref lb), (.int tt)] 6)) t := fun t k => pre1 _ (st2 _ k)
  have pre4 : ∀ t, Steps p.tables e below (T2.setTop (mkF m 9 #[.val (.ref da), .val (.ref lb), .val (.int tt), .unset, .unset, .unset] [(.ref da), (.int (2 : Int32))])) t → Steps p.tables e below (s₁.setTop (entryFrame m #[(.ref da), (.ref lb), (.int tt)] 6)) t := fun t k => pre3 _ (by
    refine XT.iconstV X2.here hx rfl (1 : Int32) (hb hby own_d_prog_35_method_3_5) rfl ?_
    refine XS.iadd X2.here hx rfl (hb hby own_d_prog_35_method_3_6) rfl ?_
    refine XS.imul X2.here hx rfl (hb hby own_d_prog_35_method_3_7) rfl ?_
    refine XS.aloadN X2.here hx rfl (hb hby own_d_prog_35_method_3_8) rfl rfl ?_
    exact k)
  obtain ⟨T5, X5, e5, st5⟩ := getF X2 hx hZ hown (host := "") (Or.inl (hw _ (List.mem_of_getElem? (i := 34) rfl))) Via.refl e2 S1 (g := (mkF m 9 #[.val (.ref da), .val (.ref lb), .val (.int tt), .unset, .unset, .unset] [(.ref da), (.int (2 : Int32))])) rfl rfl (hb hby own_d_prog_35_method_3_9)
  have pre6 : ∀ t, Steps p.tables e below (T5.setTop (mkF m 12 #[.val (.ref da), .val (.ref lb), .val (.int tt), .unset, .unset, .unset] [(.ref sa), (.int (2 : Int32))])) t → Steps p.tables e below (s₁.setTop (entryFrame m #[(.ref da), (.ref lb), (.int tt)] 6)) t := fun t k => pre4 _ (st5 _ k)
  obtain ⟨cl7, Ar7, qc7, Sz7, Mz7, Hs7, Uf7⟩ := (show Arv Z h0 sa ka .int (16 : Int32) (own_ti Sf 16) (.int (0 : Int32)) from V1)
  have pre8 : ∀ t, Steps p.tables e below (T5.setTop (mkF m 21 #[.val (.ref da), .val (.ref lb), .val (.int tt), .unset, .unset, .unset] [(.ref da)])) t → Steps p.tables e below (s₁.setTop (entryFrame m #[(.ref da), (.ref lb), (.int tt)] 6)) t := fun t k => pre6 _ (by
    refine X5.arraylength hx (by rw [e5]; exact Ar7.1) (State.isArrayOf_alike hZ.alike Ar7.2.1) (g := (mkF m 12 #[.val (.ref da), .val (.ref lb), .val (.int tt), .unset, .unset, .unset] [(.ref sa), (.int (2 : Int32))])) rfl rfl (hb hby own_d_prog_35_method_3_12) _ ?_
    rw [len_of Sz7 Mz7]
    refine XS.icmpYes X5.here hx rfl (pc0 := 13) (pc' := 20) rfl (hb hby own_d_prog_35_method_3_13) rfl (XT.ii_le_t (by decide)) (by decide) (by decide) ?_
    refine XS.aloadN X5.here hx rfl (hb hby own_d_prog_35_method_3_20) rfl rfl ?_
    exact k)
  obtain ⟨T9, X9, e9, st9⟩ := getF X5 hx hZ hown (host := "") (Or.inl (hw _ (List.mem_of_getElem? (i := 34) rfl))) Via.refl e5 S1 (g := (mkF m 21 #[.val (.ref da), .val (.ref lb), .val (.int tt), .unset, .unset, .unset] [(.ref da)])) rfl rfl (hb hby own_d_prog_35_method_3_21)
  have pre10 : ∀ t, Steps p.tables e below (T9.setTop (mkF m 24 #[.val (.ref da), .val (.ref lb), .val (.int tt), .unset, .unset, .unset] [(.ref sa)])) t → Steps p.tables e below (s₁.setTop (entryFrame m #[(.ref da), (.ref lb), (.int tt)] 6)) t := fun t k => pre8 _ (st9 _ k)
  obtain ⟨cl11, Ar11, qc11, Sz11, Mz11, Hs11, Uf11⟩ := (show Arv Z h0 sa ka .int (16 : Int32) (own_ti Sf 16) (.int (0 : Int32)) from V1)
  have pre12 : ∀ t, Steps p.tables e below (T9.setTop (mkF m 30 #[.val (.ref da), .val (.ref lb), .val (.int tt), .val (.int (15 : Int32)), .unset, .unset] [(.int (15 : Int32)), (.int tt)])) t → Steps p.tables e below (s₁.setTop (entryFrame m #[(.ref da), (.ref lb), (.int tt)] 6)) t := fun t k => pre10 _ (by
    refine X9.arraylength hx (by rw [e9]; exact Ar11.1) (State.isArrayOf_alike hZ.alike Ar11.2.1) (g := (mkF m 24 #[.val (.ref da), .val (.ref lb), .val (.int tt), .unset, .unset, .unset] [(.ref sa)])) rfl rfl (hb hby own_d_prog_35_method_3_24) _ ?_
    rw [len_of Sz11 Mz11]
    refine XT.iconstV X9.here hx rfl (1 : Int32) (hb hby own_d_prog_35_method_3_25) rfl ?_
    refine XS.isub X9.here hx rfl (hb hby own_d_prog_35_method_3_26) rfl ?_
    refine XS.istoreN X9.here hx rfl (hb hby own_d_prog_35_method_3_27) rfl (l' := #[.val (.ref da), .val (.ref lb), .val (.int tt), .val (.int (15 : Int32)), .unset, .unset]) rfl ?_
    refine XS.iloadN X9.here hx rfl (hb hby own_d_prog_35_method_3_28) rfl ?_
    refine XS.iloadN X9.here hx rfl (hb hby own_d_prog_35_method_3_29) rfl ?_
    exact k)
  obtain ⟨_, _, ⟨T13, L13, k13, n13⟩, -, X13, ⟨Lc13, hQ13, l13, y13, z13⟩, st13⟩ := Jvm.LawKit.callS X9 hx (y := (⟨"com/example/erma/erma/analysis/DistinctSteps", "slotFor", "(II)I"⟩ : MethodName)) hown (mvT hZ (hw _ (List.mem_of_getElem? (i := 61) rfl))) (mvT hZ (hw _ (List.mem_of_getElem? (i := 62) rfl))) (mvT hZ (hw _ (List.mem_of_getElem? (i := 28) rfl))) (mvT hZ (hw _ (List.mem_of_getElem? (i := 63) rfl))) (by decide) (backOf (W := 0) (own_slotFor l Z a0 hw [] tt h0 n0 Z0) hZ (hw _ (List.mem_of_getElem? (i := 63) rfl)) (hw _ (List.mem_of_getElem? (i := 28) rfl)) (by decide) (by decide)) (g := (mkF m 30 #[.val (.ref da), .val (.ref lb), .val (.int tt), .val (.int (15 : Int32)), .unset, .unset] [(.int (15 : Int32)), (.int tt)])) rfl (by rw [hml]; rfl) (argsL := [(.int tt), (.int (15 : Int32))]) (rest := []) (lenOf own_pd__II_I rfl) rfl (by show 2 * 0 + _ ≤ _; exact Nat.le_of_eq rfl) (hb hby own_d_prog_35_method_3_30) (fun _ _ => ⟨rfl, e9, (by decide : 0 + 0 ≤ _), (by decide : 0 + 0 ≤ _)⟩)
  dsimp only [Pt.U, Pt.locs, Pt.cells, Pt.slots] at X13 l13 y13 z13 st13 hQ13
  subst l13 y13 z13
  obtain ⟨rfl, N13q, e13⟩ := hQ13
  have N13 := Fr.app N0 N13q
  have pre14 : ∀ t, Steps p.tables e below (T13.setTop (mkF m 33 #[.val (.ref da), .val (.ref lb), .val (.int tt), .val (.int (15 : Int32)), .unset, .unset] [(.int (own_hs tt))])) t → Steps p.tables e below (s₁.setTop (entryFrame m #[(.ref da), (.ref lb), (.int tt)] 6)) t := fun t k => pre12 _ (st13 _ k)
  have pre15 : ∀ t, Steps p.tables e below (T13.setTop (mkF m 35 #[.val (.ref da), .val (.ref lb), .val (.int tt), .val (.int (15 : Int32)), .val (.int (own_hs tt)), .unset] [])) t → Steps p.tables e below (s₁.setTop (entryFrame m #[(.ref da), (.ref lb), (.int tt)] 6)) t := fun t k => pre14 _ (by
    refine XS.istore X13.here hx rfl (hb hby own_d_prog_35_method_3_33) rfl (l' := #[.val (.ref da), .val (.ref lb), .val (.int tt), .val (.int (15 : Int32)), .val (.int (own_hs tt)), .unset]) rfl ?_
    exact k)
  obtain ⟨q0, hq0⟩ : ∃ z, z = own_hn tt := ⟨_, rfl⟩
  have hlt0 : q0 < 16 := by rw [hq0]; exact (own_hs_n tt).1
  have hh : own_hs tt = Int32.ofNat q0 := by rw [hq0]; exact (own_hs_n tt).2
  have pre16 : ∀ t, Steps p.tables e below (T13.setTop (mkF m 35 #[.val (.ref da), .val (.ref lb), .val (.int tt), .val (.int (15 : Int32)), .val (.int (Int32.ofNat q0)), .unset] [])) t → Steps p.tables e below (s₁.setTop (entryFrame m #[(.ref da), (.ref lb), (.int tt)] 6)) t := fun t k => pre15 _ (by rw [← hh] at k; exact k)
  have pre17 : ∀ t, Steps p.tables e below (T13.setTop (mkF m 36 #[.val (.ref da), .val (.ref lb), .val (.int tt), .val (.int (15 : Int32)), .val (.int (Int32.ofNat q0)), .unset] [(.ref da)])) t → Steps p.tables e below (s₁.setTop (entryFrame m #[(.ref da), (.ref lb), (.int tt)] 6)) t := fun t k => pre16 _ (by
    refine XS.aloadN X13.here hx rfl (hb hby own_d_prog_35_method_3_35) rfl rfl ?_
    exact k)
  obtain ⟨T18, X18, e18, st18⟩ := getF X13 hx hZ hown (host := "") (Or.inl (hw _ (List.mem_of_getElem? (i := 34) rfl))) Via.refl e13 S1 (g := (mkF m 36 #[.val (.ref da), .val (.ref lb), .val (.int tt), .val (.int (15 : Int32)), .val (.int (Int32.ofNat q0)), .unset] [(.ref da)])) rfl rfl (hb hby own_d_prog_35_method_3_36)
  have pre19 : ∀ t, Steps p.tables e below (T18.setTop (mkF m 39 #[.val (.ref da), .val (.ref lb), .val (.int tt), .val (.int (15 : Int32)), .val (.int (Int32.ofNat q0)), .unset] [(.ref sa)])) t → Steps p.tables e below (s₁.setTop (entryFrame m #[(.ref da), (.ref lb), (.int tt)] 6)) t := fun t k => pre17 _ (st18 _ k)
  have hv0 : Sf q0 = (0 : Int32) := by rw [hS q0 hlt0]
  have pre21 : ∀ t, Steps p.tables e below (T18.setTop (mkF m 41 #[.val (.ref da), .val (.ref lb), .val (.int tt), .val (.int (15 : Int32)), .val (.int (Int32.ofNat q0)), .unset] [(.int (Int32.ofNat q0)), (.ref sa)])) t → Steps p.tables e below (s₁.setTop (entryFrame m #[(.ref da), (.ref lb), (.int tt)] 6)) t := fun t k => pre19 _ (by
    refine XS.iload X18.here hx rfl (hb hby own_d_prog_35_method_3_39) rfl ?_
    exact k)
  obtain ⟨cl20, Ar20, qc20, Sz20, Mz20, Hs20, Uf20⟩ := (show Arv Z h0 sa ka .int (16 : Int32) (own_ti Sf 16) (.int (0 : Int32)) from V1)
  have in22 : ¬ ((Int32.ofNat q0) < 0 ∨ cl20.slots.size ≤ ((Int32.ofNat q0)).toNatClampNeg) := own_inb Sz20 (N := 16) (by decide) hlt0 (Nat.le_trans (Nat.le_of_lt hlt0) (by decide))
  have at22 : cl20.slots[((Int32.ofNat q0)).toNatClampNeg]? = some (.int (0 : Int32)) := Hs20.at in22 (by rw [own_n32 (Nat.le_trans (Nat.le_of_lt hlt0) (by decide))]; exact (own_ti_get _ hlt0 _).trans (congrArg Value.int (hv0)))
  have pre23 : ∀ t, Steps p.tables e below (T18.setTop (mkF m 94 #[.val (.ref da), .val (.ref lb), .val (.int tt), .val (.int (15 : Int32)), .val (.int (Int32.ofNat q0)), .unset] [])) t → Steps p.tables e below (s₁.setTop (entryFrame m #[(.ref da), (.ref lb), (.int tt)] 6)) t := fun t k => pre21 _ (by
    refine X18.iaload hx (j := (Int32.ofNat q0)) (v := (.int (0 : Int32))) (by rw [e18]; exact Ar20.1) (State.isArrayOf_alike hZ.alike Ar20.2.1) Ar20.2.2 in22 at22 (g := (mkF m 41 #[.val (.ref da), .val (.ref lb), .val (.int tt), .val (.int (15 : Int32)), .val (.int (Int32.ofNat q0)), .unset] [(.int (Int32.ofNat q0)), (.ref sa)])) rfl rfl (hb hby own_d_prog_35_method_3_41) _ ?_
    refine XS.ifYes X18.here hx rfl (pc0 := 42) (pc' := 94) rfl (hb hby own_d_prog_35_method_3_42) rfl (XT.i0_eq_t (by decide)) (by decide) (by decide) ?_
    exact k)
  obtain ⟨T24, h24, locs24, Ls24, X24, e24, N24, Z24, ⟨KI, SI⟩, st24⟩ := own_ins0 da sa ta la oa ka kb kc kd Sf Tf Of Lf lb tt xx q0 .unset n0 X18 hx hZ hw hby hml hown e18 Z0 N13 HS0 hlt0 SA
  have pre25 : ∀ t, Steps p.tables e below (T24.setTop (mkF m 149 Ls24 [(.int (1 : Int32))])) t → Steps p.tables e below (s₁.setTop (entryFrame m #[(.ref da), (.ref lb), (.int tt)] 6)) t := fun t k => pre23 _ (st24 _ k)
  obtain ⟨fs, hr, hrun, hended, hW, hsame⟩ := X24.leave (v := some (.int (1 : Int32))) (fun h => by rw [Bd.returns] at h; cases h)
  refine ⟨_, _, pre25 _ ?_, hrun, hended, _, _, rfl, ?_, ⟨_, rfl⟩, hW, hsame.mono (by decide) (by decide)⟩
  · show Steps p.tables e below (T24.setTop (mkF m 149 Ls24 [(.int (1 : Int32))])) _
    exact retN X24 hx (t := .boolean) Bd.returns (by simp) (hb hby own_d_prog_35_method_3_149) hr
  · show Q_own_add0 Z da lb tt sa ta la oa ka kb kc kd Sf Tf Of Lf xx cs h0 n0 _ T24.heap _
    rw [e24]
    exact ⟨rfl, N24, KI, _, _, _, _, SI, ⟨lb, (fun j hj => by show (if j = q0 then (1 : Int32) else Sf j) = _; rw [hS j hj, hq0]), if_pos rfl, if_pos rfl, (SA.keep KI HS0.ge), (if_pos rfl).trans (by rw [hq0])⟩⟩
theorem own_ef_own_add1 (m : MethodId) (da : Addr) (lb : Addr) (tt : Int32) : entryFrame m #[(.ref da), (.ref lb), (.int tt)] 6 = mkF m 0 #[.val (.ref da), .val (.ref lb), .val (.int tt), .unset, .unset, .unset] [] := by first | (simp [entryFrame, mkF, argsToLocals, Value.category]; done) | rfl
def Q_own_add1 (Z : State) (da : Addr) (lb : Addr) (tt : Int32) (sa : Addr) (ta : Addr) (la : Addr) (oa : Addr) (ka : ClassId) (kb : ClassId) (kc : ClassId) (kd : ClassId) (Sf : Nat → Int32) (Tf : Nat → Int32) (Of : Nat → Int32) (Lf : Nat → Value) (xx : Int32) (cs : Int32) (t0 : Int32) (x0 : Int32) (h0 : Heap) (n0 : Nat) (v : Option Value) (h : Heap) (L : List Loc) : Prop := ((tt = t0 ∧ xx = x0) ∧ v = some (.int (0 : Int32)) ∧ Fr n0 L ∧ h = h0) ∨ (¬ (tt = t0 ∧ xx = x0) ∧ v = some (.int (1 : Int32)) ∧ Fr n0 L ∧ Keep h0 h [da, sa, ta, la, oa] ∧ ∃ (Sg Tg Og : Nat → Int32) (Lg : Nat → Value), own_St Z h n0 da sa ta la oa ka kb kc kd Sg Tg Og Lg (2 : Int32) ∧ own_I2 Z h da Sg Tg Og Lg t0 x0 tt xx)
theorem own_d_prog_35_method_3_82 : decode prog_35_method_3_code 82 = .ok (.ireturn, 1) := by decide +kernel
theorem own_d_prog_35_method_3_83 : decode prog_35_method_3_code 83 = .ok (.iload 4, 2) := by decide +kernel
theorem own_d_prog_35_method_3_85 : decode prog_35_method_3_code 85 = .ok (.iconst 1, 1) := by decide +kernel
theorem own_d_prog_35_method_3_86 : decode prog_35_method_3_code 86 = .ok (.iadd, 1) := by decide +kernel
theorem own_d_prog_35_method_3_87 : decode prog_35_method_3_code 87 = .ok (.iload_n 3, 1) := by decide +kernel
theorem own_d_prog_35_method_3_88 : decode prog_35_method_3_code 88 = .ok (.iand, 1) := by decide +kernel
theorem own_d_prog_35_method_3_89 : decode prog_35_method_3_code 89 = .ok (.istore 4, 2) := by decide +kernel
theorem own_d_prog_35_method_3_91 : decode prog_35_method_3_code 91 = .ok (.goto (-56), 3) := by decide +kernel
set_option maxRecDepth 65536 in
set_option maxHeartbeats 40000000 in
theorem own_add1 (l : Launch) (Z : State) (a0 : Array Value) (hw : ∀ d ∈ tables_1, d.before a0 Z = true) (ws : List Jvm.Cond) (da : Addr) (lb : Addr) (tt : Int32) (sa : Addr) (ta : Addr) (la : Addr) (oa : Addr) (ka : ClassId) (kb : ClassId) (kc : ClassId) (kd : ClassId) (Sf : Nat → Int32) (Tf : Nat → Int32) (Of : Nat → Int32) (Lf : Nat → Value) (xx : Int32) (cs : Int32) (t0 : Int32) (x0 : Int32) (h0 : Heap) (n0 : Nat) (Z0 : n0 ≤ h0.size) (HS : own_St Z h0 n0 da sa ta la oa ka kb kc kd Sf Tf Of Lf (1 : Int32)) (HI : own_I1 Z h0 da Sf Tf Of Lf t0 x0) (CS : Sta Z h0 "java/lang/String" "COMPACT_STRINGS" "Z" (.int cs)) (hcs : ¬ cs = 0) (SA : own_Str Z h0 da lb xx) :
    MetFree l (⟨"com/example/erma/erma/analysis/DistinctSteps", "add", "(Ljava/lang/String;I)Z"⟩ : MethodName) (head1 (Jvm.Cond.code (⟨"com/example/erma/erma/analysis/DistinctSteps", "add", "(Ljava/lang/String;I)Z"⟩ : MethodName) prog_35_method_3_code 6 (some .boolean) :: ws) ({ frames := 2, cells := 0, slots := 0, locals := 40 } : Room)) (fun a U => a = #[(.ref da), (.ref lb), (.int tt)] ∧ Z.Warmed39 U.vm ∧ U.heap = h0) (fun _ _ _ _ _ => True) (fun _ U o U' => ∃ v L, o = .returned v ∧ Q_own_add1 Z da lb tt sa ta la oa ka kb kc kd Sf Tf Of Lf xx cs t0 x0 h0 n0 v U'.heap L ∧ FrameEnd U o U' L ({ frames := 2, cells := 0, slots := 0, locals := 40 } : Room).cells ({ frames := 2, cells := 0, slots := 0, locals := 40 } : Room).slots) := by
  refine MetFree.of_bodySF (plainFor_of_name own_pn_com_example_erma_erma_analysis_DistinctSteps) hisR ?_
  intro p e s m args below meth c s₁ Bd hml0 hP hK
  obtain ⟨rfl, hZ, hh⟩ := hP
  have hx := Bd.exec
  have hby := Bd.bytes
  have hml : c.maxLocals = 6 := hml0
  have hown : s.vm.findClass "com/example/erma/erma/analysis/DistinctSteps" = some m.cls := findClass_of_methodNamed Bd.named
  have hnm := (name_of_methodNamed Bd.named Bd.method).1
  have X0 : Stand p l e ({ frames := 2, cells := 0, slots := 0, locals := 40 } : Room) s m #[(.ref da), (.ref lb), (.int tt)] below meth c s₁ [] 0 0 := Stand.of_body Bd
  have e0 : s₁.heap = h0 := by rw [← hh, Bd.state]; rfl
  have N0 := Fr.nil n0
  have pre0 : ∀ t, Steps p.tables e below (s₁.setTop (mkF m 0 #[.val (.ref da), .val (.ref lb), .val (.int tt), .unset, .unset, .unset] [])) t → Steps p.tables e below (s₁.setTop (entryFrame m #[(.ref da), (.ref lb), (.int tt)] 6)) t := fun t k => castTop (own_ef_own_add1 m da lb tt) k
  have HS0 := HS
  obtain ⟨SE, S1, S2, S3, S4, S5, V1, V2, V3, V4, OV, ge_da, o1, o2, o3, o4⟩ := HS
  have lt_da_sa : da < sa := o1
  have ne_da_sa : da ≠ sa := Nat.ne_of_lt lt_da_sa
  have lt_da_ta : da < ta := Nat.lt_trans lt_da_sa o2
  have ne_da_ta : da ≠ ta := Nat.ne_of_lt lt_da_ta
  have lt_da_la : da < la := Nat.lt_trans lt_da_ta o3
  have ne_da_la : da ≠ la := Nat.ne_of_lt lt_da_la
  have lt_da_oa : da < oa := Nat.lt_trans lt_da_la o4
  have ne_da_oa : da ≠ oa := Nat.ne_of_lt lt_da_oa
  have lt_sa_ta : sa < ta := o2
  have ne_sa_ta : sa ≠ ta := Nat.ne_of_lt lt_sa_ta
  have lt_sa_la : sa < la := Nat.lt_trans lt_sa_ta o3
  have ne_sa_la : sa ≠ la := Nat.ne_of_lt lt_sa_la
  have lt_sa_oa : sa < oa := Nat.lt_trans lt_sa_la o4
  have ne_sa_oa : sa ≠ oa := Nat.ne_of_lt lt_sa_oa
  have lt_ta_la : ta < la := o3
  have ne_ta_la : ta ≠ la := Nat.ne_of_lt lt_ta_la
  have lt_ta_oa : ta < oa := Nat.lt_trans lt_ta_la o4
  have ne_ta_oa : ta ≠ oa := Nat.ne_of_lt lt_ta_oa
  have lt_la_oa : la < oa := o4
  have ne_la_oa : la ≠ oa := Nat.ne_of_lt lt_la_oa
  have ge_sa : n0 ≤ sa := Nat.le_trans ge_da (Nat.le_of_lt lt_da_sa)
  have ge_ta : n0 ≤ ta := Nat.le_trans ge_da (Nat.le_of_lt lt_da_ta)
  have ge_la : n0 ≤ la := Nat.le_trans ge_da (Nat.le_of_lt lt_da_la)
  have ge_oa : n0 ≤ oa := Nat.le_trans ge_da (Nat.le_of_lt lt_da_oa)
  obtain ⟨b0, hS, hT0, hL0, SB0, hO0⟩ := HI
  have pre1 : ∀ t, Steps p.tables e below (s₁.setTop (mkF m 2 #[.val (.ref da), .val (.ref lb), .val (.int tt), .unset, .unset, .unset] [(.ref da), (.int (2 : Int32))])) t → Steps p.tables e below (s₁.setTop (entryFrame m #[(.ref da), (.ref lb), (.int tt)] 6)) t := fun t k => pre0 _ (by
    refine XT.iconstV X0.here hx rfl (2 : Int32) (hb hby own_d_prog_35_method_3_0) rfl ?_
    refine XS.aloadN X0.here hx rfl (hb hby own_d_prog_35_method_3_1) rfl rfl ?_
    exact k)
  obtain ⟨T2, X2, e2, st2⟩ := getF X0 hx hZ hown (host := "") (Or.inl (hw _ (List.mem_of_getElem? (i := 49) rfl))) Via.refl e0 S5 (g := (mkF m 2 #[.val (.ref da), .val (.ref lb), .val (.int tt), .unset, .unset, .unset] [(.ref da), (.int (2 : Int32))])) rfl rfl (hb hby own_d_prog_35_method_3_2)
  have pre3 : ∀ t, Steps p.tables e below (T2.setTop (mkF m 5 #[.val (.ref da), .val (.ref lb), .val (.int tt), .unset, .unset, .unset] [(.int (1 : Int32)), (.int (2 : Int32))])) t → Steps p.tables e below (s₁.setTop (entryFrame m #[(.ref da), (.ref lb), (.int tt)] 6)) t := fun t k => pre1 _ (st2 _ k)
  have pre4 : ∀ t, Steps p.tables e below (T2.setTop (mkF m 9 #[.val (.ref da), .val (.ref lb), .val (.int tt), .unset, .unset, .unset] [(.ref da), (.int (4 : Int32))])) t → Steps p.tables e below (s₁.setTop (entryFrame m #[(.ref da), (.ref lb), (.int tt)] 6)) t := fun t k => pre3 _ (by
    refine XT.iconstV X2.here hx rfl (1 : Int32) (hb hby own_d_prog_35_method_3_5) rfl ?_
    refine XS.iadd X2.here hx rfl (hb hby own_d_prog_35_method_3_6) rfl ?_
    refine XS.imul X2.here hx rfl (hb hby own_d_prog_35_method_3_7) rfl ?_
    refine XS.aloadN X2.here hx rfl (hb hby own_d_prog_35_method_3_8) rfl rfl ?_
    exact k)
  obtain ⟨T5, X5, e5, st5⟩ := getF X2 hx hZ hown (host := "") (Or.inl (hw _ (List.mem_of_getElem? (i := 34) rfl))) Via.refl e2 S1 (g := (mkF m 9 #[.val (.ref da), .val (.ref lb), .val (.int tt), .unset, .unset, .unset] [(.ref da), (.int (4 : Int32))])) rfl rfl (hb hby own_d_prog_35_method_3_9)
  have pre6 : ∀ t, Steps p.tables e below (T5.setTop (mkF m 12 #[.val (.ref da), .val (.ref lb), .val (.int tt), .unset, .unset, .unset] [(.ref sa), (.int (4 : Int32))])) t → Steps p.tables e below (s₁.setTop (entryFrame m #[(.ref da), (.ref lb), (.int tt)] 6)) t := fun t k => pre4 _ (st5 _ k)
  obtain ⟨cl7, Ar7, qc7, Sz7, Mz7, Hs7, Uf7⟩ := (show Arv Z h0 sa ka .int (16 : Int32) (own_ti Sf 16) (.int (0 : Int32)) from V1)
  have pre8 : ∀ t, Steps p.tables e below (T5.setTop (mkF m 21 #[.val (.ref da), .val (.ref lb), .val (.int tt), .unset, .unset, .unset] [(.ref da)])) t → Steps p.tables e below (s₁.setTop (entryFrame m #[(.ref da), (.ref lb), (.int tt)] 6)) t := fun t k => pre6 _ (by
    refine X5.arraylength hx (by rw [e5]; exact Ar7.1) (State.isArrayOf_alike hZ.alike Ar7.2.1) (g := (mkF m 12 #[.val (.ref da), .val (.ref lb), .val (.int tt), .unset, .unset, .unset] [(.ref sa), (.int (4 : Int32))])) rfl rfl (hb hby own_d_prog_35_method_3_12) _ ?_
    rw [len_of Sz7 Mz7]
    refine XS.icmpYes X5.here hx rfl (pc0 := 13) (pc' := 20) rfl (hb hby own_d_prog_35_method_3_13) rfl (XT.ii_le_t (by decide)) (by decide) (by decide) ?_
    refine XS.aloadN X5.here hx rfl (hb hby own_d_prog_35_method_3_20) rfl rfl ?_
    exact k)
  obtain ⟨T9, X9, e9, st9⟩ := getF X5 hx hZ hown (host := "") (Or.inl (hw _ (List.mem_of_getElem? (i := 34) rfl))) Via.refl e5 S1 (g := (mkF m 21 #[.val (.ref da), .val (.ref lb), .val (.int tt), .unset, .unset, .unset] [(.ref da)])) rfl rfl (hb hby own_d_prog_35_method_3_21)
  have pre10 : ∀ t, Steps p.tables e below (T9.setTop (mkF m 24 #[.val (.ref da), .val (.ref lb), .val (.int tt), .unset, .unset, .unset] [(.ref sa)])) t → Steps p.tables e below (s₁.setTop (entryFrame m #[(.ref da), (.ref lb), (.int tt)] 6)) t := fun t k => pre8 _ (st9 _ k)
  obtain ⟨cl11, Ar11, qc11, Sz11, Mz11, Hs11, Uf11⟩ := (show Arv Z h0 sa ka .int (16 : Int32) (own_ti Sf 16) (.int (0 : Int32)) from V1)
  have pre12 : ∀ t, Steps p.tables e below (T9.setTop (mkF m 30 #[.val (.ref da), .val (.ref lb), .val (.int tt), .val (.int (15 : Int32)), .unset, .unset] [(.int (15 : Int32)), (.int tt)])) t → Steps p.tables e below (s₁.setTop (entryFrame m #[(.ref da), (.ref lb), (.int tt)] 6)) t := fun t k => pre10 _ (by
    refine X9.arraylength hx (by rw [e9]; exact Ar11.1) (State.isArrayOf_alike hZ.alike Ar11.2.1) (g := (mkF m 24 #[.val (.ref da), .val (.ref lb), .val (.int tt), .unset, .unset, .unset] [(.ref sa)])) rfl rfl (hb hby own_d_prog_35_method_3_24) _ ?_
    rw [len_of Sz11 Mz11]
    refine XT.iconstV X9.here hx rfl (1 : Int32) (hb hby own_d_prog_35_method_3_25) rfl ?_
    refine XS.isub X9.here hx rfl (hb hby own_d_prog_35_method_3_26) rfl ?_
    refine XS.istoreN X9.here hx rfl (hb hby own_d_prog_35_method_3_27) rfl (l' := #[.val (.ref da), .val (.ref lb), .val (.int tt), .val (.int (15 : Int32)), .unset, .unset]) rfl ?_
    refine XS.iloadN X9.here hx rfl (hb hby own_d_prog_35_method_3_28) rfl ?_
    refine XS.iloadN X9.here hx rfl (hb hby own_d_prog_35_method_3_29) rfl ?_
    exact k)
  obtain ⟨_, _, ⟨T13, L13, k13, n13⟩, -, X13, ⟨Lc13, hQ13, l13, y13, z13⟩, st13⟩ := Jvm.LawKit.callS X9 hx (y := (⟨"com/example/erma/erma/analysis/DistinctSteps", "slotFor", "(II)I"⟩ : MethodName)) hown (mvT hZ (hw _ (List.mem_of_getElem? (i := 61) rfl))) (mvT hZ (hw _ (List.mem_of_getElem? (i := 62) rfl))) (mvT hZ (hw _ (List.mem_of_getElem? (i := 28) rfl))) (mvT hZ (hw _ (List.mem_of_getElem? (i := 63) rfl))) (by decide) (backOf (W := 0) (own_slotFor l Z a0 hw [] tt h0 n0 Z0) hZ (hw _ (List.mem_of_getElem? (i := 63) rfl)) (hw _ (List.mem_of_getElem? (i := 28) rfl)) (by decide) (by decide)) (g := (mkF m 30 #[.val (.ref da), .val (.ref lb), .val (.int tt), .val (.int (15 : Int32)), .unset, .unset] [(.int (15 : Int32)), (.int tt)])) rfl (by rw [hml]; rfl) (argsL := [(.int tt), (.int (15 : Int32))]) (rest := []) (lenOf own_pd__II_I rfl) rfl (by show 2 * 0 + _ ≤ _; exact Nat.le_of_eq rfl) (hb hby own_d_prog_35_method_3_30) (fun _ _ => ⟨rfl, e9, (by decide : 0 + 0 ≤ _), (by decide : 0 + 0 ≤ _)⟩)
  dsimp only [Pt.U, Pt.locs, Pt.cells, Pt.slots] at X13 l13 y13 z13 st13 hQ13
  subst l13 y13 z13
  obtain ⟨rfl, N13q, e13⟩ := hQ13
  have N13 := Fr.app N0 N13q
  have pre14 : ∀ t, Steps p.tables e below (T13.setTop (mkF m 33 #[.val (.ref da), .val (.ref lb), .val (.int tt), .val (.int (15 : Int32)), .unset, .unset] [(.int (own_hs tt))])) t → Steps p.tables e below (s₁.setTop (entryFrame m #[(.ref da), (.ref lb), (.int tt)] 6)) t := fun t k => pre12 _ (st13 _ k)
  have pre15 : ∀ t, Steps p.tables e below (T13.setTop (mkF m 35 #[.val (.ref da), .val (.ref lb), .val (.int tt), .val (.int (15 : Int32)), .val (.int (own_hs tt)), .unset] [])) t → Steps p.tables e below (s₁.setTop (entryFrame m #[(.ref da), (.ref lb), (.int tt)] 6)) t := fun t k => pre14 _ (by
    refine XS.istore X13.here hx rfl (hb hby own_d_prog_35_method_3_33) rfl (l' := #[.val (.ref da), .val (.ref lb), .val (.int tt), .val (.int (15 : Int32)), .val (.int (own_hs tt)), .unset]) rfl ?_
    exact k)
  obtain ⟨q0, hq0⟩ : ∃ z, z = own_hn tt := ⟨_, rfl⟩
  have hlt0 : q0 < 16 := by rw [hq0]; exact (own_hs_n tt).1
  have hh : own_hs tt = Int32.ofNat q0 := by rw [hq0]; exact (own_hs_n tt).2
  have pre16 : ∀ t, Steps p.tables e below (T13.setTop (mkF m 35 #[.val (.ref da), .val (.ref lb), .val (.int tt), .val (.int (15 : Int32)), .val (.int (Int32.ofNat q0)), .unset] [])) t → Steps p.tables e below (s₁.setTop (entryFrame m #[(.ref da), (.ref lb), (.int tt)] 6)) t := fun t k => pre15 _ (by rw [← hh] at k; exact k)
  have pre17 : ∀ t, Steps p.tables e below (T13.setTop (mkF m 36 #[.val (.ref da), .val (.ref lb), .val (.int tt), .val (.int (15 : Int32)), .val (.int (Int32.ofNat q0)), .unset] [(.ref da)])) t → Steps p.tables e below (s₁.setTop (entryFrame m #[(.ref da), (.ref lb), (.int tt)] 6)) t := fun t k => pre16 _ (by
    refine XS.aloadN X13.here hx rfl (hb hby own_d_prog_35_method_3_35) rfl rfl ?_
    exact k)
  obtain ⟨T18, X18, e18, st18⟩ := getF X13 hx hZ hown (host := "") (Or.inl (hw _ (List.mem_of_getElem? (i := 34) rfl))) Via.refl e13 S1 (g := (mkF m 36 #[.val (.ref da), .val (.ref lb), .val (.int tt), .val (.int (15 : Int32)), .val (.int (Int32.ofNat q0)), .unset] [(.ref da)])) rfl rfl (hb hby own_d_prog_35_method_3_36)
  have pre19 : ∀ t, Steps p.tables e below (T18.setTop (mkF m 39 #[.val (.ref da), .val (.ref lb), .val (.int tt), .val (.int (15 : Int32)), .val (.int (Int32.ofNat q0)), .unset] [(.ref sa)])) t → Steps p.tables e below (s₁.setTop (entryFrame m #[(.ref da), (.ref lb), (.int tt)] 6)) t := fun t k => pre17 _ (st18 _ k)
  have pre20 : ∀ t, Steps p.tables e below (T18.setTop (mkF m 41 #[.val (.ref da), .val (.ref lb), .val (.int tt), .val (.int (15 : Int32)), .val (.int (Int32.ofNat q0)), .unset] [(.int (Int32.ofNat q0)), (.ref sa)])) t → Steps p.tables e below (s₁.setTop (entryFrame m #[(.ref da), (.ref lb), (.int tt)] 6)) t := fun t k => pre19 _ (by
    refine XS.iload X18.here hx rfl (hb hby own_d_prog_35_method_3_39) rfl ?_
    exact k)
  by_cases w0_0 : q0 = (own_hn t0)
  · have hv0 : Sf q0 = (1 : Int32) := by rw [hS q0 hlt0, if_pos w0_0]
    obtain ⟨cl21, Ar21, qc21, Sz21, Mz21, Hs21, Uf21⟩ := (show Arv Z h0 sa ka .int (16 : Int32) (own_ti Sf 16) (.int (0 : Int32)) from V1)
    have in22 : ¬ ((Int32.ofNat q0) < 0 ∨ cl21.slots.size ≤ ((Int32.ofNat q0)).toNatClampNeg) := own_inb Sz21 (N := 16) (by decide) hlt0 (Nat.le_trans (Nat.le_of_lt hlt0) (by decide))
    have at22 : cl21.slots[((Int32.ofNat q0)).toNatClampNeg]? = some (.int (1 : Int32)) := Hs21.at in22 (by rw [own_n32 (Nat.le_trans (Nat.le_of_lt hlt0) (by decide))]; exact (own_ti_get _ hlt0 _).trans (congrArg Value.int (hv0)))
    have pre23 : ∀ t, Steps p.tables e below (T18.setTop (mkF m 45 #[.val (.ref da), .val (.ref lb), .val (.int tt), .val (.int (15 : Int32)), .val (.int (Int32.ofNat q0)), .unset] [])) t → Steps p.tables e below (s₁.setTop (entryFrame m #[(.ref da), (.ref lb), (.int tt)] 6)) t := fun t k => pre20 _ (by
      refine X18.iaload hx (j := (Int32.ofNat q0)) (v := (.int (1 : Int32))) (by rw [e18]; exact Ar21.1) (State.isArrayOf_alike hZ.alike Ar21.2.1) Ar21.2.2 in22 at22 (g := (mkF m 41 #[.val (.ref da), .val (.ref lb), .val (.int tt), .val (.int (15 : Int32)), .val (.int (Int32.ofNat q0)), .unset] [(.int (Int32.ofNat q0)), (.ref sa)])) rfl rfl (hb hby own_d_prog_35_method_3_41) _ ?_
      refine XS.ifNo X18.here hx rfl (hb hby own_d_prog_35_method_3_42) rfl (XT.i0_eq_f (by decide)) ?_
      exact k)
    rcases own_probe0 da sa ta la oa ka kb kc kd Sf Tf Of Lf lb b0 tt xx t0 x0 cs (1 : Int32) q0 .unset n0 X18 hx hZ hw hby hml hown e18 Z0 N13 HS0 One.u hlt0 hv0 hT0 hL0 SB0 SA CS hcs with ⟨T24, l24, Ls24, X24, e24, N24, mt24, st24⟩ | ⟨T24, l24, X24, e24, N24, mt24, st24⟩
    · have pre25 : ∀ t, Steps p.tables e below (T24.setTop (mkF m 82 Ls24 [(.int (0 : Int32))])) t → Steps p.tables e below (s₁.setTop (entryFrame m #[(.ref da), (.ref lb), (.int tt)] 6)) t := fun t k => pre23 _ (st24 _ k)
      obtain ⟨fs, hr, hrun, hended, hW, hsame⟩ := X24.leave (v := some (.int (0 : Int32))) (fun h => by rw [Bd.returns] at h; cases h)
      refine ⟨_, _, pre25 _ ?_, hrun, hended, _, _, rfl, ?_, ⟨_, rfl⟩, hW, hsame.mono (by decide) (by decide)⟩
      · show Steps p.tables e below (T24.setTop (mkF m 82 Ls24 [(.int (0 : Int32))])) _
        exact retN X24 hx (t := .boolean) Bd.returns (by simp) (hb hby own_d_prog_35_method_3_82) hr
      · show Q_own_add1 Z da lb tt sa ta la oa ka kb kc kd Sf Tf Of Lf xx cs t0 x0 h0 n0 _ T24.heap _
        rw [e24]
        exact Or.inl ⟨⟨mt24.1.symm, mt24.2.symm⟩, rfl, N24, rfl⟩
    · have pre26 : ∀ t, Steps p.tables e below (T24.setTop (mkF m 83 #[.val (.ref da), .val (.ref lb), .val (.int tt), .val (.int (15 : Int32)), .val (.int (Int32.ofNat q0)), .val (.int (0 : Int32))] [])) t → Steps p.tables e below (s₁.setTop (entryFrame m #[(.ref da), (.ref lb), (.int tt)] 6)) t := fun t k => pre23 _ (st24 _ k)
      have pre27 : ∀ t, Steps p.tables e below (T24.setTop (mkF m 35 #[.val (.ref da), .val (.ref lb), .val (.int tt), .val (.int (15 : Int32)), .val (.int (((Int32.ofNat q0) + (1 : Int32)) &&& (15 : Int32))), .val (.int (0 : Int32))] [])) t → Steps p.tables e below (s₁.setTop (entryFrame m #[(.ref da), (.ref lb), (.int tt)] 6)) t := fun t k => pre26 _ (by
        refine XS.iload X24.here hx rfl (hb hby own_d_prog_35_method_3_83) rfl ?_
        refine XT.iconstV X24.here hx rfl (1 : Int32) (hb hby own_d_prog_35_method_3_85) rfl ?_
        refine XS.iadd X24.here hx rfl (hb hby own_d_prog_35_method_3_86) rfl ?_
        refine XS.iloadN X24.here hx rfl (hb hby own_d_prog_35_method_3_87) rfl ?_
        refine XS.iand X24.here hx rfl (hb hby own_d_prog_35_method_3_88) rfl ?_
        refine XS.istore X24.here hx rfl (hb hby own_d_prog_35_method_3_89) rfl (l' := #[.val (.ref da), .val (.ref lb), .val (.int tt), .val (.int (15 : Int32)), .val (.int (((Int32.ofNat q0) + (1 : Int32)) &&& (15 : Int32))), .val (.int (0 : Int32))]) rfl ?_
        refine XS.goto X24.here hx rfl (pc0 := 91) (pc' := 35) rfl (hb hby own_d_prog_35_method_3_91) (by decide) (by decide) ?_
        exact k)
      obtain ⟨q1, hq1⟩ : ∃ z, z = (q0 + 1) % 16 := ⟨_, rfl⟩
      have hlt1 : q1 < 16 := by omega
      have hh1 : ((Int32.ofNat q0 + (1 : Int32)) &&& (15 : Int32)) = Int32.ofNat q1 := by rw [hq1]; exact own_nx hlt0
      have pre28 : ∀ t, Steps p.tables e below (T24.setTop (mkF m 35 #[.val (.ref da), .val (.ref lb), .val (.int tt), .val (.int (15 : Int32)), .val (.int (Int32.ofNat q1)), .val (.int (0 : Int32))] [])) t → Steps p.tables e below (s₁.setTop (entryFrame m #[(.ref da), (.ref lb), (.int tt)] 6)) t := fun t k => pre27 _ (by rw [← hh1] at k; exact k)
      have pre29 : ∀ t, Steps p.tables e below (T24.setTop (mkF m 36 #[.val (.ref da), .val (.ref lb), .val (.int tt), .val (.int (15 : Int32)), .val (.int (Int32.ofNat q1)), .val (.int (0 : Int32))] [(.ref da)])) t → Steps p.tables e below (s₁.setTop (entryFrame m #[(.ref da), (.ref lb), (.int tt)] 6)) t := fun t k => pre28 _ (by
        refine XS.aloadN X24.here hx rfl (hb hby own_d_prog_35_method_3_35) rfl rfl ?_
        exact k)
      obtain ⟨T30, X30, e30, st30⟩ := getF X24 hx hZ hown (host := "") (Or.inl (hw _ (List.mem_of_getElem? (i := 34) rfl))) Via.refl e24 S1 (g := (mkF m 36 #[.val (.ref da), .val (.ref lb), .val (.int tt), .val (.int (15 : Int32)), .val (.int (Int32.ofNat q1)), .val (.int (0 : Int32))] [(.ref da)])) rfl rfl (hb hby own_d_prog_35_method_3_36)
      have pre31 : ∀ t, Steps p.tables e below (T30.setTop (mkF m 39 #[.val (.ref da), .val (.ref lb), .val (.int tt), .val (.int (15 : Int32)), .val (.int (Int32.ofNat q1)), .val (.int (0 : Int32))] [(.ref sa)])) t → Steps p.tables e below (s₁.setTop (entryFrame m #[(.ref da), (.ref lb), (.int tt)] 6)) t := fun t k => pre29 _ (st30 _ k)
      have nv1_0 : ¬ q1 = (own_hn t0) := by omega
      have hv1 : Sf q1 = (0 : Int32) := by rw [hS q1 hlt1, if_neg nv1_0]
      have pre33 : ∀ t, Steps p.tables e below (T30.setTop (mkF m 41 #[.val (.ref da), .val (.ref lb), .val (.int tt), .val (.int (15 : Int32)), .val (.int (Int32.ofNat q1)), .val (.int (0 : Int32))] [(.int (Int32.ofNat q1)), (.ref sa)])) t → Steps p.tables e below (s₁.setTop (entryFrame m #[(.ref da), (.ref lb), (.int tt)] 6)) t := fun t k => pre31 _ (by
        refine XS.iload X30.here hx rfl (hb hby own_d_prog_35_method_3_39) rfl ?_
        exact k)
      obtain ⟨cl32, Ar32, qc32, Sz32, Mz32, Hs32, Uf32⟩ := (show Arv Z h0 sa ka .int (16 : Int32) (own_ti Sf 16) (.int (0 : Int32)) from V1)
      have in34 : ¬ ((Int32.ofNat q1) < 0 ∨ cl32.slots.size ≤ ((Int32.ofNat q1)).toNatClampNeg) := own_inb Sz32 (N := 16) (by decide) hlt1 (Nat.le_trans (Nat.le_of_lt hlt1) (by decide))
      have at34 : cl32.slots[((Int32.ofNat q1)).toNatClampNeg]? = some (.int (0 : Int32)) := Hs32.at in34 (by rw [own_n32 (Nat.le_trans (Nat.le_of_lt hlt1) (by decide))]; exact (own_ti_get _ hlt1 _).trans (congrArg Value.int (hv1)))
      have pre35 : ∀ t, Steps p.tables e below (T30.setTop (mkF m 94 #[.val (.ref da), .val (.ref lb), .val (.int tt), .val (.int (15 : Int32)), .val (.int (Int32.ofNat q1)), .val (.int (0 : Int32))] [])) t → Steps p.tables e below (s₁.setTop (entryFrame m #[(.ref da), (.ref lb), (.int tt)] 6)) t := fun t k => pre33 _ (by
        refine X30.iaload hx (j := (Int32.ofNat q1)) (v := (.int (0 : Int32))) (by rw [e30]; exact Ar32.1) (State.isArrayOf_alike hZ.alike Ar32.2.1) Ar32.2.2 in34 at34 (g := (mkF m 41 #[.val (.ref da), .val (.ref lb), .val (.int tt), .val (.int (15 : Int32)), .val (.int (Int32.ofNat q1)), .val (.int (0 : Int32))] [(.int (Int32.ofNat q1)), (.ref sa)])) rfl rfl (hb hby own_d_prog_35_method_3_41) _ ?_
        refine XS.ifYes X30.here hx rfl (pc0 := 42) (pc' := 94) rfl (hb hby own_d_prog_35_method_3_42) rfl (XT.i0_eq_t (by decide)) (by decide) (by decide) ?_
        exact k)
      obtain ⟨T36, h36, locs36, Ls36, X36, e36, N36, Z36, ⟨KI, SI⟩, st36⟩ := own_ins1 da sa ta la oa ka kb kc kd Sf Tf Of Lf lb tt xx q1 (.val (.int (0 : Int32))) n0 X30 hx hZ hw hby hml hown e30 Z0 N24 HS0 hlt1 SA
      have pre37 : ∀ t, Steps p.tables e below (T36.setTop (mkF m 149 Ls36 [(.int (1 : Int32))])) t → Steps p.tables e below (s₁.setTop (entryFrame m #[(.ref da), (.ref lb), (.int tt)] 6)) t := fun t k => pre35 _ (st36 _ k)
      obtain ⟨fs, hr, hrun, hended, hW, hsame⟩ := X36.leave (v := some (.int (1 : Int32))) (fun h => by rw [Bd.returns] at h; cases h)
      refine ⟨_, _, pre37 _ ?_, hrun, hended, _, _, rfl, ?_, ⟨_, rfl⟩, hW, hsame.mono (by decide) (by decide)⟩
      · show Steps p.tables e below (T36.setTop (mkF m 149 Ls36 [(.int (1 : Int32))])) _
        exact retN X36 hx (t := .boolean) Bd.returns (by simp) (hb hby own_d_prog_35_method_3_149) hr
      · show Q_own_add1 Z da lb tt sa ta la oa ka kb kc kd Sf Tf Of Lf xx cs t0 x0 h0 n0 _ T36.heap _
        rw [e36]
        exact Or.inr ⟨(fun z => mt24 ⟨z.1.symm, z.2.symm⟩), rfl, N36, KI, _, _, _, _, SI, ⟨b0, lb, q1, hlt1, (by omega), (fun j hj => own_s2 (by omega) (hS j hj)), (by omega), (if_neg (by decide)).trans hT0, (if_neg (by decide)).trans hL0, SB0.keep KI HS0.ge, (if_neg (by decide)).trans hO0, if_pos rfl, if_pos rfl, (SA.keep KI HS0.ge), if_pos rfl⟩⟩
  · have hv0 : Sf q0 = (0 : Int32) := by rw [hS q0 hlt0, if_neg w0_0]
    obtain ⟨cl38, Ar38, qc38, Sz38, Mz38, Hs38, Uf38⟩ := (show Arv Z h0 sa ka .int (16 : Int32) (own_ti Sf 16) (.int (0 : Int32)) from V1)
    have in39 : ¬ ((Int32.ofNat q0) < 0 ∨ cl38.slots.size ≤ ((Int32.ofNat q0)).toNatClampNeg) := own_inb Sz38 (N := 16) (by decide) hlt0 (Nat.le_trans (Nat.le_of_lt hlt0) (by decide))
    have at39 : cl38.slots[((Int32.ofNat q0)).toNatClampNeg]? = some (.int (0 : Int32)) := Hs38.at in39 (by rw [own_n32 (Nat.le_trans (Nat.le_of_lt hlt0) (by decide))]; exact (own_ti_get _ hlt0 _).trans (congrArg Value.int (hv0)))
    have pre40 : ∀ t, Steps p.tables e below (T18.setTop (mkF m 94 #[.val (.ref da), .val (.ref lb), .val (.int tt), .val (.int (15 : Int32)), .val (.int (Int32.ofNat q0)), .unset] [])) t → Steps p.tables e below (s₁.setTop (entryFrame m #[(.ref da), (.ref lb), (.int tt)] 6)) t := fun t k => pre20 _ (by
      refine X18.iaload hx (j := (Int32.ofNat q0)) (v := (.int (0 : Int32))) (by rw [e18]; exact Ar38.1) (State.isArrayOf_alike hZ.alike Ar38.2.1) Ar38.2.2 in39 at39 (g := (mkF m 41 #[.val (.ref da), .val (.ref lb), .val (.int tt), .val (.int (15 : Int32)), .val (.int (Int32.ofNat q0)), .unset] [(.int (Int32.ofNat q0)), (.ref sa)])) rfl rfl (hb hby own_d_prog_35_method_3_41) _ ?_
      refine XS.ifYes X18.here hx rfl (pc0 := 42) (pc' := 94) rfl (hb hby own_d_prog_35_method_3_42) rfl (XT.i0_eq_t (by decide)) (by decide) (by decide) ?_
      exact k)
    obtain ⟨T41, h41, locs41, Ls41, X41, e41, N41, Z41, ⟨KI, SI⟩, st41⟩ := own_ins1 da sa ta la oa ka kb kc kd Sf Tf Of Lf lb tt xx q0 .unset n0 X18 hx hZ hw hby hml hown e18 Z0 N13 HS0 hlt0 SA
    have pre42 : ∀ t, Steps p.tables e below (T41.setTop (mkF m 149 Ls41 [(.int (1 : Int32))])) t → Steps p.tables e below (s₁.setTop (entryFrame m #[(.ref da), (.ref lb), (.int tt)] 6)) t := fun t k => pre40 _ (st41 _ k)
    obtain ⟨fs, hr, hrun, hended, hW, hsame⟩ := X41.leave (v := some (.int (1 : Int32))) (fun h => by rw [Bd.returns] at h; cases h)
    refine ⟨_, _, pre42 _ ?_, hrun, hended, _, _, rfl, ?_, ⟨_, rfl⟩, hW, hsame.mono (by decide) (by decide)⟩
    · show Steps p.tables e below (T41.setTop (mkF m 149 Ls41 [(.int (1 : Int32))])) _
      exact retN X41 hx (t := .boolean) Bd.returns (by simp) (hb hby own_d_prog_35_method_3_149) hr
    · show Q_own_add1 Z da lb tt sa ta la oa ka kb kc kd Sf Tf Of Lf xx cs t0 x0 h0 n0 _ T41.heap _
      rw [e41]
      exact Or.inr ⟨(fun z => by have e : own_hn tt = own_hn t0 := congrArg own_hn z.1; omega), rfl, N41, KI, _, _, _, _, SI, ⟨b0, lb, q0, hlt0, (by omega), (fun j hj => own_s2 (by omega) (hS j hj)), (by omega), (if_neg (by decide)).trans hT0, (if_neg (by decide)).trans hL0, SB0.keep KI HS0.ge, (if_neg (by decide)).trans hO0, if_pos rfl, if_pos rfl, (SA.keep KI HS0.ge), if_pos rfl⟩⟩
theorem own_ef_own_add2 (m : MethodId) (da : Addr) (lb : Addr) (tt : Int32) : entryFrame m #[(.ref da), (.ref lb), (.int tt)] 6 = mkF m 0 #[.val (.ref da), .val (.ref lb), .val (.int tt), .unset, .unset, .unset] [] := by first | (simp [entryFrame, mkF, argsToLocals, Value.category]; done) | rfl
def Q_own_add2 (Z : State) (da : Addr) (lb : Addr) (tt : Int32) (sa : Addr) (ta : Addr) (la : Addr) (oa : Addr) (ka : ClassId) (kb : ClassId) (kc : ClassId) (kd : ClassId) (Sf : Nat → Int32) (Tf : Nat → Int32) (Of : Nat → Int32) (Lf : Nat → Value) (xx : Int32) (cs : Int32) (t0 : Int32) (x0 : Int32) (t1 : Int32) (x1 : Int32) (h0 : Heap) (n0 : Nat) (v : Option Value) (h : Heap) (L : List Loc) : Prop := (((tt = t0 ∧ xx = x0) ∨ (tt = t1 ∧ xx = x1)) ∧ v = some (.int (0 : Int32)) ∧ Fr n0 L ∧ h = h0) ∨ (¬ ((tt = t0 ∧ xx = x0) ∨ (tt = t1 ∧ xx = x1)) ∧ v = some (.int (1 : Int32)) ∧ Fr n0 L ∧ Keep h0 h [da, sa, ta, la, oa] ∧ ∃ (Sg Tg Og : Nat → Int32) (Lg : Nat → Value), own_St Z h n0 da sa ta la oa ka kb kc kd Sg Tg Og Lg (3 : Int32) ∧ own_I3 Sg Og)
set_option maxRecDepth 65536 in
set_option maxHeartbeats 40000000 in
theorem own_add2 (l : Launch) (Z : State) (a0 : Array Value) (hw : ∀ d ∈ tables_1, d.before a0 Z = true) (ws : List Jvm.Cond) (da : Addr) (lb : Addr) (tt : Int32) (sa : Addr) (ta : Addr) (la : Addr) (oa : Addr) (ka : ClassId) (kb : ClassId) (kc : ClassId) (kd : ClassId) (Sf : Nat → Int32) (Tf : Nat → Int32) (Of : Nat → Int32) (Lf : Nat → Value) (xx : Int32) (cs : Int32) (t0 : Int32) (x0 : Int32) (t1 : Int32) (x1 : Int32) (h0 : Heap) (n0 : Nat) (Z0 : n0 ≤ h0.size) (HS : own_St Z h0 n0 da sa ta la oa ka kb kc kd Sf Tf Of Lf (2 : Int32)) (HI : own_I2 Z h0 da Sf Tf Of Lf t0 x0 t1 x1) (CS : Sta Z h0 "java/lang/String" "COMPACT_STRINGS" "Z" (.int cs)) (hcs : ¬ cs = 0) (SA : own_Str Z h0 da lb xx) :
    MetFree l (⟨"com/example/erma/erma/analysis/DistinctSteps", "add", "(Ljava/lang/String;I)Z"⟩ : MethodName) (head1 (Jvm.Cond.code (⟨"com/example/erma/erma/analysis/DistinctSteps", "add", "(Ljava/lang/String;I)Z"⟩ : MethodName) prog_35_method_3_code 6 (some .boolean) :: ws) ({ frames := 2, cells := 0, slots := 0, locals := 40 } : Room)) (fun a U => a = #[(.ref da), (.ref lb), (.int tt)] ∧ Z.Warmed39 U.vm ∧ U.heap = h0) (fun _ _ _ _ _ => True) (fun _ U o U' => ∃ v L, o = .returned v ∧ Q_own_add2 Z da lb tt sa ta la oa ka kb kc kd Sf Tf Of Lf xx cs t0 x0 t1 x1 h0 n0 v U'.heap L ∧ FrameEnd U o U' L ({ frames := 2, cells := 0, slots := 0, locals := 40 } : Room).cells ({ frames := 2, cells := 0, slots := 0, locals := 40 } : Room).slots) := by
  refine MetFree.of_bodySF (plainFor_of_name own_pn_com_example_erma_erma_analysis_DistinctSteps) hisR ?_
  intro p e s m args below meth c s₁ Bd hml0 hP hK
  obtain ⟨rfl, hZ, hh⟩ := hP
  have hx := Bd.exec
  have hby := Bd.bytes
  have hml : c.maxLocals = 6 := hml0
  have hown : s.vm.findClass "com/example/erma/erma/analysis/DistinctSteps" = some m.cls := findClass_of_methodNamed Bd.named
  have hnm := (name_of_methodNamed Bd.named Bd.method).1
  have X0 : Stand p l e ({ frames := 2, cells := 0, slots := 0, locals := 40 } : Room) s m #[(.ref da), (.ref lb), (.int tt)] below meth c s₁ [] 0 0 := Stand.of_body Bd
  have e0 : s₁.heap = h0 := by rw [← hh, Bd.state]; rfl
  have N0 := Fr.nil n0
  have pre0 : ∀ t, Steps p.tables e below (s₁.setTop (mkF m 0 #[.val (.ref da), .val (.ref lb), .val (.int tt), .unset, .unset, .unset] [])) t → Steps p.tables e below (s₁.setTop (entryFrame m #[(.ref da), (.ref lb), (.int tt)] 6)) t := fun t k => castTop (own_ef_own_add2 m da lb tt) k
  have HS0 := HS
  obtain ⟨SE, S1, S2, S3, S4, S5, V1, V2, V3, V4, OV, ge_da, o1, o2, o3, o4⟩ := HS
  have lt_da_sa : da < sa := o1
  have ne_da_sa : da ≠ sa := Nat.ne_of_lt lt_da_sa
  have lt_da_ta : da < ta := Nat.lt_trans lt_da_sa o2
  have ne_da_ta : da ≠ ta := Nat.ne_of_lt lt_da_ta
  have lt_da_la : da < la := Nat.lt_trans lt_da_ta o3
  have ne_da_la : da ≠ la := Nat.ne_of_lt lt_da_la
  have lt_da_oa : da < oa := Nat.lt_trans lt_da_la o4
  have ne_da_oa : da ≠ oa := Nat.ne_of_lt lt_da_oa
  have lt_sa_ta : sa < ta := o2
  have ne_sa_ta : sa ≠ ta := Nat.ne_of_lt lt_sa_ta
  have lt_sa_la : sa < la := Nat.lt_trans lt_sa_ta o3
  have ne_sa_la : sa ≠ la := Nat.ne_of_lt lt_sa_la
  have lt_sa_oa : sa < oa := Nat.lt_trans lt_sa_la o4
  have ne_sa_oa : sa ≠ oa := Nat.ne_of_lt lt_sa_oa
  have lt_ta_la : ta < la := o3
  have ne_ta_la : ta ≠ la := Nat.ne_of_lt lt_ta_la
  have lt_ta_oa : ta < oa := Nat.lt_trans lt_ta_la o4
  have ne_ta_oa : ta ≠ oa := Nat.ne_of_lt lt_ta_oa
  have lt_la_oa : la < oa := o4
  have ne_la_oa : la ≠ oa := Nat.ne_of_lt lt_la_oa
  have ge_sa : n0 ≤ sa := Nat.le_trans ge_da (Nat.le_of_lt lt_da_sa)
  have ge_ta : n0 ≤ ta := Nat.le_trans ge_da (Nat.le_of_lt lt_da_ta)
  have ge_la : n0 ≤ la := Nat.le_trans ge_da (Nat.le_of_lt lt_da_la)
  have ge_oa : n0 ≤ oa := Nat.le_trans ge_da (Nat.le_of_lt lt_da_oa)
  obtain ⟨b0, b1, p1, hp1, hp1n, hS, hP1, hT0, hL0, SB0, hO0, hT1, hL1, SB1, hO1⟩ := HI
  have pre1 : ∀ t, Steps p.tables e below (s₁.setTop (mkF m 2 #[.val (.ref da), .val (.ref lb), .val (.int tt), .unset, .unset, .unset] [(.ref da), (.int (2 : Int32))])) t → Steps p.tables e below (s₁.setTop (entryFrame m #[(.ref da), (.ref lb), (.int tt)] 6)) t := fun t k => pre0 _ (by
    refine XT.iconstV X0.here hx rfl (2 : Int32) (hb hby own_d_prog_35_method_3_0) rfl ?_
    refine XS.aloadN X0.here hx rfl (hb hby own_d_prog_35_method_3_1) rfl rfl ?_
    exact k)
  obtain ⟨T2, X2, e2, st2⟩ := getF X0 hx hZ hown (host := "") (Or.inl (hw _ (List.mem_of_getElem? (i := 49) rfl))) Via.refl e0 S5 (g := (mkF m 2 #[.val (.ref da), .val (.ref lb), .val (.int tt), .unset, .unset, .unset] [(.ref da), (.int (2 : Int32))])) rfl rfl (hb hby own_d_prog_35_method_3_2)
  have pre3 : ∀ t, Steps p.tables e below (T2.setTop (mkF m 5 #[.val (.ref da), .val (.ref lb), .val (.int tt), .unset, .unset, .unset] [(.int (2 : Int32)), (.int (2 : Int32))])) t → Steps p.tables e below (s₁.setTop (entryFrame m #[(.ref da), (.ref lb), (.int tt)] 6)) t := fun t k => pre1 _ (st2 _ k)
  have pre4 : ∀ t, Steps p.tables e below (T2.setTop (mkF m 9 #[.val (.ref da), .val (.ref lb), .val (.int tt), .unset, .unset, .unset] [(.ref da), (.int (6 : Int32))])) t → Steps p.tables e below (s₁.setTop (entryFrame m #[(.ref da), (.ref lb), (.int tt)] 6)) t := fun t k => pre3 _ (by
    refine XT.iconstV X2.here hx rfl (1 : Int32) (hb hby own_d_prog_35_method_3_5) rfl ?_
    refine XS.iadd X2.here hx rfl (hb hby own_d_prog_35_method_3_6) rfl ?_
    refine XS.imul X2.here hx rfl (hb hby own_d_prog_35_method_3_7) rfl ?_
    refine XS.aloadN X2.here hx rfl (hb hby own_d_prog_35_method_3_8) rfl rfl ?_
    exact k)
  obtain ⟨T5, X5, e5, st5⟩ := getF X2 hx hZ hown (host := "") (Or.inl (hw _ (List.mem_of_getElem? (i := 34) rfl))) Via.refl e2 S1 (g := (mkF m 9 #[.val (.ref da), .val (.ref lb), .val (.int tt), .unset, .unset, .unset] [(.ref da), (.int (6 : Int32))])) rfl rfl (hb hby own_d_prog_35_method_3_9)
  have pre6 : ∀ t, Steps p.tables e below (T5.setTop (mkF m 12 #[.val (.ref da), .val (.ref lb), .val (.int tt), .unset, .unset, .unset] [(.ref sa), (.int (6 : Int32))])) t → Steps p.tables e below (s₁.setTop (entryFrame m #[(.ref da), (.ref lb), (.int tt)] 6)) t := fun t k => pre4 _ (st5 _ k)
  obtain ⟨cl7, Ar7, qc7, Sz7, Mz7, Hs7, Uf7⟩ := (show Arv Z h0 sa ka .int (16 : Int32) (own_ti Sf 16) (.int (0 : Int32)) from V1)
  have pre8 : ∀ t, Steps p.tables e below (T5.setTop (mkF m 21 #[.val (.ref da), .val (.ref lb), .val (.int tt), .unset, .unset, .unset] [(.ref da)])) t → Steps p.tables e below (s₁.setTop (entryFrame m #[(.ref da), (.ref lb), (.int tt)] 6)) t := fun t k => pre6 _ (by
    refine X5.arraylength hx (by rw [e5]; exact Ar7.1) (State.isArrayOf_alike hZ.alike Ar7.2.1) (g := (mkF m 12 #[.val (.ref da), .val (.ref lb), .val (.int tt), .unset, .unset, .unset] [(.ref sa), (.int (6 : Int32))])) rfl rfl (hb hby own_d_prog_35_method_3_12) _ ?_
    rw [len_of Sz7 Mz7]
    refine XS.icmpYes X5.here hx rfl (pc0 := 13) (pc' := 20) rfl (hb hby own_d_prog_35_method_3_13) rfl (XT.ii_le_t (by decide)) (by decide) (by decide) ?_
    refine XS.aloadN X5.here hx rfl (hb hby own_d_prog_35_method_3_20) rfl rfl ?_
    exact k)
  obtain ⟨T9, X9, e9, st9⟩ := getF X5 hx hZ hown (host := "") (Or.inl (hw _ (List.mem_of_getElem? (i := 34) rfl))) Via.refl e5 S1 (g := (mkF m 21 #[.val (.ref da), .val (.ref lb), .val (.int tt), .unset, .unset, .unset] [(.ref da)])) rfl rfl (hb hby own_d_prog_35_method_3_21)
  have pre10 : ∀ t, Steps p.tables e below (T9.setTop (mkF m 24 #[.val (.ref da), .val (.ref lb), .val (.int tt), .unset, .unset, .unset] [(.ref sa)])) t → Steps p.tables e below (s₁.setTop (entryFrame m #[(.ref da), (.ref lb), (.int tt)] 6)) t := fun t k => pre8 _ (st9 _ k)
  obtain ⟨cl11, Ar11, qc11, Sz11, Mz11, Hs11, Uf11⟩ := (show Arv Z h0 sa ka .int (16 : Int32) (own_ti Sf 16) (.int (0 : Int32)) from V1)
  have pre12 : ∀ t, Steps p.tables e below (T9.setTop (mkF m 30 #[.val (.ref da), .val (.ref lb), .val (.int tt), .val (.int (15 : Int32)), .unset, .unset] [(.int (15 : Int32)), (.int tt)])) t → Steps p.tables e below (s₁.setTop (entryFrame m #[(.ref da), (.ref lb), (.int tt)] 6)) t := fun t k => pre10 _ (by
    refine X9.arraylength hx (by rw [e9]; exact Ar11.1) (State.isArrayOf_alike hZ.alike Ar11.2.1) (g := (mkF m 24 #[.val (.ref da), .val (.ref lb), .val (.int tt), .unset, .unset, .unset] [(.ref sa)])) rfl rfl (hb hby own_d_prog_35_method_3_24) _ ?_
    rw [len_of Sz11 Mz11]
    refine XT.iconstV X9.here hx rfl (1 : Int32) (hb hby own_d_prog_35_method_3_25) rfl ?_
    refine XS.isub X9.here hx rfl (hb hby own_d_prog_35_method_3_26) rfl ?_
    refine XS.istoreN X9.here hx rfl (hb hby own_d_prog_35_method_3_27) rfl (l' := #[.val (.ref da), .val (.ref lb), .val (.int tt), .val (.int (15 : Int32)), .unset, .unset]) rfl ?_
    refine XS.iloadN X9.here hx rfl (hb hby own_d_prog_35_method_3_28) rfl ?_
    refine XS.iloadN X9.here hx rfl (hb hby own_d_prog_35_method_3_29) rfl ?_
    exact k)
  obtain ⟨_, _, ⟨T13, L13, k13, n13⟩, -, X13, ⟨Lc13, hQ13, l13, y13, z13⟩, st13⟩ := Jvm.LawKit.callS X9 hx (y := (⟨"com/example/erma/erma/analysis/DistinctSteps", "slotFor", "(II)I"⟩ : MethodName)) hown (mvT hZ (hw _ (List.mem_of_getElem? (i := 61) rfl))) (mvT hZ (hw _ (List.mem_of_getElem? (i := 62) rfl))) (mvT hZ (hw _ (List.mem_of_getElem? (i := 28) rfl))) (mvT hZ (hw _ (List.mem_of_getElem? (i := 63) rfl))) (by decide) (backOf (W := 0) (own_slotFor l Z a0 hw [] tt h0 n0 Z0) hZ (hw _ (List.mem_of_getElem? (i := 63) rfl)) (hw _ (List.mem_of_getElem? (i := 28) rfl)) (by decide) (by decide)) (g := (mkF m 30 #[.val (.ref da), .val (.ref lb), .val (.int tt), .val (.int (15 : Int32)), .unset, .unset] [(.int (15 : Int32)), (.int tt)])) rfl (by rw [hml]; rfl) (argsL := [(.int tt), (.int (15 : Int32))]) (rest := []) (lenOf own_pd__II_I rfl) rfl (by show 2 * 0 + _ ≤ _; exact Nat.le_of_eq rfl) (hb hby own_d_prog_35_method_3_30) (fun _ _ => ⟨rfl, e9, (by decide : 0 + 0 ≤ _), (by decide : 0 + 0 ≤ _)⟩)
  dsimp only [Pt.U, Pt.locs, Pt.cells, Pt.slots] at X13 l13 y13 z13 st13 hQ13
  subst l13 y13 z13
  obtain ⟨rfl, N13q, e13⟩ := hQ13
  have N13 := Fr.app N0 N13q
  have pre14 : ∀ t, Steps p.tables e below (T13.setTop (mkF m 33 #[.val (.ref da), .val (.ref lb), .val (.int tt), .val (.int (15 : Int32)), .unset, .unset] [(.int (own_hs tt))])) t → Steps p.tables e below (s₁.setTop (entryFrame m #[(.ref da), (.ref lb), (.int tt)] 6)) t := fun t k => pre12 _ (st13 _ k)
  have pre15 : ∀ t, Steps p.tables e below (T13.setTop (mkF m 35 #[.val (.ref da), .val (.ref lb), .val (.int tt), .val (.int (15 : Int32)), .val (.int (own_hs tt)), .unset] [])) t → Steps p.tables e below (s₁.setTop (entryFrame m #[(.ref da), (.ref lb), (.int tt)] 6)) t := fun t k => pre14 _ (by
    refine XS.istore X13.here hx rfl (hb hby own_d_prog_35_method_3_33) rfl (l' := #[.val (.ref da), .val (.ref lb), .val (.int tt), .val (.int (15 : Int32)), .val (.int (own_hs tt)), .unset]) rfl ?_
    exact k)
  obtain ⟨q0, hq0⟩ : ∃ z, z = own_hn tt := ⟨_, rfl⟩
  have hlt0 : q0 < 16 := by rw [hq0]; exact (own_hs_n tt).1
  have hh : own_hs tt = Int32.ofNat q0 := by rw [hq0]; exact (own_hs_n tt).2
  have pre16 : ∀ t, Steps p.tables e below (T13.setTop (mkF m 35 #[.val (.ref da), .val (.ref lb), .val (.int tt), .val (.int (15 : Int32)), .val (.int (Int32.ofNat q0)), .unset] [])) t → Steps p.tables e below (s₁.setTop (entryFrame m #[(.ref da), (.ref lb), (.int tt)] 6)) t := fun t k => pre15 _ (by rw [← hh] at k; exact k)
  have pre17 : ∀ t, Steps p.tables e below (T13.setTop (mkF m 36 #[.val (.ref da), .val (.ref lb), .val (.int tt), .val (.int (15 : Int32)), .val (.int (Int32.ofNat q0)), .unset] [(.ref da)])) t → Steps p.tables e below (s₁.setTop (entryFrame m #[(.ref da), (.ref lb), (.int tt)] 6)) t := fun t k => pre16 _ (by
    refine XS.aloadN X13.here hx rfl (hb hby own_d_prog_35_method_3_35) rfl rfl ?_
    exact k)
  obtain ⟨T18, X18, e18, st18⟩ := getF X13 hx hZ hown (host := "") (Or.inl (hw _ (List.mem_of_getElem? (i := 34) rfl))) Via.refl e13 S1 (g := (mkF m 36 #[.val (.ref da), .val (.ref lb), .val (.int tt), .val (.int (15 : Int32)), .val (.int (Int32.ofNat q0)), .unset] [(.ref da)])) rfl rfl (hb hby own_d_prog_35_method_3_36)
  have pre19 : ∀ t, Steps p.tables e below (T18.setTop (mkF m 39 #[.val (.ref da), .val (.ref lb), .val (.int tt), .val (.int (15 : Int32)), .val (.int (Int32.ofNat q0)), .unset] [(.ref sa)])) t → Steps p.tables e below (s₁.setTop (entryFrame m #[(.ref da), (.ref lb), (.int tt)] 6)) t := fun t k => pre17 _ (st18 _ k)
  have pre20 : ∀ t, Steps p.tables e below (T18.setTop (mkF m 41 #[.val (.ref da), .val (.ref lb), .val (.int tt), .val (.int (15 : Int32)), .val (.int (Int32.ofNat q0)), .unset] [(.int (Int32.ofNat q0)), (.ref sa)])) t → Steps p.tables e below (s₁.setTop (entryFrame m #[(.ref da), (.ref lb), (.int tt)] 6)) t := fun t k => pre19 _ (by
    refine XS.iload X18.here hx rfl (hb hby own_d_prog_35_method_3_39) rfl ?_
    exact k)
  by_cases w0_0 : q0 = (own_hn t0)
  · have hv0 : Sf q0 = (1 : Int32) := by rw [hS q0 hlt0, if_pos w0_0]
    obtain ⟨cl21, Ar21, qc21, Sz21, Mz21, Hs21, Uf21⟩ := (show Arv Z h0 sa ka .int (16 : Int32) (own_ti Sf 16) (.int (0 : Int32)) from V1)
    have in22 : ¬ ((Int32.ofNat q0) < 0 ∨ cl21.slots.size ≤ ((Int32.ofNat q0)).toNatClampNeg) := own_inb Sz21 (N := 16) (by decide) hlt0 (Nat.le_trans (Nat.le_of_lt hlt0) (by decide))
    have at22 : cl21.slots[((Int32.ofNat q0)).toNatClampNeg]? = some (.int (1 : Int32)) := Hs21.at in22 (by rw [own_n32 (Nat.le_trans (Nat.le_of_lt hlt0) (by decide))]; exact (own_ti_get _ hlt0 _).trans (congrArg Value.int (hv0)))
    have pre23 : ∀ t, Steps p.tables e below (T18.setTop (mkF m 45 #[.val (.ref da), .val (.ref lb), .val (.int tt), .val (.int (15 : Int32)), .val (.int (Int32.ofNat q0)), .unset] [])) t → Steps p.tables e below (s₁.setTop (entryFrame m #[(.ref da), (.ref lb), (.int tt)] 6)) t := fun t k => pre20 _ (by
      refine X18.iaload hx (j := (Int32.ofNat q0)) (v := (.int (1 : Int32))) (by rw [e18]; exact Ar21.1) (State.isArrayOf_alike hZ.alike Ar21.2.1) Ar21.2.2 in22 at22 (g := (mkF m 41 #[.val (.ref da), .val (.ref lb), .val (.int tt), .val (.int (15 : Int32)), .val (.int (Int32.ofNat q0)), .unset] [(.int (Int32.ofNat q0)), (.ref sa)])) rfl rfl (hb hby own_d_prog_35_method_3_41) _ ?_
      refine XS.ifNo X18.here hx rfl (hb hby own_d_prog_35_method_3_42) rfl (XT.i0_eq_f (by decide)) ?_
      exact k)
    rcases own_probe0 da sa ta la oa ka kb kc kd Sf Tf Of Lf lb b0 tt xx t0 x0 cs (2 : Int32) q0 .unset n0 X18 hx hZ hw hby hml hown e18 Z0 N13 HS0 One.u hlt0 hv0 hT0 hL0 SB0 SA CS hcs with ⟨T24, l24, Ls24, X24, e24, N24, mt24, st24⟩ | ⟨T24, l24, X24, e24, N24, mt24, st24⟩
    · have pre25 : ∀ t, Steps p.tables e below (T24.setTop (mkF m 82 Ls24 [(.int (0 : Int32))])) t → Steps p.tables e below (s₁.setTop (entryFrame m #[(.ref da), (.ref lb), (.int tt)] 6)) t := fun t k => pre23 _ (st24 _ k)
      obtain ⟨fs, hr, hrun, hended, hW, hsame⟩ := X24.leave (v := some (.int (0 : Int32))) (fun h => by rw [Bd.returns] at h; cases h)
      refine ⟨_, _, pre25 _ ?_, hrun, hended, _, _, rfl, ?_, ⟨_, rfl⟩, hW, hsame.mono (by decide) (by decide)⟩
      · show Steps p.tables e below (T24.setTop (mkF m 82 Ls24 [(.int (0 : Int32))])) _
        exact retN X24 hx (t := .boolean) Bd.returns (by simp) (hb hby own_d_prog_35_method_3_82) hr
      · show Q_own_add2 Z da lb tt sa ta la oa ka kb kc kd Sf Tf Of Lf xx cs t0 x0 t1 x1 h0 n0 _ T24.heap _
        rw [e24]
        exact Or.inl ⟨Or.inl ⟨mt24.1.symm, mt24.2.symm⟩, rfl, N24, rfl⟩
    · have pre26 : ∀ t, Steps p.tables e below (T24.setTop (mkF m 83 #[.val (.ref da), .val (.ref lb), .val (.int tt), .val (.int (15 : Int32)), .val (.int (Int32.ofNat q0)), .val (.int (0 : Int32))] [])) t → Steps p.tables e below (s₁.setTop (entryFrame m #[(.ref da), (.ref lb), (.int tt)] 6)) t := fun t k => pre23 _ (st24 _ k)
      have pre27 : ∀ t, Steps p.tables e below (T24.setTop (mkF m 35 #[.val (.ref da), .val (.ref lb), .val (.int tt), .val (.int (15 : Int32)), .val (.int (((Int32.ofNat q0) + (1 : Int32)) &&& (15 : Int32))), .val (.int (0 : Int32))] [])) t → Steps p.tables e below (s₁.setTop (entryFrame m #[(.ref da), (.ref lb), (.int tt)] 6)) t := fun t k => pre26 _ (by
        refine XS.iload X24.here hx rfl (hb hby own_d_prog_35_method_3_83) rfl ?_
        refine XT.iconstV X24.here hx rfl (1 : Int32) (hb hby own_d_prog_35_method_3_85) rfl ?_
        refine XS.iadd X24.here hx rfl (hb hby own_d_prog_35_method_3_86) rfl ?_
        refine XS.iloadN X24.here hx rfl (hb hby own_d_prog_35_method_3_87) rfl ?_
        refine XS.iand X24.here hx rfl (hb hby own_d_prog_35_method_3_88) rfl ?_
        refine XS.istore X24.here hx rfl (hb hby own_d_prog_35_method_3_89) rfl (l' := #[.val (.ref da), .val (.ref lb), .val (.int tt), .val (.int (15 : Int32)), .val (.int (((Int32.ofNat q0) + (1 : Int32)) &&& (15 : Int32))), .val (.int (0 : Int32))]) rfl ?_
        refine XS.goto X24.here hx rfl (pc0 := 91) (pc' := 35) rfl (hb hby own_d_prog_35_method_3_91) (by decide) (by decide) ?_
        exact k)
      obtain ⟨q1, hq1⟩ : ∃ z, z = (q0 + 1) % 16 := ⟨_, rfl⟩
      have hlt1 : q1 < 16 := by omega
      have hh1 : ((Int32.ofNat q0 + (1 : Int32)) &&& (15 : Int32)) = Int32.ofNat q1 := by rw [hq1]; exact own_nx hlt0
      have pre28 : ∀ t, Steps p.tables e below (T24.setTop (mkF m 35 #[.val (.ref da), .val (.ref lb), .val (.int tt), .val (.int (15 : Int32)), .val (.int (Int32.ofNat q1)), .val (.int (0 : Int32))] [])) t → Steps p.tables e below (s₁.setTop (entryFrame m #[(.ref da), (.ref lb), (.int tt)] 6)) t := fun t k => pre27 _ (by rw [← hh1] at k; exact k)
      have pre29 : ∀ t, Steps p.tables e below (T24.setTop (mkF m 36 #[.val (.ref da), .val (.ref lb), .val (.int tt), .val (.int (15 : Int32)), .val (.int (Int32.ofNat q1)), .val (.int (0 : Int32))] [(.ref da)])) t → Steps p.tables e below (s₁.setTop (entryFrame m #[(.ref da), (.ref lb), (.int tt)] 6)) t := fun t k => pre28 _ (by
        refine XS.aloadN X24.here hx rfl (hb hby own_d_prog_35_method_3_35) rfl rfl ?_
        exact k)
      obtain ⟨T30, X30, e30, st30⟩ := getF X24 hx hZ hown (host := "") (Or.inl (hw _ (List.mem_of_getElem? (i := 34) rfl))) Via.refl e24 S1 (g := (mkF m 36 #[.val (.ref da), .val (.ref lb), .val (.int tt), .val (.int (15 : Int32)), .val (.int (Int32.ofNat q1)), .val (.int (0 : Int32))] [(.ref da)])) rfl rfl (hb hby own_d_prog_35_method_3_36)
      have pre31 : ∀ t, Steps p.tables e below (T30.setTop (mkF m 39 #[.val (.ref da), .val (.ref lb), .val (.int tt), .val (.int (15 : Int32)), .val (.int (Int32.ofNat q1)), .val (.int (0 : Int32))] [(.ref sa)])) t → Steps p.tables e below (s₁.setTop (entryFrame m #[(.ref da), (.ref lb), (.int tt)] 6)) t := fun t k => pre29 _ (st30 _ k)
      have nv1_0 : ¬ q1 = (own_hn t0) := by omega
      have pre32 : ∀ t, Steps p.tables e below (T30.setTop (mkF m 41 #[.val (.ref da), .val (.ref lb), .val (.int tt), .val (.int (15 : Int32)), .val (.int (Int32.ofNat q1)), .val (.int (0 : Int32))] [(.int (Int32.ofNat q1)), (.ref sa)])) t → Steps p.tables e below (s₁.setTop (entryFrame m #[(.ref da), (.ref lb), (.int tt)] 6)) t := fun t k => pre31 _ (by
        refine XS.iload X30.here hx rfl (hb hby own_d_prog_35_method_3_39) rfl ?_
        exact k)
      by_cases w1_1 : q1 = p1
      · have hv1 : Sf q1 = (2 : Int32) := by rw [hS q1 hlt1, if_neg nv1_0, if_pos w1_1]
        obtain ⟨cl33, Ar33, qc33, Sz33, Mz33, Hs33, Uf33⟩ := (show Arv Z h0 sa ka .int (16 : Int32) (own_ti Sf 16) (.int (0 : Int32)) from V1)
        have in34 : ¬ ((Int32.ofNat q1) < 0 ∨ cl33.slots.size ≤ ((Int32.ofNat q1)).toNatClampNeg) := own_inb Sz33 (N := 16) (by decide) hlt1 (Nat.le_trans (Nat.le_of_lt hlt1) (by decide))
        have at34 : cl33.slots[((Int32.ofNat q1)).toNatClampNeg]? = some (.int (2 : Int32)) := Hs33.at in34 (by rw [own_n32 (Nat.le_trans (Nat.le_of_lt hlt1) (by decide))]; exact (own_ti_get _ hlt1 _).trans (congrArg Value.int (hv1)))
        have pre35 : ∀ t, Steps p.tables e below (T30.setTop (mkF m 45 #[.val (.ref da), .val (.ref lb), .val (.int tt), .val (.int (15 : Int32)), .val (.int (Int32.ofNat q1)), .val (.int (0 : Int32))] [])) t → Steps p.tables e below (s₁.setTop (entryFrame m #[(.ref da), (.ref lb), (.int tt)] 6)) t := fun t k => pre32 _ (by
          refine X30.iaload hx (j := (Int32.ofNat q1)) (v := (.int (2 : Int32))) (by rw [e30]; exact Ar33.1) (State.isArrayOf_alike hZ.alike Ar33.2.1) Ar33.2.2 in34 at34 (g := (mkF m 41 #[.val (.ref da), .val (.ref lb), .val (.int tt), .val (.int (15 : Int32)), .val (.int (Int32.ofNat q1)), .val (.int (0 : Int32))] [(.int (Int32.ofNat q1)), (.ref sa)])) rfl rfl (hb hby own_d_prog_35_method_3_41) _ ?_
          refine XS.ifNo X30.here hx rfl (hb hby own_d_prog_35_method_3_42) rfl (XT.i0_eq_f (by decide)) ?_
          exact k)
        rcases own_probe1 da sa ta la oa ka kb kc kd Sf Tf Of Lf lb b1 tt xx t1 x1 cs (2 : Int32) q1 (.val (.int (0 : Int32))) n0 X30 hx hZ hw hby hml hown e30 Z0 N24 HS0 (One.val rfl) hlt1 hv1 hT1 hL1 SB1 SA CS hcs with ⟨T36, l36, Ls36, X36, e36, N36, mt36, st36⟩ | ⟨T36, l36, X36, e36, N36, mt36, st36⟩
        · have pre37 : ∀ t, Steps p.tables e below (T36.setTop (mkF m 82 Ls36 [(.int (0 : Int32))])) t → Steps p.tables e below (s₁.setTop (entryFrame m #[(.ref da), (.ref lb), (.int tt)] 6)) t := fun t k => pre35 _ (st36 _ k)
          obtain ⟨fs, hr, hrun, hended, hW, hsame⟩ := X36.leave (v := some (.int (0 : Int32))) (fun h => by rw [Bd.returns] at h; cases h)
          refine ⟨_, _, pre37 _ ?_, hrun, hended, _, _, rfl, ?_, ⟨_, rfl⟩, hW, hsame.mono (by decide) (by decide)⟩
          · show Steps p.tables e below (T36.setTop (mkF m 82 Ls36 [(.int (0 : Int32))])) _
            exact retN X36 hx (t := .boolean) Bd.returns (by simp) (hb hby own_d_prog_35_method_3_82) hr
          · show Q_own_add2 Z da lb tt sa ta la oa ka kb kc kd Sf Tf Of Lf xx cs t0 x0 t1 x1 h0 n0 _ T36.heap _
            rw [e36]
            exact Or.inl ⟨Or.inr ⟨mt36.1.symm, mt36.2.symm⟩, rfl, N36, rfl⟩
        · have pre38 : ∀ t, Steps p.tables e below (T36.setTop (mkF m 83 #[.val (.ref da), .val (.ref lb), .val (.int tt), .val (.int (15 : Int32)), .val (.int (Int32.ofNat q1)), .val (.int (1 : Int32))] [])) t → Steps p.tables e below (s₁.setTop (entryFrame m #[(.ref da), (.ref lb), (.int tt)] 6)) t := fun t k => pre35 _ (st36 _ k)
          have pre39 : ∀ t, Steps p.tables e below (T36.setTop (mkF m 35 #[.val (.ref da), .val (.ref lb), .val (.int tt), .val (.int (15 : Int32)), .val (.int (((Int32.ofNat q1) + (1 : Int32)) &&& (15 : Int32))), .val (.int (1 : Int32))] [])) t → Steps p.tables e below (s₁.setTop (entryFrame m #[(.ref da), (.ref lb), (.int tt)] 6)) t := fun t k => pre38 _ (by
            refine XS.iload X36.here hx rfl (hb hby own_d_prog_35_method_3_83) rfl ?_
            refine XT.iconstV X36.here hx rfl (1 : Int32) (hb hby own_d_prog_35_method_3_85) rfl ?_
            refine XS.iadd X36.here hx rfl (hb hby own_d_prog_35_method_3_86) rfl ?_
            refine XS.iloadN X36.here hx rfl (hb hby own_d_prog_35_method_3_87) rfl ?_
            refine XS.iand X36.here hx rfl (hb hby own_d_prog_35_method_3_88) rfl ?_
            refine XS.istore X36.here hx rfl (hb hby own_d_prog_35_method_3_89) rfl (l' := #[.val (.ref da), .val (.ref lb), .val (.int tt), .val (.int (15 : Int32)), .val (.int (((Int32.ofNat q1) + (1 : Int32)) &&& (15 : Int32))), .val (.int (1 : Int32))]) rfl ?_
            refine XS.goto X36.here hx rfl (pc0 := 91) (pc' := 35) rfl (hb hby own_d_prog_35_method_3_91) (by decide) (by decide) ?_
            exact k)
          obtain ⟨q2, hq2⟩ : ∃ z, z = (q1 + 1) % 16 := ⟨_, rfl⟩
          have hlt2 : q2 < 16 := by omega
          have hh2 : ((Int32.ofNat q1 + (1 : Int32)) &&& (15 : Int32)) = Int32.ofNat q2 := by rw [hq2]; exact own_nx hlt1
          have pre40 : ∀ t, Steps p.tables e below (T36.setTop (mkF m 35 #[.val (.ref da), .val (.ref lb), .val (.int tt), .val (.int (15 : Int32)), .val (.int (Int32.ofNat q2)), .val (.int (1 : Int32))] [])) t → Steps p.tables e below (s₁.setTop (entryFrame m #[(.ref da), (.ref lb), (.int tt)] 6)) t := fun t k => pre39 _ (by rw [← hh2] at k; exact k)
          have pre41 : ∀ t, Steps p.tables e below (T36.setTop (mkF m 36 #[.val (.ref da), .val (.ref lb), .val (.int tt), .val (.int (15 : Int32)), .val (.int (Int32.ofNat q2)), .val (.int (1 : Int32))] [(.ref da)])) t → Steps p.tables e below (s₁.setTop (entryFrame m #[(.ref da), (.ref lb), (.int tt)] 6)) t := fun t k => pre40 _ (by
            refine XS.aloadN X36.here hx rfl (hb hby own_d_prog_35_method_3_35) rfl rfl ?_
            exact k)
          obtain ⟨T42, X42, e42, st42⟩ := getF X36 hx hZ hown (host := "") (Or.inl (hw _ (List.mem_of_getElem? (i := 34) rfl))) Via.refl e36 S1 (g := (mkF m 36 #[.val (.ref da), .val (.ref lb), .val (.int tt), .val (.int (15 : Int32)), .val (.int (Int32.ofNat q2)), .val (.int (1 : Int32))] [(.ref da)])) rfl rfl (hb hby own_d_prog_35_method_3_36)
          have pre43 : ∀ t, Steps p.tables e below (T42.setTop (mkF m 39 #[.val (.ref da), .val (.ref lb), .val (.int tt), .val (.int (15 : Int32)), .val (.int (Int32.ofNat q2)), .val (.int (1 : Int32))] [(.ref sa)])) t → Steps p.tables e below (s₁.setTop (entryFrame m #[(.ref da), (.ref lb), (.int tt)] 6)) t := fun t k => pre41 _ (st42 _ k)
          have nv2_0 : ¬ q2 = (own_hn t0) := by omega
          have nv2_1 : ¬ q2 = p1 := by omega
          have hv2 : Sf q2 = (0 : Int32) := by rw [hS q2 hlt2, if_neg nv2_0, if_neg nv2_1]
          have pre45 : ∀ t, Steps p.tables e below (T42.setTop (mkF m 41 #[.val (.ref da), .val (.ref lb), .val (.int tt), .val (.int (15 : Int32)), .val (.int (Int32.ofNat q2)), .val (.int (1 : Int32))] [(.int (Int32.ofNat q2)), (.ref sa)])) t → Steps p.tables e below (s₁.setTop (entryFrame m #[(.ref da), (.ref lb), (.int tt)] 6)) t := fun t k => pre43 _ (by
            refine XS.iload X42.here hx rfl (hb hby own_d_prog_35_method_3_39) rfl ?_
            exact k)
          obtain ⟨cl44, Ar44, qc44, Sz44, Mz44, Hs44, Uf44⟩ := (show Arv Z h0 sa ka .int (16 : Int32) (own_ti Sf 16) (.int (0 : Int32)) from V1)
          have in46 : ¬ ((Int32.ofNat q2) < 0 ∨ cl44.slots.size ≤ ((Int32.ofNat q2)).toNatClampNeg) := own_inb Sz44 (N := 16) (by decide) hlt2 (Nat.le_trans (Nat.le_of_lt hlt2) (by decide))
          have at46 : cl44.slots[((Int32.ofNat q2)).toNatClampNeg]? = some (.int (0 : Int32)) := Hs44.at in46 (by rw [own_n32 (Nat.le_trans (Nat.le_of_lt hlt2) (by decide))]; exact (own_ti_get _ hlt2 _).trans (congrArg Value.int (hv2)))
          have pre47 : ∀ t, Steps p.tables e below (T42.setTop (mkF m 94 #[.val (.ref da), .val (.ref lb), .val (.int tt), .val (.int (15 : Int32)), .val (.int (Int32.ofNat q2)), .val (.int (1 : Int32))] [])) t → Steps p.tables e below (s₁.setTop (entryFrame m #[(.ref da), (.ref lb), (.int tt)] 6)) t := fun t k => pre45 _ (by
            refine X42.iaload hx (j := (Int32.ofNat q2)) (v := (.int (0 : Int32))) (by rw [e42]; exact Ar44.1) (State.isArrayOf_alike hZ.alike Ar44.2.1) Ar44.2.2 in46 at46 (g := (mkF m 41 #[.val (.ref da), .val (.ref lb), .val (.int tt), .val (.int (15 : Int32)), .val (.int (Int32.ofNat q2)), .val (.int (1 : Int32))] [(.int (Int32.ofNat q2)), (.ref sa)])) rfl rfl (hb hby own_d_prog_35_method_3_41) _ ?_
            refine XS.ifYes X42.here hx rfl (pc0 := 42) (pc' := 94) rfl (hb hby own_d_prog_35_method_3_42) rfl (XT.i0_eq_t (by decide)) (by decide) (by decide) ?_
            exact k)
          obtain ⟨T48, h48, locs48, Ls48, X48, e48, N48, Z48, ⟨KI, SI⟩, st48⟩ := own_ins2 da sa ta la oa ka kb kc kd Sf Tf Of Lf lb tt xx q2 (.val (.int (1 : Int32))) n0 X42 hx hZ hw hby hml hown e42 Z0 N36 HS0 hlt2 SA
          have pre49 : ∀ t, Steps p.tables e below (T48.setTop (mkF m 149 Ls48 [(.int (1 : Int32))])) t → Steps p.tables e below (s₁.setTop (entryFrame m #[(.ref da), (.ref lb), (.int tt)] 6)) t := fun t k => pre47 _ (st48 _ k)
          obtain ⟨fs, hr, hrun, hended, hW, hsame⟩ := X48.leave (v := some (.int (1 : Int32))) (fun h => by rw [Bd.returns] at h; cases h)
          refine ⟨_, _, pre49 _ ?_, hrun, hended, _, _, rfl, ?_, ⟨_, rfl⟩, hW, hsame.mono (by decide) (by decide)⟩
          · show Steps p.tables e below (T48.setTop (mkF m 149 Ls48 [(.int (1 : Int32))])) _
            exact retN X48 hx (t := .boolean) Bd.returns (by simp) (hb hby own_d_prog_35_method_3_149) hr
          · show Q_own_add2 Z da lb tt sa ta la oa ka kb kc kd Sf Tf Of Lf xx cs t0 x0 t1 x1 h0 n0 _ T48.heap _
            rw [e48]
            exact Or.inr ⟨(fun z => z.elim (fun z => mt24 ⟨z.1.symm, z.2.symm⟩) (fun z => mt36 ⟨z.1.symm, z.2.symm⟩)), rfl, N48, KI, _, _, _, _, SI, ⟨own_hn t0, p1, q2, (own_hs_n t0).1, hp1, hlt2, (fun j hj a b z => by show (if j = q2 then (3 : Int32) else Sf j) = 0; rw [if_neg z, hS j hj, if_neg a, if_neg b]), (if_neg (by decide)).trans hO0, (if_neg (by decide)).trans hO1, if_pos rfl⟩⟩
      · have hv1 : Sf q1 = (0 : Int32) := by rw [hS q1 hlt1, if_neg nv1_0, if_neg w1_1]
        obtain ⟨cl50, Ar50, qc50, Sz50, Mz50, Hs50, Uf50⟩ := (show Arv Z h0 sa ka .int (16 : Int32) (own_ti Sf 16) (.int (0 : Int32)) from V1)
        have in51 : ¬ ((Int32.ofNat q1) < 0 ∨ cl50.slots.size ≤ ((Int32.ofNat q1)).toNatClampNeg) := own_inb Sz50 (N := 16) (by decide) hlt1 (Nat.le_trans (Nat.le_of_lt hlt1) (by decide))
        have at51 : cl50.slots[((Int32.ofNat q1)).toNatClampNeg]? = some (.int (0 : Int32)) := Hs50.at in51 (by rw [own_n32 (Nat.le_trans (Nat.le_of_lt hlt1) (by decide))]; exact (own_ti_get _ hlt1 _).trans (congrArg Value.int (hv1)))
        have pre52 : ∀ t, Steps p.tables e below (T30.setTop (mkF m 94 #[.val (.ref da), .val (.ref lb), .val (.int tt), .val (.int (15 : Int32)), .val (.int (Int32.ofNat q1)), .val (.int (0 : Int32))] [])) t → Steps p.tables e below (s₁.setTop (entryFrame m #[(.ref da), (.ref lb), (.int tt)] 6)) t := fun t k => pre32 _ (by
          refine X30.iaload hx (j := (Int32.ofNat q1)) (v := (.int (0 : Int32))) (by rw [e30]; exact Ar50.1) (State.isArrayOf_alike hZ.alike Ar50.2.1) Ar50.2.2 in51 at51 (g := (mkF m 41 #[.val (.ref da), .val (.ref lb), .val (.int tt), .val (.int (15 : Int32)), .val (.int (Int32.ofNat q1)), .val (.int (0 : Int32))] [(.int (Int32.ofNat q1)), (.ref sa)])) rfl rfl (hb hby own_d_prog_35_method_3_41) _ ?_
          refine XS.ifYes X30.here hx rfl (pc0 := 42) (pc' := 94) rfl (hb hby own_d_prog_35_method_3_42) rfl (XT.i0_eq_t (by decide)) (by decide) (by decide) ?_
          exact k)
        obtain ⟨T53, h53, locs53, Ls53, X53, e53, N53, Z53, ⟨KI, SI⟩, st53⟩ := own_ins2 da sa ta la oa ka kb kc kd Sf Tf Of Lf lb tt xx q1 (.val (.int (0 : Int32))) n0 X30 hx hZ hw hby hml hown e30 Z0 N24 HS0 hlt1 SA
        have pre54 : ∀ t, Steps p.tables e below (T53.setTop (mkF m 149 Ls53 [(.int (1 : Int32))])) t → Steps p.tables e below (s₁.setTop (entryFrame m #[(.ref da), (.ref lb), (.int tt)] 6)) t := fun t k => pre52 _ (st53 _ k)
        obtain ⟨fs, hr, hrun, hended, hW, hsame⟩ := X53.leave (v := some (.int (1 : Int32))) (fun h => by rw [Bd.returns] at h; cases h)
        refine ⟨_, _, pre54 _ ?_, hrun, hended, _, _, rfl, ?_, ⟨_, rfl⟩, hW, hsame.mono (by decide) (by decide)⟩
        · show Steps p.tables e below (T53.setTop (mkF m 149 Ls53 [(.int (1 : Int32))])) _
          exact retN X53 hx (t := .boolean) Bd.returns (by simp) (hb hby own_d_prog_35_method_3_149) hr
        · show Q_own_add2 Z da lb tt sa ta la oa ka kb kc kd Sf Tf Of Lf xx cs t0 x0 t1 x1 h0 n0 _ T53.heap _
          rw [e53]
          exact Or.inr ⟨(fun z => z.elim (fun z => mt24 ⟨z.1.symm, z.2.symm⟩) (fun z => by have e : own_hn tt = own_hn t1 := congrArg own_hn z.1; omega)), rfl, N53, KI, _, _, _, _, SI, ⟨own_hn t0, p1, q1, (own_hs_n t0).1, hp1, hlt1, (fun j hj a b z => by show (if j = q1 then (3 : Int32) else Sf j) = 0; rw [if_neg z, hS j hj, if_neg a, if_neg b]), (if_neg (by decide)).trans hO0, (if_neg (by decide)).trans hO1, if_pos rfl⟩⟩
  · by_cases w0_1 : q0 = p1
    · have hv0 : Sf q0 = (2 : Int32) := by rw [hS q0 hlt0, if_neg w0_0, if_pos w0_1]
      obtain ⟨cl55, Ar55, qc55, Sz55, Mz55, Hs55, Uf55⟩ := (show Arv Z h0 sa ka .int (16 : Int32) (own_ti Sf 16) (.int (0 : Int32)) from V1)
      have in56 : ¬ ((Int32.ofNat q0) < 0 ∨ cl55.slots.size ≤ ((Int32.ofNat q0)).toNatClampNeg) := own_inb Sz55 (N := 16) (by decide) hlt0 (Nat.le_trans (Nat.le_of_lt hlt0) (by decide))
      have at56 : cl55.slots[((Int32.ofNat q0)).toNatClampNeg]? = some (.int (2 : Int32)) := Hs55.at in56 (by rw [own_n32 (Nat.le_trans (Nat.le_of_lt hlt0) (by decide))]; exact (own_ti_get _ hlt0 _).trans (congrArg Value.int (hv0)))
      have pre57 : ∀ t, Steps p.tables e below (T18.setTop (mkF m 45 #[.val (.ref da), .val (.ref lb), .val (.int tt), .val (.int (15 : Int32)), .val (.int (Int32.ofNat q0)), .unset] [])) t → Steps p.tables e below (s₁.setTop (entryFrame m #[(.ref da), (.ref lb), (.int tt)] 6)) t := fun t k => pre20 _ (by
        refine X18.iaload hx (j := (Int32.ofNat q0)) (v := (.int (2 : Int32))) (by rw [e18]; exact Ar55.1) (State.isArrayOf_alike hZ.alike Ar55.2.1) Ar55.2.2 in56 at56 (g := (mkF m 41 #[.val (.ref da), .val (.ref lb), .val (.int tt), .val (.int (15 : Int32)), .val (.int (Int32.ofNat q0)), .unset] [(.int (Int32.ofNat q0)), (.ref sa)])) rfl rfl (hb hby own_d_prog_35_method_3_41) _ ?_
        refine XS.ifNo X18.here hx rfl (hb hby own_d_prog_35_method_3_42) rfl (XT.i0_eq_f (by decide)) ?_
        exact k)
      rcases own_probe1 da sa ta la oa ka kb kc kd Sf Tf Of Lf lb b1 tt xx t1 x1 cs (2 : Int32) q0 .unset n0 X18 hx hZ hw hby hml hown e18 Z0 N13 HS0 One.u hlt0 hv0 hT1 hL1 SB1 SA CS hcs with ⟨T58, l58, Ls58, X58, e58, N58, mt58, st58⟩ | ⟨T58, l58, X58, e58, N58, mt58, st58⟩
      · have pre59 : ∀ t, Steps p.tables e below (T58.setTop (mkF m 82 Ls58 [(.int (0 : Int32))])) t → Steps p.tables e below (s₁.setTop (entryFrame m #[(.ref da), (.ref lb), (.int tt)] 6)) t := fun t k => pre57 _ (st58 _ k)
        obtain ⟨fs, hr, hrun, hended, hW, hsame⟩ := X58.leave (v := some (.int (0 : Int32))) (fun h => by rw [Bd.returns] at h; cases h)
        refine ⟨_, _, pre59 _ ?_, hrun, hended, _, _, rfl, ?_, ⟨_, rfl⟩, hW, hsame.mono (by decide) (by decide)⟩
        · show Steps p.tables e below (T58.setTop (mkF m 82 Ls58 [(.int (0 : Int32))])) _
          exact retN X58 hx (t := .boolean) Bd.returns (by simp) (hb hby own_d_prog_35_method_3_82) hr
        · show Q_own_add2 Z da lb tt sa ta la oa ka kb kc kd Sf Tf Of Lf xx cs t0 x0 t1 x1 h0 n0 _ T58.heap _
          rw [e58]
          exact Or.inl ⟨Or.inr ⟨mt58.1.symm, mt58.2.symm⟩, rfl, N58, rfl⟩
      · have pre60 : ∀ t, Steps p.tables e below (T58.setTop (mkF m 83 #[.val (.ref da), .val (.ref lb), .val (.int tt), .val (.int (15 : Int32)), .val (.int (Int32.ofNat q0)), .val (.int (1 : Int32))] [])) t → Steps p.tables e below (s₁.setTop (entryFrame m #[(.ref da), (.ref lb), (.int tt)] 6)) t := fun t k => pre57 _ (st58 _ k)
        have pre61 : ∀ t, Steps p.tables e below (T58.setTop (mkF m 35 #[.val (.ref da), .val (.ref lb), .val (.int tt), .val (.int (15 : Int32)), .val (.int (((Int32.ofNat q0) + (1 : Int32)) &&& (15 : Int32))), .val (.int (1 : Int32))] [])) t → Steps p.tables e below (s₁.setTop (entryFrame m #[(.ref da), (.ref lb), (.int tt)] 6)) t := fun t k => pre60 _ (by
          refine XS.iload X58.here hx rfl (hb hby own_d_prog_35_method_3_83) rfl ?_
          refine XT.iconstV X58.here hx rfl (1 : Int32) (hb hby own_d_prog_35_method_3_85) rfl ?_
          refine XS.iadd X58.here hx rfl (hb hby own_d_prog_35_method_3_86) rfl ?_
          refine XS.iloadN X58.here hx rfl (hb hby own_d_prog_35_method_3_87) rfl ?_
          refine XS.iand X58.here hx rfl (hb hby own_d_prog_35_method_3_88) rfl ?_
          refine XS.istore X58.here hx rfl (hb hby own_d_prog_35_method_3_89) rfl (l' := #[.val (.ref da), .val (.ref lb), .val (.int tt), .val (.int (15 : Int32)), .val (.int (((Int32.ofNat q0) + (1 : Int32)) &&& (15 : Int32))), .val (.int (1 : Int32))]) rfl ?_
          refine XS.goto X58.here hx rfl (pc0 := 91) (pc' := 35) rfl (hb hby own_d_prog_35_method_3_91) (by decide) (by decide) ?_
          exact k)
        obtain ⟨q1, hq1⟩ : ∃ z, z = (q0 + 1) % 16 := ⟨_, rfl⟩
        have hlt1 : q1 < 16 := by omega
        have hh1 : ((Int32.ofNat q0 + (1 : Int32)) &&& (15 : Int32)) = Int32.ofNat q1 := by rw [hq1]; exact own_nx hlt0
        have pre62 : ∀ t, Steps p.tables e below (T58.setTop (mkF m 35 #[.val (.ref da), .val (.ref lb), .val (.int tt), .val (.int (15 : Int32)), .val (.int (Int32.ofNat q1)), .val (.int (1 : Int32))] [])) t → Steps p.tables e below (s₁.setTop (entryFrame m #[(.ref da), (.ref lb), (.int tt)] 6)) t := fun t k => pre61 _ (by rw [← hh1] at k; exact k)
        have pre63 : ∀ t, Steps p.tables e below (T58.setTop (mkF m 36 #[.val (.ref da), .val (.ref lb), .val (.int tt), .val (.int (15 : Int32)), .val (.int (Int32.ofNat q1)), .val (.int (1 : Int32))] [(.ref da)])) t → Steps p.tables e below (s₁.setTop (entryFrame m #[(.ref da), (.ref lb), (.int tt)] 6)) t := fun t k => pre62 _ (by
          refine XS.aloadN X58.here hx rfl (hb hby own_d_prog_35_method_3_35) rfl rfl ?_
          exact k)
        obtain ⟨T64, X64, e64, st64⟩ := getF X58 hx hZ hown (host := "") (Or.inl (hw _ (List.mem_of_getElem? (i := 34) rfl))) Via.refl e58 S1 (g := (mkF m 36 #[.val (.ref da), .val (.ref lb), .val (.int tt), .val (.int (15 : Int32)), .val (.int (Int32.ofNat q1)), .val (.int (1 : Int32))] [(.ref da)])) rfl rfl (hb hby own_d_prog_35_method_3_36)
        have pre65 : ∀ t, Steps p.tables e below (T64.setTop (mkF m 39 #[.val (.ref da), .val (.ref lb), .val (.int tt), .val (.int (15 : Int32)), .val (.int (Int32.ofNat q1)), .val (.int (1 : Int32))] [(.ref sa)])) t → Steps p.tables e below (s₁.setTop (entryFrame m #[(.ref da), (.ref lb), (.int tt)] 6)) t := fun t k => pre63 _ (st64 _ k)
        have nv1_1 : ¬ q1 = p1 := by omega
        have pre66 : ∀ t, Steps p.tables e below (T64.setTop (mkF m 41 #[.val (.ref da), .val (.ref lb), .val (.int tt), .val (.int (15 : Int32)), .val (.int (Int32.ofNat q1)), .val (.int (1 : Int32))] [(.int (Int32.ofNat q1)), (.ref sa)])) t → Steps p.tables e below (s₁.setTop (entryFrame m #[(.ref da), (.ref lb), (.int tt)] 6)) t := fun t k => pre65 _ (by
          refine XS.iload X64.here hx rfl (hb hby own_d_prog_35_method_3_39) rfl ?_
          exact k)
        by_cases w1_0 : q1 = (own_hn t0)
        · have hv1 : Sf q1 = (1 : Int32) := by rw [hS q1 hlt1, if_pos w1_0]
          obtain ⟨cl67, Ar67, qc67, Sz67, Mz67, Hs67, Uf67⟩ := (show Arv Z h0 sa ka .int (16 : Int32) (own_ti Sf 16) (.int (0 : Int32)) from V1)
          have in68 : ¬ ((Int32.ofNat q1) < 0 ∨ cl67.slots.size ≤ ((Int32.ofNat q1)).toNatClampNeg) := own_inb Sz67 (N := 16) (by decide) hlt1 (Nat.le_trans (Nat.le_of_lt hlt1) (by decide))
          have at68 : cl67.slots[((Int32.ofNat q1)).toNatClampNeg]? = some (.int (1 : Int32)) := Hs67.at in68 (by rw [own_n32 (Nat.le_trans (Nat.le_of_lt hlt1) (by decide))]; exact (own_ti_get _ hlt1 _).trans (congrArg Value.int (hv1)))
          have pre69 : ∀ t, Steps p.tables e below (T64.setTop (mkF m 45 #[.val (.ref da), .val (.ref lb), .val (.int tt), .val (.int (15 : Int32)), .val (.int (Int32.ofNat q1)), .val (.int (1 : Int32))] [])) t → Steps p.tables e below (s₁.setTop (entryFrame m #[(.ref da), (.ref lb), (.int tt)] 6)) t := fun t k => pre66 _ (by
            refine X64.iaload hx (j := (Int32.ofNat q1)) (v := (.int (1 : Int32))) (by rw [e64]; exact Ar67.1) (State.isArrayOf_alike hZ.alike Ar67.2.1) Ar67.2.2 in68 at68 (g := (mkF m 41 #[.val (.ref da), .val (.ref lb), .val (.int tt), .val (.int (15 : Int32)), .val (.int (Int32.ofNat q1)), .val (.int (1 : Int32))] [(.int (Int32.ofNat q1)), (.ref sa)])) rfl rfl (hb hby own_d_prog_35_method_3_41) _ ?_
            refine XS.ifNo X64.here hx rfl (hb hby own_d_prog_35_method_3_42) rfl (XT.i0_eq_f (by decide)) ?_
            exact k)
          rcases own_probe0 da sa ta la oa ka kb kc kd Sf Tf Of Lf lb b0 tt xx t0 x0 cs (2 : Int32) q1 (.val (.int (1 : Int32))) n0 X64 hx hZ hw hby hml hown e64 Z0 N58 HS0 (One.val rfl) hlt1 hv1 hT0 hL0 SB0 SA CS hcs with ⟨T70, l70, Ls70, X70, e70, N70, mt70, st70⟩ | ⟨T70, l70, X70, e70, N70, mt70, st70⟩
          · have pre71 : ∀ t, Steps p.tables e below (T70.setTop (mkF m 82 Ls70 [(.int (0 : Int32))])) t → Steps p.tables e below (s₁.setTop (entryFrame m #[(.ref da), (.ref lb), (.int tt)] 6)) t := fun t k => pre69 _ (st70 _ k)
            obtain ⟨fs, hr, hrun, hended, hW, hsame⟩ := X70.leave (v := some (.int (0 : Int32))) (fun h => by rw [Bd.returns] at h; cases h)
            refine ⟨_, _, pre71 _ ?_, hrun, hended, _, _, rfl, ?_, ⟨_, rfl⟩, hW, hsame.mono (by decide) (by decide)⟩
            · show Steps p.tables e below (T70.setTop (mkF m 82 Ls70 [(.int (0 : Int32))])) _
              exact retN X70 hx (t := .boolean) Bd.returns (by simp) (hb hby own_d_prog_35_method_3_82) hr
            · show Q_own_add2 Z da lb tt sa ta la oa ka kb kc kd Sf Tf Of Lf xx cs t0 x0 t1 x1 h0 n0 _ T70.heap _
              rw [e70]
              exact Or.inl ⟨Or.inl ⟨mt70.1.symm, mt70.2.symm⟩, rfl, N70, rfl⟩
          · have pre72 : ∀ t, Steps p.tables e below (T70.setTop (mkF m 83 #[.val (.ref da), .val (.ref lb), .val (.int tt), .val (.int (15 : Int32)), .val (.int (Int32.ofNat q1)), .val (.int (0 : Int32))] [])) t → Steps p.tables e below (s₁.setTop (entryFrame m #[(.ref da), (.ref lb), (.int tt)] 6)) t := fun t k => pre69 _ (st70 _ k)
            have pre73 : ∀ t, Steps p.tables e below (T70.setTop (mkF m 35 #[.val (.ref da), .val (.ref lb), .val (.int tt), .val (.int (15 : Int32)), .val (.int (((Int32.ofNat q1) + (1 : Int32)) &&& (15 : Int32))), .val (.int (0 : Int32))] [])) t → Steps p.tables e below (s₁.setTop (entryFrame m #[(.ref da), (.ref lb), (.int tt)] 6)) t := fun t k => pre72 _ (by
              refine XS.iload X70.here hx rfl (hb hby own_d_prog_35_method_3_83) rfl ?_
              refine XT.iconstV X70.here hx rfl (1 : Int32) (hb hby own_d_prog_35_method_3_85) rfl ?_
              refine XS.iadd X70.here hx rfl (hb hby own_d_prog_35_method_3_86) rfl ?_
              refine XS.iloadN X70.here hx rfl (hb hby own_d_prog_35_method_3_87) rfl ?_
              refine XS.iand X70.here hx rfl (hb hby own_d_prog_35_method_3_88) rfl ?_
              refine XS.istore X70.here hx rfl (hb hby own_d_prog_35_method_3_89) rfl (l' := #[.val (.ref da), .val (.ref lb), .val (.int tt), .val (.int (15 : Int32)), .val (.int (((Int32.ofNat q1) + (1 : Int32)) &&& (15 : Int32))), .val (.int (0 : Int32))]) rfl ?_
              refine XS.goto X70.here hx rfl (pc0 := 91) (pc' := 35) rfl (hb hby own_d_prog_35_method_3_91) (by decide) (by decide) ?_
              exact k)
            obtain ⟨q2, hq2⟩ : ∃ z, z = (q1 + 1) % 16 := ⟨_, rfl⟩
            have hlt2 : q2 < 16 := by omega
            have hh2 : ((Int32.ofNat q1 + (1 : Int32)) &&& (15 : Int32)) = Int32.ofNat q2 := by rw [hq2]; exact own_nx hlt1
            have pre74 : ∀ t, Steps p.tables e below (T70.setTop (mkF m 35 #[.val (.ref da), .val (.ref lb), .val (.int tt), .val (.int (15 : Int32)), .val (.int (Int32.ofNat q2)), .val (.int (0 : Int32))] [])) t → Steps p.tables e below (s₁.setTop (entryFrame m #[(.ref da), (.ref lb), (.int tt)] 6)) t := fun t k => pre73 _ (by rw [← hh2] at k; exact k)
            have pre75 : ∀ t, Steps p.tables e below (T70.setTop (mkF m 36 #[.val (.ref da), .val (.ref lb), .val (.int tt), .val (.int (15 : Int32)), .val (.int (Int32.ofNat q2)), .val (.int (0 : Int32))] [(.ref da)])) t → Steps p.tables e below (s₁.setTop (entryFrame m #[(.ref da), (.ref lb), (.int tt)] 6)) t := fun t k => pre74 _ (by
              refine XS.aloadN X70.here hx rfl (hb hby own_d_prog_35_method_3_35) rfl rfl ?_
              exact k)
            obtain ⟨T76, X76, e76, st76⟩ := getF X70 hx hZ hown (host := "") (Or.inl (hw _ (List.mem_of_getElem? (i := 34) rfl))) Via.refl e70 S1 (g := (mkF m 36 #[.val (.ref da), .val (.ref lb), .val (.int tt), .val (.int (15 : Int32)), .val (.int (Int32.ofNat q2)), .val (.int (0 : Int32))] [(.ref da)])) rfl rfl (hb hby own_d_prog_35_method_3_36)
            have pre77 : ∀ t, Steps p.tables e below (T76.setTop (mkF m 39 #[.val (.ref da), .val (.ref lb), .val (.int tt), .val (.int (15 : Int32)), .val (.int (Int32.ofNat q2)), .val (.int (0 : Int32))] [(.ref sa)])) t → Steps p.tables e below (s₁.setTop (entryFrame m #[(.ref da), (.ref lb), (.int tt)] 6)) t := fun t k => pre75 _ (st76 _ k)
            have nv2_1 : ¬ q2 = p1 := by omega
            have nv2_0 : ¬ q2 = (own_hn t0) := by omega
            have hv2 : Sf q2 = (0 : Int32) := by rw [hS q2 hlt2, if_neg nv2_0, if_neg nv2_1]
            have pre79 : ∀ t, Steps p.tables e below (T76.setTop (mkF m 41 #[.val (.ref da), .val (.ref lb), .val (.int tt), .val (.int (15 : Int32)), .val (.int (Int32.ofNat q2)), .val (.int (0 : Int32))] [(.int (Int32.ofNat q2)), (.ref sa)])) t → Steps p.tables e below (s₁.setTop (entryFrame m #[(.ref da), (.ref lb), (.int tt)] 6)) t := fun t k => pre77 _ (by
              refine XS.iload X76.here hx rfl (hb hby own_d_prog_35_method_3_39) rfl ?_
              exact k)
            obtain ⟨cl78, Ar78, qc78, Sz78, Mz78, Hs78, Uf78⟩ := (show Arv Z h0 sa ka .int (16 : Int32) (own_ti Sf 16) (.int (0 : Int32)) from V1)
            have in80 : ¬ ((Int32.ofNat q2) < 0 ∨ cl78.slots.size ≤ ((Int32.ofNat q2)).toNatClampNeg) := own_inb Sz78 (N := 16) (by decide) hlt2 (Nat.le_trans (Nat.le_of_lt hlt2) (by decide))
            have at80 : cl78.slots[((Int32.ofNat q2)).toNatClampNeg]? = some (.int (0 : Int32)) := Hs78.at in80 (by rw [own_n32 (Nat.le_trans (Nat.le_of_lt hlt2) (by decide))]; exact (own_ti_get _ hlt2 _).trans (congrArg Value.int (hv2)))
            have pre81 : ∀ t, Steps p.tables e below (T76.setTop (mkF m 94 #[.val (.ref da), .val (.ref lb), .val (.int tt), .val (.int (15 : Int32)), .val (.int (Int32.ofNat q2)), .val (.int (0 : Int32))] [])) t → Steps p.tables e below (s₁.setTop (entryFrame m #[(.ref da), (.ref lb), (.int tt)] 6)) t := fun t k => pre79 _ (by
              refine X76.iaload hx (j := (Int32.ofNat q2)) (v := (.int (0 : Int32))) (by rw [e76]; exact Ar78.1) (State.isArrayOf_alike hZ.alike Ar78.2.1) Ar78.2.2 in80 at80 (g := (mkF m 41 #[.val (.ref da), .val (.ref lb), .val (.int tt), .val (.int (15 : Int32)), .val (.int (Int32.ofNat q2)), .val (.int (0 : Int32))] [(.int (Int32.ofNat q2)), (.ref sa)])) rfl rfl (hb hby own_d_prog_35_method_3_41) _ ?_
              refine XS.ifYes X76.here hx rfl (pc0 := 42) (pc' := 94) rfl (hb hby own_d_prog_35_method_3_42) rfl (XT.i0_eq_t (by decide)) (by decide) (by decide) ?_
              exact k)
            obtain ⟨T82, h82, locs82, Ls82, X82, e82, N82, Z82, ⟨KI, SI⟩, st82⟩ := own_ins2 da sa ta la oa ka kb kc kd Sf Tf Of Lf lb tt xx q2 (.val (.int (0 : Int32))) n0 X76 hx hZ hw hby hml hown e76 Z0 N70 HS0 hlt2 SA
            have pre83 : ∀ t, Steps p.tables e below (T82.setTop (mkF m 149 Ls82 [(.int (1 : Int32))])) t → Steps p.tables e below (s₁.setTop (entryFrame m #[(.ref da), (.ref lb), (.int tt)] 6)) t := fun t k => pre81 _ (st82 _ k)
            obtain ⟨fs, hr, hrun, hended, hW, hsame⟩ := X82.leave (v := some (.int (1 : Int32))) (fun h => by rw [Bd.returns] at h; cases h)
            refine ⟨_, _, pre83 _ ?_, hrun, hended, _, _, rfl, ?_, ⟨_, rfl⟩, hW, hsame.mono (by decide) (by decide)⟩
            · show Steps p.tables e below (T82.setTop (mkF m 149 Ls82 [(.int (1 : Int32))])) _
              exact retN X82 hx (t := .boolean) Bd.returns (by simp) (hb hby own_d_prog_35_method_3_149) hr
            · show Q_own_add2 Z da lb tt sa ta la oa ka kb kc kd Sf Tf Of Lf xx cs t0 x0 t1 x1 h0 n0 _ T82.heap _
              rw [e82]
              exact Or.inr ⟨(fun z => z.elim (fun z => mt70 ⟨z.1.symm, z.2.symm⟩) (fun z => mt58 ⟨z.1.symm, z.2.symm⟩)), rfl, N82, KI, _, _, _, _, SI, ⟨own_hn t0, p1, q2, (own_hs_n t0).1, hp1, hlt2, (fun j hj a b z => by show (if j = q2 then (3 : Int32) else Sf j) = 0; rw [if_neg z, hS j hj, if_neg a, if_neg b]), (if_neg (by decide)).trans hO0, (if_neg (by decide)).trans hO1, if_pos rfl⟩⟩
        · have hv1 : Sf q1 = (0 : Int32) := by rw [hS q1 hlt1, if_neg w1_0, if_neg nv1_1]
          obtain ⟨cl84, Ar84, qc84, Sz84, Mz84, Hs84, Uf84⟩ := (show Arv Z h0 sa ka .int (16 : Int32) (own_ti Sf 16) (.int (0 : Int32)) from V1)
          have in85 : ¬ ((Int32.ofNat q1) < 0 ∨ cl84.slots.size ≤ ((Int32.ofNat q1)).toNatClampNeg) := own_inb Sz84 (N := 16) (by decide) hlt1 (Nat.le_trans (Nat.le_of_lt hlt1) (by decide))
          have at85 : cl84.slots[((Int32.ofNat q1)).toNatClampNeg]? = some (.int (0 : Int32)) := Hs84.at in85 (by rw [own_n32 (Nat.le_trans (Nat.le_of_lt hlt1) (by decide))]; exact (own_ti_get _ hlt1 _).trans (congrArg Value.int (hv1)))
          have pre86 : ∀ t, Steps p.tables e below (T64.setTop (mkF m 94 #[.val (.ref da), .val (.ref lb), .val (.int tt), .val (.int (15 : Int32)), .val (.int (Int32.ofNat q1)), .val (.int (1 : Int32))] [])) t → Steps p.tables e below (s₁.setTop (entryFrame m #[(.ref da), (.ref lb), (.int tt)] 6)) t := fun t k => pre66 _ (by
            refine X64.iaload hx (j := (Int32.ofNat q1)) (v := (.int (0 : Int32))) (by rw [e64]; exact Ar84.1) (State.isArrayOf_alike hZ.alike Ar84.2.1) Ar84.2.2 in85 at85 (g := (mkF m 41 #[.val (.ref da), .val (.ref lb), .val (.int tt), .val (.int (15 : Int32)), .val (.int (Int32.ofNat q1)), .val (.int (1 : Int32))] [(.int (Int32.ofNat q1)), (.ref sa)])) rfl rfl (hb hby own_d_prog_35_method_3_41) _ ?_
            refine XS.ifYes X64.here hx rfl (pc0 := 42) (pc' := 94) rfl (hb hby own_d_prog_35_method_3_42) rfl (XT.i0_eq_t (by decide)) (by decide) (by decide) ?_
            exact k)
          obtain ⟨T87, h87, locs87, Ls87, X87, e87, N87, Z87, ⟨KI, SI⟩, st87⟩ := own_ins2 da sa ta la oa ka kb kc kd Sf Tf Of Lf lb tt xx q1 (.val (.int (1 : Int32))) n0 X64 hx hZ hw hby hml hown e64 Z0 N58 HS0 hlt1 SA
          have pre88 : ∀ t, Steps p.tables e below (T87.setTop (mkF m 149 Ls87 [(.int (1 : Int32))])) t → Steps p.tables e below (s₁.setTop (entryFrame m #[(.ref da), (.ref lb), (.int tt)] 6)) t := fun t k => pre86 _ (st87 _ k)
          obtain ⟨fs, hr, hrun, hended, hW, hsame⟩ := X87.leave (v := some (.int (1 : Int32))) (fun h => by rw [Bd.returns] at h; cases h)
          refine ⟨_, _, pre88 _ ?_, hrun, hended, _, _, rfl, ?_, ⟨_, rfl⟩, hW, hsame.mono (by decide) (by decide)⟩
          · show Steps p.tables e below (T87.setTop (mkF m 149 Ls87 [(.int (1 : Int32))])) _
            exact retN X87 hx (t := .boolean) Bd.returns (by simp) (hb hby own_d_prog_35_method_3_149) hr
          · show Q_own_add2 Z da lb tt sa ta la oa ka kb kc kd Sf Tf Of Lf xx cs t0 x0 t1 x1 h0 n0 _ T87.heap _
            rw [e87]
            exact Or.inr ⟨(fun z => z.elim (fun z => by have e : own_hn tt = own_hn t0 := congrArg own_hn z.1; omega) (fun z => mt58 ⟨z.1.symm, z.2.symm⟩)), rfl, N87, KI, _, _, _, _, SI, ⟨own_hn t0, p1, q1, (own_hs_n t0).1, hp1, hlt1, (fun j hj a b z => by show (if j = q1 then (3 : Int32) else Sf j) = 0; rw [if_neg z, hS j hj, if_neg a, if_neg b]), (if_neg (by decide)).trans hO0, (if_neg (by decide)).trans hO1, if_pos rfl⟩⟩
    · have hv0 : Sf q0 = (0 : Int32) := by rw [hS q0 hlt0, if_neg w0_0, if_neg w0_1]
      obtain ⟨cl89, Ar89, qc89, Sz89, Mz89, Hs89, Uf89⟩ := (show Arv Z h0 sa ka .int (16 : Int32) (own_ti Sf 16) (.int (0 : Int32)) from V1)
      have in90 : ¬ ((Int32.ofNat q0) < 0 ∨ cl89.slots.size ≤ ((Int32.ofNat q0)).toNatClampNeg) := own_inb Sz89 (N := 16) (by decide) hlt0 (Nat.le_trans (Nat.le_of_lt hlt0) (by decide))
      have at90 : cl89.slots[((Int32.ofNat q0)).toNatClampNeg]? = some (.int (0 : Int32)) := Hs89.at in90 (by rw [own_n32 (Nat.le_trans (Nat.le_of_lt hlt0) (by decide))]; exact (own_ti_get _ hlt0 _).trans (congrArg Value.int (hv0)))
      have pre91 : ∀ t, Steps p.tables e below (T18.setTop (mkF m 94 #[.val (.ref da), .val (.ref lb), .val (.int tt), .val (.int (15 : Int32)), .val (.int (Int32.ofNat q0)), .unset] [])) t → Steps p.tables e below (s₁.setTop (entryFrame m #[(.ref da), (.ref lb), (.int tt)] 6)) t := fun t k => pre20 _ (by
        refine X18.iaload hx (j := (Int32.ofNat q0)) (v := (.int (0 : Int32))) (by rw [e18]; exact Ar89.1) (State.isArrayOf_alike hZ.alike Ar89.2.1) Ar89.2.2 in90 at90 (g := (mkF m 41 #[.val (.ref da), .val (.ref lb), .val (.int tt), .val (.int (15 : Int32)), .val (.int (Int32.ofNat q0)), .unset] [(.int (Int32.ofNat q0)), (.ref sa)])) rfl rfl (hb hby own_d_prog_35_method_3_41) _ ?_
        refine XS.ifYes X18.here hx rfl (pc0 := 42) (pc' := 94) rfl (hb hby own_d_prog_35_method_3_42) rfl (XT.i0_eq_t (by decide)) (by decide) (by decide) ?_
        exact k)
      obtain ⟨T92, h92, locs92, Ls92, X92, e92, N92, Z92, ⟨KI, SI⟩, st92⟩ := own_ins2 da sa ta la oa ka kb kc kd Sf Tf Of Lf lb tt xx q0 .unset n0 X18 hx hZ hw hby hml hown e18 Z0 N13 HS0 hlt0 SA
      have pre93 : ∀ t, Steps p.tables e below (T92.setTop (mkF m 149 Ls92 [(.int (1 : Int32))])) t → Steps p.tables e below (s₁.setTop (entryFrame m #[(.ref da), (.ref lb), (.int tt)] 6)) t := fun t k => pre91 _ (st92 _ k)
      obtain ⟨fs, hr, hrun, hended, hW, hsame⟩ := X92.leave (v := some (.int (1 : Int32))) (fun h => by rw [Bd.returns] at h; cases h)
      refine ⟨_, _, pre93 _ ?_, hrun, hended, _, _, rfl, ?_, ⟨_, rfl⟩, hW, hsame.mono (by decide) (by decide)⟩
      · show Steps p.tables e below (T92.setTop (mkF m 149 Ls92 [(.int (1 : Int32))])) _
        exact retN X92 hx (t := .boolean) Bd.returns (by simp) (hb hby own_d_prog_35_method_3_149) hr
      · show Q_own_add2 Z da lb tt sa ta la oa ka kb kc kd Sf Tf Of Lf xx cs t0 x0 t1 x1 h0 n0 _ T92.heap _
        rw [e92]
        exact Or.inr ⟨(fun z => z.elim (fun z => by have e : own_hn tt = own_hn t0 := congrArg own_hn z.1; omega) (fun z => by have e : own_hn tt = own_hn t1 := congrArg own_hn z.1; omega)), rfl, N92, KI, _, _, _, _, SI, ⟨own_hn t0, p1, q0, (own_hs_n t0).1, hp1, hlt0, (fun j hj a b z => by show (if j = q0 then (3 : Int32) else Sf j) = 0; rw [if_neg z, hS j hj, if_neg a, if_neg b]), (if_neg (by decide)).trans hO0, (if_neg (by decide)).trans hO1, if_pos rfl⟩⟩
theorem own_pd___V : parseMethodDescriptor "()V" = some ⟨[], none⟩ := by decide +kernel
theorem own_pd__Ljava_lang_String_I_Z : parseMethodDescriptor "(Ljava/lang/String;I)Z" = some ⟨[(.object "java/lang/String"), .int], some .boolean⟩ := by decide +kernel
set_option maxRecDepth 65536 in
set_option maxHeartbeats 40000000 in
theorem own_pre {p : Program} {l : Launch} {e : Env} {s : State} {m : MethodId} {args : Array Value} {below : List Frame} {meth : Method} {c : Code} {T0 : State} {locs : List Loc} {Z : State} {a0 : Array Value} {h0 : Heap}  (p0 p1 p2 p3 p4 k0 k1 k2 an y0 y1 y2 cs : Int32) (s0 s1 s2 : Addr) (da sa ta la oa : Addr) (ka kb kc kd : ClassId) (Sf Tf Of : Nat → Int32) (Lf : Nat → Value) (n0 : Nat)
    (X0 : Stand p l e room_1 s m args below meth c T0 locs 11 60) (hx : p.tables.exec = Jvm.exec) (hZ : Z.Warmed39 s.vm) (hw : ∀ d ∈ tables_1, d.before a0 Z = true) (hby : c.code = code) (hml : c.maxLocals = 24) (hown : s.vm.findClass "com/example/erma/erma/analysis/DistinctStepsClearPinLaw" = some m.cls) (e0 : T0.heap = h0) (Z0 : n0 ≤ h0.size) (N0 : Fr n0 locs) (HS : own_St Z h0 n0 da sa ta la oa ka kb kc kd Sf Tf Of Lf (0 : Int32)) (HI : own_I0 Sf) (B0 : own_Str Z h0 da s0 y0) (B1 : own_Str Z h0 da s1 y1) (B2 : own_Str Z h0 da s2 y2) (CB : own_Sb Z h0 da "java/lang/String" "COMPACT_STRINGS" "Z" (.int cs)) (hcs : ¬ cs = 0) (han : an = 0 ∨ an = 1 ∨ an = 2 ∨ an = 3) :
    ∃ (T' : State) (h' : Heap) (locs' : List Loc), Stand p l e room_1 s m args below meth c T' locs' 11 60 ∧ T'.heap = h' ∧ Fr n0 locs' ∧ n0 ≤ h'.size ∧ (Keep h0 h' [da, sa, ta, la, oa] ∧ ∃ (Sg Tg Og : Nat → Int32) (Lg : Nat → Value), own_St Z h' n0 da sa ta la oa ka kb kc kd Sg Tg Og Lg (0 : Int32) ∧ own_I0 Sg) ∧
      ∀ t, Steps p.tables e below (T'.setTop (mkF m 118 #[.val (.int p0), .val (.int p1), .val (.int p2), .val (.int p3), .val (.int p4), .val (.int k0), .val (.int k1), .val (.int k2), .val (.ref s0), .val (.ref s1), .val (.ref s2), .val (.int an), .val (.ref da), .unset, .unset, .unset, .unset, .unset, .unset, .unset, .unset, .unset, .unset, .unset] [])) t → Steps p.tables e below (T0.setTop (mkF m 68 #[.val (.int p0), .val (.int p1), .val (.int p2), .val (.int p3), .val (.int p4), .val (.int k0), .val (.int k1), .val (.int k2), .val (.ref s0), .val (.ref s1), .val (.ref s2), .val (.int an), .val (.ref da), .unset, .unset, .unset, .unset, .unset, .unset, .unset, .unset, .unset, .unset, .unset] [])) t := by
  have pre0 : ∀ t, Steps p.tables e below (T0.setTop (mkF m 68 #[.val (.int p0), .val (.int p1), .val (.int p2), .val (.int p3), .val (.int p4), .val (.int k0), .val (.int k1), .val (.int k2), .val (.ref s0), .val (.ref s1), .val (.ref s2), .val (.int an), .val (.ref da), .unset, .unset, .unset, .unset, .unset, .unset, .unset, .unset, .unset, .unset, .unset] [])) t → Steps p.tables e below (T0.setTop (mkF m 68 #[.val (.int p0), .val (.int p1), .val (.int p2), .val (.int p3), .val (.int p4), .val (.int k0), .val (.int k1), .val (.int k2), .val (.ref s0), .val (.ref s1), .val (.ref s2), .val (.int an), .val (.ref da), .unset, .unset, .unset, .unset, .unset, .unset, .unset, .unset, .unset, .unset, .unset] [])) t := fun t k => k
  rcases han with hcs | hcs | hcs | hcs
  · subst hcs
    have pre1 : ∀ t, Steps p.tables e below (T0.setTop (mkF m 115 #[.val (.int p0), .val (.int p1), .val (.int p2), .val (.int p3), .val (.int p4), .val (.int k0), .val (.int k1), .val (.int k2), .val (.ref s0), .val (.ref s1), .val (.ref s2), .val (.int (0 : Int32)), .val (.ref da), .unset, .unset, .unset, .unset, .unset, .unset, .unset, .unset, .unset, .unset, .unset] [(.ref da)])) t → Steps p.tables e below (T0.setTop (mkF m 68 #[.val (.int p0), .val (.int p1), .val (.int p2), .val (.int p3), .val (.int p4), .val (.int k0), .val (.int k1), .val (.int k2), .val (.ref s0), .val (.ref s1), .val (.ref s2), .val (.int (0 : Int32)), .val (.ref da), .unset, .unset, .unset, .unset, .unset, .unset, .unset, .unset, .unset, .unset, .unset] [])) t := fun t k => pre0 _ (by
      refine XS.iload X0.here hx rfl (hb hby at_68) rfl ?_
      refine XT.iconstV X0.here hx rfl (1 : Int32) (hb hby at_70) rfl ?_
      refine XS.icmpYes X0.here hx rfl (pc0 := 71) (pc' := 83) rfl (hb hby at_71) rfl (XT.ii_lt_t (by decide)) (by decide) (by decide) ?_
      refine XS.iload X0.here hx rfl (hb hby at_83) rfl ?_
      refine XT.iconstV X0.here hx rfl (2 : Int32) (hb hby at_85) rfl ?_
      refine XS.icmpYes X0.here hx rfl (pc0 := 86) (pc' := 98) rfl (hb hby at_86) rfl (XT.ii_lt_t (by decide)) (by decide) (by decide) ?_
      refine XS.iload X0.here hx rfl (hb hby at_98) rfl ?_
      show Steps p.tables e below (T0.setTop (mkF m 100 #[.val (.int p0), .val (.int p1), .val (.int p2), .val (.int p3), .val (.int p4), .val (.int k0), .val (.int k1), .val (.int k2), .val (.ref s0), .val (.ref s1), .val (.ref s2), .val (.int (0 : Int32)), .val (.ref da), .unset, .unset, .unset, .unset, .unset, .unset, .unset, .unset, .unset, .unset, .unset] [(.int (0 : Int32))])) _
      refine XT.iconstV X0.here hx rfl (3 : Int32) (hb hby at_100) rfl ?_
      refine XS.icmpYes X0.here hx rfl (pc0 := 101) (pc' := 113) rfl (hb hby at_101) rfl (XT.ii_lt_t (by decide)) (by decide) (by decide) ?_
      refine XS.aload X0.here hx rfl (hb hby at_113) rfl rfl ?_
      exact k)
    obtain ⟨cq2, kq2, q2a, q2b, q2c⟩ := isOf hZ e0 HS.1
    obtain ⟨_, _, ⟨T2, L2, k2, n2⟩, -, X2, ⟨Lc2, hQ2, l2, y2, z2⟩, st2⟩ := X0.virtualBack hx (y := (⟨"com/example/erma/erma/analysis/DistinctSteps", "clear", "()V"⟩ : MethodName)) (z := (⟨"com/example/erma/erma/analysis/DistinctSteps", "clear", "()V"⟩ : MethodName)) hown (mvT hZ (hw _ (List.mem_of_getElem? (i := 44) rfl))) (mvT hZ (hw _ (List.mem_of_getElem? (i := 45) rfl))) (notFace_of_selects (args := #[]) (mvT hZ (hw _ (List.mem_of_getElem? (i := 47) rfl)))) (mvT hZ (hw _ (List.mem_of_getElem? (i := 47) rfl))) (mvT hZ (hw _ (List.mem_of_getElem? (i := 46) rfl))) (by decide) (backOf (W := 0) (own_clear0 l Z a0 hw [] da sa ta la oa ka kb kc kd Sf Tf Of Lf h0 n0 Z0 HS (fun j hj => HI j hj)) hZ (hw _ (List.mem_of_getElem? (i := 48) rfl)) (hw _ (List.mem_of_getElem? (i := 28) rfl)) (by decide) (by decide)) q2a q2c (g := (mkF m 115 #[.val (.int p0), .val (.int p1), .val (.int p2), .val (.int p3), .val (.int p4), .val (.int k0), .val (.int k1), .val (.int k2), .val (.ref s0), .val (.ref s1), .val (.ref s2), .val (.int (0 : Int32)), .val (.ref da), .unset, .unset, .unset, .unset, .unset, .unset, .unset, .unset, .unset, .unset, .unset] [(.ref da)])) rfl (by rw [hml]; rfl) (Steps.refl _) (argsL := []) (rest := []) (lenOf own_pd___V rfl) rfl (by show 2 * 0 + _ ≤ _; exact Nat.le_of_eq rfl) (hb hby at_115) (fun _ _ => ⟨rfl, e0, (by decide : 11 + 0 ≤ _), (by decide : 60 + 0 ≤ _)⟩)
    dsimp only [Pt.U, Pt.locs, Pt.cells, Pt.slots] at X2 l2 y2 z2 st2 hQ2
    subst l2 y2 z2
    obtain ⟨h2, e2⟩ : ∃ z, T2.heap = z := ⟨_, rfl⟩
    rw [e2] at hQ2
    obtain ⟨rfl, N2q, K2, Sg2, Lg2, HS2, HI2⟩ := hQ2
    have Z2 : n0 ≤ h2.size := Nat.le_trans Z0 K2.1
    have N2 := Fr.app N0 N2q
    have pre3 : ∀ t, Steps p.tables e below (T2.setTop (mkF m 118 #[.val (.int p0), .val (.int p1), .val (.int p2), .val (.int p3), .val (.int p4), .val (.int k0), .val (.int k1), .val (.int k2), .val (.ref s0), .val (.ref s1), .val (.ref s2), .val (.int (0 : Int32)), .val (.ref da), .unset, .unset, .unset, .unset, .unset, .unset, .unset, .unset, .unset, .unset, .unset] [])) t → Steps p.tables e below (T0.setTop (mkF m 68 #[.val (.int p0), .val (.int p1), .val (.int p2), .val (.int p3), .val (.int p4), .val (.int k0), .val (.int k1), .val (.int k2), .val (.ref s0), .val (.ref s1), .val (.ref s2), .val (.int (0 : Int32)), .val (.ref da), .unset, .unset, .unset, .unset, .unset, .unset, .unset, .unset, .unset, .unset, .unset] [])) t := fun t k => pre1 _ (st2.trans k)
    exact ⟨T2, h2, _, X2, e2, N2, Z2, ⟨(Keep.refl _ _).trans K2 (fun _ q => Or.inl q), Sg2, Tf, Of, Lg2, HS2, HI2⟩, pre3⟩
  · subst hcs
    have pre4 : ∀ t, Steps p.tables e below (T0.setTop (mkF m 79 #[.val (.int p0), .val (.int p1), .val (.int p2), .val (.int p3), .val (.int p4), .val (.int k0), .val (.int k1), .val (.int k2), .val (.ref s0), .val (.ref s1), .val (.ref s2), .val (.int (1 : Int32)), .val (.ref da), .unset, .unset, .unset, .unset, .unset, .unset, .unset, .unset, .unset, .unset, .unset] [(.int p1), (.ref s0), (.ref da)])) t → Steps p.tables e below (T0.setTop (mkF m 68 #[.val (.int p0), .val (.int p1), .val (.int p2), .val (.int p3), .val (.int p4), .val (.int k0), .val (.int k1), .val (.int k2), .val (.ref s0), .val (.ref s1), .val (.ref s2), .val (.int (1 : Int32)), .val (.ref da), .unset, .unset, .unset, .unset, .unset, .unset, .unset, .unset, .unset, .unset, .unset] [])) t := fun t k => pre0 _ (by
      refine XS.iload X0.here hx rfl (hb hby at_68) rfl ?_
      refine XT.iconstV X0.here hx rfl (1 : Int32) (hb hby at_70) rfl ?_
      refine XS.icmpNo X0.here hx rfl (hb hby at_71) rfl (XT.ii_lt_f (by decide)) ?_
      refine XS.aload X0.here hx rfl (hb hby at_74) rfl rfl ?_
      refine XS.aload X0.here hx rfl (hb hby at_76) rfl rfl ?_
      refine XS.iloadN X0.here hx rfl (hb hby at_78) rfl ?_
      exact k)
    obtain ⟨cq5, kq5, q5a, q5b, q5c⟩ := isOf hZ e0 HS.1
    obtain ⟨_, _, ⟨T5, L5, k5, n5⟩, -, X5, ⟨Lc5, hQ5, l5, y5, z5⟩, st5⟩ := X0.virtualBack hx (y := (⟨"com/example/erma/erma/analysis/DistinctSteps", "add", "(Ljava/lang/String;I)Z"⟩ : MethodName)) (z := (⟨"com/example/erma/erma/analysis/DistinctSteps", "add", "(Ljava/lang/String;I)Z"⟩ : MethodName)) hown (mvT hZ (hw _ (List.mem_of_getElem? (i := 56) rfl))) (mvT hZ (hw _ (List.mem_of_getElem? (i := 57) rfl))) (notFace_of_selects (args := #[]) (mvT hZ (hw _ (List.mem_of_getElem? (i := 59) rfl)))) (mvT hZ (hw _ (List.mem_of_getElem? (i := 59) rfl))) (mvT hZ (hw _ (List.mem_of_getElem? (i := 58) rfl))) (by decide) (backOf (W := 0) (own_add0 l Z a0 hw [] da s0 p1 sa ta la oa ka kb kc kd Sf Tf Of Lf y0 cs  h0 n0 Z0 HS HI CB.sta hcs B0) hZ (hw _ (List.mem_of_getElem? (i := 60) rfl)) (hw _ (List.mem_of_getElem? (i := 28) rfl)) (by decide) (by decide)) q5a q5c (g := (mkF m 79 #[.val (.int p0), .val (.int p1), .val (.int p2), .val (.int p3), .val (.int p4), .val (.int k0), .val (.int k1), .val (.int k2), .val (.ref s0), .val (.ref s1), .val (.ref s2), .val (.int (1 : Int32)), .val (.ref da), .unset, .unset, .unset, .unset, .unset, .unset, .unset, .unset, .unset, .unset, .unset] [(.int p1), (.ref s0), (.ref da)])) rfl (by rw [hml]; rfl) (Steps.refl _) (argsL := [(.ref s0), (.int p1)]) (rest := []) (lenOf own_pd__Ljava_lang_String_I_Z rfl) rfl (by show 2 * 0 + _ ≤ _; exact Nat.le_of_eq rfl) (hb hby at_79) (fun _ _ => ⟨rfl, e0, (by decide : 11 + 0 ≤ _), (by decide : 60 + 0 ≤ _)⟩)
    dsimp only [Pt.U, Pt.locs, Pt.cells, Pt.slots] at X5 l5 y5 z5 st5 hQ5
    subst l5 y5 z5
    obtain ⟨h5, e5⟩ : ∃ z, T5.heap = z := ⟨_, rfl⟩
    rw [e5] at hQ5
    obtain ⟨rfl, N5q, K5, Sg5, Tg5, Og5, Lg5, HS5, HI5⟩ := hQ5
    have Z5 : n0 ≤ h5.size := Nat.le_trans Z0 K5.1
    have N5 := Fr.app N0 N5q
    have pre6 : ∀ t, Steps p.tables e below (T5.setTop (mkF m 82 #[.val (.int p0), .val (.int p1), .val (.int p2), .val (.int p3), .val (.int p4), .val (.int k0), .val (.int k1), .val (.int k2), .val (.ref s0), .val (.ref s1), .val (.ref s2), .val (.int (1 : Int32)), .val (.ref da), .unset, .unset, .unset, .unset, .unset, .unset, .unset, .unset, .unset, .unset, .unset] [(.int (1 : Int32))])) t → Steps p.tables e below (T0.setTop (mkF m 68 #[.val (.int p0), .val (.int p1), .val (.int p2), .val (.int p3), .val (.int p4), .val (.int k0), .val (.int k1), .val (.int k2), .val (.ref s0), .val (.ref s1), .val (.ref s2), .val (.int (1 : Int32)), .val (.ref da), .unset, .unset, .unset, .unset, .unset, .unset, .unset, .unset, .unset, .unset, .unset] [])) t := fun t k => pre4 _ (st5.trans k)
    obtain ⟨b0, hS, hT0, hL0, SB0, hO0⟩ := HI5
    have pre7 : ∀ t, Steps p.tables e below (T5.setTop (mkF m 115 #[.val (.int p0), .val (.int p1), .val (.int p2), .val (.int p3), .val (.int p4), .val (.int k0), .val (.int k1), .val (.int k2), .val (.ref s0), .val (.ref s1), .val (.ref s2), .val (.int (1 : Int32)), .val (.ref da), .unset, .unset, .unset, .unset, .unset, .unset, .unset, .unset, .unset, .unset, .unset] [(.ref da)])) t → Steps p.tables e below (T0.setTop (mkF m 68 #[.val (.int p0), .val (.int p1), .val (.int p2), .val (.int p3), .val (.int p4), .val (.int k0), .val (.int k1), .val (.int k2), .val (.ref s0), .val (.ref s1), .val (.ref s2), .val (.int (1 : Int32)), .val (.ref da), .unset, .unset, .unset, .unset, .unset, .unset, .unset, .unset, .unset, .unset, .unset] [])) t := fun t k => pre6 _ (by
      refine XS.pop X5.here hx rfl (hb hby at_82) rfl rfl ?_
      refine XS.iload X5.here hx rfl (hb hby at_83) rfl ?_
      refine XT.iconstV X5.here hx rfl (2 : Int32) (hb hby at_85) rfl ?_
      refine XS.icmpYes X5.here hx rfl (pc0 := 86) (pc' := 98) rfl (hb hby at_86) rfl (XT.ii_lt_t (by decide)) (by decide) (by decide) ?_
      refine XS.iload X5.here hx rfl (hb hby at_98) rfl ?_
      refine XT.iconstV X5.here hx rfl (3 : Int32) (hb hby at_100) rfl ?_
      refine XS.icmpYes X5.here hx rfl (pc0 := 101) (pc' := 113) rfl (hb hby at_101) rfl (XT.ii_lt_t (by decide)) (by decide) (by decide) ?_
      show Steps p.tables e below (T5.setTop (mkF m 113 #[.val (.int p0), .val (.int p1), .val (.int p2), .val (.int p3), .val (.int p4), .val (.int k0), .val (.int k1), .val (.int k2), .val (.ref s0), .val (.ref s1), .val (.ref s2), .val (.int (1 : Int32)), .val (.ref da), .unset, .unset, .unset, .unset, .unset, .unset, .unset, .unset, .unset, .unset, .unset] [])) _
      refine XS.aload X5.here hx rfl (hb hby at_113) rfl rfl ?_
      exact k)
    obtain ⟨cq8, kq8, q8a, q8b, q8c⟩ := isOf hZ e5 HS5.1
    obtain ⟨_, _, ⟨T8, L8, k8, n8⟩, -, X8, ⟨Lc8, hQ8, l8, y8, z8⟩, st8⟩ := X5.virtualBack hx (y := (⟨"com/example/erma/erma/analysis/DistinctSteps", "clear", "()V"⟩ : MethodName)) (z := (⟨"com/example/erma/erma/analysis/DistinctSteps", "clear", "()V"⟩ : MethodName)) hown (mvT hZ (hw _ (List.mem_of_getElem? (i := 44) rfl))) (mvT hZ (hw _ (List.mem_of_getElem? (i := 45) rfl))) (notFace_of_selects (args := #[]) (mvT hZ (hw _ (List.mem_of_getElem? (i := 47) rfl)))) (mvT hZ (hw _ (List.mem_of_getElem? (i := 47) rfl))) (mvT hZ (hw _ (List.mem_of_getElem? (i := 46) rfl))) (by decide) (backOf (W := 0) (own_clear1 l Z a0 hw [] da sa ta la oa ka kb kc kd Sg5 Tg5 Og5 Lg5 (own_hn p1) h5 n0 Z5 HS5 (own_hs_n _).1 hO0 (fun j hj a => (hS j hj).trans (if_neg a))) hZ (hw _ (List.mem_of_getElem? (i := 48) rfl)) (hw _ (List.mem_of_getElem? (i := 28) rfl)) (by decide) (by decide)) q8a q8c (g := (mkF m 115 #[.val (.int p0), .val (.int p1), .val (.int p2), .val (.int p3), .val (.int p4), .val (.int k0), .val (.int k1), .val (.int k2), .val (.ref s0), .val (.ref s1), .val (.ref s2), .val (.int (1 : Int32)), .val (.ref da), .unset, .unset, .unset, .unset, .unset, .unset, .unset, .unset, .unset, .unset, .unset] [(.ref da)])) rfl (by rw [hml]; rfl) (Steps.refl _) (argsL := []) (rest := []) (lenOf own_pd___V rfl) rfl (by show 2 * 0 + _ ≤ _; exact Nat.le_of_eq rfl) (hb hby at_115) (fun _ _ => ⟨rfl, e5, (by decide : 11 + 0 ≤ _), (by decide : 60 + 0 ≤ _)⟩)
    dsimp only [Pt.U, Pt.locs, Pt.cells, Pt.slots] at X8 l8 y8 z8 st8 hQ8
    subst l8 y8 z8
    obtain ⟨h8, e8⟩ : ∃ z, T8.heap = z := ⟨_, rfl⟩
    rw [e8] at hQ8
    obtain ⟨rfl, N8q, K8, Sg8, Lg8, HS8, HI8⟩ := hQ8
    have Z8 : n0 ≤ h8.size := Nat.le_trans Z5 K8.1
    have N8 := Fr.app N5 N8q
    have pre9 : ∀ t, Steps p.tables e below (T8.setTop (mkF m 118 #[.val (.int p0), .val (.int p1), .val (.int p2), .val (.int p3), .val (.int p4), .val (.int k0), .val (.int k1), .val (.int k2), .val (.ref s0), .val (.ref s1), .val (.ref s2), .val (.int (1 : Int32)), .val (.ref da), .unset, .unset, .unset, .unset, .unset, .unset, .unset, .unset, .unset, .unset, .unset] [])) t → Steps p.tables e below (T0.setTop (mkF m 68 #[.val (.int p0), .val (.int p1), .val (.int p2), .val (.int p3), .val (.int p4), .val (.int k0), .val (.int k1), .val (.int k2), .val (.ref s0), .val (.ref s1), .val (.ref s2), .val (.int (1 : Int32)), .val (.ref da), .unset, .unset, .unset, .unset, .unset, .unset, .unset, .unset, .unset, .unset, .unset] [])) t := fun t k => pre7 _ (st8.trans k)
    exact ⟨T8, h8, _, X8, e8, N8, Z8, ⟨((Keep.refl _ _).trans K5 (fun _ q => Or.inl q)).trans K8 (fun _ q => Or.inl q), Sg8, Tg5, Og5, Lg8, HS8, HI8⟩, pre9⟩
  · subst hcs
    have pre10 : ∀ t, Steps p.tables e below (T0.setTop (mkF m 79 #[.val (.int p0), .val (.int p1), .val (.int p2), .val (.int p3), .val (.int p4), .val (.int k0), .val (.int k1), .val (.int k2), .val (.ref s0), .val (.ref s1), .val (.ref s2), .val (.int (2 : Int32)), .val (.ref da), .unset, .unset, .unset, .unset, .unset, .unset, .unset, .unset, .unset, .unset, .unset] [(.int p1), (.ref s0), (.ref da)])) t → Steps p.tables e below (T0.setTop (mkF m 68 #[.val (.int p0), .val (.int p1), .val (.int p2), .val (.int p3), .val (.int p4), .val (.int k0), .val (.int k1), .val (.int k2), .val (.ref s0), .val (.ref s1), .val (.ref s2), .val (.int (2 : Int32)), .val (.ref da), .unset, .unset, .unset, .unset, .unset, .unset, .unset, .unset, .unset, .unset, .unset] [])) t := fun t k => pre0 _ (by
      refine XS.iload X0.here hx rfl (hb hby at_68) rfl ?_
      refine XT.iconstV X0.here hx rfl (1 : Int32) (hb hby at_70) rfl ?_
      refine XS.icmpNo X0.here hx rfl (hb hby at_71) rfl (XT.ii_lt_f (by decide)) ?_
      refine XS.aload X0.here hx rfl (hb hby at_74) rfl rfl ?_
      refine XS.aload X0.here hx rfl (hb hby at_76) rfl rfl ?_
      refine XS.iloadN X0.here hx rfl (hb hby at_78) rfl ?_
      exact k)
    obtain ⟨cq11, kq11, q11a, q11b, q11c⟩ := isOf hZ e0 HS.1
    obtain ⟨_, _, ⟨T11, L11, k11, n11⟩, -, X11, ⟨Lc11, hQ11, l11, y11, z11⟩, st11⟩ := X0.virtualBack hx (y := (⟨"com/example/erma/erma/analysis/DistinctSteps", "add", "(Ljava/lang/String;I)Z"⟩ : MethodName)) (z := (⟨"com/example/erma/erma/analysis/DistinctSteps", "add", "(Ljava/lang/String;I)Z"⟩ : MethodName)) hown (mvT hZ (hw _ (List.mem_of_getElem? (i := 56) rfl))) (mvT hZ (hw _ (List.mem_of_getElem? (i := 57) rfl))) (notFace_of_selects (args := #[]) (mvT hZ (hw _ (List.mem_of_getElem? (i := 59) rfl)))) (mvT hZ (hw _ (List.mem_of_getElem? (i := 59) rfl))) (mvT hZ (hw _ (List.mem_of_getElem? (i := 58) rfl))) (by decide) (backOf (W := 0) (own_add0 l Z a0 hw [] da s0 p1 sa ta la oa ka kb kc kd Sf Tf Of Lf y0 cs  h0 n0 Z0 HS HI CB.sta hcs B0) hZ (hw _ (List.mem_of_getElem? (i := 60) rfl)) (hw _ (List.mem_of_getElem? (i := 28) rfl)) (by decide) (by decide)) q11a q11c (g := (mkF m 79 #[.val (.int p0), .val (.int p1), .val (.int p2), .val (.int p3), .val (.int p4), .val (.int k0), .val (.int k1), .val (.int k2), .val (.ref s0), .val (.ref s1), .val (.ref s2), .val (.int (2 : Int32)), .val (.ref da), .unset, .unset, .unset, .unset, .unset, .unset, .unset, .unset, .unset, .unset, .unset] [(.int p1), (.ref s0), (.ref da)])) rfl (by rw [hml]; rfl) (Steps.refl _) (argsL := [(.ref s0), (.int p1)]) (rest := []) (lenOf own_pd__Ljava_lang_String_I_Z rfl) rfl (by show 2 * 0 + _ ≤ _; exact Nat.le_of_eq rfl) (hb hby at_79) (fun _ _ => ⟨rfl, e0, (by decide : 11 + 0 ≤ _), (by decide : 60 + 0 ≤ _)⟩)
    dsimp only [Pt.U, Pt.locs, Pt.cells, Pt.slots] at X11 l11 y11 z11 st11 hQ11
    subst l11 y11 z11
    obtain ⟨h11, e11⟩ : ∃ z, T11.heap = z := ⟨_, rfl⟩
    rw [e11] at hQ11
    obtain ⟨rfl, N11q, K11, Sg11, Tg11, Og11, Lg11, HS11, HI11⟩ := hQ11
    have Z11 : n0 ≤ h11.size := Nat.le_trans Z0 K11.1
    have N11 := Fr.app N0 N11q
    have pre12 : ∀ t, Steps p.tables e below (T11.setTop (mkF m 82 #[.val (.int p0), .val (.int p1), .val (.int p2), .val (.int p3), .val (.int p4), .val (.int k0), .val (.int k1), .val (.int k2), .val (.ref s0), .val (.ref s1), .val (.ref s2), .val (.int (2 : Int32)), .val (.ref da), .unset, .unset, .unset, .unset, .unset, .unset, .unset, .unset, .unset, .unset, .unset] [(.int (1 : Int32))])) t → Steps p.tables e below (T0.setTop (mkF m 68 #[.val (.int p0), .val (.int p1), .val (.int p2), .val (.int p3), .val (.int p4), .val (.int k0), .val (.int k1), .val (.int k2), .val (.ref s0), .val (.ref s1), .val (.ref s2), .val (.int (2 : Int32)), .val (.ref da), .unset, .unset, .unset, .unset, .unset, .unset, .unset, .unset, .unset, .unset, .unset] [])) t := fun t k => pre10 _ (st11.trans k)
    have pre13 : ∀ t, Steps p.tables e below (T11.setTop (mkF m 94 #[.val (.int p0), .val (.int p1), .val (.int p2), .val (.int p3), .val (.int p4), .val (.int k0), .val (.int k1), .val (.int k2), .val (.ref s0), .val (.ref s1), .val (.ref s2), .val (.int (2 : Int32)), .val (.ref da), .unset, .unset, .unset, .unset, .unset, .unset, .unset, .unset, .unset, .unset, .unset] [(.int p2), (.ref s1), (.ref da)])) t → Steps p.tables e below (T0.setTop (mkF m 68 #[.val (.int p0), .val (.int p1), .val (.int p2), .val (.int p3), .val (.int p4), .val (.int k0), .val (.int k1), .val (.int k2), .val (.ref s0), .val (.ref s1), .val (.ref s2), .val (.int (2 : Int32)), .val (.ref da), .unset, .unset, .unset, .unset, .unset, .unset, .unset, .unset, .unset, .unset, .unset] [])) t := fun t k => pre12 _ (by
      refine XS.pop X11.here hx rfl (hb hby at_82) rfl rfl ?_
      refine XS.iload X11.here hx rfl (hb hby at_83) rfl ?_
      refine XT.iconstV X11.here hx rfl (2 : Int32) (hb hby at_85) rfl ?_
      refine XS.icmpNo X11.here hx rfl (hb hby at_86) rfl (XT.ii_lt_f (by decide)) ?_
      refine XS.aload X11.here hx rfl (hb hby at_89) rfl rfl ?_
      refine XS.aload X11.here hx rfl (hb hby at_91) rfl rfl ?_
      refine XS.iloadN X11.here hx rfl (hb hby at_93) rfl ?_
      exact k)
    obtain ⟨cq14, kq14, q14a, q14b, q14c⟩ := isOf hZ e11 HS11.1
    obtain ⟨_, _, ⟨T14, L14, k14, n14⟩, -, X14, ⟨Lc14, hQ14, l14, y14, z14⟩, st14⟩ := X11.virtualBack hx (y := (⟨"com/example/erma/erma/analysis/DistinctSteps", "add", "(Ljava/lang/String;I)Z"⟩ : MethodName)) (z := (⟨"com/example/erma/erma/analysis/DistinctSteps", "add", "(Ljava/lang/String;I)Z"⟩ : MethodName)) hown (mvT hZ (hw _ (List.mem_of_getElem? (i := 56) rfl))) (mvT hZ (hw _ (List.mem_of_getElem? (i := 57) rfl))) (notFace_of_selects (args := #[]) (mvT hZ (hw _ (List.mem_of_getElem? (i := 59) rfl)))) (mvT hZ (hw _ (List.mem_of_getElem? (i := 59) rfl))) (mvT hZ (hw _ (List.mem_of_getElem? (i := 58) rfl))) (by decide) (backOf (W := 0) (own_add1 l Z a0 hw [] da s1 p2 sa ta la oa ka kb kc kd Sg11 Tg11 Og11 Lg11 y1 cs p1 y0 h11 n0 Z11 HS11 HI11 (CB.keep K11 HS.ge).sta hcs (B1.keep K11 HS.ge)) hZ (hw _ (List.mem_of_getElem? (i := 60) rfl)) (hw _ (List.mem_of_getElem? (i := 28) rfl)) (by decide) (by decide)) q14a q14c (g := (mkF m 94 #[.val (.int p0), .val (.int p1), .val (.int p2), .val (.int p3), .val (.int p4), .val (.int k0), .val (.int k1), .val (.int k2), .val (.ref s0), .val (.ref s1), .val (.ref s2), .val (.int (2 : Int32)), .val (.ref da), .unset, .unset, .unset, .unset, .unset, .unset, .unset, .unset, .unset, .unset, .unset] [(.int p2), (.ref s1), (.ref da)])) rfl (by rw [hml]; rfl) (Steps.refl _) (argsL := [(.ref s1), (.int p2)]) (rest := []) (lenOf own_pd__Ljava_lang_String_I_Z rfl) rfl (by show 2 * 0 + _ ≤ _; exact Nat.le_of_eq rfl) (hb hby at_94) (fun _ _ => ⟨rfl, e11, (by decide : 11 + 0 ≤ _), (by decide : 60 + 0 ≤ _)⟩)
    dsimp only [Pt.U, Pt.locs, Pt.cells, Pt.slots] at X14 l14 y14 z14 st14 hQ14
    subst l14 y14 z14
    obtain ⟨h14, e14⟩ : ∃ z, T14.heap = z := ⟨_, rfl⟩
    rw [e14] at hQ14
    rcases hQ14 with ⟨fd14, rfl, N14q, eh14⟩ | ⟨fd14, rfl, N14q, K14, Sg14, Tg14, Og14, Lg14, HS14, HI14⟩
    · rw [eh14] at e14
      have N14 := Fr.app N11 N14q
      have pre15 : ∀ t, Steps p.tables e below (T14.setTop (mkF m 97 #[.val (.int p0), .val (.int p1), .val (.int p2), .val (.int p3), .val (.int p4), .val (.int k0), .val (.int k1), .val (.int k2), .val (.ref s0), .val (.ref s1), .val (.ref s2), .val (.int (2 : Int32)), .val (.ref da), .unset, .unset, .unset, .unset, .unset, .unset, .unset, .unset, .unset, .unset, .unset] [(.int (0 : Int32))])) t → Steps p.tables e below (T0.setTop (mkF m 68 #[.val (.int p0), .val (.int p1), .val (.int p2), .val (.int p3), .val (.int p4), .val (.int k0), .val (.int k1), .val (.int k2), .val (.ref s0), .val (.ref s1), .val (.ref s2), .val (.int (2 : Int32)), .val (.ref da), .unset, .unset, .unset, .unset, .unset, .unset, .unset, .unset, .unset, .unset, .unset] [])) t := fun t k => pre13 _ (st14.trans k)
      obtain ⟨b0, hS, hT0, hL0, SB0, hO0⟩ := HI11
      have pre16 : ∀ t, Steps p.tables e below (T14.setTop (mkF m 115 #[.val (.int p0), .val (.int p1), .val (.int p2), .val (.int p3), .val (.int p4), .val (.int k0), .val (.int k1), .val (.int k2), .val (.ref s0), .val (.ref s1), .val (.ref s2), .val (.int (2 : Int32)), .val (.ref da), .unset, .unset, .unset, .unset, .unset, .unset, .unset, .unset, .unset, .unset, .unset] [(.ref da)])) t → Steps p.tables e below (T0.setTop (mkF m 68 #[.val (.int p0), .val (.int p1), .val (.int p2), .val (.int p3), .val (.int p4), .val (.int k0), .val (.int k1), .val (.int k2), .val (.ref s0), .val (.ref s1), .val (.ref s2), .val (.int (2 : Int32)), .val (.ref da), .unset, .unset, .unset, .unset, .unset, .unset, .unset, .unset, .unset, .unset, .unset] [])) t := fun t k => pre15 _ (by
        refine XS.pop X14.here hx rfl (hb hby at_97) rfl rfl ?_
        refine XS.iload X14.here hx rfl (hb hby at_98) rfl ?_
        refine XT.iconstV X14.here hx rfl (3 : Int32) (hb hby at_100) rfl ?_
        refine XS.icmpYes X14.here hx rfl (pc0 := 101) (pc' := 113) rfl (hb hby at_101) rfl (XT.ii_lt_t (by decide)) (by decide) (by decide) ?_
        refine XS.aload X14.here hx rfl (hb hby at_113) rfl rfl ?_
        exact k)
      obtain ⟨cq17, kq17, q17a, q17b, q17c⟩ := isOf hZ e14 HS11.1
      obtain ⟨_, _, ⟨T17, L17, k17, n17⟩, -, X17, ⟨Lc17, hQ17, l17, y17, z17⟩, st17⟩ := X14.virtualBack hx (y := (⟨"com/example/erma/erma/analysis/DistinctSteps", "clear", "()V"⟩ : MethodName)) (z := (⟨"com/example/erma/erma/analysis/DistinctSteps", "clear", "()V"⟩ : MethodName)) hown (mvT hZ (hw _ (List.mem_of_getElem? (i := 44) rfl))) (mvT hZ (hw _ (List.mem_of_getElem? (i := 45) rfl))) (notFace_of_selects (args := #[]) (mvT hZ (hw _ (List.mem_of_getElem? (i := 47) rfl)))) (mvT hZ (hw _ (List.mem_of_getElem? (i := 47) rfl))) (mvT hZ (hw _ (List.mem_of_getElem? (i := 46) rfl))) (by decide) (backOf (W := 0) (own_clear1 l Z a0 hw [] da sa ta la oa ka kb kc kd Sg11 Tg11 Og11 Lg11 (own_hn p1) h11 n0 Z11 HS11 (own_hs_n _).1 hO0 (fun j hj a => (hS j hj).trans (if_neg a))) hZ (hw _ (List.mem_of_getElem? (i := 48) rfl)) (hw _ (List.mem_of_getElem? (i := 28) rfl)) (by decide) (by decide)) q17a q17c (g := (mkF m 115 #[.val (.int p0), .val (.int p1), .val (.int p2), .val (.int p3), .val (.int p4), .val (.int k0), .val (.int k1), .val (.int k2), .val (.ref s0), .val (.ref s1), .val (.ref s2), .val (.int (2 : Int32)), .val (.ref da), .unset, .unset, .unset, .unset, .unset, .unset, .unset, .unset, .unset, .unset, .unset] [(.ref da)])) rfl (by rw [hml]; rfl) (Steps.refl _) (argsL := []) (rest := []) (lenOf own_pd___V rfl) rfl (by show 2 * 0 + _ ≤ _; exact Nat.le_of_eq rfl) (hb hby at_115) (fun _ _ => ⟨rfl, e14, (by decide : 11 + 0 ≤ _), (by decide : 60 + 0 ≤ _)⟩)
      dsimp only [Pt.U, Pt.locs, Pt.cells, Pt.slots] at X17 l17 y17 z17 st17 hQ17
      subst l17 y17 z17
      obtain ⟨h17, e17⟩ : ∃ z, T17.heap = z := ⟨_, rfl⟩
      rw [e17] at hQ17
      obtain ⟨rfl, N17q, K17, Sg17, Lg17, HS17, HI17⟩ := hQ17
      have Z17 : n0 ≤ h17.size := Nat.le_trans Z11 K17.1
      have N17 := Fr.app N14 N17q
      have pre18 : ∀ t, Steps p.tables e below (T17.setTop (mkF m 118 #[.val (.int p0), .val (.int p1), .val (.int p2), .val (.int p3), .val (.int p4), .val (.int k0), .val (.int k1), .val (.int k2), .val (.ref s0), .val (.ref s1), .val (.ref s2), .val (.int (2 : Int32)), .val (.ref da), .unset, .unset, .unset, .unset, .unset, .unset, .unset, .unset, .unset, .unset, .unset] [])) t → Steps p.tables e below (T0.setTop (mkF m 68 #[.val (.int p0), .val (.int p1), .val (.int p2), .val (.int p3), .val (.int p4), .val (.int k0), .val (.int k1), .val (.int k2), .val (.ref s0), .val (.ref s1), .val (.ref s2), .val (.int (2 : Int32)), .val (.ref da), .unset, .unset, .unset, .unset, .unset, .unset, .unset, .unset, .unset, .unset, .unset] [])) t := fun t k => pre16 _ (st17.trans k)
      exact ⟨T17, h17, _, X17, e17, N17, Z17, ⟨((Keep.refl _ _).trans K11 (fun _ q => Or.inl q)).trans K17 (fun _ q => Or.inl q), Sg17, Tg11, Og11, Lg17, HS17, HI17⟩, pre18⟩
    · have Z14 : n0 ≤ h14.size := Nat.le_trans Z11 K14.1
      have N14 := Fr.app N11 N14q
      have pre19 : ∀ t, Steps p.tables e below (T14.setTop (mkF m 97 #[.val (.int p0), .val (.int p1), .val (.int p2), .val (.int p3), .val (.int p4), .val (.int k0), .val (.int k1), .val (.int k2), .val (.ref s0), .val (.ref s1), .val (.ref s2), .val (.int (2 : Int32)), .val (.ref da), .unset, .unset, .unset, .unset, .unset, .unset, .unset, .unset, .unset, .unset, .unset] [(.int (1 : Int32))])) t → Steps p.tables e below (T0.setTop (mkF m 68 #[.val (.int p0), .val (.int p1), .val (.int p2), .val (.int p3), .val (.int p4), .val (.int k0), .val (.int k1), .val (.int k2), .val (.ref s0), .val (.ref s1), .val (.ref s2), .val (.int (2 : Int32)), .val (.ref da), .unset, .unset, .unset, .unset, .unset, .unset, .unset, .unset, .unset, .unset, .unset] [])) t := fun t k => pre13 _ (st14.trans k)
      obtain ⟨b0, b1, q1, hq1, hq1n, hS, hP1, hT0, hL0, SB0, hO0, hT1, hL1, SB1, hO1⟩ := HI14
      have pre20 : ∀ t, Steps p.tables e below (T14.setTop (mkF m 115 #[.val (.int p0), .val (.int p1), .val (.int p2), .val (.int p3), .val (.int p4), .val (.int k0), .val (.int k1), .val (.int k2), .val (.ref s0), .val (.ref s1), .val (.ref s2), .val (.int (2 : Int32)), .val (.ref da), .unset, .unset, .unset, .unset, .unset, .unset, .unset, .unset, .unset, .unset, .unset] [(.ref da)])) t → Steps p.tables e below (T0.setTop (mkF m 68 #[.val (.int p0), .val (.int p1), .val (.int p2), .val (.int p3), .val (.int p4), .val (.int k0), .val (.int k1), .val (.int k2), .val (.ref s0), .val (.ref s1), .val (.ref s2), .val (.int (2 : Int32)), .val (.ref da), .unset, .unset, .unset, .unset, .unset, .unset, .unset, .unset, .unset, .unset, .unset] [])) t := fun t k => pre19 _ (by
        refine XS.pop X14.here hx rfl (hb hby at_97) rfl rfl ?_
        refine XS.iload X14.here hx rfl (hb hby at_98) rfl ?_
        refine XT.iconstV X14.here hx rfl (3 : Int32) (hb hby at_100) rfl ?_
        refine XS.icmpYes X14.here hx rfl (pc0 := 101) (pc' := 113) rfl (hb hby at_101) rfl (XT.ii_lt_t (by decide)) (by decide) (by decide) ?_
        refine XS.aload X14.here hx rfl (hb hby at_113) rfl rfl ?_
        exact k)
      obtain ⟨cq21, kq21, q21a, q21b, q21c⟩ := isOf hZ e14 HS14.1
      obtain ⟨_, _, ⟨T21, L21, k21, n21⟩, -, X21, ⟨Lc21, hQ21, l21, y21, z21⟩, st21⟩ := X14.virtualBack hx (y := (⟨"com/example/erma/erma/analysis/DistinctSteps", "clear", "()V"⟩ : MethodName)) (z := (⟨"com/example/erma/erma/analysis/DistinctSteps", "clear", "()V"⟩ : MethodName)) hown (mvT hZ (hw _ (List.mem_of_getElem? (i := 44) rfl))) (mvT hZ (hw _ (List.mem_of_getElem? (i := 45) rfl))) (notFace_of_selects (args := #[]) (mvT hZ (hw _ (List.mem_of_getElem? (i := 47) rfl)))) (mvT hZ (hw _ (List.mem_of_getElem? (i := 47) rfl))) (mvT hZ (hw _ (List.mem_of_getElem? (i := 46) rfl))) (by decide) (backOf (W := 0) (own_clear2 l Z a0 hw [] da sa ta la oa ka kb kc kd Sg14 Tg14 Og14 Lg14 (own_hn p1) q1 h14 n0 Z14 HS14 (own_hs_n _).1 hq1 hO0 hO1 (fun j hj a b => (hS j hj).trans ((if_neg a).trans (if_neg b)))) hZ (hw _ (List.mem_of_getElem? (i := 48) rfl)) (hw _ (List.mem_of_getElem? (i := 28) rfl)) (by decide) (by decide)) q21a q21c (g := (mkF m 115 #[.val (.int p0), .val (.int p1), .val (.int p2), .val (.int p3), .val (.int p4), .val (.int k0), .val (.int k1), .val (.int k2), .val (.ref s0), .val (.ref s1), .val (.ref s2), .val (.int (2 : Int32)), .val (.ref da), .unset, .unset, .unset, .unset, .unset, .unset, .unset, .unset, .unset, .unset, .unset] [(.ref da)])) rfl (by rw [hml]; rfl) (Steps.refl _) (argsL := []) (rest := []) (lenOf own_pd___V rfl) rfl (by show 2 * 0 + _ ≤ _; exact Nat.le_of_eq rfl) (hb hby at_115) (fun _ _ => ⟨rfl, e14, (by decide : 11 + 0 ≤ _), (by decide : 60 + 0 ≤ _)⟩)
      dsimp only [Pt.U, Pt.locs, Pt.cells, Pt.slots] at X21 l21 y21 z21 st21 hQ21
      subst l21 y21 z21
      obtain ⟨h21, e21⟩ : ∃ z, T21.heap = z := ⟨_, rfl⟩
      rw [e21] at hQ21
      obtain ⟨rfl, N21q, K21, Sg21, Lg21, HS21, HI21⟩ := hQ21
      have Z21 : n0 ≤ h21.size := Nat.le_trans Z14 K21.1
      have N21 := Fr.app N14 N21q
      have pre22 : ∀ t, Steps p.tables e below (T21.setTop (mkF m 118 #[.val (.int p0), .val (.int p1), .val (.int p2), .val (.int p3), .val (.int p4), .val (.int k0), .val (.int k1), .val (.int k2), .val (.ref s0), .val (.ref s1), .val (.ref s2), .val (.int (2 : Int32)), .val (.ref da), .unset, .unset, .unset, .unset, .unset, .unset, .unset, .unset, .unset, .unset, .unset] [])) t → Steps p.tables e below (T0.setTop (mkF m 68 #[.val (.int p0), .val (.int p1), .val (.int p2), .val (.int p3), .val (.int p4), .val (.int k0), .val (.int k1), .val (.int k2), .val (.ref s0), .val (.ref s1), .val (.ref s2), .val (.int (2 : Int32)), .val (.ref da), .unset, .unset, .unset, .unset, .unset, .unset, .unset, .unset, .unset, .unset, .unset] [])) t := fun t k => pre20 _ (st21.trans k)
      exact ⟨T21, h21, _, X21, e21, N21, Z21, ⟨(((Keep.refl _ _).trans K11 (fun _ q => Or.inl q)).trans K14 (fun _ q => Or.inl q)).trans K21 (fun _ q => Or.inl q), Sg21, Tg14, Og14, Lg21, HS21, HI21⟩, pre22⟩
  · subst hcs
    have pre23 : ∀ t, Steps p.tables e below (T0.setTop (mkF m 79 #[.val (.int p0), .val (.int p1), .val (.int p2), .val (.int p3), .val (.int p4), .val (.int k0), .val (.int k1), .val (.int k2), .val (.ref s0), .val (.ref s1), .val (.ref s2), .val (.int (3 : Int32)), .val (.ref da), .unset, .unset, .unset, .unset, .unset, .unset, .unset, .unset, .unset, .unset, .unset] [(.int p1), (.ref s0), (.ref da)])) t → Steps p.tables e below (T0.setTop (mkF m 68 #[.val (.int p0), .val (.int p1), .val (.int p2), .val (.int p3), .val (.int p4), .val (.int k0), .val (.int k1), .val (.int k2), .val (.ref s0), .val (.ref s1), .val (.ref s2), .val (.int (3 : Int32)), .val (.ref da), .unset, .unset, .unset, .unset, .unset, .unset, .unset, .unset, .unset, .unset, .unset] [])) t := fun t k => pre0 _ (by
      refine XS.iload X0.here hx rfl (hb hby at_68) rfl ?_
      refine XT.iconstV X0.here hx rfl (1 : Int32) (hb hby at_70) rfl ?_
      refine XS.icmpNo X0.here hx rfl (hb hby at_71) rfl (XT.ii_lt_f (by decide)) ?_
      refine XS.aload X0.here hx rfl (hb hby at_74) rfl rfl ?_
      refine XS.aload X0.here hx rfl (hb hby at_76) rfl rfl ?_
      refine XS.iloadN X0.here hx rfl (hb hby at_78) rfl ?_
      exact k)
    obtain ⟨cq24, kq24, q24a, q24b, q24c⟩ := isOf hZ e0 HS.1
    obtain ⟨_, _, ⟨T24, L24, k24, n24⟩, -, X24, ⟨Lc24, hQ24, l24, y24, z24⟩, st24⟩ := X0.virtualBack hx (y := (⟨"com/example/erma/erma/analysis/DistinctSteps", "add", "(Ljava/lang/String;I)Z"⟩ : MethodName)) (z := (⟨"com/example/erma/erma/analysis/DistinctSteps", "add", "(Ljava/lang/String;I)Z"⟩ : MethodName)) hown (mvT hZ (hw _ (List.mem_of_getElem? (i := 56) rfl))) (mvT hZ (hw _ (List.mem_of_getElem? (i := 57) rfl))) (notFace_of_selects (args := #[]) (mvT hZ (hw _ (List.mem_of_getElem? (i := 59) rfl)))) (mvT hZ (hw _ (List.mem_of_getElem? (i := 59) rfl))) (mvT hZ (hw _ (List.mem_of_getElem? (i := 58) rfl))) (by decide) (backOf (W := 0) (own_add0 l Z a0 hw [] da s0 p1 sa ta la oa ka kb kc kd Sf Tf Of Lf y0 cs  h0 n0 Z0 HS HI CB.sta hcs B0) hZ (hw _ (List.mem_of_getElem? (i := 60) rfl)) (hw _ (List.mem_of_getElem? (i := 28) rfl)) (by decide) (by decide)) q24a q24c (g := (mkF m 79 #[.val (.int p0), .val (.int p1), .val (.int p2), .val (.int p3), .val (.int p4), .val (.int k0), .val (.int k1), .val (.int k2), .val (.ref s0), .val (.ref s1), .val (.ref s2), .val (.int (3 : Int32)), .val (.ref da), .unset, .unset, .unset, .unset, .unset, .unset, .unset, .unset, .unset, .unset, .unset] [(.int p1), (.ref s0), (.ref da)])) rfl (by rw [hml]; rfl) (Steps.refl _) (argsL := [(.ref s0), (.int p1)]) (rest := []) (lenOf own_pd__Ljava_lang_String_I_Z rfl) rfl (by show 2 * 0 + _ ≤ _; exact Nat.le_of_eq rfl) (hb hby at_79) (fun _ _ => ⟨rfl, e0, (by decide : 11 + 0 ≤ _), (by decide : 60 + 0 ≤ _)⟩)
    dsimp only [Pt.U, Pt.locs, Pt.cells, Pt.slots] at X24 l24 y24 z24 st24 hQ24
    subst l24 y24 z24
    obtain ⟨h24, e24⟩ : ∃ z, T24.heap = z := ⟨_, rfl⟩
    rw [e24] at hQ24
    obtain ⟨rfl, N24q, K24, Sg24, Tg24, Og24, Lg24, HS24, HI24⟩ := hQ24
    have Z24 : n0 ≤ h24.size := Nat.le_trans Z0 K24.1
    have N24 := Fr.app N0 N24q
    have pre25 : ∀ t, Steps p.tables e below (T24.setTop (mkF m 82 #[.val (.int p0), .val (.int p1), .val (.int p2), .val (.int p3), .val (.int p4), .val (.int k0), .val (.int k1), .val (.int k2), .val (.ref s0), .val (.ref s1), .val (.ref s2), .val (.int (3 : Int32)), .val (.ref da), .unset, .unset, .unset, .unset, .unset, .unset, .unset, .unset, .unset, .unset, .unset] [(.int (1 : Int32))])) t → Steps p.tables e below (T0.setTop (mkF m 68 #[.val (.int p0), .val (.int p1), .val (.int p2), .val (.int p3), .val (.int p4), .val (.int k0), .val (.int k1), .val (.int k2), .val (.ref s0), .val (.ref s1), .val (.ref s2), .val (.int (3 : Int32)), .val (.ref da), .unset, .unset, .unset, .unset, .unset, .unset, .unset, .unset, .unset, .unset, .unset] [])) t := fun t k => pre23 _ (st24.trans k)
    have pre26 : ∀ t, Steps p.tables e below (T24.setTop (mkF m 94 #[.val (.int p0), .val (.int p1), .val (.int p2), .val (.int p3), .val (.int p4), .val (.int k0), .val (.int k1), .val (.int k2), .val (.ref s0), .val (.ref s1), .val (.ref s2), .val (.int (3 : Int32)), .val (.ref da), .unset, .unset, .unset, .unset, .unset, .unset, .unset, .unset, .unset, .unset, .unset] [(.int p2), (.ref s1), (.ref da)])) t → Steps p.tables e below (T0.setTop (mkF m 68 #[.val (.int p0), .val (.int p1), .val (.int p2), .val (.int p3), .val (.int p4), .val (.int k0), .val (.int k1), .val (.int k2), .val (.ref s0), .val (.ref s1), .val (.ref s2), .val (.int (3 : Int32)), .val (.ref da), .unset, .unset, .unset, .unset, .unset, .unset, .unset, .unset, .unset, .unset, .unset] [])) t := fun t k => pre25 _ (by
      refine XS.pop X24.here hx rfl (hb hby at_82) rfl rfl ?_
      refine XS.iload X24.here hx rfl (hb hby at_83) rfl ?_
      refine XT.iconstV X24.here hx rfl (2 : Int32) (hb hby at_85) rfl ?_
      refine XS.icmpNo X24.here hx rfl (hb hby at_86) rfl (XT.ii_lt_f (by decide)) ?_
      refine XS.aload X24.here hx rfl (hb hby at_89) rfl rfl ?_
      refine XS.aload X24.here hx rfl (hb hby at_91) rfl rfl ?_
      refine XS.iloadN X24.here hx rfl (hb hby at_93) rfl ?_
      exact k)
    obtain ⟨cq27, kq27, q27a, q27b, q27c⟩ := isOf hZ e24 HS24.1
    obtain ⟨_, _, ⟨T27, L27, k27, n27⟩, -, X27, ⟨Lc27, hQ27, l27, y27, z27⟩, st27⟩ := X24.virtualBack hx (y := (⟨"com/example/erma/erma/analysis/DistinctSteps", "add", "(Ljava/lang/String;I)Z"⟩ : MethodName)) (z := (⟨"com/example/erma/erma/analysis/DistinctSteps", "add", "(Ljava/lang/String;I)Z"⟩ : MethodName)) hown (mvT hZ (hw _ (List.mem_of_getElem? (i := 56) rfl))) (mvT hZ (hw _ (List.mem_of_getElem? (i := 57) rfl))) (notFace_of_selects (args := #[]) (mvT hZ (hw _ (List.mem_of_getElem? (i := 59) rfl)))) (mvT hZ (hw _ (List.mem_of_getElem? (i := 59) rfl))) (mvT hZ (hw _ (List.mem_of_getElem? (i := 58) rfl))) (by decide) (backOf (W := 0) (own_add1 l Z a0 hw [] da s1 p2 sa ta la oa ka kb kc kd Sg24 Tg24 Og24 Lg24 y1 cs p1 y0 h24 n0 Z24 HS24 HI24 (CB.keep K24 HS.ge).sta hcs (B1.keep K24 HS.ge)) hZ (hw _ (List.mem_of_getElem? (i := 60) rfl)) (hw _ (List.mem_of_getElem? (i := 28) rfl)) (by decide) (by decide)) q27a q27c (g := (mkF m 94 #[.val (.int p0), .val (.int p1), .val (.int p2), .val (.int p3), .val (.int p4), .val (.int k0), .val (.int k1), .val (.int k2), .val (.ref s0), .val (.ref s1), .val (.ref s2), .val (.int (3 : Int32)), .val (.ref da), .unset, .unset, .unset, .unset, .unset, .unset, .unset, .unset, .unset, .unset, .unset] [(.int p2), (.ref s1), (.ref da)])) rfl (by rw [hml]; rfl) (Steps.refl _) (argsL := [(.ref s1), (.int p2)]) (rest := []) (lenOf own_pd__Ljava_lang_String_I_Z rfl) rfl (by show 2 * 0 + _ ≤ _; exact Nat.le_of_eq rfl) (hb hby at_94) (fun _ _ => ⟨rfl, e24, (by decide : 11 + 0 ≤ _), (by decide : 60 + 0 ≤ _)⟩)
    dsimp only [Pt.U, Pt.locs, Pt.cells, Pt.slots] at X27 l27 y27 z27 st27 hQ27
    subst l27 y27 z27
    obtain ⟨h27, e27⟩ : ∃ z, T27.heap = z := ⟨_, rfl⟩
    rw [e27] at hQ27
    rcases hQ27 with ⟨fd27, rfl, N27q, eh27⟩ | ⟨fd27, rfl, N27q, K27, Sg27, Tg27, Og27, Lg27, HS27, HI27⟩
    · rw [eh27] at e27
      have N27 := Fr.app N24 N27q
      have pre28 : ∀ t, Steps p.tables e below (T27.setTop (mkF m 97 #[.val (.int p0), .val (.int p1), .val (.int p2), .val (.int p3), .val (.int p4), .val (.int k0), .val (.int k1), .val (.int k2), .val (.ref s0), .val (.ref s1), .val (.ref s2), .val (.int (3 : Int32)), .val (.ref da), .unset, .unset, .unset, .unset, .unset, .unset, .unset, .unset, .unset, .unset, .unset] [(.int (0 : Int32))])) t → Steps p.tables e below (T0.setTop (mkF m 68 #[.val (.int p0), .val (.int p1), .val (.int p2), .val (.int p3), .val (.int p4), .val (.int k0), .val (.int k1), .val (.int k2), .val (.ref s0), .val (.ref s1), .val (.ref s2), .val (.int (3 : Int32)), .val (.ref da), .unset, .unset, .unset, .unset, .unset, .unset, .unset, .unset, .unset, .unset, .unset] [])) t := fun t k => pre26 _ (st27.trans k)
      have pre29 : ∀ t, Steps p.tables e below (T27.setTop (mkF m 109 #[.val (.int p0), .val (.int p1), .val (.int p2), .val (.int p3), .val (.int p4), .val (.int k0), .val (.int k1), .val (.int k2), .val (.ref s0), .val (.ref s1), .val (.ref s2), .val (.int (3 : Int32)), .val (.ref da), .unset, .unset, .unset, .unset, .unset, .unset, .unset, .unset, .unset, .unset, .unset] [(.int p3), (.ref s2), (.ref da)])) t → Steps p.tables e below (T0.setTop (mkF m 68 #[.val (.int p0), .val (.int p1), .val (.int p2), .val (.int p3), .val (.int p4), .val (.int k0), .val (.int k1), .val (.int k2), .val (.ref s0), .val (.ref s1), .val (.ref s2), .val (.int (3 : Int32)), .val (.ref da), .unset, .unset, .unset, .unset, .unset, .unset, .unset, .unset, .unset, .unset, .unset] [])) t := fun t k => pre28 _ (by
        refine XS.pop X27.here hx rfl (hb hby at_97) rfl rfl ?_
        refine XS.iload X27.here hx rfl (hb hby at_98) rfl ?_
        refine XT.iconstV X27.here hx rfl (3 : Int32) (hb hby at_100) rfl ?_
        refine XS.icmpNo X27.here hx rfl (hb hby at_101) rfl (XT.ii_lt_f (by decide)) ?_
        refine XS.aload X27.here hx rfl (hb hby at_104) rfl rfl ?_
        refine XS.aload X27.here hx rfl (hb hby at_106) rfl rfl ?_
        refine XS.iloadN X27.here hx rfl (hb hby at_108) rfl ?_
        exact k)
      obtain ⟨cq30, kq30, q30a, q30b, q30c⟩ := isOf hZ e27 HS24.1
      obtain ⟨_, _, ⟨T30, L30, k30, n30⟩, -, X30, ⟨Lc30, hQ30, l30, y30, z30⟩, st30⟩ := X27.virtualBack hx (y := (⟨"com/example/erma/erma/analysis/DistinctSteps", "add", "(Ljava/lang/String;I)Z"⟩ : MethodName)) (z := (⟨"com/example/erma/erma/analysis/DistinctSteps", "add", "(Ljava/lang/String;I)Z"⟩ : MethodName)) hown (mvT hZ (hw _ (List.mem_of_getElem? (i := 56) rfl))) (mvT hZ (hw _ (List.mem_of_getElem? (i := 57) rfl))) (notFace_of_selects (args := #[]) (mvT hZ (hw _ (List.mem_of_getElem? (i := 59) rfl)))) (mvT hZ (hw _ (List.mem_of_getElem? (i := 59) rfl))) (mvT hZ (hw _ (List.mem_of_getElem? (i := 58) rfl))) (by decide) (backOf (W := 0) (own_add1 l Z a0 hw [] da s2 p3 sa ta la oa ka kb kc kd Sg24 Tg24 Og24 Lg24 y2 cs p1 y0 h24 n0 Z24 HS24 HI24 (CB.keep K24 HS.ge).sta hcs (B2.keep K24 HS.ge)) hZ (hw _ (List.mem_of_getElem? (i := 60) rfl)) (hw _ (List.mem_of_getElem? (i := 28) rfl)) (by decide) (by decide)) q30a q30c (g := (mkF m 109 #[.val (.int p0), .val (.int p1), .val (.int p2), .val (.int p3), .val (.int p4), .val (.int k0), .val (.int k1), .val (.int k2), .val (.ref s0), .val (.ref s1), .val (.ref s2), .val (.int (3 : Int32)), .val (.ref da), .unset, .unset, .unset, .unset, .unset, .unset, .unset, .unset, .unset, .unset, .unset] [(.int p3), (.ref s2), (.ref da)])) rfl (by rw [hml]; rfl) (Steps.refl _) (argsL := [(.ref s2), (.int p3)]) (rest := []) (lenOf own_pd__Ljava_lang_String_I_Z rfl) rfl (by show 2 * 0 + _ ≤ _; exact Nat.le_of_eq rfl) (hb hby at_109) (fun _ _ => ⟨rfl, e27, (by decide : 11 + 0 ≤ _), (by decide : 60 + 0 ≤ _)⟩)
      dsimp only [Pt.U, Pt.locs, Pt.cells, Pt.slots] at X30 l30 y30 z30 st30 hQ30
      subst l30 y30 z30
      obtain ⟨h30, e30⟩ : ∃ z, T30.heap = z := ⟨_, rfl⟩
      rw [e30] at hQ30
      rcases hQ30 with ⟨fd30, rfl, N30q, eh30⟩ | ⟨fd30, rfl, N30q, K30, Sg30, Tg30, Og30, Lg30, HS30, HI30⟩
      · rw [eh30] at e30
        have N30 := Fr.app N27 N30q
        have pre31 : ∀ t, Steps p.tables e below (T30.setTop (mkF m 112 #[.val (.int p0), .val (.int p1), .val (.int p2), .val (.int p3), .val (.int p4), .val (.int k0), .val (.int k1), .val (.int k2), .val (.ref s0), .val (.ref s1), .val (.ref s2), .val (.int (3 : Int32)), .val (.ref da), .unset, .unset, .unset, .unset, .unset, .unset, .unset, .unset, .unset, .unset, .unset] [(.int (0 : Int32))])) t → Steps p.tables e below (T0.setTop (mkF m 68 #[.val (.int p0), .val (.int p1), .val (.int p2), .val (.int p3), .val (.int p4), .val (.int k0), .val (.int k1), .val (.int k2), .val (.ref s0), .val (.ref s1), .val (.ref s2), .val (.int (3 : Int32)), .val (.ref da), .unset, .unset, .unset, .unset, .unset, .unset, .unset, .unset, .unset, .unset, .unset] [])) t := fun t k => pre29 _ (st30.trans k)
        obtain ⟨b0, hS, hT0, hL0, SB0, hO0⟩ := HI24
        have pre32 : ∀ t, Steps p.tables e below (T30.setTop (mkF m 115 #[.val (.int p0), .val (.int p1), .val (.int p2), .val (.int p3), .val (.int p4), .val (.int k0), .val (.int k1), .val (.int k2), .val (.ref s0), .val (.ref s1), .val (.ref s2), .val (.int (3 : Int32)), .val (.ref da), .unset, .unset, .unset, .unset, .unset, .unset, .unset, .unset, .unset, .unset, .unset] [(.ref da)])) t → Steps p.tables e below (T0.setTop (mkF m 68 #[.val (.int p0), .val (.int p1), .val (.int p2), .val (.int p3), .val (.int p4), .val (.int k0), .val (.int k1), .val (.int k2), .val (.ref s0), .val (.ref s1), .val (.ref s2), .val (.int (3 : Int32)), .val (.ref da), .unset, .unset, .unset, .unset, .unset, .unset, .unset, .unset, .unset, .unset, .unset] [])) t := fun t k => pre31 _ (by
          refine XS.pop X30.here hx rfl (hb hby at_112) rfl rfl ?_
          refine XS.aload X30.here hx rfl (hb hby at_113) rfl rfl ?_
          exact k)
        obtain ⟨cq33, kq33, q33a, q33b, q33c⟩ := isOf hZ e30 HS24.1
        obtain ⟨_, _, ⟨T33, L33, k33, n33⟩, -, X33, ⟨Lc33, hQ33, l33, y33, z33⟩, st33⟩ := X30.virtualBack hx (y := (⟨"com/example/erma/erma/analysis/DistinctSteps", "clear", "()V"⟩ : MethodName)) (z := (⟨"com/example/erma/erma/analysis/DistinctSteps", "clear", "()V"⟩ : MethodName)) hown (mvT hZ (hw _ (List.mem_of_getElem? (i := 44) rfl))) (mvT hZ (hw _ (List.mem_of_getElem? (i := 45) rfl))) (notFace_of_selects (args := #[]) (mvT hZ (hw _ (List.mem_of_getElem? (i := 47) rfl)))) (mvT hZ (hw _ (List.mem_of_getElem? (i := 47) rfl))) (mvT hZ (hw _ (List.mem_of_getElem? (i := 46) rfl))) (by decide) (backOf (W := 0) (own_clear1 l Z a0 hw [] da sa ta la oa ka kb kc kd Sg24 Tg24 Og24 Lg24 (own_hn p1) h24 n0 Z24 HS24 (own_hs_n _).1 hO0 (fun j hj a => (hS j hj).trans (if_neg a))) hZ (hw _ (List.mem_of_getElem? (i := 48) rfl)) (hw _ (List.mem_of_getElem? (i := 28) rfl)) (by decide) (by decide)) q33a q33c (g := (mkF m 115 #[.val (.int p0), .val (.int p1), .val (.int p2), .val (.int p3), .val (.int p4), .val (.int k0), .val (.int k1), .val (.int k2), .val (.ref s0), .val (.ref s1), .val (.ref s2), .val (.int (3 : Int32)), .val (.ref da), .unset, .unset, .unset, .unset, .unset, .unset, .unset, .unset, .unset, .unset, .unset] [(.ref da)])) rfl (by rw [hml]; rfl) (Steps.refl _) (argsL := []) (rest := []) (lenOf own_pd___V rfl) rfl (by show 2 * 0 + _ ≤ _; exact Nat.le_of_eq rfl) (hb hby at_115) (fun _ _ => ⟨rfl, e30, (by decide : 11 + 0 ≤ _), (by decide : 60 + 0 ≤ _)⟩)
        dsimp only [Pt.U, Pt.locs, Pt.cells, Pt.slots] at X33 l33 y33 z33 st33 hQ33
        subst l33 y33 z33
        obtain ⟨h33, e33⟩ : ∃ z, T33.heap = z := ⟨_, rfl⟩
        rw [e33] at hQ33
        obtain ⟨rfl, N33q, K33, Sg33, Lg33, HS33, HI33⟩ := hQ33
        have Z33 : n0 ≤ h33.size := Nat.le_trans Z24 K33.1
        have N33 := Fr.app N30 N33q
        have pre34 : ∀ t, Steps p.tables e below (T33.setTop (mkF m 118 #[.val (.int p0), .val (.int p1), .val (.int p2), .val (.int p3), .val (.int p4), .val (.int k0), .val (.int k1), .val (.int k2), .val (.ref s0), .val (.ref s1), .val (.ref s2), .val (.int (3 : Int32)), .val (.ref da), .unset, .unset, .unset, .unset, .unset, .unset, .unset, .unset, .unset, .unset, .unset] [])) t → Steps p.tables e below (T0.setTop (mkF m 68 #[.val (.int p0), .val (.int p1), .val (.int p2), .val (.int p3), .val (.int p4), .val (.int k0), .val (.int k1), .val (.int k2), .val (.ref s0), .val (.ref s1), .val (.ref s2), .val (.int (3 : Int32)), .val (.ref da), .unset, .unset, .unset, .unset, .unset, .unset, .unset, .unset, .unset, .unset, .unset] [])) t := fun t k => pre32 _ (st33.trans k)
        exact ⟨T33, h33, _, X33, e33, N33, Z33, ⟨((Keep.refl _ _).trans K24 (fun _ q => Or.inl q)).trans K33 (fun _ q => Or.inl q), Sg33, Tg24, Og24, Lg33, HS33, HI33⟩, pre34⟩
      · have Z30 : n0 ≤ h30.size := Nat.le_trans Z24 K30.1
        have N30 := Fr.app N27 N30q
        have pre35 : ∀ t, Steps p.tables e below (T30.setTop (mkF m 112 #[.val (.int p0), .val (.int p1), .val (.int p2), .val (.int p3), .val (.int p4), .val (.int k0), .val (.int k1), .val (.int k2), .val (.ref s0), .val (.ref s1), .val (.ref s2), .val (.int (3 : Int32)), .val (.ref da), .unset, .unset, .unset, .unset, .unset, .unset, .unset, .unset, .unset, .unset, .unset] [(.int (1 : Int32))])) t → Steps p.tables e below (T0.setTop (mkF m 68 #[.val (.int p0), .val (.int p1), .val (.int p2), .val (.int p3), .val (.int p4), .val (.int k0), .val (.int k1), .val (.int k2), .val (.ref s0), .val (.ref s1), .val (.ref s2), .val (.int (3 : Int32)), .val (.ref da), .unset, .unset, .unset, .unset, .unset, .unset, .unset, .unset, .unset, .unset, .unset] [])) t := fun t k => pre29 _ (st30.trans k)
        obtain ⟨b0, b1, q1, hq1, hq1n, hS, hP1, hT0, hL0, SB0, hO0, hT1, hL1, SB1, hO1⟩ := HI30
        have pre36 : ∀ t, Steps p.tables e below (T30.setTop (mkF m 115 #[.val (.int p0), .val (.int p1), .val (.int p2), .val (.int p3), .val (.int p4), .val (.int k0), .val (.int k1), .val (.int k2), .val (.ref s0), .val (.ref s1), .val (.ref s2), .val (.int (3 : Int32)), .val (.ref da), .unset, .unset, .unset, .unset, .unset, .unset, .unset, .unset, .unset, .unset, .unset] [(.ref da)])) t → Steps p.tables e below (T0.setTop (mkF m 68 #[.val (.int p0), .val (.int p1), .val (.int p2), .val (.int p3), .val (.int p4), .val (.int k0), .val (.int k1), .val (.int k2), .val (.ref s0), .val (.ref s1), .val (.ref s2), .val (.int (3 : Int32)), .val (.ref da), .unset, .unset, .unset, .unset, .unset, .unset, .unset, .unset, .unset, .unset, .unset] [])) t := fun t k => pre35 _ (by
          refine XS.pop X30.here hx rfl (hb hby at_112) rfl rfl ?_
          refine XS.aload X30.here hx rfl (hb hby at_113) rfl rfl ?_
          exact k)
        obtain ⟨cq37, kq37, q37a, q37b, q37c⟩ := isOf hZ e30 HS30.1
        obtain ⟨_, _, ⟨T37, L37, k37, n37⟩, -, X37, ⟨Lc37, hQ37, l37, y37, z37⟩, st37⟩ := X30.virtualBack hx (y := (⟨"com/example/erma/erma/analysis/DistinctSteps", "clear", "()V"⟩ : MethodName)) (z := (⟨"com/example/erma/erma/analysis/DistinctSteps", "clear", "()V"⟩ : MethodName)) hown (mvT hZ (hw _ (List.mem_of_getElem? (i := 44) rfl))) (mvT hZ (hw _ (List.mem_of_getElem? (i := 45) rfl))) (notFace_of_selects (args := #[]) (mvT hZ (hw _ (List.mem_of_getElem? (i := 47) rfl)))) (mvT hZ (hw _ (List.mem_of_getElem? (i := 47) rfl))) (mvT hZ (hw _ (List.mem_of_getElem? (i := 46) rfl))) (by decide) (backOf (W := 0) (own_clear2 l Z a0 hw [] da sa ta la oa ka kb kc kd Sg30 Tg30 Og30 Lg30 (own_hn p1) q1 h30 n0 Z30 HS30 (own_hs_n _).1 hq1 hO0 hO1 (fun j hj a b => (hS j hj).trans ((if_neg a).trans (if_neg b)))) hZ (hw _ (List.mem_of_getElem? (i := 48) rfl)) (hw _ (List.mem_of_getElem? (i := 28) rfl)) (by decide) (by decide)) q37a q37c (g := (mkF m 115 #[.val (.int p0), .val (.int p1), .val (.int p2), .val (.int p3), .val (.int p4), .val (.int k0), .val (.int k1), .val (.int k2), .val (.ref s0), .val (.ref s1), .val (.ref s2), .val (.int (3 : Int32)), .val (.ref da), .unset, .unset, .unset, .unset, .unset, .unset, .unset, .unset, .unset, .unset, .unset] [(.ref da)])) rfl (by rw [hml]; rfl) (Steps.refl _) (argsL := []) (rest := []) (lenOf own_pd___V rfl) rfl (by show 2 * 0 + _ ≤ _; exact Nat.le_of_eq rfl) (hb hby at_115) (fun _ _ => ⟨rfl, e30, (by decide : 11 + 0 ≤ _), (by decide : 60 + 0 ≤ _)⟩)
        dsimp only [Pt.U, Pt.locs, Pt.cells, Pt.slots] at X37 l37 y37 z37 st37 hQ37
        subst l37 y37 z37
        obtain ⟨h37, e37⟩ : ∃ z, T37.heap = z := ⟨_, rfl⟩
        rw [e37] at hQ37
        obtain ⟨rfl, N37q, K37, Sg37, Lg37, HS37, HI37⟩ := hQ37
        have Z37 : n0 ≤ h37.size := Nat.le_trans Z30 K37.1
        have N37 := Fr.app N30 N37q
        have pre38 : ∀ t, Steps p.tables e below (T37.setTop (mkF m 118 #[.val (.int p0), .val (.int p1), .val (.int p2), .val (.int p3), .val (.int p4), .val (.int k0), .val (.int k1), .val (.int k2), .val (.ref s0), .val (.ref s1), .val (.ref s2), .val (.int (3 : Int32)), .val (.ref da), .unset, .unset, .unset, .unset, .unset, .unset, .unset, .unset, .unset, .unset, .unset] [])) t → Steps p.tables e below (T0.setTop (mkF m 68 #[.val (.int p0), .val (.int p1), .val (.int p2), .val (.int p3), .val (.int p4), .val (.int k0), .val (.int k1), .val (.int k2), .val (.ref s0), .val (.ref s1), .val (.ref s2), .val (.int (3 : Int32)), .val (.ref da), .unset, .unset, .unset, .unset, .unset, .unset, .unset, .unset, .unset, .unset, .unset] [])) t := fun t k => pre36 _ (st37.trans k)
        exact ⟨T37, h37, _, X37, e37, N37, Z37, ⟨(((Keep.refl _ _).trans K24 (fun _ q => Or.inl q)).trans K30 (fun _ q => Or.inl q)).trans K37 (fun _ q => Or.inl q), Sg37, Tg30, Og30, Lg37, HS37, HI37⟩, pre38⟩
    · have Z27 : n0 ≤ h27.size := Nat.le_trans Z24 K27.1
      have N27 := Fr.app N24 N27q
      have pre39 : ∀ t, Steps p.tables e below (T27.setTop (mkF m 97 #[.val (.int p0), .val (.int p1), .val (.int p2), .val (.int p3), .val (.int p4), .val (.int k0), .val (.int k1), .val (.int k2), .val (.ref s0), .val (.ref s1), .val (.ref s2), .val (.int (3 : Int32)), .val (.ref da), .unset, .unset, .unset, .unset, .unset, .unset, .unset, .unset, .unset, .unset, .unset] [(.int (1 : Int32))])) t → Steps p.tables e below (T0.setTop (mkF m 68 #[.val (.int p0), .val (.int p1), .val (.int p2), .val (.int p3), .val (.int p4), .val (.int k0), .val (.int k1), .val (.int k2), .val (.ref s0), .val (.ref s1), .val (.ref s2), .val (.int (3 : Int32)), .val (.ref da), .unset, .unset, .unset, .unset, .unset, .unset, .unset, .unset, .unset, .unset, .unset] [])) t := fun t k => pre26 _ (st27.trans k)
      have pre40 : ∀ t, Steps p.tables e below (T27.setTop (mkF m 109 #[.val (.int p0), .val (.int p1), .val (.int p2), .val (.int p3), .val (.int p4), .val (.int k0), .val (.int k1), .val (.int k2), .val (.ref s0), .val (.ref s1), .val (.ref s2), .val (.int (3 : Int32)), .val (.ref da), .unset, .unset, .unset, .unset, .unset, .unset, .unset, .unset, .unset, .unset, .unset] [(.int p3), (.ref s2), (.ref da)])) t → Steps p.tables e below (T0.setTop (mkF m 68 #[.val (.int p0), .val (.int p1), .val (.int p2), .val (.int p3), .val (.int p4), .val (.int k0), .val (.int k1), .val (.int k2), .val (.ref s0), .val (.ref s1), .val (.ref s2), .val (.int (3 : Int32)), .val (.ref da), .unset, .unset, .unset, .unset, .unset, .unset, .unset, .unset, .unset, .unset, .unset] [])) t := fun t k => pre39 _ (by
        refine XS.pop X27.here hx rfl (hb hby at_97) rfl rfl ?_
        refine XS.iload X27.here hx rfl (hb hby at_98) rfl ?_
        refine XT.iconstV X27.here hx rfl (3 : Int32) (hb hby at_100) rfl ?_
        refine XS.icmpNo X27.here hx rfl (hb hby at_101) rfl (XT.ii_lt_f (by decide)) ?_
        refine XS.aload X27.here hx rfl (hb hby at_104) rfl rfl ?_
        refine XS.aload X27.here hx rfl (hb hby at_106) rfl rfl ?_
        refine XS.iloadN X27.here hx rfl (hb hby at_108) rfl ?_
        exact k)
      obtain ⟨cq41, kq41, q41a, q41b, q41c⟩ := isOf hZ e27 HS27.1
      obtain ⟨_, _, ⟨T41, L41, k41, n41⟩, -, X41, ⟨Lc41, hQ41, l41, y41, z41⟩, st41⟩ := X27.virtualBack hx (y := (⟨"com/example/erma/erma/analysis/DistinctSteps", "add", "(Ljava/lang/String;I)Z"⟩ : MethodName)) (z := (⟨"com/example/erma/erma/analysis/DistinctSteps", "add", "(Ljava/lang/String;I)Z"⟩ : MethodName)) hown (mvT hZ (hw _ (List.mem_of_getElem? (i := 56) rfl))) (mvT hZ (hw _ (List.mem_of_getElem? (i := 57) rfl))) (notFace_of_selects (args := #[]) (mvT hZ (hw _ (List.mem_of_getElem? (i := 59) rfl)))) (mvT hZ (hw _ (List.mem_of_getElem? (i := 59) rfl))) (mvT hZ (hw _ (List.mem_of_getElem? (i := 58) rfl))) (by decide) (backOf (W := 0) (own_add2 l Z a0 hw [] da s2 p3 sa ta la oa ka kb kc kd Sg27 Tg27 Og27 Lg27 y2 cs p1 y0 p2 y1 h27 n0 Z27 HS27 HI27 ((CB.keep K24 HS.ge).keep K27 HS24.ge).sta hcs ((B2.keep K24 HS.ge).keep K27 HS24.ge)) hZ (hw _ (List.mem_of_getElem? (i := 60) rfl)) (hw _ (List.mem_of_getElem? (i := 28) rfl)) (by decide) (by decide)) q41a q41c (g := (mkF m 109 #[.val (.int p0), .val (.int p1), .val (.int p2), .val (.int p3), .val (.int p4), .val (.int k0), .val (.int k1), .val (.int k2), .val (.ref s0), .val (.ref s1), .val (.ref s2), .val (.int (3 : Int32)), .val (.ref da), .unset, .unset, .unset, .unset, .unset, .unset, .unset, .unset, .unset, .unset, .unset] [(.int p3), (.ref s2), (.ref da)])) rfl (by rw [hml]; rfl) (Steps.refl _) (argsL := [(.ref s2), (.int p3)]) (rest := []) (lenOf own_pd__Ljava_lang_String_I_Z rfl) rfl (by show 2 * 0 + _ ≤ _; exact Nat.le_of_eq rfl) (hb hby at_109) (fun _ _ => ⟨rfl, e27, (by decide : 11 + 0 ≤ _), (by decide : 60 + 0 ≤ _)⟩)
      dsimp only [Pt.U, Pt.locs, Pt.cells, Pt.slots] at X41 l41 y41 z41 st41 hQ41
      subst l41 y41 z41
      obtain ⟨h41, e41⟩ : ∃ z, T41.heap = z := ⟨_, rfl⟩
      rw [e41] at hQ41
      rcases hQ41 with ⟨fd41, rfl, N41q, eh41⟩ | ⟨fd41, rfl, N41q, K41, Sg41, Tg41, Og41, Lg41, HS41, HI41⟩
      · rw [eh41] at e41
        have N41 := Fr.app N27 N41q
        have pre42 : ∀ t, Steps p.tables e below (T41.setTop (mkF m 112 #[.val (.int p0), .val (.int p1), .val (.int p2), .val (.int p3), .val (.int p4), .val (.int k0), .val (.int k1), .val (.int k2), .val (.ref s0), .val (.ref s1), .val (.ref s2), .val (.int (3 : Int32)), .val (.ref da), .unset, .unset, .unset, .unset, .unset, .unset, .unset, .unset, .unset, .unset, .unset] [(.int (0 : Int32))])) t → Steps p.tables e below (T0.setTop (mkF m 68 #[.val (.int p0), .val (.int p1), .val (.int p2), .val (.int p3), .val (.int p4), .val (.int k0), .val (.int k1), .val (.int k2), .val (.ref s0), .val (.ref s1), .val (.ref s2), .val (.int (3 : Int32)), .val (.ref da), .unset, .unset, .unset, .unset, .unset, .unset, .unset, .unset, .unset, .unset, .unset] [])) t := fun t k => pre40 _ (st41.trans k)
        obtain ⟨b0, b1, q1, hq1, hq1n, hS, hP1, hT0, hL0, SB0, hO0, hT1, hL1, SB1, hO1⟩ := HI27
        have pre43 : ∀ t, Steps p.tables e below (T41.setTop (mkF m 115 #[.val (.int p0), .val (.int p1), .val (.int p2), .val (.int p3), .val (.int p4), .val (.int k0), .val (.int k1), .val (.int k2), .val (.ref s0), .val (.ref s1), .val (.ref s2), .val (.int (3 : Int32)), .val (.ref da), .unset, .unset, .unset, .unset, .unset, .unset, .unset, .unset, .unset, .unset, .unset] [(.ref da)])) t → Steps p.tables e below (T0.setTop (mkF m 68 #[.val (.int p0), .val (.int p1), .val (.int p2), .val (.int p3), .val (.int p4), .val (.int k0), .val (.int k1), .val (.int k2), .val (.ref s0), .val (.ref s1), .val (.ref s2), .val (.int (3 : Int32)), .val (.ref da), .unset, .unset, .unset, .unset, .unset, .unset, .unset, .unset, .unset, .unset, .unset] [])) t := fun t k => pre42 _ (by
          refine XS.pop X41.here hx rfl (hb hby at_112) rfl rfl ?_
          refine XS.aload X41.here hx rfl (hb hby at_113) rfl rfl ?_
          exact k)
        obtain ⟨cq44, kq44, q44a, q44b, q44c⟩ := isOf hZ e41 HS27.1
        obtain ⟨_, _, ⟨T44, L44, k44, n44⟩, -, X44, ⟨Lc44, hQ44, l44, y44, z44⟩, st44⟩ := X41.virtualBack hx (y := (⟨"com/example/erma/erma/analysis/DistinctSteps", "clear", "()V"⟩ : MethodName)) (z := (⟨"com/example/erma/erma/analysis/DistinctSteps", "clear", "()V"⟩ : MethodName)) hown (mvT hZ (hw _ (List.mem_of_getElem? (i := 44) rfl))) (mvT hZ (hw _ (List.mem_of_getElem? (i := 45) rfl))) (notFace_of_selects (args := #[]) (mvT hZ (hw _ (List.mem_of_getElem? (i := 47) rfl)))) (mvT hZ (hw _ (List.mem_of_getElem? (i := 47) rfl))) (mvT hZ (hw _ (List.mem_of_getElem? (i := 46) rfl))) (by decide) (backOf (W := 0) (own_clear2 l Z a0 hw [] da sa ta la oa ka kb kc kd Sg27 Tg27 Og27 Lg27 (own_hn p1) q1 h27 n0 Z27 HS27 (own_hs_n _).1 hq1 hO0 hO1 (fun j hj a b => (hS j hj).trans ((if_neg a).trans (if_neg b)))) hZ (hw _ (List.mem_of_getElem? (i := 48) rfl)) (hw _ (List.mem_of_getElem? (i := 28) rfl)) (by decide) (by decide)) q44a q44c (g := (mkF m 115 #[.val (.int p0), .val (.int p1), .val (.int p2), .val (.int p3), .val (.int p4), .val (.int k0), .val (.int k1), .val (.int k2), .val (.ref s0), .val (.ref s1), .val (.ref s2), .val (.int (3 : Int32)), .val (.ref da), .unset, .unset, .unset, .unset, .unset, .unset, .unset, .unset, .unset, .unset, .unset] [(.ref da)])) rfl (by rw [hml]; rfl) (Steps.refl _) (argsL := []) (rest := []) (lenOf own_pd___V rfl) rfl (by show 2 * 0 + _ ≤ _; exact Nat.le_of_eq rfl) (hb hby at_115) (fun _ _ => ⟨rfl, e41, (by decide : 11 + 0 ≤ _), (by decide : 60 + 0 ≤ _)⟩)
        dsimp only [Pt.U, Pt.locs, Pt.cells, Pt.slots] at X44 l44 y44 z44 st44 hQ44
        subst l44 y44 z44
        obtain ⟨h44, e44⟩ : ∃ z, T44.heap = z := ⟨_, rfl⟩
        rw [e44] at hQ44
        obtain ⟨rfl, N44q, K44, Sg44, Lg44, HS44, HI44⟩ := hQ44
        have Z44 : n0 ≤ h44.size := Nat.le_trans Z27 K44.1
        have N44 := Fr.app N41 N44q
        have pre45 : ∀ t, Steps p.tables e below (T44.setTop (mkF m 118 #[.val (.int p0), .val (.int p1), .val (.int p2), .val (.int p3), .val (.int p4), .val (.int k0), .val (.int k1), .val (.int k2), .val (.ref s0), .val (.ref s1), .val (.ref s2), .val (.int (3 : Int32)), .val (.ref da), .unset, .unset, .unset, .unset, .unset, .unset, .unset, .unset, .unset, .unset, .unset] [])) t → Steps p.tables e below (T0.setTop (mkF m 68 #[.val (.int p0), .val (.int p1), .val (.int p2), .val (.int p3), .val (.int p4), .val (.int k0), .val (.int k1), .val (.int k2), .val (.ref s0), .val (.ref s1), .val (.ref s2), .val (.int (3 : Int32)), .val (.ref da), .unset, .unset, .unset, .unset, .unset, .unset, .unset, .unset, .unset, .unset, .unset] [])) t := fun t k => pre43 _ (st44.trans k)
        exact ⟨T44, h44, _, X44, e44, N44, Z44, ⟨(((Keep.refl _ _).trans K24 (fun _ q => Or.inl q)).trans K27 (fun _ q => Or.inl q)).trans K44 (fun _ q => Or.inl q), Sg44, Tg27, Og27, Lg44, HS44, HI44⟩, pre45⟩
      · have Z41 : n0 ≤ h41.size := Nat.le_trans Z27 K41.1
        have N41 := Fr.app N27 N41q
        have pre46 : ∀ t, Steps p.tables e below (T41.setTop (mkF m 112 #[.val (.int p0), .val (.int p1), .val (.int p2), .val (.int p3), .val (.int p4), .val (.int k0), .val (.int k1), .val (.int k2), .val (.ref s0), .val (.ref s1), .val (.ref s2), .val (.int (3 : Int32)), .val (.ref da), .unset, .unset, .unset, .unset, .unset, .unset, .unset, .unset, .unset, .unset, .unset] [(.int (1 : Int32))])) t → Steps p.tables e below (T0.setTop (mkF m 68 #[.val (.int p0), .val (.int p1), .val (.int p2), .val (.int p3), .val (.int p4), .val (.int k0), .val (.int k1), .val (.int k2), .val (.ref s0), .val (.ref s1), .val (.ref s2), .val (.int (3 : Int32)), .val (.ref da), .unset, .unset, .unset, .unset, .unset, .unset, .unset, .unset, .unset, .unset, .unset] [])) t := fun t k => pre40 _ (st41.trans k)
        obtain ⟨q0, q1, q2, hq0, hq1, hq2, hS, hO0, hO1, hO2⟩ := HI41
        have pre47 : ∀ t, Steps p.tables e below (T41.setTop (mkF m 115 #[.val (.int p0), .val (.int p1), .val (.int p2), .val (.int p3), .val (.int p4), .val (.int k0), .val (.int k1), .val (.int k2), .val (.ref s0), .val (.ref s1), .val (.ref s2), .val (.int (3 : Int32)), .val (.ref da), .unset, .unset, .unset, .unset, .unset, .unset, .unset, .unset, .unset, .unset, .unset] [(.ref da)])) t → Steps p.tables e below (T0.setTop (mkF m 68 #[.val (.int p0), .val (.int p1), .val (.int p2), .val (.int p3), .val (.int p4), .val (.int k0), .val (.int k1), .val (.int k2), .val (.ref s0), .val (.ref s1), .val (.ref s2), .val (.int (3 : Int32)), .val (.ref da), .unset, .unset, .unset, .unset, .unset, .unset, .unset, .unset, .unset, .unset, .unset] [])) t := fun t k => pre46 _ (by
          refine XS.pop X41.here hx rfl (hb hby at_112) rfl rfl ?_
          refine XS.aload X41.here hx rfl (hb hby at_113) rfl rfl ?_
          exact k)
        obtain ⟨cq48, kq48, q48a, q48b, q48c⟩ := isOf hZ e41 HS41.1
        obtain ⟨_, _, ⟨T48, L48, k48, n48⟩, -, X48, ⟨Lc48, hQ48, l48, y48, z48⟩, st48⟩ := X41.virtualBack hx (y := (⟨"com/example/erma/erma/analysis/DistinctSteps", "clear", "()V"⟩ : MethodName)) (z := (⟨"com/example/erma/erma/analysis/DistinctSteps", "clear", "()V"⟩ : MethodName)) hown (mvT hZ (hw _ (List.mem_of_getElem? (i := 44) rfl))) (mvT hZ (hw _ (List.mem_of_getElem? (i := 45) rfl))) (notFace_of_selects (args := #[]) (mvT hZ (hw _ (List.mem_of_getElem? (i := 47) rfl)))) (mvT hZ (hw _ (List.mem_of_getElem? (i := 47) rfl))) (mvT hZ (hw _ (List.mem_of_getElem? (i := 46) rfl))) (by decide) (backOf (W := 0) (own_clear3 l Z a0 hw [] da sa ta la oa ka kb kc kd Sg41 Tg41 Og41 Lg41 q0 q1 q2 h41 n0 Z41 HS41 hq0 hq1 hq2 hO0 hO1 hO2 hS) hZ (hw _ (List.mem_of_getElem? (i := 48) rfl)) (hw _ (List.mem_of_getElem? (i := 28) rfl)) (by decide) (by decide)) q48a q48c (g := (mkF m 115 #[.val (.int p0), .val (.int p1), .val (.int p2), .val (.int p3), .val (.int p4), .val (.int k0), .val (.int k1), .val (.int k2), .val (.ref s0), .val (.ref s1), .val (.ref s2), .val (.int (3 : Int32)), .val (.ref da), .unset, .unset, .unset, .unset, .unset, .unset, .unset, .unset, .unset, .unset, .unset] [(.ref da)])) rfl (by rw [hml]; rfl) (Steps.refl _) (argsL := []) (rest := []) (lenOf own_pd___V rfl) rfl (by show 2 * 0 + _ ≤ _; exact Nat.le_of_eq rfl) (hb hby at_115) (fun _ _ => ⟨rfl, e41, (by decide : 11 + 0 ≤ _), (by decide : 60 + 0 ≤ _)⟩)
        dsimp only [Pt.U, Pt.locs, Pt.cells, Pt.slots] at X48 l48 y48 z48 st48 hQ48
        subst l48 y48 z48
        obtain ⟨h48, e48⟩ : ∃ z, T48.heap = z := ⟨_, rfl⟩
        rw [e48] at hQ48
        obtain ⟨rfl, N48q, K48, Sg48, Lg48, HS48, HI48⟩ := hQ48
        have Z48 : n0 ≤ h48.size := Nat.le_trans Z41 K48.1
        have N48 := Fr.app N41 N48q
        have pre49 : ∀ t, Steps p.tables e below (T48.setTop (mkF m 118 #[.val (.int p0), .val (.int p1), .val (.int p2), .val (.int p3), .val (.int p4), .val (.int k0), .val (.int k1), .val (.int k2), .val (.ref s0), .val (.ref s1), .val (.ref s2), .val (.int (3 : Int32)), .val (.ref da), .unset, .unset, .unset, .unset, .unset, .unset, .unset, .unset, .unset, .unset, .unset] [])) t → Steps p.tables e below (T0.setTop (mkF m 68 #[.val (.int p0), .val (.int p1), .val (.int p2), .val (.int p3), .val (.int p4), .val (.int k0), .val (.int k1), .val (.int k2), .val (.ref s0), .val (.ref s1), .val (.ref s2), .val (.int (3 : Int32)), .val (.ref da), .unset, .unset, .unset, .unset, .unset, .unset, .unset, .unset, .unset, .unset, .unset] [])) t := fun t k => pre47 _ (st48.trans k)
        exact ⟨T48, h48, _, X48, e48, N48, Z48, ⟨((((Keep.refl _ _).trans K24 (fun _ q => Or.inl q)).trans K27 (fun _ q => Or.inl q)).trans K41 (fun _ q => Or.inl q)).trans K48 (fun _ q => Or.inl q), Sg48, Tg41, Og41, Lg48, HS48, HI48⟩, pre49⟩
theorem own_ef_own_law (m : MethodId) (p0 : Int32) (p1 : Int32) (p2 : Int32) (p3 : Int32) (p4 : Int32) : entryFrame m #[(.int p0), (.int p1), (.int p2), (.int p3), (.int p4)] maxLocals = mkF m 0 #[.val (.int p0), .val (.int p1), .val (.int p2), .val (.int p3), .val (.int p4), .unset, .unset, .unset, .unset, .unset, .unset, .unset, .unset, .unset, .unset, .unset, .unset, .unset, .unset, .unset, .unset, .unset, .unset, .unset] [] := by first | (simp [entryFrame, mkF, argsToLocals, Value.category, maxLocals]; done) | rfl
def Q_own_law (Z : State) (p0 : Int32) (p1 : Int32) (p2 : Int32) (p3 : Int32) (p4 : Int32) (cs : Int32) (h0 : Heap) (n0 : Nat) (v : Option Value) (h : Heap) (L : List Loc) : Prop := v = some (.int 1) ∧ Fr n0 L
theorem own_pn_com_example_erma_erma_analysis_DistinctStepsClearPinLaw : plainName "com/example/erma/erma/analysis/DistinctStepsClearPinLaw" = true := by first | (simp [plainName, overriddenIn]; done) | decide +kernel
theorem own_pd__C_Ljava_lang_String_ : parseMethodDescriptor "(C)Ljava/lang/String;" = some ⟨[.char], some (.object "java/lang/String")⟩ := by decide +kernel
theorem own_pd___I : parseMethodDescriptor "()I" = some ⟨[], some .int⟩ := by decide +kernel
set_option maxRecDepth 65536 in
set_option maxHeartbeats 40000000 in
theorem own_law (l : Launch) (Z : State) (a0 : Array Value) (hw : ∀ d ∈ tables_1, d.before a0 Z = true) (ws : List Jvm.Cond) (p0 : Int32) (p1 : Int32) (p2 : Int32) (p3 : Int32) (p4 : Int32) (cs : Int32) (h0 : Heap) (n0 : Nat) (Z0 : n0 ≤ h0.size) (CS : Sta Z h0 "java/lang/String" "COMPACT_STRINGS" "Z" (.int cs)) (hcs : ¬ cs = 0) :
    MetFree l x (head1 (Jvm.Cond.code x code maxLocals ret :: ws) room_1) (fun a U => a = #[(.int p0), (.int p1), (.int p2), (.int p3), (.int p4)] ∧ Z.Warmed39 U.vm ∧ U.heap = h0) (fun _ _ _ _ _ => True) (fun _ U o U' => ∃ v L, o = .returned v ∧ Q_own_law Z p0 p1 p2 p3 p4 cs h0 n0 v U'.heap L ∧ FrameEnd U o U' L room_1.cells room_1.slots) := by
  refine MetFree.of_bodySF (plainFor_of_name own_pn_com_example_erma_erma_analysis_DistinctStepsClearPinLaw) hisR ?_
  intro p e s m args below meth c s₁ Bd hml0 hP hK
  obtain ⟨rfl, hZ, hh⟩ := hP
  have hx := Bd.exec
  have hby := Bd.bytes
  have hml : c.maxLocals = 24 := hml0
  have hown : s.vm.findClass "com/example/erma/erma/analysis/DistinctStepsClearPinLaw" = some m.cls := findClass_of_methodNamed Bd.named
  have hnm := (name_of_methodNamed Bd.named Bd.method).1
  have X0 : Stand p l e room_1 s m #[(.int p0), (.int p1), (.int p2), (.int p3), (.int p4)] below meth c s₁ [] 0 0 := Stand.of_body Bd
  have e0 : s₁.heap = h0 := by rw [← hh, Bd.state]; rfl
  have N0 := Fr.nil n0
  have pre0 : ∀ t, Steps p.tables e below (s₁.setTop (mkF m 0 #[.val (.int p0), .val (.int p1), .val (.int p2), .val (.int p3), .val (.int p4), .unset, .unset, .unset, .unset, .unset, .unset, .unset, .unset, .unset, .unset, .unset, .unset, .unset, .unset, .unset, .unset, .unset, .unset, .unset] [])) t → Steps p.tables e below (s₁.setTop (entryFrame m #[(.int p0), (.int p1), (.int p2), (.int p3), (.int p4)] maxLocals)) t := fun t k => castTop (own_ef_own_law m p0 p1 p2 p3 p4) k
  have pre1 : ∀ t, Steps p.tables e below (s₁.setTop (mkF m 33 #[.val (.int p0), .val (.int p1), .val (.int p2), .val (.int p3), .val (.int p4), .val (.int ((p4 &&& (255 : Int32)).toUInt32.toUInt16.toUInt32.toInt32)), .val (.int ((((p4.toUInt32 >>> ((8 : Int32) &&& 31).toUInt32).toInt32) &&& (255 : Int32)).toUInt32.toUInt16.toUInt32.toInt32)), .val (.int ((((p4.toUInt32 >>> ((16 : Int32) &&& 31).toUInt32).toInt32) &&& (255 : Int32)).toUInt32.toUInt16.toUInt32.toInt32)), .unset, .unset, .unset, .unset, .unset, .unset, .unset, .unset, .unset, .unset, .unset, .unset, .unset, .unset, .unset, .unset] [])) t → Steps p.tables e below (s₁.setTop (entryFrame m #[(.int p0), (.int p1), (.int p2), (.int p3), (.int p4)] maxLocals)) t := fun t k => pre0 _ (by
    refine XS.iload X0.here hx rfl (hb hby at_0) rfl ?_
    refine XT.sipushV X0.here hx rfl (255 : Int32) (hb hby at_2) rfl ?_
    refine XS.iand X0.here hx rfl (hb hby at_5) rfl ?_
    refine XS.i2c X0.here hx rfl (hb hby at_6) rfl ?_
    refine XS.istore X0.here hx rfl (hb hby at_7) rfl (l' := #[.val (.int p0), .val (.int p1), .val (.int p2), .val (.int p3), .val (.int p4), .val (.int ((p4 &&& (255 : Int32)).toUInt32.toUInt16.toUInt32.toInt32)), .unset, .unset, .unset, .unset, .unset, .unset, .unset, .unset, .unset, .unset, .unset, .unset, .unset, .unset, .unset, .unset, .unset, .unset]) rfl ?_
    refine XS.iload X0.here hx rfl (hb hby at_9) rfl ?_
    refine XT.bipushV X0.here hx rfl (8 : Int32) (hb hby at_11) rfl ?_
    show Steps p.tables e below (s₁.setTop (mkF m 13 #[.val (.int p0), .val (.int p1), .val (.int p2), .val (.int p3), .val (.int p4), .val (.int ((p4 &&& (255 : Int32)).toUInt32.toUInt16.toUInt32.toInt32)), .unset, .unset, .unset, .unset, .unset, .unset, .unset, .unset, .unset, .unset, .unset, .unset, .unset, .unset, .unset, .unset, .unset, .unset] [(.int (8 : Int32)), (.int p4)])) _
    refine XS.iushr X0.here hx rfl (hb hby at_13) rfl ?_
    refine XT.sipushV X0.here hx rfl (255 : Int32) (hb hby at_14) rfl ?_
    refine XS.iand X0.here hx rfl (hb hby at_17) rfl ?_
    refine XS.i2c X0.here hx rfl (hb hby at_18) rfl ?_
    refine XS.istore X0.here hx rfl (hb hby at_19) rfl (l' := #[.val (.int p0), .val (.int p1), .val (.int p2), .val (.int p3), .val (.int p4), .val (.int ((p4 &&& (255 : Int32)).toUInt32.toUInt16.toUInt32.toInt32)), .val (.int ((((p4.toUInt32 >>> ((8 : Int32) &&& 31).toUInt32).toInt32) &&& (255 : Int32)).toUInt32.toUInt16.toUInt32.toInt32)), .unset, .unset, .unset, .unset, .unset, .unset, .unset, .unset, .unset, .unset, .unset, .unset, .unset, .unset, .unset, .unset, .unset]) rfl ?_
    refine XS.iload X0.here hx rfl (hb hby at_21) rfl ?_
    refine XT.bipushV X0.here hx rfl (16 : Int32) (hb hby at_23) rfl ?_
    refine XS.iushr X0.here hx rfl (hb hby at_25) rfl ?_
    show Steps p.tables e below (s₁.setTop (mkF m 26 #[.val (.int p0), .val (.int p1), .val (.int p2), .val (.int p3), .val (.int p4), .val (.int ((p4 &&& (255 : Int32)).toUInt32.toUInt16.toUInt32.toInt32)), .val (.int ((((p4.toUInt32 >>> ((8 : Int32) &&& 31).toUInt32).toInt32) &&& (255 : Int32)).toUInt32.toUInt16.toUInt32.toInt32)), .unset, .unset, .unset, .unset, .unset, .unset, .unset, .unset, .unset, .unset, .unset, .unset, .unset, .unset, .unset, .unset, .unset] [(.int ((p4.toUInt32 >>> ((16 : Int32) &&& 31).toUInt32).toInt32))])) _
    refine XT.sipushV X0.here hx rfl (255 : Int32) (hb hby at_26) rfl ?_
    refine XS.iand X0.here hx rfl (hb hby at_29) rfl ?_
    refine XS.i2c X0.here hx rfl (hb hby at_30) rfl ?_
    refine XS.istore X0.here hx rfl (hb hby at_31) rfl (l' := #[.val (.int p0), .val (.int p1), .val (.int p2), .val (.int p3), .val (.int p4), .val (.int ((p4 &&& (255 : Int32)).toUInt32.toUInt16.toUInt32.toInt32)), .val (.int ((((p4.toUInt32 >>> ((8 : Int32) &&& 31).toUInt32).toInt32) &&& (255 : Int32)).toUInt32.toUInt16.toUInt32.toInt32)), .val (.int ((((p4.toUInt32 >>> ((16 : Int32) &&& 31).toUInt32).toInt32) &&& (255 : Int32)).toUInt32.toUInt16.toUInt32.toInt32)), .unset, .unset, .unset, .unset, .unset, .unset, .unset, .unset, .unset, .unset, .unset, .unset, .unset, .unset, .unset, .unset]) rfl ?_
    exact k)
  obtain ⟨k0, hk0⟩ : ∃ z : Int32, z = ((p4 &&& (255 : Int32)).toUInt32.toUInt16.toUInt32.toInt32) := ⟨_, rfl⟩
  have pre2 : ∀ t, Steps p.tables e below (s₁.setTop (mkF m 33 #[.val (.int p0), .val (.int p1), .val (.int p2), .val (.int p3), .val (.int p4), .val (.int k0), .val (.int ((((p4.toUInt32 >>> ((8 : Int32) &&& 31).toUInt32).toInt32) &&& (255 : Int32)).toUInt32.toUInt16.toUInt32.toInt32)), .val (.int ((((p4.toUInt32 >>> ((16 : Int32) &&& 31).toUInt32).toInt32) &&& (255 : Int32)).toUInt32.toUInt16.toUInt32.toInt32)), .unset, .unset, .unset, .unset, .unset, .unset, .unset, .unset, .unset, .unset, .unset, .unset, .unset, .unset, .unset, .unset] [])) t → Steps p.tables e below (s₁.setTop (entryFrame m #[(.int p0), (.int p1), (.int p2), (.int p3), (.int p4)] maxLocals)) t := fun t k => pre1 _ (by rw [hk0] at k; exact k)
  obtain ⟨u0, z0⟩ := own_ch p4
  rw [← hk0] at u0 z0
  obtain ⟨k1, hk1⟩ : ∃ z : Int32, z = ((((p4.toUInt32 >>> ((8 : Int32) &&& 31).toUInt32).toInt32) &&& (255 : Int32)).toUInt32.toUInt16.toUInt32.toInt32) := ⟨_, rfl⟩
  have pre3 : ∀ t, Steps p.tables e below (s₁.setTop (mkF m 33 #[.val (.int p0), .val (.int p1), .val (.int p2), .val (.int p3), .val (.int p4), .val (.int k0), .val (.int k1), .val (.int ((((p4.toUInt32 >>> ((16 : Int32) &&& 31).toUInt32).toInt32) &&& (255 : Int32)).toUInt32.toUInt16.toUInt32.toInt32)), .unset, .unset, .unset, .unset, .unset, .unset, .unset, .unset, .unset, .unset, .unset, .unset, .unset, .unset, .unset, .unset] [])) t → Steps p.tables e below (s₁.setTop (entryFrame m #[(.int p0), (.int p1), (.int p2), (.int p3), (.int p4)] maxLocals)) t := fun t k => pre2 _ (by rw [hk1] at k; exact k)
  obtain ⟨u1, z1⟩ := own_ch ((p4.toUInt32 >>> ((8 : Int32) &&& 31).toUInt32).toInt32)
  rw [← hk1] at u1 z1
  obtain ⟨k2, hk2⟩ : ∃ z : Int32, z = ((((p4.toUInt32 >>> ((16 : Int32) &&& 31).toUInt32).toInt32) &&& (255 : Int32)).toUInt32.toUInt16.toUInt32.toInt32) := ⟨_, rfl⟩
  have pre4 : ∀ t, Steps p.tables e below (s₁.setTop (mkF m 33 #[.val (.int p0), .val (.int p1), .val (.int p2), .val (.int p3), .val (.int p4), .val (.int k0), .val (.int k1), .val (.int k2), .unset, .unset, .unset, .unset, .unset, .unset, .unset, .unset, .unset, .unset, .unset, .unset, .unset, .unset, .unset, .unset] [])) t → Steps p.tables e below (s₁.setTop (entryFrame m #[(.int p0), (.int p1), (.int p2), (.int p3), (.int p4)] maxLocals)) t := fun t k => pre3 _ (by rw [hk2] at k; exact k)
  obtain ⟨u2, z2⟩ := own_ch ((p4.toUInt32 >>> ((16 : Int32) &&& 31).toUInt32).toInt32)
  rw [← hk2] at u2 z2
  have CB := own_Sb.of CS
  have pre5 : ∀ t, Steps p.tables e below (s₁.setTop (mkF m 35 #[.val (.int p0), .val (.int p1), .val (.int p2), .val (.int p3), .val (.int p4), .val (.int k0), .val (.int k1), .val (.int k2), .unset, .unset, .unset, .unset, .unset, .unset, .unset, .unset, .unset, .unset, .unset, .unset, .unset, .unset, .unset, .unset] [(.int k0)])) t → Steps p.tables e below (s₁.setTop (entryFrame m #[(.int p0), (.int p1), (.int p2), (.int p3), (.int p4)] maxLocals)) t := fun t k => pre4 _ (by
    refine XS.iload X0.here hx rfl (hb hby at_33) rfl ?_
    exact k)
  obtain ⟨_, _, ⟨T6, L6, k6, n6⟩, -, X6, ⟨Lc6, hQ6, l6, y6, z6⟩, st6⟩ := Jvm.LawKit.callS X0 hx (y := (⟨"java/lang/String", "valueOf", "(C)Ljava/lang/String;"⟩ : MethodName)) hown (mvT hZ (hw _ (List.mem_of_getElem? (i := 0) rfl))) (mvT hZ (hw _ (List.mem_of_getElem? (i := 1) rfl))) (mvT hZ (hw _ (List.mem_of_getElem? (i := 2) rfl))) (mvT hZ (hw _ (List.mem_of_getElem? (i := 3) rfl))) (by decide) (backOf (W := 0) (own_valueOf l Z a0 hw [] k0 cs h0 n0 Z0 CB.sta hcs u0) hZ (hw _ (List.mem_of_getElem? (i := 3) rfl)) (hw _ (List.mem_of_getElem? (i := 2) rfl)) (by decide) (by decide)) (g := (mkF m 35 #[.val (.int p0), .val (.int p1), .val (.int p2), .val (.int p3), .val (.int p4), .val (.int k0), .val (.int k1), .val (.int k2), .unset, .unset, .unset, .unset, .unset, .unset, .unset, .unset, .unset, .unset, .unset, .unset, .unset, .unset, .unset, .unset] [(.int k0)])) rfl (by rw [hml]; rfl) (argsL := [(.int k0)]) (rest := []) (lenOf own_pd__C_Ljava_lang_String_ rfl) rfl (by show 2 * 0 + _ ≤ _; exact Nat.le_of_eq rfl) (hb hby at_35) (fun _ _ => ⟨rfl, e0, (by decide : 0 + 2 ≤ _), (by decide : 0 + 5 ≤ _)⟩)
  dsimp only [Pt.U, Pt.locs, Pt.cells, Pt.slots] at X6 l6 y6 z6 st6 hQ6
  subst l6 y6 z6
  obtain ⟨h6, e6⟩ : ∃ z, T6.heap = z := ⟨_, rfl⟩
  rw [e6] at hQ6
  obtain ⟨r6, rfl, N6q, K6, B6⟩ := hQ6
  have Z6 : n0 ≤ h6.size := Nat.le_trans Z0 K6.1
  have N6 := Fr.app N0 N6q
  have pre7 : ∀ t, Steps p.tables e below (T6.setTop (mkF m 38 #[.val (.int p0), .val (.int p1), .val (.int p2), .val (.int p3), .val (.int p4), .val (.int k0), .val (.int k1), .val (.int k2), .unset, .unset, .unset, .unset, .unset, .unset, .unset, .unset, .unset, .unset, .unset, .unset, .unset, .unset, .unset, .unset] [(.ref r6)])) t → Steps p.tables e below (s₁.setTop (entryFrame m #[(.int p0), (.int p1), (.int p2), (.int p3), (.int p4)] maxLocals)) t := fun t k => pre5 _ (st6 _ k)
  have pre8 : ∀ t, Steps p.tables e below (T6.setTop (mkF m 42 #[.val (.int p0), .val (.int p1), .val (.int p2), .val (.int p3), .val (.int p4), .val (.int k0), .val (.int k1), .val (.int k2), .val (.ref r6), .unset, .unset, .unset, .unset, .unset, .unset, .unset, .unset, .unset, .unset, .unset, .unset, .unset, .unset, .unset] [(.int k1)])) t → Steps p.tables e below (s₁.setTop (entryFrame m #[(.int p0), (.int p1), (.int p2), (.int p3), (.int p4)] maxLocals)) t := fun t k => pre7 _ (by
    refine XS.astore X6.here hx rfl (hb hby at_38) rfl rfl (l' := #[.val (.int p0), .val (.int p1), .val (.int p2), .val (.int p3), .val (.int p4), .val (.int k0), .val (.int k1), .val (.int k2), .val (.ref r6), .unset, .unset, .unset, .unset, .unset, .unset, .unset, .unset, .unset, .unset, .unset, .unset, .unset, .unset, .unset]) rfl ?_
    refine XS.iload X6.here hx rfl (hb hby at_40) rfl ?_
    exact k)
  obtain ⟨_, _, ⟨T9, L9, k9, n9⟩, -, X9, ⟨Lc9, hQ9, l9, y9, z9⟩, st9⟩ := Jvm.LawKit.callS X6 hx (y := (⟨"java/lang/String", "valueOf", "(C)Ljava/lang/String;"⟩ : MethodName)) hown (mvT hZ (hw _ (List.mem_of_getElem? (i := 0) rfl))) (mvT hZ (hw _ (List.mem_of_getElem? (i := 1) rfl))) (mvT hZ (hw _ (List.mem_of_getElem? (i := 2) rfl))) (mvT hZ (hw _ (List.mem_of_getElem? (i := 3) rfl))) (by decide) (backOf (W := 0) (own_valueOf l Z a0 hw [] k1 cs h6 n0 Z6 (CB.keep K6 all0).sta hcs u1) hZ (hw _ (List.mem_of_getElem? (i := 3) rfl)) (hw _ (List.mem_of_getElem? (i := 2) rfl)) (by decide) (by decide)) (g := (mkF m 42 #[.val (.int p0), .val (.int p1), .val (.int p2), .val (.int p3), .val (.int p4), .val (.int k0), .val (.int k1), .val (.int k2), .val (.ref r6), .unset, .unset, .unset, .unset, .unset, .unset, .unset, .unset, .unset, .unset, .unset, .unset, .unset, .unset, .unset] [(.int k1)])) rfl (by rw [hml]; rfl) (argsL := [(.int k1)]) (rest := []) (lenOf own_pd__C_Ljava_lang_String_ rfl) rfl (by show 2 * 0 + _ ≤ _; exact Nat.le_of_eq rfl) (hb hby at_42) (fun _ _ => ⟨rfl, e6, (by decide : 2 + 2 ≤ _), (by decide : 5 + 5 ≤ _)⟩)
  dsimp only [Pt.U, Pt.locs, Pt.cells, Pt.slots] at X9 l9 y9 z9 st9 hQ9
  subst l9 y9 z9
  obtain ⟨h9, e9⟩ : ∃ z, T9.heap = z := ⟨_, rfl⟩
  rw [e9] at hQ9
  obtain ⟨r9, rfl, N9q, K9, B9⟩ := hQ9
  have Z9 : n0 ≤ h9.size := Nat.le_trans Z6 K9.1
  have N9 := Fr.app N6 N9q
  have pre10 : ∀ t, Steps p.tables e below (T9.setTop (mkF m 45 #[.val (.int p0), .val (.int p1), .val (.int p2), .val (.int p3), .val (.int p4), .val (.int k0), .val (.int k1), .val (.int k2), .val (.ref r6), .unset, .unset, .unset, .unset, .unset, .unset, .unset, .unset, .unset, .unset, .unset, .unset, .unset, .unset, .unset] [(.ref r9)])) t → Steps p.tables e below (s₁.setTop (entryFrame m #[(.int p0), (.int p1), (.int p2), (.int p3), (.int p4)] maxLocals)) t := fun t k => pre8 _ (st9 _ k)
  have pre11 : ∀ t, Steps p.tables e below (T9.setTop (mkF m 49 #[.val (.int p0), .val (.int p1), .val (.int p2), .val (.int p3), .val (.int p4), .val (.int k0), .val (.int k1), .val (.int k2), .val (.ref r6), .val (.ref r9), .unset, .unset, .unset, .unset, .unset, .unset, .unset, .unset, .unset, .unset, .unset, .unset, .unset, .unset] [(.int k2)])) t → Steps p.tables e below (s₁.setTop (entryFrame m #[(.int p0), (.int p1), (.int p2), (.int p3), (.int p4)] maxLocals)) t := fun t k => pre10 _ (by
    refine XS.astore X9.here hx rfl (hb hby at_45) rfl rfl (l' := #[.val (.int p0), .val (.int p1), .val (.int p2), .val (.int p3), .val (.int p4), .val (.int k0), .val (.int k1), .val (.int k2), .val (.ref r6), .val (.ref r9), .unset, .unset, .unset, .unset, .unset, .unset, .unset, .unset, .unset, .unset, .unset, .unset, .unset, .unset]) rfl ?_
    refine XS.iload X9.here hx rfl (hb hby at_47) rfl ?_
    exact k)
  obtain ⟨_, _, ⟨T12, L12, k12, n12⟩, -, X12, ⟨Lc12, hQ12, l12, y12, z12⟩, st12⟩ := Jvm.LawKit.callS X9 hx (y := (⟨"java/lang/String", "valueOf", "(C)Ljava/lang/String;"⟩ : MethodName)) hown (mvT hZ (hw _ (List.mem_of_getElem? (i := 0) rfl))) (mvT hZ (hw _ (List.mem_of_getElem? (i := 1) rfl))) (mvT hZ (hw _ (List.mem_of_getElem? (i := 2) rfl))) (mvT hZ (hw _ (List.mem_of_getElem? (i := 3) rfl))) (by decide) (backOf (W := 0) (own_valueOf l Z a0 hw [] k2 cs h9 n0 Z9 ((CB.keep K6 all0).keep K9 all0).sta hcs u2) hZ (hw _ (List.mem_of_getElem? (i := 3) rfl)) (hw _ (List.mem_of_getElem? (i := 2) rfl)) (by decide) (by decide)) (g := (mkF m 49 #[.val (.int p0), .val (.int p1), .val (.int p2), .val (.int p3), .val (.int p4), .val (.int k0), .val (.int k1), .val (.int k2), .val (.ref r6), .val (.ref r9), .unset, .unset, .unset, .unset, .unset, .unset, .unset, .unset, .unset, .unset, .unset, .unset, .unset, .unset] [(.int k2)])) rfl (by rw [hml]; rfl) (argsL := [(.int k2)]) (rest := []) (lenOf own_pd__C_Ljava_lang_String_ rfl) rfl (by show 2 * 0 + _ ≤ _; exact Nat.le_of_eq rfl) (hb hby at_49) (fun _ _ => ⟨rfl, e9, (by decide : 4 + 2 ≤ _), (by decide : 10 + 5 ≤ _)⟩)
  dsimp only [Pt.U, Pt.locs, Pt.cells, Pt.slots] at X12 l12 y12 z12 st12 hQ12
  subst l12 y12 z12
  obtain ⟨h12, e12⟩ : ∃ z, T12.heap = z := ⟨_, rfl⟩
  rw [e12] at hQ12
  obtain ⟨r12, rfl, N12q, K12, B12⟩ := hQ12
  have Z12 : n0 ≤ h12.size := Nat.le_trans Z9 K12.1
  have N12 := Fr.app N9 N12q
  have pre13 : ∀ t, Steps p.tables e below (T12.setTop (mkF m 52 #[.val (.int p0), .val (.int p1), .val (.int p2), .val (.int p3), .val (.int p4), .val (.int k0), .val (.int k1), .val (.int k2), .val (.ref r6), .val (.ref r9), .unset, .unset, .unset, .unset, .unset, .unset, .unset, .unset, .unset, .unset, .unset, .unset, .unset, .unset] [(.ref r12)])) t → Steps p.tables e below (s₁.setTop (entryFrame m #[(.int p0), (.int p1), (.int p2), (.int p3), (.int p4)] maxLocals)) t := fun t k => pre11 _ (st12 _ k)
  have pre14 : ∀ t, Steps p.tables e below (T12.setTop (mkF m 59 #[.val (.int p0), .val (.int p1), .val (.int p2), .val (.int p3), .val (.int p4), .val (.int k0), .val (.int k1), .val (.int k2), .val (.ref r6), .val (.ref r9), .val (.ref r12), .val (.int (p0 &&& (3 : Int32))), .unset, .unset, .unset, .unset, .unset, .unset, .unset, .unset, .unset, .unset, .unset, .unset] [])) t → Steps p.tables e below (s₁.setTop (entryFrame m #[(.int p0), (.int p1), (.int p2), (.int p3), (.int p4)] maxLocals)) t := fun t k => pre13 _ (by
    refine XS.astore X12.here hx rfl (hb hby at_52) rfl rfl (l' := #[.val (.int p0), .val (.int p1), .val (.int p2), .val (.int p3), .val (.int p4), .val (.int k0), .val (.int k1), .val (.int k2), .val (.ref r6), .val (.ref r9), .val (.ref r12), .unset, .unset, .unset, .unset, .unset, .unset, .unset, .unset, .unset, .unset, .unset, .unset, .unset]) rfl ?_
    refine XS.iloadN X12.here hx rfl (hb hby at_54) rfl ?_
    refine XT.iconstV X12.here hx rfl (3 : Int32) (hb hby at_55) rfl ?_
    refine XS.iand X12.here hx rfl (hb hby at_56) rfl ?_
    refine XS.istore X12.here hx rfl (hb hby at_57) rfl (l' := #[.val (.int p0), .val (.int p1), .val (.int p2), .val (.int p3), .val (.int p4), .val (.int k0), .val (.int k1), .val (.int k2), .val (.ref r6), .val (.ref r9), .val (.ref r12), .val (.int (p0 &&& (3 : Int32))), .unset, .unset, .unset, .unset, .unset, .unset, .unset, .unset, .unset, .unset, .unset, .unset]) rfl ?_
    exact k)
  obtain ⟨an, han⟩ : ∃ z : Int32, z = (p0 &&& (3 : Int32)) := ⟨_, rfl⟩
  have pre15 : ∀ t, Steps p.tables e below (T12.setTop (mkF m 59 #[.val (.int p0), .val (.int p1), .val (.int p2), .val (.int p3), .val (.int p4), .val (.int k0), .val (.int k1), .val (.int k2), .val (.ref r6), .val (.ref r9), .val (.ref r12), .val (.int an), .unset, .unset, .unset, .unset, .unset, .unset, .unset, .unset, .unset, .unset, .unset, .unset] [])) t → Steps p.tables e below (s₁.setTop (entryFrame m #[(.int p0), (.int p1), (.int p2), (.int p3), (.int p4)] maxLocals)) t := fun t k => pre14 _ (by rw [han] at k; exact k)
  have C0 : own_Str Z h12 h12.size r6 (own_bx k0) := ((B6.keep K9 all0).keep K12 all0).up (Nat.le_trans K9.1 K12.1)
  have C1 : own_Str Z h12 h12.size r9 (own_bx k1) := (B9.keep K12 all0).up K12.1
  have C2 : own_Str Z h12 h12.size r12 (own_bx k2) := B12.up (Nat.le_refl _)
  have CU : own_Sb Z h12 h12.size "java/lang/String" "COMPACT_STRINGS" "Z" (.int cs) := (((CB.keep K6 all0).keep K9 all0).keep K12 all0).up (Nat.le_trans (Nat.le_trans K6.1 K9.1) K12.1)
  obtain ⟨T16, h16, X16, e16, E16, A16, D16, -, st16⟩ := newO X12 hx hZ hown (hw _ (List.mem_of_getElem? (i := 26) rfl)) (hw _ (List.mem_of_getElem? (i := 27) rfl)) (hw _ (List.mem_of_getElem? (i := 28) rfl)) e12 (g := (mkF m 59 #[.val (.int p0), .val (.int p1), .val (.int p2), .val (.int p3), .val (.int p4), .val (.int k0), .val (.int k1), .val (.int k2), .val (.ref r6), .val (.ref r9), .val (.ref r12), .val (.int an), .unset, .unset, .unset, .unset, .unset, .unset, .unset, .unset, .unset, .unset, .unset, .unset] [])) rfl (hb hby at_59) (by decide) (by decide)
  obtain ⟨a16, ga16⟩ : ∃ z, z = h12.size := ⟨_, rfl⟩
  rw [← ga16] at A16 D16 st16
  have ge_a16 : n0 ≤ a16 := Nat.le_trans Z12 (Nat.le_of_eq ga16.symm)
  have F16_slots : Fld Z h16 a16 "com/example/erma/erma/analysis/DistinctSteps" "slots" "[I" .null := D16 (Or.inl (hw _ (List.mem_of_getElem? (i := 35) rfl))) (ty := (.array .int)) (by decide)
  have F16_targets : Fld Z h16 a16 "com/example/erma/erma/analysis/DistinctSteps" "targets" "[I" .null := D16 (Or.inl (hw _ (List.mem_of_getElem? (i := 37) rfl))) (ty := (.array .int)) (by decide)
  have F16_labels : Fld Z h16 a16 "com/example/erma/erma/analysis/DistinctSteps" "labels" "[Ljava/lang/String;" .null := D16 (Or.inl (hw _ (List.mem_of_getElem? (i := 41) rfl))) (ty := (.array (.object "java/lang/String"))) (by decide)
  have F16_slotOf : Fld Z h16 a16 "com/example/erma/erma/analysis/DistinctSteps" "slotOf" "[I" .null := D16 (Or.inl (hw _ (List.mem_of_getElem? (i := 43) rfl))) (ty := (.array .int)) (by decide)
  have F16_size : Fld Z h16 a16 "com/example/erma/erma/analysis/DistinctSteps" "size" "I" (.int (0 : Int32)) := D16 (Or.inl (hw _ (List.mem_of_getElem? (i := 50) rfl))) (ty := .int) (by decide)
  have Z16 : n0 ≤ h16.size := Nat.le_trans Z12 E16.1
  have pre17 : ∀ t, Steps p.tables e below (T16.setTop (mkF m 62 #[.val (.int p0), .val (.int p1), .val (.int p2), .val (.int p3), .val (.int p4), .val (.int k0), .val (.int k1), .val (.int k2), .val (.ref r6), .val (.ref r9), .val (.ref r12), .val (.int an), .unset, .unset, .unset, .unset, .unset, .unset, .unset, .unset, .unset, .unset, .unset, .unset] [(.ref a16)])) t → Steps p.tables e below (s₁.setTop (entryFrame m #[(.int p0), (.int p1), (.int p2), (.int p3), (.int p4)] maxLocals)) t := fun t k => pre15 _ (st16 _ k)
  have pre18 : ∀ t, Steps p.tables e below (T16.setTop (mkF m 63 #[.val (.int p0), .val (.int p1), .val (.int p2), .val (.int p3), .val (.int p4), .val (.int k0), .val (.int k1), .val (.int k2), .val (.ref r6), .val (.ref r9), .val (.ref r12), .val (.int an), .unset, .unset, .unset, .unset, .unset, .unset, .unset, .unset, .unset, .unset, .unset, .unset] [(.ref a16), (.ref a16)])) t → Steps p.tables e below (s₁.setTop (entryFrame m #[(.int p0), (.int p1), (.int p2), (.int p3), (.int p4)] maxLocals)) t := fun t k => pre17 _ (by
    refine XS.dup X16.here hx rfl (hb hby at_62) rfl rfl ?_
    exact k)
  obtain ⟨_, _, ⟨T19, L19, k19, n19⟩, -, X19, ⟨Lc19, hQ19, l19, y19, z19⟩, st19⟩ := X16.specialBack hx (y := (⟨"com/example/erma/erma/analysis/DistinctSteps", "<init>", "()V"⟩ : MethodName)) rfl hown (mvT hZ (hw _ (List.mem_of_getElem? (i := 29) rfl))) (mvT hZ (hw _ (List.mem_of_getElem? (i := 30) rfl))) (mvT hZ (hw _ (List.mem_of_getElem? (i := 31) rfl))) (by decide) (backOf (W := 1) (own_ctor l Z a0 hw [] a16 h16 n0 Z16 A16 F16_slots F16_targets F16_labels F16_slotOf F16_size ge_a16) hZ (hw _ (List.mem_of_getElem? (i := 31) rfl)) (hw _ (List.mem_of_getElem? (i := 28) rfl)) (by decide) (by decide)) (g := (mkF m 63 #[.val (.int p0), .val (.int p1), .val (.int p2), .val (.int p3), .val (.int p4), .val (.int k0), .val (.int k1), .val (.int k2), .val (.ref r6), .val (.ref r9), .val (.ref r12), .val (.int an), .unset, .unset, .unset, .unset, .unset, .unset, .unset, .unset, .unset, .unset, .unset, .unset] [(.ref a16), (.ref a16)])) rfl (by rw [hml]; rfl) (Steps.refl _) (a := a16) (argsL := []) (rest := [(.ref a16)]) (lenOf own_pd___V rfl) rfl (by show 2 * 0 + _ ≤ _; exact Nat.le_of_eq rfl) (hb hby at_63) (fun _ _ => ⟨rfl, e16, (by decide : 7 + 4 ≤ _), (by decide : 20 + 40 ≤ _)⟩)
  dsimp only [Pt.U, Pt.locs, Pt.cells, Pt.slots] at X19 l19 y19 z19 st19 hQ19
  subst l19 y19 z19
  obtain ⟨h19, e19⟩ : ∃ z, T19.heap = z := ⟨_, rfl⟩
  rw [e19] at hQ19
  obtain ⟨rfl, N19q, K19, sa, ta, la, oa, ka, kb, kc, kd, HS19⟩ := hQ19
  have Z19 : n0 ≤ h19.size := Nat.le_trans Z16 K19.1
  have N19 := Fr.app N12 N19q
  have pre20 : ∀ t, Steps p.tables e below (T19.setTop (mkF m 66 #[.val (.int p0), .val (.int p1), .val (.int p2), .val (.int p3), .val (.int p4), .val (.int k0), .val (.int k1), .val (.int k2), .val (.ref r6), .val (.ref r9), .val (.ref r12), .val (.int an), .unset, .unset, .unset, .unset, .unset, .unset, .unset, .unset, .unset, .unset, .unset, .unset] [(.ref a16)])) t → Steps p.tables e below (s₁.setTop (entryFrame m #[(.int p0), (.int p1), (.int p2), (.int p3), (.int p4)] maxLocals)) t := fun t k => pre18 _ (st19.trans k)
  have G0 : own_Str Z h19 a16 r6 (own_bx k0) := (show own_Str Z _ a16 r6 (own_bx k0) from by rw [ga16]; exact C0.ext E16).keep K19 (allS (Nat.le_refl _) all0)
  have G1 : own_Str Z h19 a16 r9 (own_bx k1) := (show own_Str Z _ a16 r9 (own_bx k1) from by rw [ga16]; exact C1.ext E16).keep K19 (allS (Nat.le_refl _) all0)
  have G2 : own_Str Z h19 a16 r12 (own_bx k2) := (show own_Str Z _ a16 r12 (own_bx k2) from by rw [ga16]; exact C2.ext E16).keep K19 (allS (Nat.le_refl _) all0)
  have GC : own_Sb Z h19 a16 "java/lang/String" "COMPACT_STRINGS" "Z" (.int cs) := (show own_Sb Z _ a16 "java/lang/String" "COMPACT_STRINGS" "Z" (.int cs) from by rw [ga16]; exact CU.ext E16).keep K19 (allS (Nat.le_refl _) all0)
  have pre21 : ∀ t, Steps p.tables e below (T19.setTop (mkF m 68 #[.val (.int p0), .val (.int p1), .val (.int p2), .val (.int p3), .val (.int p4), .val (.int k0), .val (.int k1), .val (.int k2), .val (.ref r6), .val (.ref r9), .val (.ref r12), .val (.int an), .val (.ref a16), .unset, .unset, .unset, .unset, .unset, .unset, .unset, .unset, .unset, .unset, .unset] [])) t → Steps p.tables e below (s₁.setTop (entryFrame m #[(.int p0), (.int p1), (.int p2), (.int p3), (.int p4)] maxLocals)) t := fun t k => pre20 _ (by
    refine XS.astore X19.here hx rfl (hb hby at_66) rfl rfl (l' := #[.val (.int p0), .val (.int p1), .val (.int p2), .val (.int p3), .val (.int p4), .val (.int k0), .val (.int k1), .val (.int k2), .val (.ref r6), .val (.ref r9), .val (.ref r12), .val (.int an), .val (.ref a16), .unset, .unset, .unset, .unset, .unset, .unset, .unset, .unset, .unset, .unset, .unset]) rfl ?_
    exact k)
  obtain ⟨T22, h22, locs22, X22, e22, N22, Z22, ⟨KP, Sg, Tg, Og, Lg, HP, IP⟩, st22⟩ := own_pre p0 p1 p2 p3 p4 k0 k1 k2 an (own_bx k0) (own_bx k1) (own_bx k2) cs r6 r9 r12 a16 sa ta la oa ka kb kc kd _ _ _ _ n0 X19 hx hZ hw hby hml hown e19 Z19 N19 HS19 (fun _ _ => rfl) G0 G1 G2 GC hcs (own_n4 p0 han)
  have pre23 : ∀ t, Steps p.tables e below (T22.setTop (mkF m 118 #[.val (.int p0), .val (.int p1), .val (.int p2), .val (.int p3), .val (.int p4), .val (.int k0), .val (.int k1), .val (.int k2), .val (.ref r6), .val (.ref r9), .val (.ref r12), .val (.int an), .val (.ref a16), .unset, .unset, .unset, .unset, .unset, .unset, .unset, .unset, .unset, .unset, .unset] [])) t → Steps p.tables e below (s₁.setTop (entryFrame m #[(.int p0), (.int p1), (.int p2), (.int p3), (.int p4)] maxLocals)) t := fun t k => pre21 _ (st22 _ k)
  have gall := HS19.ge
  have pre24 : ∀ t, Steps p.tables e below (T22.setTop (mkF m 120 #[.val (.int p0), .val (.int p1), .val (.int p2), .val (.int p3), .val (.int p4), .val (.int k0), .val (.int k1), .val (.int k2), .val (.ref r6), .val (.ref r9), .val (.ref r12), .val (.int an), .val (.ref a16), .unset, .unset, .unset, .unset, .unset, .unset, .unset, .unset, .unset, .unset, .unset] [(.ref a16)])) t → Steps p.tables e below (s₁.setTop (entryFrame m #[(.int p0), (.int p1), (.int p2), (.int p3), (.int p4)] maxLocals)) t := fun t k => pre23 _ (by
    refine XS.aload X22.here hx rfl (hb hby at_118) rfl rfl ?_
    exact k)
  obtain ⟨cq25, kq25, q25a, q25b, q25c⟩ := isOf hZ e22 HP.1
  obtain ⟨_, _, ⟨T25, L25, k25, n25⟩, -, X25, ⟨Lc25, hQ25, l25, y25, z25⟩, st25⟩ := X22.virtualBack hx (y := (⟨"com/example/erma/erma/analysis/DistinctSteps", "size", "()I"⟩ : MethodName)) (z := (⟨"com/example/erma/erma/analysis/DistinctSteps", "size", "()I"⟩ : MethodName)) hown (mvT hZ (hw _ (List.mem_of_getElem? (i := 51) rfl))) (mvT hZ (hw _ (List.mem_of_getElem? (i := 52) rfl))) (notFace_of_selects (args := #[]) (mvT hZ (hw _ (List.mem_of_getElem? (i := 54) rfl)))) (mvT hZ (hw _ (List.mem_of_getElem? (i := 54) rfl))) (mvT hZ (hw _ (List.mem_of_getElem? (i := 53) rfl))) (by decide) (backOf (W := 0) (own_size l Z a0 hw [] a16 (0 : Int32) h22 n0 Z22 HP.2.2.2.2.2.1) hZ (hw _ (List.mem_of_getElem? (i := 55) rfl)) (hw _ (List.mem_of_getElem? (i := 28) rfl)) (by decide) (by decide)) q25a q25c (g := (mkF m 120 #[.val (.int p0), .val (.int p1), .val (.int p2), .val (.int p3), .val (.int p4), .val (.int k0), .val (.int k1), .val (.int k2), .val (.ref r6), .val (.ref r9), .val (.ref r12), .val (.int an), .val (.ref a16), .unset, .unset, .unset, .unset, .unset, .unset, .unset, .unset, .unset, .unset, .unset] [(.ref a16)])) rfl (by rw [hml]; rfl) (Steps.refl _) (argsL := []) (rest := []) (lenOf own_pd___I rfl) rfl (by show 2 * 0 + _ ≤ _; exact Nat.le_of_eq rfl) (hb hby at_120) (fun _ _ => ⟨rfl, e22, (by decide : 11 + 0 ≤ _), (by decide : 60 + 0 ≤ _)⟩)
  dsimp only [Pt.U, Pt.locs, Pt.cells, Pt.slots] at X25 l25 y25 z25 st25 hQ25
  subst l25 y25 z25
  obtain ⟨rfl, N25q, e25⟩ := hQ25
  have N25 := Fr.app N22 N25q
  have pre26 : ∀ t, Steps p.tables e below (T25.setTop (mkF m 123 #[.val (.int p0), .val (.int p1), .val (.int p2), .val (.int p3), .val (.int p4), .val (.int k0), .val (.int k1), .val (.int k2), .val (.ref r6), .val (.ref r9), .val (.ref r12), .val (.int an), .val (.ref a16), .unset, .unset, .unset, .unset, .unset, .unset, .unset, .unset, .unset, .unset, .unset] [(.int (0 : Int32))])) t → Steps p.tables e below (s₁.setTop (entryFrame m #[(.int p0), (.int p1), (.int p2), (.int p3), (.int p4)] maxLocals)) t := fun t k => pre24 _ (st25.trans k)
  have pre27 : ∀ t, Steps p.tables e below (T25.setTop (mkF m 138 #[.val (.int p0), .val (.int p1), .val (.int p2), .val (.int p3), .val (.int p4), .val (.int k0), .val (.int k1), .val (.int k2), .val (.ref r6), .val (.ref r9), .val (.ref r12), .val (.int an), .val (.ref a16), .val (.int (1 : Int32)), .unset, .unset, .unset, .unset, .unset, .unset, .unset, .unset, .unset, .unset] [(.int p3), (.ref r12), (.ref a16)])) t → Steps p.tables e below (s₁.setTop (entryFrame m #[(.int p0), (.int p1), (.int p2), (.int p3), (.int p4)] maxLocals)) t := fun t k => pre26 _ (by
    refine XS.ifNo X25.here hx rfl (hb hby at_123) rfl (XT.i0_ne_f (by decide)) ?_
    refine XT.iconstV X25.here hx rfl (1 : Int32) (hb hby at_126) rfl ?_
    refine XS.goto X25.here hx rfl (pc0 := 127) (pc' := 131) rfl (hb hby at_127) (by decide) (by decide) ?_
    refine XS.istore X25.here hx rfl (hb hby at_131) rfl (l' := #[.val (.int p0), .val (.int p1), .val (.int p2), .val (.int p3), .val (.int p4), .val (.int k0), .val (.int k1), .val (.int k2), .val (.ref r6), .val (.ref r9), .val (.ref r12), .val (.int an), .val (.ref a16), .val (.int (1 : Int32)), .unset, .unset, .unset, .unset, .unset, .unset, .unset, .unset, .unset, .unset]) rfl ?_
    refine XS.aload X25.here hx rfl (hb hby at_133) rfl rfl ?_
    refine XS.aload X25.here hx rfl (hb hby at_135) rfl rfl ?_
    refine XS.iloadN X25.here hx rfl (hb hby at_137) rfl ?_
    exact k)
  obtain ⟨cq28, kq28, q28a, q28b, q28c⟩ := isOf hZ e25 HP.1
  obtain ⟨_, _, ⟨T28, L28, k28, n28⟩, -, X28, ⟨Lc28, hQ28, l28, y28, z28⟩, st28⟩ := X25.virtualBack hx (y := (⟨"com/example/erma/erma/analysis/DistinctSteps", "add", "(Ljava/lang/String;I)Z"⟩ : MethodName)) (z := (⟨"com/example/erma/erma/analysis/DistinctSteps", "add", "(Ljava/lang/String;I)Z"⟩ : MethodName)) hown (mvT hZ (hw _ (List.mem_of_getElem? (i := 56) rfl))) (mvT hZ (hw _ (List.mem_of_getElem? (i := 57) rfl))) (notFace_of_selects (args := #[]) (mvT hZ (hw _ (List.mem_of_getElem? (i := 59) rfl)))) (mvT hZ (hw _ (List.mem_of_getElem? (i := 59) rfl))) (mvT hZ (hw _ (List.mem_of_getElem? (i := 58) rfl))) (by decide) (backOf (W := 0) (own_add0 l Z a0 hw [] a16 r12 p3 sa ta la oa ka kb kc kd Sg Tg Og Lg (own_bx k2) cs  h22 n0 Z22 HP IP (GC.keep KP gall).sta hcs (G2.keep KP gall)) hZ (hw _ (List.mem_of_getElem? (i := 60) rfl)) (hw _ (List.mem_of_getElem? (i := 28) rfl)) (by decide) (by decide)) q28a q28c (g := (mkF m 138 #[.val (.int p0), .val (.int p1), .val (.int p2), .val (.int p3), .val (.int p4), .val (.int k0), .val (.int k1), .val (.int k2), .val (.ref r6), .val (.ref r9), .val (.ref r12), .val (.int an), .val (.ref a16), .val (.int (1 : Int32)), .unset, .unset, .unset, .unset, .unset, .unset, .unset, .unset, .unset, .unset] [(.int p3), (.ref r12), (.ref a16)])) rfl (by rw [hml]; rfl) (Steps.refl _) (argsL := [(.ref r12), (.int p3)]) (rest := []) (lenOf own_pd__Ljava_lang_String_I_Z rfl) rfl (by show 2 * 0 + _ ≤ _; exact Nat.le_of_eq rfl) (hb hby at_138) (fun _ _ => ⟨rfl, e25, (by decide : 11 + 0 ≤ _), (by decide : 60 + 0 ≤ _)⟩)
  dsimp only [Pt.U, Pt.locs, Pt.cells, Pt.slots] at X28 l28 y28 z28 st28 hQ28
  subst l28 y28 z28
  obtain ⟨h28, e28⟩ : ∃ z, T28.heap = z := ⟨_, rfl⟩
  rw [e28] at hQ28
  obtain ⟨rfl, N28q, K28, Sg28, Tg28, Og28, Lg28, HS28, HI28⟩ := hQ28
  have Z28 : n0 ≤ h28.size := Nat.le_trans Z22 K28.1
  have N28 := Fr.app N25 N28q
  have pre29 : ∀ t, Steps p.tables e below (T28.setTop (mkF m 141 #[.val (.int p0), .val (.int p1), .val (.int p2), .val (.int p3), .val (.int p4), .val (.int k0), .val (.int k1), .val (.int k2), .val (.ref r6), .val (.ref r9), .val (.ref r12), .val (.int an), .val (.ref a16), .val (.int (1 : Int32)), .unset, .unset, .unset, .unset, .unset, .unset, .unset, .unset, .unset, .unset] [(.int (1 : Int32))])) t → Steps p.tables e below (s₁.setTop (entryFrame m #[(.int p0), (.int p1), (.int p2), (.int p3), (.int p4)] maxLocals)) t := fun t k => pre27 _ (st28.trans k)
  have pre30 : ∀ t, Steps p.tables e below (T28.setTop (mkF m 148 #[.val (.int p0), .val (.int p1), .val (.int p2), .val (.int p3), .val (.int p4), .val (.int k0), .val (.int k1), .val (.int k2), .val (.ref r6), .val (.ref r9), .val (.ref r12), .val (.int an), .val (.ref a16), .val (.int (1 : Int32)), .val (.int (1 : Int32)), .unset, .unset, .unset, .unset, .unset, .unset, .unset, .unset, .unset] [(.int p2), (.ref r9), (.ref a16)])) t → Steps p.tables e below (s₁.setTop (entryFrame m #[(.int p0), (.int p1), (.int p2), (.int p3), (.int p4)] maxLocals)) t := fun t k => pre29 _ (by
    refine XS.istore X28.here hx rfl (hb hby at_141) rfl (l' := #[.val (.int p0), .val (.int p1), .val (.int p2), .val (.int p3), .val (.int p4), .val (.int k0), .val (.int k1), .val (.int k2), .val (.ref r6), .val (.ref r9), .val (.ref r12), .val (.int an), .val (.ref a16), .val (.int (1 : Int32)), .val (.int (1 : Int32)), .unset, .unset, .unset, .unset, .unset, .unset, .unset, .unset, .unset]) rfl ?_
    refine XS.aload X28.here hx rfl (hb hby at_143) rfl rfl ?_
    refine XS.aload X28.here hx rfl (hb hby at_145) rfl rfl ?_
    refine XS.iloadN X28.here hx rfl (hb hby at_147) rfl ?_
    exact k)
  obtain ⟨cq31, kq31, q31a, q31b, q31c⟩ := isOf hZ e28 HS28.1
  obtain ⟨_, _, ⟨T31, L31, k31, n31⟩, -, X31, ⟨Lc31, hQ31, l31, y31, z31⟩, st31⟩ := X28.virtualBack hx (y := (⟨"com/example/erma/erma/analysis/DistinctSteps", "add", "(Ljava/lang/String;I)Z"⟩ : MethodName)) (z := (⟨"com/example/erma/erma/analysis/DistinctSteps", "add", "(Ljava/lang/String;I)Z"⟩ : MethodName)) hown (mvT hZ (hw _ (List.mem_of_getElem? (i := 56) rfl))) (mvT hZ (hw _ (List.mem_of_getElem? (i := 57) rfl))) (notFace_of_selects (args := #[]) (mvT hZ (hw _ (List.mem_of_getElem? (i := 59) rfl)))) (mvT hZ (hw _ (List.mem_of_getElem? (i := 59) rfl))) (mvT hZ (hw _ (List.mem_of_getElem? (i := 58) rfl))) (by decide) (backOf (W := 0) (own_add1 l Z a0 hw [] a16 r9 p2 sa ta la oa ka kb kc kd Sg28 Tg28 Og28 Lg28 (own_bx k1) cs p3 (own_bx k2) h28 n0 Z28 HS28 HI28 ((GC.keep KP gall).keep K28 HP.ge).sta hcs ((G1.keep KP gall).keep K28 HP.ge)) hZ (hw _ (List.mem_of_getElem? (i := 60) rfl)) (hw _ (List.mem_of_getElem? (i := 28) rfl)) (by decide) (by decide)) q31a q31c (g := (mkF m 148 #[.val (.int p0), .val (.int p1), .val (.int p2), .val (.int p3), .val (.int p4), .val (.int k0), .val (.int k1), .val (.int k2), .val (.ref r6), .val (.ref r9), .val (.ref r12), .val (.int an), .val (.ref a16), .val (.int (1 : Int32)), .val (.int (1 : Int32)), .unset, .unset, .unset, .unset, .unset, .unset, .unset, .unset, .unset] [(.int p2), (.ref r9), (.ref a16)])) rfl (by rw [hml]; rfl) (Steps.refl _) (argsL := [(.ref r9), (.int p2)]) (rest := []) (lenOf own_pd__Ljava_lang_String_I_Z rfl) rfl (by show 2 * 0 + _ ≤ _; exact Nat.le_of_eq rfl) (hb hby at_148) (fun _ _ => ⟨rfl, e28, (by decide : 11 + 0 ≤ _), (by decide : 60 + 0 ≤ _)⟩)
  dsimp only [Pt.U, Pt.locs, Pt.cells, Pt.slots] at X31 l31 y31 z31 st31 hQ31
  subst l31 y31 z31
  obtain ⟨h31, e31⟩ : ∃ z, T31.heap = z := ⟨_, rfl⟩
  rw [e31] at hQ31
  rcases hQ31 with ⟨fd31, rfl, N31q, eh31⟩ | ⟨fd31, rfl, N31q, K31, Sg31, Tg31, Og31, Lg31, HS31, HI31⟩
  · rw [eh31] at e31
    have N31 := Fr.app N28 N31q
    have pre32 : ∀ t, Steps p.tables e below (T31.setTop (mkF m 151 #[.val (.int p0), .val (.int p1), .val (.int p2), .val (.int p3), .val (.int p4), .val (.int k0), .val (.int k1), .val (.int k2), .val (.ref r6), .val (.ref r9), .val (.ref r12), .val (.int an), .val (.ref a16), .val (.int (1 : Int32)), .val (.int (1 : Int32)), .unset, .unset, .unset, .unset, .unset, .unset, .unset, .unset, .unset] [(.int (0 : Int32))])) t → Steps p.tables e below (s₁.setTop (entryFrame m #[(.int p0), (.int p1), (.int p2), (.int p3), (.int p4)] maxLocals)) t := fun t k => pre30 _ (st31.trans k)
    have pre33 : ∀ t, Steps p.tables e below (T31.setTop (mkF m 158 #[.val (.int p0), .val (.int p1), .val (.int p2), .val (.int p3), .val (.int p4), .val (.int k0), .val (.int k1), .val (.int k2), .val (.ref r6), .val (.ref r9), .val (.ref r12), .val (.int an), .val (.ref a16), .val (.int (1 : Int32)), .val (.int (1 : Int32)), .val (.int (0 : Int32)), .unset, .unset, .unset, .unset, .unset, .unset, .unset, .unset] [(.int p1), (.ref r6), (.ref a16)])) t → Steps p.tables e below (s₁.setTop (entryFrame m #[(.int p0), (.int p1), (.int p2), (.int p3), (.int p4)] maxLocals)) t := fun t k => pre32 _ (by
      refine XS.istore X31.here hx rfl (hb hby at_151) rfl (l' := #[.val (.int p0), .val (.int p1), .val (.int p2), .val (.int p3), .val (.int p4), .val (.int k0), .val (.int k1), .val (.int k2), .val (.ref r6), .val (.ref r9), .val (.ref r12), .val (.int an), .val (.ref a16), .val (.int (1 : Int32)), .val (.int (1 : Int32)), .val (.int (0 : Int32)), .unset, .unset, .unset, .unset, .unset, .unset, .unset, .unset]) rfl ?_
      refine XS.aload X31.here hx rfl (hb hby at_153) rfl rfl ?_
      refine XS.aload X31.here hx rfl (hb hby at_155) rfl rfl ?_
      refine XS.iloadN X31.here hx rfl (hb hby at_157) rfl ?_
      exact k)
    obtain ⟨cq34, kq34, q34a, q34b, q34c⟩ := isOf hZ e31 HS28.1
    obtain ⟨_, _, ⟨T34, L34, k34, n34⟩, -, X34, ⟨Lc34, hQ34, l34, y34, z34⟩, st34⟩ := X31.virtualBack hx (y := (⟨"com/example/erma/erma/analysis/DistinctSteps", "add", "(Ljava/lang/String;I)Z"⟩ : MethodName)) (z := (⟨"com/example/erma/erma/analysis/DistinctSteps", "add", "(Ljava/lang/String;I)Z"⟩ : MethodName)) hown (mvT hZ (hw _ (List.mem_of_getElem? (i := 56) rfl))) (mvT hZ (hw _ (List.mem_of_getElem? (i := 57) rfl))) (notFace_of_selects (args := #[]) (mvT hZ (hw _ (List.mem_of_getElem? (i := 59) rfl)))) (mvT hZ (hw _ (List.mem_of_getElem? (i := 59) rfl))) (mvT hZ (hw _ (List.mem_of_getElem? (i := 58) rfl))) (by decide) (backOf (W := 0) (own_add1 l Z a0 hw [] a16 r6 p1 sa ta la oa ka kb kc kd Sg28 Tg28 Og28 Lg28 (own_bx k0) cs p3 (own_bx k2) h28 n0 Z28 HS28 HI28 ((GC.keep KP gall).keep K28 HP.ge).sta hcs ((G0.keep KP gall).keep K28 HP.ge)) hZ (hw _ (List.mem_of_getElem? (i := 60) rfl)) (hw _ (List.mem_of_getElem? (i := 28) rfl)) (by decide) (by decide)) q34a q34c (g := (mkF m 158 #[.val (.int p0), .val (.int p1), .val (.int p2), .val (.int p3), .val (.int p4), .val (.int k0), .val (.int k1), .val (.int k2), .val (.ref r6), .val (.ref r9), .val (.ref r12), .val (.int an), .val (.ref a16), .val (.int (1 : Int32)), .val (.int (1 : Int32)), .val (.int (0 : Int32)), .unset, .unset, .unset, .unset, .unset, .unset, .unset, .unset] [(.int p1), (.ref r6), (.ref a16)])) rfl (by rw [hml]; rfl) (Steps.refl _) (argsL := [(.ref r6), (.int p1)]) (rest := []) (lenOf own_pd__Ljava_lang_String_I_Z rfl) rfl (by show 2 * 0 + _ ≤ _; exact Nat.le_of_eq rfl) (hb hby at_158) (fun _ _ => ⟨rfl, e31, (by decide : 11 + 0 ≤ _), (by decide : 60 + 0 ≤ _)⟩)
    dsimp only [Pt.U, Pt.locs, Pt.cells, Pt.slots] at X34 l34 y34 z34 st34 hQ34
    subst l34 y34 z34
    obtain ⟨h34, e34⟩ : ∃ z, T34.heap = z := ⟨_, rfl⟩
    rw [e34] at hQ34
    rcases hQ34 with ⟨fd34, rfl, N34q, eh34⟩ | ⟨fd34, rfl, N34q, K34, Sg34, Tg34, Og34, Lg34, HS34, HI34⟩
    · rw [eh34] at e34
      have N34 := Fr.app N31 N34q
      have pre35 : ∀ t, Steps p.tables e below (T34.setTop (mkF m 161 #[.val (.int p0), .val (.int p1), .val (.int p2), .val (.int p3), .val (.int p4), .val (.int k0), .val (.int k1), .val (.int k2), .val (.ref r6), .val (.ref r9), .val (.ref r12), .val (.int an), .val (.ref a16), .val (.int (1 : Int32)), .val (.int (1 : Int32)), .val (.int (0 : Int32)), .unset, .unset, .unset, .unset, .unset, .unset, .unset, .unset] [(.int (0 : Int32))])) t → Steps p.tables e below (s₁.setTop (entryFrame m #[(.int p0), (.int p1), (.int p2), (.int p3), (.int p4)] maxLocals)) t := fun t k => pre33 _ (st34.trans k)
      have pre36 : ∀ t, Steps p.tables e below (T34.setTop (mkF m 165 #[.val (.int p0), .val (.int p1), .val (.int p2), .val (.int p3), .val (.int p4), .val (.int k0), .val (.int k1), .val (.int k2), .val (.ref r6), .val (.ref r9), .val (.ref r12), .val (.int an), .val (.ref a16), .val (.int (1 : Int32)), .val (.int (1 : Int32)), .val (.int (0 : Int32)), .val (.int (0 : Int32)), .unset, .unset, .unset, .unset, .unset, .unset, .unset] [(.int p3), (.int p2)])) t → Steps p.tables e below (s₁.setTop (entryFrame m #[(.int p0), (.int p1), (.int p2), (.int p3), (.int p4)] maxLocals)) t := fun t k => pre35 _ (by
        refine XS.istore X34.here hx rfl (hb hby at_161) rfl (l' := #[.val (.int p0), .val (.int p1), .val (.int p2), .val (.int p3), .val (.int p4), .val (.int k0), .val (.int k1), .val (.int k2), .val (.ref r6), .val (.ref r9), .val (.ref r12), .val (.int an), .val (.ref a16), .val (.int (1 : Int32)), .val (.int (1 : Int32)), .val (.int (0 : Int32)), .val (.int (0 : Int32)), .unset, .unset, .unset, .unset, .unset, .unset, .unset]) rfl ?_
        refine XS.iloadN X34.here hx rfl (hb hby at_163) rfl ?_
        refine XS.iloadN X34.here hx rfl (hb hby at_164) rfl ?_
        exact k)
      obtain ⟨v39, hv39⟩ : ∃ z : Int32, z = (if k1 = k2 then (1 : Int32) else (0 : Int32)) := ⟨_, rfl⟩
      obtain ⟨v41, hv41⟩ : ∃ z : Int32, z = (if p2 = p3 then v39 else (0 : Int32)) := ⟨_, rfl⟩
      have pre42 : ∀ t, Steps p.tables e below (T34.setTop (mkF m 180 #[.val (.int p0), .val (.int p1), .val (.int p2), .val (.int p3), .val (.int p4), .val (.int k0), .val (.int k1), .val (.int k2), .val (.ref r6), .val (.ref r9), .val (.ref r12), .val (.int an), .val (.ref a16), .val (.int (1 : Int32)), .val (.int (1 : Int32)), .val (.int (0 : Int32)), .val (.int (0 : Int32)), .unset, .unset, .unset, .unset, .unset, .unset, .unset] [(.int v41)])) t → Steps p.tables e below (s₁.setTop (entryFrame m #[(.int p0), (.int p1), (.int p2), (.int p3), (.int p4)] maxLocals)) t := fun t k => pre36 _ (by
        by_cases c165_37 : p2 = p3
        · rw [show v41 = _ from hv41.trans (if_pos c165_37)] at k
          refine XS.icmpNo X34.here hx rfl (hb hby at_165) rfl (XT.ii_ne_f c165_37) ?_
          refine XS.iload X34.here hx rfl (hb hby at_168) rfl ?_
          refine XS.iload X34.here hx rfl (hb hby at_170) rfl ?_
          have m40 : ∀ t, Steps p.tables e below (T34.setTop (mkF m 180 #[.val (.int p0), .val (.int p1), .val (.int p2), .val (.int p3), .val (.int p4), .val (.int k0), .val (.int k1), .val (.int k2), .val (.ref r6), .val (.ref r9), .val (.ref r12), .val (.int an), .val (.ref a16), .val (.int (1 : Int32)), .val (.int (1 : Int32)), .val (.int (0 : Int32)), .val (.int (0 : Int32)), .unset, .unset, .unset, .unset, .unset, .unset, .unset] [(.int v39)])) t → Steps p.tables e below (T34.setTop (mkF m 172 #[.val (.int p0), .val (.int p1), .val (.int p2), .val (.int p3), .val (.int p4), .val (.int k0), .val (.int k1), .val (.int k2), .val (.ref r6), .val (.ref r9), .val (.ref r12), .val (.int an), .val (.ref a16), .val (.int (1 : Int32)), .val (.int (1 : Int32)), .val (.int (0 : Int32)), .val (.int (0 : Int32)), .unset, .unset, .unset, .unset, .unset, .unset, .unset] [(.int k2), (.int k1)])) t := fun t k => by
            by_cases c172_38 : k1 = k2
            · rw [show v39 = _ from hv39.trans (if_pos c172_38)] at k
              refine XS.icmpNo X34.here hx rfl (hb hby at_172) rfl (XT.ii_ne_f c172_38) ?_
              refine XT.iconstV X34.here hx rfl (1 : Int32) (hb hby at_175) rfl ?_
              refine XS.goto X34.here hx rfl (pc0 := 176) (pc' := 180) rfl (hb hby at_176) (by decide) (by decide) ?_
              exact k
            · rw [show v39 = _ from hv39.trans (if_neg c172_38)] at k
              refine XS.icmpYes X34.here hx rfl (pc0 := 172) (pc' := 179) rfl (hb hby at_172) rfl (XT.ii_ne_t c172_38) (by decide) (by decide) ?_
              refine XT.iconstV X34.here hx rfl (0 : Int32) (hb hby at_179) rfl ?_
              exact k
          refine m40 _ ?_
          exact k
        · rw [show v41 = _ from hv41.trans (if_neg c165_37)] at k
          refine XS.icmpYes X34.here hx rfl (pc0 := 165) (pc' := 179) rfl (hb hby at_165) rfl (XT.ii_ne_t c165_37) (by decide) (by decide) ?_
          refine XT.iconstV X34.here hx rfl (0 : Int32) (hb hby at_179) rfl ?_
          exact k)
      have pre43 : ∀ t, Steps p.tables e below (T34.setTop (mkF m 184 #[.val (.int p0), .val (.int p1), .val (.int p2), .val (.int p3), .val (.int p4), .val (.int k0), .val (.int k1), .val (.int k2), .val (.ref r6), .val (.ref r9), .val (.ref r12), .val (.int an), .val (.ref a16), .val (.int (1 : Int32)), .val (.int (1 : Int32)), .val (.int (0 : Int32)), .val (.int (0 : Int32)), .val (.int v41), .unset, .unset, .unset, .unset, .unset, .unset] [(.int p2), (.int p1)])) t → Steps p.tables e below (s₁.setTop (entryFrame m #[(.int p0), (.int p1), (.int p2), (.int p3), (.int p4)] maxLocals)) t := fun t k => pre42 _ (by
        refine XS.istore X34.here hx rfl (hb hby at_180) rfl (l' := #[.val (.int p0), .val (.int p1), .val (.int p2), .val (.int p3), .val (.int p4), .val (.int k0), .val (.int k1), .val (.int k2), .val (.ref r6), .val (.ref r9), .val (.ref r12), .val (.int an), .val (.ref a16), .val (.int (1 : Int32)), .val (.int (1 : Int32)), .val (.int (0 : Int32)), .val (.int (0 : Int32)), .val (.int v41), .unset, .unset, .unset, .unset, .unset, .unset]) rfl ?_
        refine XS.iloadN X34.here hx rfl (hb hby at_182) rfl ?_
        refine XS.iloadN X34.here hx rfl (hb hby at_183) rfl ?_
        exact k)
      obtain ⟨v46, hv46⟩ : ∃ z : Int32, z = (if k0 = k1 then (1 : Int32) else (0 : Int32)) := ⟨_, rfl⟩
      obtain ⟨v48, hv48⟩ : ∃ z : Int32, z = (if p1 = p2 then v46 else (0 : Int32)) := ⟨_, rfl⟩
      have pre49 : ∀ t, Steps p.tables e below (T34.setTop (mkF m 199 #[.val (.int p0), .val (.int p1), .val (.int p2), .val (.int p3), .val (.int p4), .val (.int k0), .val (.int k1), .val (.int k2), .val (.ref r6), .val (.ref r9), .val (.ref r12), .val (.int an), .val (.ref a16), .val (.int (1 : Int32)), .val (.int (1 : Int32)), .val (.int (0 : Int32)), .val (.int (0 : Int32)), .val (.int v41), .unset, .unset, .unset, .unset, .unset, .unset] [(.int v48)])) t → Steps p.tables e below (s₁.setTop (entryFrame m #[(.int p0), (.int p1), (.int p2), (.int p3), (.int p4)] maxLocals)) t := fun t k => pre43 _ (by
        by_cases c184_44 : p1 = p2
        · rw [show v48 = _ from hv48.trans (if_pos c184_44)] at k
          refine XS.icmpNo X34.here hx rfl (hb hby at_184) rfl (XT.ii_ne_f c184_44) ?_
          refine XS.iload X34.here hx rfl (hb hby at_187) rfl ?_
          refine XS.iload X34.here hx rfl (hb hby at_189) rfl ?_
          have m47 : ∀ t, Steps p.tables e below (T34.setTop (mkF m 199 #[.val (.int p0), .val (.int p1), .val (.int p2), .val (.int p3), .val (.int p4), .val (.int k0), .val (.int k1), .val (.int k2), .val (.ref r6), .val (.ref r9), .val (.ref r12), .val (.int an), .val (.ref a16), .val (.int (1 : Int32)), .val (.int (1 : Int32)), .val (.int (0 : Int32)), .val (.int (0 : Int32)), .val (.int v41), .unset, .unset, .unset, .unset, .unset, .unset] [(.int v46)])) t → Steps p.tables e below (T34.setTop (mkF m 191 #[.val (.int p0), .val (.int p1), .val (.int p2), .val (.int p3), .val (.int p4), .val (.int k0), .val (.int k1), .val (.int k2), .val (.ref r6), .val (.ref r9), .val (.ref r12), .val (.int an), .val (.ref a16), .val (.int (1 : Int32)), .val (.int (1 : Int32)), .val (.int (0 : Int32)), .val (.int (0 : Int32)), .val (.int v41), .unset, .unset, .unset, .unset, .unset, .unset] [(.int k1), (.int k0)])) t := fun t k => by
            by_cases c191_45 : k0 = k1
            · rw [show v46 = _ from hv46.trans (if_pos c191_45)] at k
              refine XS.icmpNo X34.here hx rfl (hb hby at_191) rfl (XT.ii_ne_f c191_45) ?_
              refine XT.iconstV X34.here hx rfl (1 : Int32) (hb hby at_194) rfl ?_
              refine XS.goto X34.here hx rfl (pc0 := 195) (pc' := 199) rfl (hb hby at_195) (by decide) (by decide) ?_
              exact k
            · rw [show v46 = _ from hv46.trans (if_neg c191_45)] at k
              refine XS.icmpYes X34.here hx rfl (pc0 := 191) (pc' := 198) rfl (hb hby at_191) rfl (XT.ii_ne_t c191_45) (by decide) (by decide) ?_
              refine XT.iconstV X34.here hx rfl (0 : Int32) (hb hby at_198) rfl ?_
              exact k
          refine m47 _ ?_
          exact k
        · rw [show v48 = _ from hv48.trans (if_neg c184_44)] at k
          refine XS.icmpYes X34.here hx rfl (pc0 := 184) (pc' := 198) rfl (hb hby at_184) rfl (XT.ii_ne_t c184_44) (by decide) (by decide) ?_
          refine XT.iconstV X34.here hx rfl (0 : Int32) (hb hby at_198) rfl ?_
          exact k)
      have pre50 : ∀ t, Steps p.tables e below (T34.setTop (mkF m 203 #[.val (.int p0), .val (.int p1), .val (.int p2), .val (.int p3), .val (.int p4), .val (.int k0), .val (.int k1), .val (.int k2), .val (.ref r6), .val (.ref r9), .val (.ref r12), .val (.int an), .val (.ref a16), .val (.int (1 : Int32)), .val (.int (1 : Int32)), .val (.int (0 : Int32)), .val (.int (0 : Int32)), .val (.int v41), .val (.int v48), .unset, .unset, .unset, .unset, .unset] [(.int p3), (.int p1)])) t → Steps p.tables e below (s₁.setTop (entryFrame m #[(.int p0), (.int p1), (.int p2), (.int p3), (.int p4)] maxLocals)) t := fun t k => pre49 _ (by
        refine XS.istore X34.here hx rfl (hb hby at_199) rfl (l' := #[.val (.int p0), .val (.int p1), .val (.int p2), .val (.int p3), .val (.int p4), .val (.int k0), .val (.int k1), .val (.int k2), .val (.ref r6), .val (.ref r9), .val (.ref r12), .val (.int an), .val (.ref a16), .val (.int (1 : Int32)), .val (.int (1 : Int32)), .val (.int (0 : Int32)), .val (.int (0 : Int32)), .val (.int v41), .val (.int v48), .unset, .unset, .unset, .unset, .unset]) rfl ?_
        refine XS.iloadN X34.here hx rfl (hb hby at_201) rfl ?_
        refine XS.iloadN X34.here hx rfl (hb hby at_202) rfl ?_
        exact k)
      obtain ⟨v53, hv53⟩ : ∃ z : Int32, z = (if k0 = k2 then (1 : Int32) else (0 : Int32)) := ⟨_, rfl⟩
      obtain ⟨v55, hv55⟩ : ∃ z : Int32, z = (if p1 = p3 then v53 else (0 : Int32)) := ⟨_, rfl⟩
      have pre56 : ∀ t, Steps p.tables e below (T34.setTop (mkF m 218 #[.val (.int p0), .val (.int p1), .val (.int p2), .val (.int p3), .val (.int p4), .val (.int k0), .val (.int k1), .val (.int k2), .val (.ref r6), .val (.ref r9), .val (.ref r12), .val (.int an), .val (.ref a16), .val (.int (1 : Int32)), .val (.int (1 : Int32)), .val (.int (0 : Int32)), .val (.int (0 : Int32)), .val (.int v41), .val (.int v48), .unset, .unset, .unset, .unset, .unset] [(.int v55)])) t → Steps p.tables e below (s₁.setTop (entryFrame m #[(.int p0), (.int p1), (.int p2), (.int p3), (.int p4)] maxLocals)) t := fun t k => pre50 _ (by
        by_cases c203_51 : p1 = p3
        · rw [show v55 = _ from hv55.trans (if_pos c203_51)] at k
          refine XS.icmpNo X34.here hx rfl (hb hby at_203) rfl (XT.ii_ne_f c203_51) ?_
          refine XS.iload X34.here hx rfl (hb hby at_206) rfl ?_
          refine XS.iload X34.here hx rfl (hb hby at_208) rfl ?_
          have m54 : ∀ t, Steps p.tables e below (T34.setTop (mkF m 218 #[.val (.int p0), .val (.int p1), .val (.int p2), .val (.int p3), .val (.int p4), .val (.int k0), .val (.int k1), .val (.int k2), .val (.ref r6), .val (.ref r9), .val (.ref r12), .val (.int an), .val (.ref a16), .val (.int (1 : Int32)), .val (.int (1 : Int32)), .val (.int (0 : Int32)), .val (.int (0 : Int32)), .val (.int v41), .val (.int v48), .unset, .unset, .unset, .unset, .unset] [(.int v53)])) t → Steps p.tables e below (T34.setTop (mkF m 210 #[.val (.int p0), .val (.int p1), .val (.int p2), .val (.int p3), .val (.int p4), .val (.int k0), .val (.int k1), .val (.int k2), .val (.ref r6), .val (.ref r9), .val (.ref r12), .val (.int an), .val (.ref a16), .val (.int (1 : Int32)), .val (.int (1 : Int32)), .val (.int (0 : Int32)), .val (.int (0 : Int32)), .val (.int v41), .val (.int v48), .unset, .unset, .unset, .unset, .unset] [(.int k2), (.int k0)])) t := fun t k => by
            by_cases c210_52 : k0 = k2
            · rw [show v53 = _ from hv53.trans (if_pos c210_52)] at k
              refine XS.icmpNo X34.here hx rfl (hb hby at_210) rfl (XT.ii_ne_f c210_52) ?_
              refine XT.iconstV X34.here hx rfl (1 : Int32) (hb hby at_213) rfl ?_
              refine XS.goto X34.here hx rfl (pc0 := 214) (pc' := 218) rfl (hb hby at_214) (by decide) (by decide) ?_
              exact k
            · rw [show v53 = _ from hv53.trans (if_neg c210_52)] at k
              refine XS.icmpYes X34.here hx rfl (pc0 := 210) (pc' := 217) rfl (hb hby at_210) rfl (XT.ii_ne_t c210_52) (by decide) (by decide) ?_
              refine XT.iconstV X34.here hx rfl (0 : Int32) (hb hby at_217) rfl ?_
              exact k
          refine m54 _ ?_
          exact k
        · rw [show v55 = _ from hv55.trans (if_neg c203_51)] at k
          refine XS.icmpYes X34.here hx rfl (pc0 := 203) (pc' := 217) rfl (hb hby at_203) rfl (XT.ii_ne_t c203_51) (by decide) (by decide) ?_
          refine XT.iconstV X34.here hx rfl (0 : Int32) (hb hby at_217) rfl ?_
          exact k)
      have pre57 : ∀ t, Steps p.tables e below (T34.setTop (mkF m 225 #[.val (.int p0), .val (.int p1), .val (.int p2), .val (.int p3), .val (.int p4), .val (.int k0), .val (.int k1), .val (.int k2), .val (.ref r6), .val (.ref r9), .val (.ref r12), .val (.int an), .val (.ref a16), .val (.int (1 : Int32)), .val (.int (1 : Int32)), .val (.int (0 : Int32)), .val (.int (0 : Int32)), .val (.int v41), .val (.int v48), .val (.int v55), .val (.int (1 : Int32)), .unset, .unset, .unset] [(.int v41)])) t → Steps p.tables e below (s₁.setTop (entryFrame m #[(.int p0), (.int p1), (.int p2), (.int p3), (.int p4)] maxLocals)) t := fun t k => pre56 _ (by
        refine XS.istore X34.here hx rfl (hb hby at_218) rfl (l' := #[.val (.int p0), .val (.int p1), .val (.int p2), .val (.int p3), .val (.int p4), .val (.int k0), .val (.int k1), .val (.int k2), .val (.ref r6), .val (.ref r9), .val (.ref r12), .val (.int an), .val (.ref a16), .val (.int (1 : Int32)), .val (.int (1 : Int32)), .val (.int (0 : Int32)), .val (.int (0 : Int32)), .val (.int v41), .val (.int v48), .val (.int v55), .unset, .unset, .unset, .unset]) rfl ?_
        refine XT.iconstV X34.here hx rfl (1 : Int32) (hb hby at_220) rfl ?_
        refine XS.istore X34.here hx rfl (hb hby at_221) rfl (l' := #[.val (.int p0), .val (.int p1), .val (.int p2), .val (.int p3), .val (.int p4), .val (.int k0), .val (.int k1), .val (.int k2), .val (.ref r6), .val (.ref r9), .val (.ref r12), .val (.int an), .val (.ref a16), .val (.int (1 : Int32)), .val (.int (1 : Int32)), .val (.int (0 : Int32)), .val (.int (0 : Int32)), .val (.int v41), .val (.int v48), .val (.int v55), .val (.int (1 : Int32)), .unset, .unset, .unset]) rfl ?_
        refine XS.iload X34.here hx rfl (hb hby at_223) rfl ?_
        exact k)
      obtain ⟨v59, hv59⟩ : ∃ z : Int32, z = (if v41 = 0 then (1 : Int32) else (0 : Int32)) := ⟨_, rfl⟩
      have pre60 : ∀ t, Steps p.tables e below (T34.setTop (mkF m 233 #[.val (.int p0), .val (.int p1), .val (.int p2), .val (.int p3), .val (.int p4), .val (.int k0), .val (.int k1), .val (.int k2), .val (.ref r6), .val (.ref r9), .val (.ref r12), .val (.int an), .val (.ref a16), .val (.int (1 : Int32)), .val (.int (1 : Int32)), .val (.int (0 : Int32)), .val (.int (0 : Int32)), .val (.int v41), .val (.int v48), .val (.int v55), .val (.int (1 : Int32)), .unset, .unset, .unset] [(.int v59)])) t → Steps p.tables e below (s₁.setTop (entryFrame m #[(.int p0), (.int p1), (.int p2), (.int p3), (.int p4)] maxLocals)) t := fun t k => pre57 _ (by
        by_cases c225_58 : v41 = 0
        · rw [show v59 = _ from hv59.trans (if_pos c225_58)] at k
          refine XS.ifNo X34.here hx rfl (hb hby at_225) rfl (XT.i0_ne_f c225_58) ?_
          refine XT.iconstV X34.here hx rfl (1 : Int32) (hb hby at_228) rfl ?_
          refine XS.goto X34.here hx rfl (pc0 := 229) (pc' := 233) rfl (hb hby at_229) (by decide) (by decide) ?_
          exact k
        · rw [show v59 = _ from hv59.trans (if_neg c225_58)] at k
          refine XS.ifYes X34.here hx rfl (pc0 := 225) (pc' := 232) rfl (hb hby at_225) rfl (XT.i0_ne_t c225_58) (by decide) (by decide) ?_
          refine XT.iconstV X34.here hx rfl (0 : Int32) (hb hby at_232) rfl ?_
          exact k)
      have pre61 : ∀ t, Steps p.tables e below (T34.setTop (mkF m 237 #[.val (.int p0), .val (.int p1), .val (.int p2), .val (.int p3), .val (.int p4), .val (.int k0), .val (.int k1), .val (.int k2), .val (.ref r6), .val (.ref r9), .val (.ref r12), .val (.int an), .val (.ref a16), .val (.int (1 : Int32)), .val (.int (1 : Int32)), .val (.int (0 : Int32)), .val (.int (0 : Int32)), .val (.int v41), .val (.int v48), .val (.int v55), .val (.int (1 : Int32)), .val (.int v59), .unset, .unset] [(.int v48)])) t → Steps p.tables e below (s₁.setTop (entryFrame m #[(.int p0), (.int p1), (.int p2), (.int p3), (.int p4)] maxLocals)) t := fun t k => pre60 _ (by
        refine XS.istore X34.here hx rfl (hb hby at_233) rfl (l' := #[.val (.int p0), .val (.int p1), .val (.int p2), .val (.int p3), .val (.int p4), .val (.int k0), .val (.int k1), .val (.int k2), .val (.ref r6), .val (.ref r9), .val (.ref r12), .val (.int an), .val (.ref a16), .val (.int (1 : Int32)), .val (.int (1 : Int32)), .val (.int (0 : Int32)), .val (.int (0 : Int32)), .val (.int v41), .val (.int v48), .val (.int v55), .val (.int (1 : Int32)), .val (.int v59), .unset, .unset]) rfl ?_
        refine XS.iload X34.here hx rfl (hb hby at_235) rfl ?_
        exact k)
      obtain ⟨v64, hv64⟩ : ∃ z : Int32, z = (if v55 = 0 then (1 : Int32) else (0 : Int32)) := ⟨_, rfl⟩
      obtain ⟨v66, hv66⟩ : ∃ z : Int32, z = (if v48 = 0 then v64 else (0 : Int32)) := ⟨_, rfl⟩
      have pre67 : ∀ t, Steps p.tables e below (T34.setTop (mkF m 250 #[.val (.int p0), .val (.int p1), .val (.int p2), .val (.int p3), .val (.int p4), .val (.int k0), .val (.int k1), .val (.int k2), .val (.ref r6), .val (.ref r9), .val (.ref r12), .val (.int an), .val (.ref a16), .val (.int (1 : Int32)), .val (.int (1 : Int32)), .val (.int (0 : Int32)), .val (.int (0 : Int32)), .val (.int v41), .val (.int v48), .val (.int v55), .val (.int (1 : Int32)), .val (.int v59), .unset, .unset] [(.int v66)])) t → Steps p.tables e below (s₁.setTop (entryFrame m #[(.int p0), (.int p1), (.int p2), (.int p3), (.int p4)] maxLocals)) t := fun t k => pre61 _ (by
        by_cases c237_62 : v48 = 0
        · rw [show v66 = _ from hv66.trans (if_pos c237_62)] at k
          refine XS.ifNo X34.here hx rfl (hb hby at_237) rfl (XT.i0_ne_f c237_62) ?_
          refine XS.iload X34.here hx rfl (hb hby at_240) rfl ?_
          have m65 : ∀ t, Steps p.tables e below (T34.setTop (mkF m 250 #[.val (.int p0), .val (.int p1), .val (.int p2), .val (.int p3), .val (.int p4), .val (.int k0), .val (.int k1), .val (.int k2), .val (.ref r6), .val (.ref r9), .val (.ref r12), .val (.int an), .val (.ref a16), .val (.int (1 : Int32)), .val (.int (1 : Int32)), .val (.int (0 : Int32)), .val (.int (0 : Int32)), .val (.int v41), .val (.int v48), .val (.int v55), .val (.int (1 : Int32)), .val (.int v59), .unset, .unset] [(.int v64)])) t → Steps p.tables e below (T34.setTop (mkF m 242 #[.val (.int p0), .val (.int p1), .val (.int p2), .val (.int p3), .val (.int p4), .val (.int k0), .val (.int k1), .val (.int k2), .val (.ref r6), .val (.ref r9), .val (.ref r12), .val (.int an), .val (.ref a16), .val (.int (1 : Int32)), .val (.int (1 : Int32)), .val (.int (0 : Int32)), .val (.int (0 : Int32)), .val (.int v41), .val (.int v48), .val (.int v55), .val (.int (1 : Int32)), .val (.int v59), .unset, .unset] [(.int v55)])) t := fun t k => by
            by_cases c242_63 : v55 = 0
            · rw [show v64 = _ from hv64.trans (if_pos c242_63)] at k
              refine XS.ifNo X34.here hx rfl (hb hby at_242) rfl (XT.i0_ne_f c242_63) ?_
              refine XT.iconstV X34.here hx rfl (1 : Int32) (hb hby at_245) rfl ?_
              refine XS.goto X34.here hx rfl (pc0 := 246) (pc' := 250) rfl (hb hby at_246) (by decide) (by decide) ?_
              exact k
            · rw [show v64 = _ from hv64.trans (if_neg c242_63)] at k
              refine XS.ifYes X34.here hx rfl (pc0 := 242) (pc' := 249) rfl (hb hby at_242) rfl (XT.i0_ne_t c242_63) (by decide) (by decide) ?_
              refine XT.iconstV X34.here hx rfl (0 : Int32) (hb hby at_249) rfl ?_
              exact k
          refine m65 _ ?_
          exact k
        · rw [show v66 = _ from hv66.trans (if_neg c237_62)] at k
          refine XS.ifYes X34.here hx rfl (pc0 := 237) (pc' := 249) rfl (hb hby at_237) rfl (XT.i0_ne_t c237_62) (by decide) (by decide) ?_
          refine XT.iconstV X34.here hx rfl (0 : Int32) (hb hby at_249) rfl ?_
          exact k)
      have pre68 : ∀ t, Steps p.tables e below (T34.setTop (mkF m 255 #[.val (.int p0), .val (.int p1), .val (.int p2), .val (.int p3), .val (.int p4), .val (.int k0), .val (.int k1), .val (.int k2), .val (.ref r6), .val (.ref r9), .val (.ref r12), .val (.int an), .val (.ref a16), .val (.int (1 : Int32)), .val (.int (1 : Int32)), .val (.int (0 : Int32)), .val (.int (0 : Int32)), .val (.int v41), .val (.int v48), .val (.int v55), .val (.int (1 : Int32)), .val (.int v59), .val (.int v66), .unset] [(.int v59), (.int (1 : Int32))])) t → Steps p.tables e below (s₁.setTop (entryFrame m #[(.int p0), (.int p1), (.int p2), (.int p3), (.int p4)] maxLocals)) t := fun t k => pre67 _ (by
        refine XS.istore X34.here hx rfl (hb hby at_250) rfl (l' := #[.val (.int p0), .val (.int p1), .val (.int p2), .val (.int p3), .val (.int p4), .val (.int k0), .val (.int k1), .val (.int k2), .val (.ref r6), .val (.ref r9), .val (.ref r12), .val (.int an), .val (.ref a16), .val (.int (1 : Int32)), .val (.int (1 : Int32)), .val (.int (0 : Int32)), .val (.int (0 : Int32)), .val (.int v41), .val (.int v48), .val (.int v55), .val (.int (1 : Int32)), .val (.int v59), .val (.int v66), .unset]) rfl ?_
        refine XT.iconstV X34.here hx rfl (1 : Int32) (hb hby at_252) rfl ?_
        refine XS.iload X34.here hx rfl (hb hby at_253) rfl ?_
        exact k)
      obtain ⟨v70, hv70⟩ : ∃ z : Int32, z = (if v59 = 0 then (0 : Int32) else (1 : Int32)) := ⟨_, rfl⟩
      have pre71 : ∀ t, Steps p.tables e below (T34.setTop (mkF m 263 #[.val (.int p0), .val (.int p1), .val (.int p2), .val (.int p3), .val (.int p4), .val (.int k0), .val (.int k1), .val (.int k2), .val (.ref r6), .val (.ref r9), .val (.ref r12), .val (.int an), .val (.ref a16), .val (.int (1 : Int32)), .val (.int (1 : Int32)), .val (.int (0 : Int32)), .val (.int (0 : Int32)), .val (.int v41), .val (.int v48), .val (.int v55), .val (.int (1 : Int32)), .val (.int v59), .val (.int v66), .unset] [(.int v70), (.int (1 : Int32))])) t → Steps p.tables e below (s₁.setTop (entryFrame m #[(.int p0), (.int p1), (.int p2), (.int p3), (.int p4)] maxLocals)) t := fun t k => pre68 _ (by
        by_cases c255_69 : v59 = 0
        · rw [show v70 = _ from hv70.trans (if_pos c255_69)] at k
          refine XS.ifYes X34.here hx rfl (pc0 := 255) (pc' := 262) rfl (hb hby at_255) rfl (XT.i0_eq_t c255_69) (by decide) (by decide) ?_
          refine XT.iconstV X34.here hx rfl (0 : Int32) (hb hby at_262) rfl ?_
          exact k
        · rw [show v70 = _ from hv70.trans (if_neg c255_69)] at k
          refine XS.ifNo X34.here hx rfl (hb hby at_255) rfl (XT.i0_eq_f c255_69) ?_
          refine XT.iconstV X34.here hx rfl (1 : Int32) (hb hby at_258) rfl ?_
          refine XS.goto X34.here hx rfl (pc0 := 259) (pc' := 263) rfl (hb hby at_259) (by decide) (by decide) ?_
          exact k)
      have pre72 : ∀ t, Steps p.tables e below (T34.setTop (mkF m 266 #[.val (.int p0), .val (.int p1), .val (.int p2), .val (.int p3), .val (.int p4), .val (.int k0), .val (.int k1), .val (.int k2), .val (.ref r6), .val (.ref r9), .val (.ref r12), .val (.int an), .val (.ref a16), .val (.int (1 : Int32)), .val (.int (1 : Int32)), .val (.int (0 : Int32)), .val (.int (0 : Int32)), .val (.int v41), .val (.int v48), .val (.int v55), .val (.int (1 : Int32)), .val (.int v59), .val (.int v66), .unset] [(.int v66), (.int ((1 : Int32) + v70))])) t → Steps p.tables e below (s₁.setTop (entryFrame m #[(.int p0), (.int p1), (.int p2), (.int p3), (.int p4)] maxLocals)) t := fun t k => pre71 _ (by
        refine XS.iadd X34.here hx rfl (hb hby at_263) rfl ?_
        refine XS.iload X34.here hx rfl (hb hby at_264) rfl ?_
        exact k)
      obtain ⟨v74, hv74⟩ : ∃ z : Int32, z = (if v66 = 0 then (0 : Int32) else (1 : Int32)) := ⟨_, rfl⟩
      have pre75 : ∀ t, Steps p.tables e below (T34.setTop (mkF m 274 #[.val (.int p0), .val (.int p1), .val (.int p2), .val (.int p3), .val (.int p4), .val (.int k0), .val (.int k1), .val (.int k2), .val (.ref r6), .val (.ref r9), .val (.ref r12), .val (.int an), .val (.ref a16), .val (.int (1 : Int32)), .val (.int (1 : Int32)), .val (.int (0 : Int32)), .val (.int (0 : Int32)), .val (.int v41), .val (.int v48), .val (.int v55), .val (.int (1 : Int32)), .val (.int v59), .val (.int v66), .unset] [(.int v74), (.int ((1 : Int32) + v70))])) t → Steps p.tables e below (s₁.setTop (entryFrame m #[(.int p0), (.int p1), (.int p2), (.int p3), (.int p4)] maxLocals)) t := fun t k => pre72 _ (by
        by_cases c266_73 : v66 = 0
        · rw [show v74 = _ from hv74.trans (if_pos c266_73)] at k
          refine XS.ifYes X34.here hx rfl (pc0 := 266) (pc' := 273) rfl (hb hby at_266) rfl (XT.i0_eq_t c266_73) (by decide) (by decide) ?_
          refine XT.iconstV X34.here hx rfl (0 : Int32) (hb hby at_273) rfl ?_
          exact k
        · rw [show v74 = _ from hv74.trans (if_neg c266_73)] at k
          refine XS.ifNo X34.here hx rfl (hb hby at_266) rfl (XT.i0_eq_f c266_73) ?_
          refine XT.iconstV X34.here hx rfl (1 : Int32) (hb hby at_269) rfl ?_
          refine XS.goto X34.here hx rfl (pc0 := 270) (pc' := 274) rfl (hb hby at_270) (by decide) (by decide) ?_
          exact k)
      have e17 := own_e hv39 hv41
      have e18 := own_e hv46 hv48
      have e19 := own_e hv53 hv55
      have A12 :  (p2 = p3 ∧ k1 = k2) := ⟨fd31.1, (own_bx_inj u1 z1 u2 z2).mp fd31.2⟩
      have A02 :  (p1 = p3 ∧ k0 = k2) := ⟨fd34.1, (own_bx_inj u0 z0 u2 z2).mp fd34.2⟩
      have A :  ((p1 = p2 ∧ k0 = k1) ∨ (p1 = p3 ∧ k0 = k2)) := Or.inr A02
      have y21 : v59 = (0 : Int32) := by rw [hv59, e17]; rw [if_pos A12]; decide
      have y22 : v66 = (0 : Int32) := own_or e18 e19 hv64 hv66 (if_pos A).symm
      have pre76 : ∀ t, Steps p.tables e below (T34.setTop (mkF m 305 #[.val (.int p0), .val (.int p1), .val (.int p2), .val (.int p3), .val (.int p4), .val (.int k0), .val (.int k1), .val (.int k2), .val (.ref r6), .val (.ref r9), .val (.ref r12), .val (.int an), .val (.ref a16), .val (.int (1 : Int32)), .val (.int (1 : Int32)), .val (.int (0 : Int32)), .val (.int (0 : Int32)), .val (.int v41), .val (.int v48), .val (.int v55), .val (.int (1 : Int32)), .val (.int v59), .val (.int v66), .val (.int (((1 : Int32) + v70) + v74))] [(.ref a16)])) t → Steps p.tables e below (s₁.setTop (entryFrame m #[(.int p0), (.int p1), (.int p2), (.int p3), (.int p4)] maxLocals)) t := fun t k => pre75 _ (by
        refine XS.iadd X34.here hx rfl (hb hby at_274) rfl ?_
        refine XS.istore X34.here hx rfl (hb hby at_275) rfl (l' := #[.val (.int p0), .val (.int p1), .val (.int p2), .val (.int p3), .val (.int p4), .val (.int k0), .val (.int k1), .val (.int k2), .val (.ref r6), .val (.ref r9), .val (.ref r12), .val (.int an), .val (.ref a16), .val (.int (1 : Int32)), .val (.int (1 : Int32)), .val (.int (0 : Int32)), .val (.int (0 : Int32)), .val (.int v41), .val (.int v48), .val (.int v55), .val (.int (1 : Int32)), .val (.int v59), .val (.int v66), .val (.int (((1 : Int32) + v70) + v74))]) rfl ?_
        refine XS.iload X34.here hx rfl (hb hby at_277) rfl ?_
        refine XS.ifNo X34.here hx rfl (hb hby at_279) rfl (XT.i0_eq_f (by decide)) ?_
        refine XS.iload X34.here hx rfl (hb hby at_282) rfl ?_
        refine XS.iload X34.here hx rfl (hb hby at_284) rfl ?_
        refine XS.icmpNo X34.here hx rfl (hb hby at_286) rfl (XT.ii_ne_f (by decide)) ?_
        show Steps p.tables e below (T34.setTop (mkF m 289 #[.val (.int p0), .val (.int p1), .val (.int p2), .val (.int p3), .val (.int p4), .val (.int k0), .val (.int k1), .val (.int k2), .val (.ref r6), .val (.ref r9), .val (.ref r12), .val (.int an), .val (.ref a16), .val (.int (1 : Int32)), .val (.int (1 : Int32)), .val (.int (0 : Int32)), .val (.int (0 : Int32)), .val (.int v41), .val (.int v48), .val (.int v55), .val (.int (1 : Int32)), .val (.int v59), .val (.int v66), .val (.int (((1 : Int32) + v70) + v74))] [])) _
        refine XS.iload X34.here hx rfl (hb hby at_289) rfl ?_
        refine XS.iload X34.here hx rfl (hb hby at_291) rfl ?_
        refine XS.icmpNo X34.here hx rfl (hb hby at_293) rfl (XT.ii_ne_f y21.symm) ?_
        refine XS.iload X34.here hx rfl (hb hby at_296) rfl ?_
        refine XS.iload X34.here hx rfl (hb hby at_298) rfl ?_
        refine XS.icmpNo X34.here hx rfl (hb hby at_300) rfl (XT.ii_ne_f y22.symm) ?_
        refine XS.aload X34.here hx rfl (hb hby at_303) rfl rfl ?_
        exact k)
      obtain ⟨cq77, kq77, q77a, q77b, q77c⟩ := isOf hZ e34 HS28.1
      obtain ⟨_, _, ⟨T77, L77, k77, n77⟩, -, X77, ⟨Lc77, hQ77, l77, y77, z77⟩, st77⟩ := X34.virtualBack hx (y := (⟨"com/example/erma/erma/analysis/DistinctSteps", "size", "()I"⟩ : MethodName)) (z := (⟨"com/example/erma/erma/analysis/DistinctSteps", "size", "()I"⟩ : MethodName)) hown (mvT hZ (hw _ (List.mem_of_getElem? (i := 51) rfl))) (mvT hZ (hw _ (List.mem_of_getElem? (i := 52) rfl))) (notFace_of_selects (args := #[]) (mvT hZ (hw _ (List.mem_of_getElem? (i := 54) rfl)))) (mvT hZ (hw _ (List.mem_of_getElem? (i := 54) rfl))) (mvT hZ (hw _ (List.mem_of_getElem? (i := 53) rfl))) (by decide) (backOf (W := 0) (own_size l Z a0 hw [] a16 (1 : Int32) h28 n0 Z28 HS28.2.2.2.2.2.1) hZ (hw _ (List.mem_of_getElem? (i := 55) rfl)) (hw _ (List.mem_of_getElem? (i := 28) rfl)) (by decide) (by decide)) q77a q77c (g := (mkF m 305 #[.val (.int p0), .val (.int p1), .val (.int p2), .val (.int p3), .val (.int p4), .val (.int k0), .val (.int k1), .val (.int k2), .val (.ref r6), .val (.ref r9), .val (.ref r12), .val (.int an), .val (.ref a16), .val (.int (1 : Int32)), .val (.int (1 : Int32)), .val (.int (0 : Int32)), .val (.int (0 : Int32)), .val (.int v41), .val (.int v48), .val (.int v55), .val (.int (1 : Int32)), .val (.int v59), .val (.int v66), .val (.int (((1 : Int32) + v70) + v74))] [(.ref a16)])) rfl (by rw [hml]; rfl) (Steps.refl _) (argsL := []) (rest := []) (lenOf own_pd___I rfl) rfl (by show 2 * 0 + _ ≤ _; exact Nat.le_of_eq rfl) (hb hby at_305) (fun _ _ => ⟨rfl, e34, (by decide : 11 + 0 ≤ _), (by decide : 60 + 0 ≤ _)⟩)
      dsimp only [Pt.U, Pt.locs, Pt.cells, Pt.slots] at X77 l77 y77 z77 st77 hQ77
      subst l77 y77 z77
      obtain ⟨rfl, N77q, e77⟩ := hQ77
      have N77 := Fr.app N34 N77q
      have pre78 : ∀ t, Steps p.tables e below (T77.setTop (mkF m 308 #[.val (.int p0), .val (.int p1), .val (.int p2), .val (.int p3), .val (.int p4), .val (.int k0), .val (.int k1), .val (.int k2), .val (.ref r6), .val (.ref r9), .val (.ref r12), .val (.int an), .val (.ref a16), .val (.int (1 : Int32)), .val (.int (1 : Int32)), .val (.int (0 : Int32)), .val (.int (0 : Int32)), .val (.int v41), .val (.int v48), .val (.int v55), .val (.int (1 : Int32)), .val (.int v59), .val (.int v66), .val (.int (((1 : Int32) + v70) + v74))] [(.int (1 : Int32))])) t → Steps p.tables e below (s₁.setTop (entryFrame m #[(.int p0), (.int p1), (.int p2), (.int p3), (.int p4)] maxLocals)) t := fun t k => pre76 _ (st77.trans k)
      have pre79 : ∀ t, Steps p.tables e below (T77.setTop (mkF m 318 #[.val (.int p0), .val (.int p1), .val (.int p2), .val (.int p3), .val (.int p4), .val (.int k0), .val (.int k1), .val (.int k2), .val (.ref r6), .val (.ref r9), .val (.ref r12), .val (.int an), .val (.ref a16), .val (.int (1 : Int32)), .val (.int (1 : Int32)), .val (.int (0 : Int32)), .val (.int (0 : Int32)), .val (.int v41), .val (.int v48), .val (.int v55), .val (.int (1 : Int32)), .val (.int v59), .val (.int v66), .val (.int (((1 : Int32) + v70) + v74))] [(.int (1 : Int32))])) t → Steps p.tables e below (s₁.setTop (entryFrame m #[(.int p0), (.int p1), (.int p2), (.int p3), (.int p4)] maxLocals)) t := fun t k => pre78 _ (by
        refine XS.iload X77.here hx rfl (hb hby at_308) rfl ?_
        refine XS.icmpNo X77.here hx rfl (hb hby at_310) rfl (XT.ii_ne_f (by rw [hv70, hv74, y21, y22]; decide)) ?_
        refine XT.iconstV X77.here hx rfl (1 : Int32) (hb hby at_313) rfl ?_
        refine XS.goto X77.here hx rfl (pc0 := 314) (pc' := 318) rfl (hb hby at_314) (by decide) (by decide) ?_
        exact k)
      obtain ⟨fs, hr, hrun, hended, hW, hsame⟩ := X77.leave (v := some (.int (1 : Int32))) (fun h => by rw [Bd.returns] at h; cases h)
      refine ⟨_, _, pre79 _ ?_, hrun, hended, _, _, rfl, ?_, ⟨_, rfl⟩, hW, hsame.mono (by decide) (by decide)⟩
      · show Steps p.tables e below (T77.setTop (mkF m 318 #[.val (.int p0), .val (.int p1), .val (.int p2), .val (.int p3), .val (.int p4), .val (.int k0), .val (.int k1), .val (.int k2), .val (.ref r6), .val (.ref r9), .val (.ref r12), .val (.int an), .val (.ref a16), .val (.int (1 : Int32)), .val (.int (1 : Int32)), .val (.int (0 : Int32)), .val (.int (0 : Int32)), .val (.int v41), .val (.int v48), .val (.int v55), .val (.int (1 : Int32)), .val (.int v59), .val (.int v66), .val (.int (((1 : Int32) + v70) + v74))] [(.int (1 : Int32))])) _
        exact retN X77 hx (t := .boolean) Bd.returns (by simp) (hb hby at_318) hr
      · show Q_own_law Z p0 p1 p2 p3 p4 cs h0 n0 _ T77.heap _
        rw [e77]
        exact ⟨rfl, N77⟩
    · have Z34 : n0 ≤ h34.size := Nat.le_trans Z28 K34.1
      have N34 := Fr.app N31 N34q
      have pre80 : ∀ t, Steps p.tables e below (T34.setTop (mkF m 161 #[.val (.int p0), .val (.int p1), .val (.int p2), .val (.int p3), .val (.int p4), .val (.int k0), .val (.int k1), .val (.int k2), .val (.ref r6), .val (.ref r9), .val (.ref r12), .val (.int an), .val (.ref a16), .val (.int (1 : Int32)), .val (.int (1 : Int32)), .val (.int (0 : Int32)), .unset, .unset, .unset, .unset, .unset, .unset, .unset, .unset] [(.int (1 : Int32))])) t → Steps p.tables e below (s₁.setTop (entryFrame m #[(.int p0), (.int p1), (.int p2), (.int p3), (.int p4)] maxLocals)) t := fun t k => pre33 _ (st34.trans k)
      have pre81 : ∀ t, Steps p.tables e below (T34.setTop (mkF m 165 #[.val (.int p0), .val (.int p1), .val (.int p2), .val (.int p3), .val (.int p4), .val (.int k0), .val (.int k1), .val (.int k2), .val (.ref r6), .val (.ref r9), .val (.ref r12), .val (.int an), .val (.ref a16), .val (.int (1 : Int32)), .val (.int (1 : Int32)), .val (.int (0 : Int32)), .val (.int (1 : Int32)), .unset, .unset, .unset, .unset, .unset, .unset, .unset] [(.int p3), (.int p2)])) t → Steps p.tables e below (s₁.setTop (entryFrame m #[(.int p0), (.int p1), (.int p2), (.int p3), (.int p4)] maxLocals)) t := fun t k => pre80 _ (by
        refine XS.istore X34.here hx rfl (hb hby at_161) rfl (l' := #[.val (.int p0), .val (.int p1), .val (.int p2), .val (.int p3), .val (.int p4), .val (.int k0), .val (.int k1), .val (.int k2), .val (.ref r6), .val (.ref r9), .val (.ref r12), .val (.int an), .val (.ref a16), .val (.int (1 : Int32)), .val (.int (1 : Int32)), .val (.int (0 : Int32)), .val (.int (1 : Int32)), .unset, .unset, .unset, .unset, .unset, .unset, .unset]) rfl ?_
        refine XS.iloadN X34.here hx rfl (hb hby at_163) rfl ?_
        refine XS.iloadN X34.here hx rfl (hb hby at_164) rfl ?_
        exact k)
      obtain ⟨v84, hv84⟩ : ∃ z : Int32, z = (if k1 = k2 then (1 : Int32) else (0 : Int32)) := ⟨_, rfl⟩
      obtain ⟨v86, hv86⟩ : ∃ z : Int32, z = (if p2 = p3 then v84 else (0 : Int32)) := ⟨_, rfl⟩
      have pre87 : ∀ t, Steps p.tables e below (T34.setTop (mkF m 180 #[.val (.int p0), .val (.int p1), .val (.int p2), .val (.int p3), .val (.int p4), .val (.int k0), .val (.int k1), .val (.int k2), .val (.ref r6), .val (.ref r9), .val (.ref r12), .val (.int an), .val (.ref a16), .val (.int (1 : Int32)), .val (.int (1 : Int32)), .val (.int (0 : Int32)), .val (.int (1 : Int32)), .unset, .unset, .unset, .unset, .unset, .unset, .unset] [(.int v86)])) t → Steps p.tables e below (s₁.setTop (entryFrame m #[(.int p0), (.int p1), (.int p2), (.int p3), (.int p4)] maxLocals)) t := fun t k => pre81 _ (by
        by_cases c165_82 : p2 = p3
        · rw [show v86 = _ from hv86.trans (if_pos c165_82)] at k
          refine XS.icmpNo X34.here hx rfl (hb hby at_165) rfl (XT.ii_ne_f c165_82) ?_
          refine XS.iload X34.here hx rfl (hb hby at_168) rfl ?_
          refine XS.iload X34.here hx rfl (hb hby at_170) rfl ?_
          have m85 : ∀ t, Steps p.tables e below (T34.setTop (mkF m 180 #[.val (.int p0), .val (.int p1), .val (.int p2), .val (.int p3), .val (.int p4), .val (.int k0), .val (.int k1), .val (.int k2), .val (.ref r6), .val (.ref r9), .val (.ref r12), .val (.int an), .val (.ref a16), .val (.int (1 : Int32)), .val (.int (1 : Int32)), .val (.int (0 : Int32)), .val (.int (1 : Int32)), .unset, .unset, .unset, .unset, .unset, .unset, .unset] [(.int v84)])) t → Steps p.tables e below (T34.setTop (mkF m 172 #[.val (.int p0), .val (.int p1), .val (.int p2), .val (.int p3), .val (.int p4), .val (.int k0), .val (.int k1), .val (.int k2), .val (.ref r6), .val (.ref r9), .val (.ref r12), .val (.int an), .val (.ref a16), .val (.int (1 : Int32)), .val (.int (1 : Int32)), .val (.int (0 : Int32)), .val (.int (1 : Int32)), .unset, .unset, .unset, .unset, .unset, .unset, .unset] [(.int k2), (.int k1)])) t := fun t k => by
            by_cases c172_83 : k1 = k2
            · rw [show v84 = _ from hv84.trans (if_pos c172_83)] at k
              refine XS.icmpNo X34.here hx rfl (hb hby at_172) rfl (XT.ii_ne_f c172_83) ?_
              refine XT.iconstV X34.here hx rfl (1 : Int32) (hb hby at_175) rfl ?_
              refine XS.goto X34.here hx rfl (pc0 := 176) (pc' := 180) rfl (hb hby at_176) (by decide) (by decide) ?_
              exact k
            · rw [show v84 = _ from hv84.trans (if_neg c172_83)] at k
              refine XS.icmpYes X34.here hx rfl (pc0 := 172) (pc' := 179) rfl (hb hby at_172) rfl (XT.ii_ne_t c172_83) (by decide) (by decide) ?_
              refine XT.iconstV X34.here hx rfl (0 : Int32) (hb hby at_179) rfl ?_
              exact k
          refine m85 _ ?_
          exact k
        · rw [show v86 = _ from hv86.trans (if_neg c165_82)] at k
          refine XS.icmpYes X34.here hx rfl (pc0 := 165) (pc' := 179) rfl (hb hby at_165) rfl (XT.ii_ne_t c165_82) (by decide) (by decide) ?_
          refine XT.iconstV X34.here hx rfl (0 : Int32) (hb hby at_179) rfl ?_
          exact k)
      have pre88 : ∀ t, Steps p.tables e below (T34.setTop (mkF m 184 #[.val (.int p0), .val (.int p1), .val (.int p2), .val (.int p3), .val (.int p4), .val (.int k0), .val (.int k1), .val (.int k2), .val (.ref r6), .val (.ref r9), .val (.ref r12), .val (.int an), .val (.ref a16), .val (.int (1 : Int32)), .val (.int (1 : Int32)), .val (.int (0 : Int32)), .val (.int (1 : Int32)), .val (.int v86), .unset, .unset, .unset, .unset, .unset, .unset] [(.int p2), (.int p1)])) t → Steps p.tables e below (s₁.setTop (entryFrame m #[(.int p0), (.int p1), (.int p2), (.int p3), (.int p4)] maxLocals)) t := fun t k => pre87 _ (by
        refine XS.istore X34.here hx rfl (hb hby at_180) rfl (l' := #[.val (.int p0), .val (.int p1), .val (.int p2), .val (.int p3), .val (.int p4), .val (.int k0), .val (.int k1), .val (.int k2), .val (.ref r6), .val (.ref r9), .val (.ref r12), .val (.int an), .val (.ref a16), .val (.int (1 : Int32)), .val (.int (1 : Int32)), .val (.int (0 : Int32)), .val (.int (1 : Int32)), .val (.int v86), .unset, .unset, .unset, .unset, .unset, .unset]) rfl ?_
        refine XS.iloadN X34.here hx rfl (hb hby at_182) rfl ?_
        refine XS.iloadN X34.here hx rfl (hb hby at_183) rfl ?_
        exact k)
      obtain ⟨v91, hv91⟩ : ∃ z : Int32, z = (if k0 = k1 then (1 : Int32) else (0 : Int32)) := ⟨_, rfl⟩
      obtain ⟨v93, hv93⟩ : ∃ z : Int32, z = (if p1 = p2 then v91 else (0 : Int32)) := ⟨_, rfl⟩
      have pre94 : ∀ t, Steps p.tables e below (T34.setTop (mkF m 199 #[.val (.int p0), .val (.int p1), .val (.int p2), .val (.int p3), .val (.int p4), .val (.int k0), .val (.int k1), .val (.int k2), .val (.ref r6), .val (.ref r9), .val (.ref r12), .val (.int an), .val (.ref a16), .val (.int (1 : Int32)), .val (.int (1 : Int32)), .val (.int (0 : Int32)), .val (.int (1 : Int32)), .val (.int v86), .unset, .unset, .unset, .unset, .unset, .unset] [(.int v93)])) t → Steps p.tables e below (s₁.setTop (entryFrame m #[(.int p0), (.int p1), (.int p2), (.int p3), (.int p4)] maxLocals)) t := fun t k => pre88 _ (by
        by_cases c184_89 : p1 = p2
        · rw [show v93 = _ from hv93.trans (if_pos c184_89)] at k
          refine XS.icmpNo X34.here hx rfl (hb hby at_184) rfl (XT.ii_ne_f c184_89) ?_
          refine XS.iload X34.here hx rfl (hb hby at_187) rfl ?_
          refine XS.iload X34.here hx rfl (hb hby at_189) rfl ?_
          have m92 : ∀ t, Steps p.tables e below (T34.setTop (mkF m 199 #[.val (.int p0), .val (.int p1), .val (.int p2), .val (.int p3), .val (.int p4), .val (.int k0), .val (.int k1), .val (.int k2), .val (.ref r6), .val (.ref r9), .val (.ref r12), .val (.int an), .val (.ref a16), .val (.int (1 : Int32)), .val (.int (1 : Int32)), .val (.int (0 : Int32)), .val (.int (1 : Int32)), .val (.int v86), .unset, .unset, .unset, .unset, .unset, .unset] [(.int v91)])) t → Steps p.tables e below (T34.setTop (mkF m 191 #[.val (.int p0), .val (.int p1), .val (.int p2), .val (.int p3), .val (.int p4), .val (.int k0), .val (.int k1), .val (.int k2), .val (.ref r6), .val (.ref r9), .val (.ref r12), .val (.int an), .val (.ref a16), .val (.int (1 : Int32)), .val (.int (1 : Int32)), .val (.int (0 : Int32)), .val (.int (1 : Int32)), .val (.int v86), .unset, .unset, .unset, .unset, .unset, .unset] [(.int k1), (.int k0)])) t := fun t k => by
            by_cases c191_90 : k0 = k1
            · rw [show v91 = _ from hv91.trans (if_pos c191_90)] at k
              refine XS.icmpNo X34.here hx rfl (hb hby at_191) rfl (XT.ii_ne_f c191_90) ?_
              refine XT.iconstV X34.here hx rfl (1 : Int32) (hb hby at_194) rfl ?_
              refine XS.goto X34.here hx rfl (pc0 := 195) (pc' := 199) rfl (hb hby at_195) (by decide) (by decide) ?_
              exact k
            · rw [show v91 = _ from hv91.trans (if_neg c191_90)] at k
              refine XS.icmpYes X34.here hx rfl (pc0 := 191) (pc' := 198) rfl (hb hby at_191) rfl (XT.ii_ne_t c191_90) (by decide) (by decide) ?_
              refine XT.iconstV X34.here hx rfl (0 : Int32) (hb hby at_198) rfl ?_
              exact k
          refine m92 _ ?_
          exact k
        · rw [show v93 = _ from hv93.trans (if_neg c184_89)] at k
          refine XS.icmpYes X34.here hx rfl (pc0 := 184) (pc' := 198) rfl (hb hby at_184) rfl (XT.ii_ne_t c184_89) (by decide) (by decide) ?_
          refine XT.iconstV X34.here hx rfl (0 : Int32) (hb hby at_198) rfl ?_
          exact k)
      have pre95 : ∀ t, Steps p.tables e below (T34.setTop (mkF m 203 #[.val (.int p0), .val (.int p1), .val (.int p2), .val (.int p3), .val (.int p4), .val (.int k0), .val (.int k1), .val (.int k2), .val (.ref r6), .val (.ref r9), .val (.ref r12), .val (.int an), .val (.ref a16), .val (.int (1 : Int32)), .val (.int (1 : Int32)), .val (.int (0 : Int32)), .val (.int (1 : Int32)), .val (.int v86), .val (.int v93), .unset, .unset, .unset, .unset, .unset] [(.int p3), (.int p1)])) t → Steps p.tables e below (s₁.setTop (entryFrame m #[(.int p0), (.int p1), (.int p2), (.int p3), (.int p4)] maxLocals)) t := fun t k => pre94 _ (by
        refine XS.istore X34.here hx rfl (hb hby at_199) rfl (l' := #[.val (.int p0), .val (.int p1), .val (.int p2), .val (.int p3), .val (.int p4), .val (.int k0), .val (.int k1), .val (.int k2), .val (.ref r6), .val (.ref r9), .val (.ref r12), .val (.int an), .val (.ref a16), .val (.int (1 : Int32)), .val (.int (1 : Int32)), .val (.int (0 : Int32)), .val (.int (1 : Int32)), .val (.int v86), .val (.int v93), .unset, .unset, .unset, .unset, .unset]) rfl ?_
        refine XS.iloadN X34.here hx rfl (hb hby at_201) rfl ?_
        refine XS.iloadN X34.here hx rfl (hb hby at_202) rfl ?_
        exact k)
      obtain ⟨v98, hv98⟩ : ∃ z : Int32, z = (if k0 = k2 then (1 : Int32) else (0 : Int32)) := ⟨_, rfl⟩
      obtain ⟨v100, hv100⟩ : ∃ z : Int32, z = (if p1 = p3 then v98 else (0 : Int32)) := ⟨_, rfl⟩
      have pre101 : ∀ t, Steps p.tables e below (T34.setTop (mkF m 218 #[.val (.int p0), .val (.int p1), .val (.int p2), .val (.int p3), .val (.int p4), .val (.int k0), .val (.int k1), .val (.int k2), .val (.ref r6), .val (.ref r9), .val (.ref r12), .val (.int an), .val (.ref a16), .val (.int (1 : Int32)), .val (.int (1 : Int32)), .val (.int (0 : Int32)), .val (.int (1 : Int32)), .val (.int v86), .val (.int v93), .unset, .unset, .unset, .unset, .unset] [(.int v100)])) t → Steps p.tables e below (s₁.setTop (entryFrame m #[(.int p0), (.int p1), (.int p2), (.int p3), (.int p4)] maxLocals)) t := fun t k => pre95 _ (by
        by_cases c203_96 : p1 = p3
        · rw [show v100 = _ from hv100.trans (if_pos c203_96)] at k
          refine XS.icmpNo X34.here hx rfl (hb hby at_203) rfl (XT.ii_ne_f c203_96) ?_
          refine XS.iload X34.here hx rfl (hb hby at_206) rfl ?_
          refine XS.iload X34.here hx rfl (hb hby at_208) rfl ?_
          have m99 : ∀ t, Steps p.tables e below (T34.setTop (mkF m 218 #[.val (.int p0), .val (.int p1), .val (.int p2), .val (.int p3), .val (.int p4), .val (.int k0), .val (.int k1), .val (.int k2), .val (.ref r6), .val (.ref r9), .val (.ref r12), .val (.int an), .val (.ref a16), .val (.int (1 : Int32)), .val (.int (1 : Int32)), .val (.int (0 : Int32)), .val (.int (1 : Int32)), .val (.int v86), .val (.int v93), .unset, .unset, .unset, .unset, .unset] [(.int v98)])) t → Steps p.tables e below (T34.setTop (mkF m 210 #[.val (.int p0), .val (.int p1), .val (.int p2), .val (.int p3), .val (.int p4), .val (.int k0), .val (.int k1), .val (.int k2), .val (.ref r6), .val (.ref r9), .val (.ref r12), .val (.int an), .val (.ref a16), .val (.int (1 : Int32)), .val (.int (1 : Int32)), .val (.int (0 : Int32)), .val (.int (1 : Int32)), .val (.int v86), .val (.int v93), .unset, .unset, .unset, .unset, .unset] [(.int k2), (.int k0)])) t := fun t k => by
            by_cases c210_97 : k0 = k2
            · rw [show v98 = _ from hv98.trans (if_pos c210_97)] at k
              refine XS.icmpNo X34.here hx rfl (hb hby at_210) rfl (XT.ii_ne_f c210_97) ?_
              refine XT.iconstV X34.here hx rfl (1 : Int32) (hb hby at_213) rfl ?_
              refine XS.goto X34.here hx rfl (pc0 := 214) (pc' := 218) rfl (hb hby at_214) (by decide) (by decide) ?_
              exact k
            · rw [show v98 = _ from hv98.trans (if_neg c210_97)] at k
              refine XS.icmpYes X34.here hx rfl (pc0 := 210) (pc' := 217) rfl (hb hby at_210) rfl (XT.ii_ne_t c210_97) (by decide) (by decide) ?_
              refine XT.iconstV X34.here hx rfl (0 : Int32) (hb hby at_217) rfl ?_
              exact k
          refine m99 _ ?_
          exact k
        · rw [show v100 = _ from hv100.trans (if_neg c203_96)] at k
          refine XS.icmpYes X34.here hx rfl (pc0 := 203) (pc' := 217) rfl (hb hby at_203) rfl (XT.ii_ne_t c203_96) (by decide) (by decide) ?_
          refine XT.iconstV X34.here hx rfl (0 : Int32) (hb hby at_217) rfl ?_
          exact k)
      have pre102 : ∀ t, Steps p.tables e below (T34.setTop (mkF m 225 #[.val (.int p0), .val (.int p1), .val (.int p2), .val (.int p3), .val (.int p4), .val (.int k0), .val (.int k1), .val (.int k2), .val (.ref r6), .val (.ref r9), .val (.ref r12), .val (.int an), .val (.ref a16), .val (.int (1 : Int32)), .val (.int (1 : Int32)), .val (.int (0 : Int32)), .val (.int (1 : Int32)), .val (.int v86), .val (.int v93), .val (.int v100), .val (.int (1 : Int32)), .unset, .unset, .unset] [(.int v86)])) t → Steps p.tables e below (s₁.setTop (entryFrame m #[(.int p0), (.int p1), (.int p2), (.int p3), (.int p4)] maxLocals)) t := fun t k => pre101 _ (by
        refine XS.istore X34.here hx rfl (hb hby at_218) rfl (l' := #[.val (.int p0), .val (.int p1), .val (.int p2), .val (.int p3), .val (.int p4), .val (.int k0), .val (.int k1), .val (.int k2), .val (.ref r6), .val (.ref r9), .val (.ref r12), .val (.int an), .val (.ref a16), .val (.int (1 : Int32)), .val (.int (1 : Int32)), .val (.int (0 : Int32)), .val (.int (1 : Int32)), .val (.int v86), .val (.int v93), .val (.int v100), .unset, .unset, .unset, .unset]) rfl ?_
        refine XT.iconstV X34.here hx rfl (1 : Int32) (hb hby at_220) rfl ?_
        refine XS.istore X34.here hx rfl (hb hby at_221) rfl (l' := #[.val (.int p0), .val (.int p1), .val (.int p2), .val (.int p3), .val (.int p4), .val (.int k0), .val (.int k1), .val (.int k2), .val (.ref r6), .val (.ref r9), .val (.ref r12), .val (.int an), .val (.ref a16), .val (.int (1 : Int32)), .val (.int (1 : Int32)), .val (.int (0 : Int32)), .val (.int (1 : Int32)), .val (.int v86), .val (.int v93), .val (.int v100), .val (.int (1 : Int32)), .unset, .unset, .unset]) rfl ?_
        refine XS.iload X34.here hx rfl (hb hby at_223) rfl ?_
        exact k)
      obtain ⟨v104, hv104⟩ : ∃ z : Int32, z = (if v86 = 0 then (1 : Int32) else (0 : Int32)) := ⟨_, rfl⟩
      have pre105 : ∀ t, Steps p.tables e below (T34.setTop (mkF m 233 #[.val (.int p0), .val (.int p1), .val (.int p2), .val (.int p3), .val (.int p4), .val (.int k0), .val (.int k1), .val (.int k2), .val (.ref r6), .val (.ref r9), .val (.ref r12), .val (.int an), .val (.ref a16), .val (.int (1 : Int32)), .val (.int (1 : Int32)), .val (.int (0 : Int32)), .val (.int (1 : Int32)), .val (.int v86), .val (.int v93), .val (.int v100), .val (.int (1 : Int32)), .unset, .unset, .unset] [(.int v104)])) t → Steps p.tables e below (s₁.setTop (entryFrame m #[(.int p0), (.int p1), (.int p2), (.int p3), (.int p4)] maxLocals)) t := fun t k => pre102 _ (by
        by_cases c225_103 : v86 = 0
        · rw [show v104 = _ from hv104.trans (if_pos c225_103)] at k
          refine XS.ifNo X34.here hx rfl (hb hby at_225) rfl (XT.i0_ne_f c225_103) ?_
          refine XT.iconstV X34.here hx rfl (1 : Int32) (hb hby at_228) rfl ?_
          refine XS.goto X34.here hx rfl (pc0 := 229) (pc' := 233) rfl (hb hby at_229) (by decide) (by decide) ?_
          exact k
        · rw [show v104 = _ from hv104.trans (if_neg c225_103)] at k
          refine XS.ifYes X34.here hx rfl (pc0 := 225) (pc' := 232) rfl (hb hby at_225) rfl (XT.i0_ne_t c225_103) (by decide) (by decide) ?_
          refine XT.iconstV X34.here hx rfl (0 : Int32) (hb hby at_232) rfl ?_
          exact k)
      have pre106 : ∀ t, Steps p.tables e below (T34.setTop (mkF m 237 #[.val (.int p0), .val (.int p1), .val (.int p2), .val (.int p3), .val (.int p4), .val (.int k0), .val (.int k1), .val (.int k2), .val (.ref r6), .val (.ref r9), .val (.ref r12), .val (.int an), .val (.ref a16), .val (.int (1 : Int32)), .val (.int (1 : Int32)), .val (.int (0 : Int32)), .val (.int (1 : Int32)), .val (.int v86), .val (.int v93), .val (.int v100), .val (.int (1 : Int32)), .val (.int v104), .unset, .unset] [(.int v93)])) t → Steps p.tables e below (s₁.setTop (entryFrame m #[(.int p0), (.int p1), (.int p2), (.int p3), (.int p4)] maxLocals)) t := fun t k => pre105 _ (by
        refine XS.istore X34.here hx rfl (hb hby at_233) rfl (l' := #[.val (.int p0), .val (.int p1), .val (.int p2), .val (.int p3), .val (.int p4), .val (.int k0), .val (.int k1), .val (.int k2), .val (.ref r6), .val (.ref r9), .val (.ref r12), .val (.int an), .val (.ref a16), .val (.int (1 : Int32)), .val (.int (1 : Int32)), .val (.int (0 : Int32)), .val (.int (1 : Int32)), .val (.int v86), .val (.int v93), .val (.int v100), .val (.int (1 : Int32)), .val (.int v104), .unset, .unset]) rfl ?_
        refine XS.iload X34.here hx rfl (hb hby at_235) rfl ?_
        exact k)
      obtain ⟨v109, hv109⟩ : ∃ z : Int32, z = (if v100 = 0 then (1 : Int32) else (0 : Int32)) := ⟨_, rfl⟩
      obtain ⟨v111, hv111⟩ : ∃ z : Int32, z = (if v93 = 0 then v109 else (0 : Int32)) := ⟨_, rfl⟩
      have pre112 : ∀ t, Steps p.tables e below (T34.setTop (mkF m 250 #[.val (.int p0), .val (.int p1), .val (.int p2), .val (.int p3), .val (.int p4), .val (.int k0), .val (.int k1), .val (.int k2), .val (.ref r6), .val (.ref r9), .val (.ref r12), .val (.int an), .val (.ref a16), .val (.int (1 : Int32)), .val (.int (1 : Int32)), .val (.int (0 : Int32)), .val (.int (1 : Int32)), .val (.int v86), .val (.int v93), .val (.int v100), .val (.int (1 : Int32)), .val (.int v104), .unset, .unset] [(.int v111)])) t → Steps p.tables e below (s₁.setTop (entryFrame m #[(.int p0), (.int p1), (.int p2), (.int p3), (.int p4)] maxLocals)) t := fun t k => pre106 _ (by
        by_cases c237_107 : v93 = 0
        · rw [show v111 = _ from hv111.trans (if_pos c237_107)] at k
          refine XS.ifNo X34.here hx rfl (hb hby at_237) rfl (XT.i0_ne_f c237_107) ?_
          refine XS.iload X34.here hx rfl (hb hby at_240) rfl ?_
          have m110 : ∀ t, Steps p.tables e below (T34.setTop (mkF m 250 #[.val (.int p0), .val (.int p1), .val (.int p2), .val (.int p3), .val (.int p4), .val (.int k0), .val (.int k1), .val (.int k2), .val (.ref r6), .val (.ref r9), .val (.ref r12), .val (.int an), .val (.ref a16), .val (.int (1 : Int32)), .val (.int (1 : Int32)), .val (.int (0 : Int32)), .val (.int (1 : Int32)), .val (.int v86), .val (.int v93), .val (.int v100), .val (.int (1 : Int32)), .val (.int v104), .unset, .unset] [(.int v109)])) t → Steps p.tables e below (T34.setTop (mkF m 242 #[.val (.int p0), .val (.int p1), .val (.int p2), .val (.int p3), .val (.int p4), .val (.int k0), .val (.int k1), .val (.int k2), .val (.ref r6), .val (.ref r9), .val (.ref r12), .val (.int an), .val (.ref a16), .val (.int (1 : Int32)), .val (.int (1 : Int32)), .val (.int (0 : Int32)), .val (.int (1 : Int32)), .val (.int v86), .val (.int v93), .val (.int v100), .val (.int (1 : Int32)), .val (.int v104), .unset, .unset] [(.int v100)])) t := fun t k => by
            by_cases c242_108 : v100 = 0
            · rw [show v109 = _ from hv109.trans (if_pos c242_108)] at k
              refine XS.ifNo X34.here hx rfl (hb hby at_242) rfl (XT.i0_ne_f c242_108) ?_
              refine XT.iconstV X34.here hx rfl (1 : Int32) (hb hby at_245) rfl ?_
              refine XS.goto X34.here hx rfl (pc0 := 246) (pc' := 250) rfl (hb hby at_246) (by decide) (by decide) ?_
              exact k
            · rw [show v109 = _ from hv109.trans (if_neg c242_108)] at k
              refine XS.ifYes X34.here hx rfl (pc0 := 242) (pc' := 249) rfl (hb hby at_242) rfl (XT.i0_ne_t c242_108) (by decide) (by decide) ?_
              refine XT.iconstV X34.here hx rfl (0 : Int32) (hb hby at_249) rfl ?_
              exact k
          refine m110 _ ?_
          exact k
        · rw [show v111 = _ from hv111.trans (if_neg c237_107)] at k
          refine XS.ifYes X34.here hx rfl (pc0 := 237) (pc' := 249) rfl (hb hby at_237) rfl (XT.i0_ne_t c237_107) (by decide) (by decide) ?_
          refine XT.iconstV X34.here hx rfl (0 : Int32) (hb hby at_249) rfl ?_
          exact k)
      have pre113 : ∀ t, Steps p.tables e below (T34.setTop (mkF m 255 #[.val (.int p0), .val (.int p1), .val (.int p2), .val (.int p3), .val (.int p4), .val (.int k0), .val (.int k1), .val (.int k2), .val (.ref r6), .val (.ref r9), .val (.ref r12), .val (.int an), .val (.ref a16), .val (.int (1 : Int32)), .val (.int (1 : Int32)), .val (.int (0 : Int32)), .val (.int (1 : Int32)), .val (.int v86), .val (.int v93), .val (.int v100), .val (.int (1 : Int32)), .val (.int v104), .val (.int v111), .unset] [(.int v104), (.int (1 : Int32))])) t → Steps p.tables e below (s₁.setTop (entryFrame m #[(.int p0), (.int p1), (.int p2), (.int p3), (.int p4)] maxLocals)) t := fun t k => pre112 _ (by
        refine XS.istore X34.here hx rfl (hb hby at_250) rfl (l' := #[.val (.int p0), .val (.int p1), .val (.int p2), .val (.int p3), .val (.int p4), .val (.int k0), .val (.int k1), .val (.int k2), .val (.ref r6), .val (.ref r9), .val (.ref r12), .val (.int an), .val (.ref a16), .val (.int (1 : Int32)), .val (.int (1 : Int32)), .val (.int (0 : Int32)), .val (.int (1 : Int32)), .val (.int v86), .val (.int v93), .val (.int v100), .val (.int (1 : Int32)), .val (.int v104), .val (.int v111), .unset]) rfl ?_
        refine XT.iconstV X34.here hx rfl (1 : Int32) (hb hby at_252) rfl ?_
        refine XS.iload X34.here hx rfl (hb hby at_253) rfl ?_
        exact k)
      obtain ⟨v115, hv115⟩ : ∃ z : Int32, z = (if v104 = 0 then (0 : Int32) else (1 : Int32)) := ⟨_, rfl⟩
      have pre116 : ∀ t, Steps p.tables e below (T34.setTop (mkF m 263 #[.val (.int p0), .val (.int p1), .val (.int p2), .val (.int p3), .val (.int p4), .val (.int k0), .val (.int k1), .val (.int k2), .val (.ref r6), .val (.ref r9), .val (.ref r12), .val (.int an), .val (.ref a16), .val (.int (1 : Int32)), .val (.int (1 : Int32)), .val (.int (0 : Int32)), .val (.int (1 : Int32)), .val (.int v86), .val (.int v93), .val (.int v100), .val (.int (1 : Int32)), .val (.int v104), .val (.int v111), .unset] [(.int v115), (.int (1 : Int32))])) t → Steps p.tables e below (s₁.setTop (entryFrame m #[(.int p0), (.int p1), (.int p2), (.int p3), (.int p4)] maxLocals)) t := fun t k => pre113 _ (by
        by_cases c255_114 : v104 = 0
        · rw [show v115 = _ from hv115.trans (if_pos c255_114)] at k
          refine XS.ifYes X34.here hx rfl (pc0 := 255) (pc' := 262) rfl (hb hby at_255) rfl (XT.i0_eq_t c255_114) (by decide) (by decide) ?_
          refine XT.iconstV X34.here hx rfl (0 : Int32) (hb hby at_262) rfl ?_
          exact k
        · rw [show v115 = _ from hv115.trans (if_neg c255_114)] at k
          refine XS.ifNo X34.here hx rfl (hb hby at_255) rfl (XT.i0_eq_f c255_114) ?_
          refine XT.iconstV X34.here hx rfl (1 : Int32) (hb hby at_258) rfl ?_
          refine XS.goto X34.here hx rfl (pc0 := 259) (pc' := 263) rfl (hb hby at_259) (by decide) (by decide) ?_
          exact k)
      have pre117 : ∀ t, Steps p.tables e below (T34.setTop (mkF m 266 #[.val (.int p0), .val (.int p1), .val (.int p2), .val (.int p3), .val (.int p4), .val (.int k0), .val (.int k1), .val (.int k2), .val (.ref r6), .val (.ref r9), .val (.ref r12), .val (.int an), .val (.ref a16), .val (.int (1 : Int32)), .val (.int (1 : Int32)), .val (.int (0 : Int32)), .val (.int (1 : Int32)), .val (.int v86), .val (.int v93), .val (.int v100), .val (.int (1 : Int32)), .val (.int v104), .val (.int v111), .unset] [(.int v111), (.int ((1 : Int32) + v115))])) t → Steps p.tables e below (s₁.setTop (entryFrame m #[(.int p0), (.int p1), (.int p2), (.int p3), (.int p4)] maxLocals)) t := fun t k => pre116 _ (by
        refine XS.iadd X34.here hx rfl (hb hby at_263) rfl ?_
        refine XS.iload X34.here hx rfl (hb hby at_264) rfl ?_
        exact k)
      obtain ⟨v119, hv119⟩ : ∃ z : Int32, z = (if v111 = 0 then (0 : Int32) else (1 : Int32)) := ⟨_, rfl⟩
      have pre120 : ∀ t, Steps p.tables e below (T34.setTop (mkF m 274 #[.val (.int p0), .val (.int p1), .val (.int p2), .val (.int p3), .val (.int p4), .val (.int k0), .val (.int k1), .val (.int k2), .val (.ref r6), .val (.ref r9), .val (.ref r12), .val (.int an), .val (.ref a16), .val (.int (1 : Int32)), .val (.int (1 : Int32)), .val (.int (0 : Int32)), .val (.int (1 : Int32)), .val (.int v86), .val (.int v93), .val (.int v100), .val (.int (1 : Int32)), .val (.int v104), .val (.int v111), .unset] [(.int v119), (.int ((1 : Int32) + v115))])) t → Steps p.tables e below (s₁.setTop (entryFrame m #[(.int p0), (.int p1), (.int p2), (.int p3), (.int p4)] maxLocals)) t := fun t k => pre117 _ (by
        by_cases c266_118 : v111 = 0
        · rw [show v119 = _ from hv119.trans (if_pos c266_118)] at k
          refine XS.ifYes X34.here hx rfl (pc0 := 266) (pc' := 273) rfl (hb hby at_266) rfl (XT.i0_eq_t c266_118) (by decide) (by decide) ?_
          refine XT.iconstV X34.here hx rfl (0 : Int32) (hb hby at_273) rfl ?_
          exact k
        · rw [show v119 = _ from hv119.trans (if_neg c266_118)] at k
          refine XS.ifNo X34.here hx rfl (hb hby at_266) rfl (XT.i0_eq_f c266_118) ?_
          refine XT.iconstV X34.here hx rfl (1 : Int32) (hb hby at_269) rfl ?_
          refine XS.goto X34.here hx rfl (pc0 := 270) (pc' := 274) rfl (hb hby at_270) (by decide) (by decide) ?_
          exact k)
      have e17 := own_e hv84 hv86
      have e18 := own_e hv91 hv93
      have e19 := own_e hv98 hv100
      have A12 :  (p2 = p3 ∧ k1 = k2) := ⟨fd31.1, (own_bx_inj u1 z1 u2 z2).mp fd31.2⟩
      have A02 : ¬ (p1 = p3 ∧ k0 = k2) := fun q => fd34 ⟨q.1, by rw [q.2]⟩
      have A : ¬ ((p1 = p2 ∧ k0 = k1) ∨ (p1 = p3 ∧ k0 = k2)) := fun q => A02 (q.elim (fun q => ⟨q.1.trans A12.1, q.2.trans A12.2⟩) id)
      have y21 : v104 = (0 : Int32) := by rw [hv104, e17]; rw [if_pos A12]; decide
      have y22 : v111 = (1 : Int32) := own_or e18 e19 hv109 hv111 (if_neg A).symm
      have pre121 : ∀ t, Steps p.tables e below (T34.setTop (mkF m 305 #[.val (.int p0), .val (.int p1), .val (.int p2), .val (.int p3), .val (.int p4), .val (.int k0), .val (.int k1), .val (.int k2), .val (.ref r6), .val (.ref r9), .val (.ref r12), .val (.int an), .val (.ref a16), .val (.int (1 : Int32)), .val (.int (1 : Int32)), .val (.int (0 : Int32)), .val (.int (1 : Int32)), .val (.int v86), .val (.int v93), .val (.int v100), .val (.int (1 : Int32)), .val (.int v104), .val (.int v111), .val (.int (((1 : Int32) + v115) + v119))] [(.ref a16)])) t → Steps p.tables e below (s₁.setTop (entryFrame m #[(.int p0), (.int p1), (.int p2), (.int p3), (.int p4)] maxLocals)) t := fun t k => pre120 _ (by
        refine XS.iadd X34.here hx rfl (hb hby at_274) rfl ?_
        refine XS.istore X34.here hx rfl (hb hby at_275) rfl (l' := #[.val (.int p0), .val (.int p1), .val (.int p2), .val (.int p3), .val (.int p4), .val (.int k0), .val (.int k1), .val (.int k2), .val (.ref r6), .val (.ref r9), .val (.ref r12), .val (.int an), .val (.ref a16), .val (.int (1 : Int32)), .val (.int (1 : Int32)), .val (.int (0 : Int32)), .val (.int (1 : Int32)), .val (.int v86), .val (.int v93), .val (.int v100), .val (.int (1 : Int32)), .val (.int v104), .val (.int v111), .val (.int (((1 : Int32) + v115) + v119))]) rfl ?_
        refine XS.iload X34.here hx rfl (hb hby at_277) rfl ?_
        refine XS.ifNo X34.here hx rfl (hb hby at_279) rfl (XT.i0_eq_f (by decide)) ?_
        refine XS.iload X34.here hx rfl (hb hby at_282) rfl ?_
        refine XS.iload X34.here hx rfl (hb hby at_284) rfl ?_
        refine XS.icmpNo X34.here hx rfl (hb hby at_286) rfl (XT.ii_ne_f (by decide)) ?_
        show Steps p.tables e below (T34.setTop (mkF m 289 #[.val (.int p0), .val (.int p1), .val (.int p2), .val (.int p3), .val (.int p4), .val (.int k0), .val (.int k1), .val (.int k2), .val (.ref r6), .val (.ref r9), .val (.ref r12), .val (.int an), .val (.ref a16), .val (.int (1 : Int32)), .val (.int (1 : Int32)), .val (.int (0 : Int32)), .val (.int (1 : Int32)), .val (.int v86), .val (.int v93), .val (.int v100), .val (.int (1 : Int32)), .val (.int v104), .val (.int v111), .val (.int (((1 : Int32) + v115) + v119))] [])) _
        refine XS.iload X34.here hx rfl (hb hby at_289) rfl ?_
        refine XS.iload X34.here hx rfl (hb hby at_291) rfl ?_
        refine XS.icmpNo X34.here hx rfl (hb hby at_293) rfl (XT.ii_ne_f y21.symm) ?_
        refine XS.iload X34.here hx rfl (hb hby at_296) rfl ?_
        refine XS.iload X34.here hx rfl (hb hby at_298) rfl ?_
        refine XS.icmpNo X34.here hx rfl (hb hby at_300) rfl (XT.ii_ne_f y22.symm) ?_
        refine XS.aload X34.here hx rfl (hb hby at_303) rfl rfl ?_
        exact k)
      obtain ⟨cq122, kq122, q122a, q122b, q122c⟩ := isOf hZ e34 HS34.1
      obtain ⟨_, _, ⟨T122, L122, k122, n122⟩, -, X122, ⟨Lc122, hQ122, l122, y122, z122⟩, st122⟩ := X34.virtualBack hx (y := (⟨"com/example/erma/erma/analysis/DistinctSteps", "size", "()I"⟩ : MethodName)) (z := (⟨"com/example/erma/erma/analysis/DistinctSteps", "size", "()I"⟩ : MethodName)) hown (mvT hZ (hw _ (List.mem_of_getElem? (i := 51) rfl))) (mvT hZ (hw _ (List.mem_of_getElem? (i := 52) rfl))) (notFace_of_selects (args := #[]) (mvT hZ (hw _ (List.mem_of_getElem? (i := 54) rfl)))) (mvT hZ (hw _ (List.mem_of_getElem? (i := 54) rfl))) (mvT hZ (hw _ (List.mem_of_getElem? (i := 53) rfl))) (by decide) (backOf (W := 0) (own_size l Z a0 hw [] a16 (2 : Int32) h34 n0 Z34 HS34.2.2.2.2.2.1) hZ (hw _ (List.mem_of_getElem? (i := 55) rfl)) (hw _ (List.mem_of_getElem? (i := 28) rfl)) (by decide) (by decide)) q122a q122c (g := (mkF m 305 #[.val (.int p0), .val (.int p1), .val (.int p2), .val (.int p3), .val (.int p4), .val (.int k0), .val (.int k1), .val (.int k2), .val (.ref r6), .val (.ref r9), .val (.ref r12), .val (.int an), .val (.ref a16), .val (.int (1 : Int32)), .val (.int (1 : Int32)), .val (.int (0 : Int32)), .val (.int (1 : Int32)), .val (.int v86), .val (.int v93), .val (.int v100), .val (.int (1 : Int32)), .val (.int v104), .val (.int v111), .val (.int (((1 : Int32) + v115) + v119))] [(.ref a16)])) rfl (by rw [hml]; rfl) (Steps.refl _) (argsL := []) (rest := []) (lenOf own_pd___I rfl) rfl (by show 2 * 0 + _ ≤ _; exact Nat.le_of_eq rfl) (hb hby at_305) (fun _ _ => ⟨rfl, e34, (by decide : 11 + 0 ≤ _), (by decide : 60 + 0 ≤ _)⟩)
      dsimp only [Pt.U, Pt.locs, Pt.cells, Pt.slots] at X122 l122 y122 z122 st122 hQ122
      subst l122 y122 z122
      obtain ⟨rfl, N122q, e122⟩ := hQ122
      have N122 := Fr.app N34 N122q
      have pre123 : ∀ t, Steps p.tables e below (T122.setTop (mkF m 308 #[.val (.int p0), .val (.int p1), .val (.int p2), .val (.int p3), .val (.int p4), .val (.int k0), .val (.int k1), .val (.int k2), .val (.ref r6), .val (.ref r9), .val (.ref r12), .val (.int an), .val (.ref a16), .val (.int (1 : Int32)), .val (.int (1 : Int32)), .val (.int (0 : Int32)), .val (.int (1 : Int32)), .val (.int v86), .val (.int v93), .val (.int v100), .val (.int (1 : Int32)), .val (.int v104), .val (.int v111), .val (.int (((1 : Int32) + v115) + v119))] [(.int (2 : Int32))])) t → Steps p.tables e below (s₁.setTop (entryFrame m #[(.int p0), (.int p1), (.int p2), (.int p3), (.int p4)] maxLocals)) t := fun t k => pre121 _ (st122.trans k)
      have pre124 : ∀ t, Steps p.tables e below (T122.setTop (mkF m 318 #[.val (.int p0), .val (.int p1), .val (.int p2), .val (.int p3), .val (.int p4), .val (.int k0), .val (.int k1), .val (.int k2), .val (.ref r6), .val (.ref r9), .val (.ref r12), .val (.int an), .val (.ref a16), .val (.int (1 : Int32)), .val (.int (1 : Int32)), .val (.int (0 : Int32)), .val (.int (1 : Int32)), .val (.int v86), .val (.int v93), .val (.int v100), .val (.int (1 : Int32)), .val (.int v104), .val (.int v111), .val (.int (((1 : Int32) + v115) + v119))] [(.int (1 : Int32))])) t → Steps p.tables e below (s₁.setTop (entryFrame m #[(.int p0), (.int p1), (.int p2), (.int p3), (.int p4)] maxLocals)) t := fun t k => pre123 _ (by
        refine XS.iload X122.here hx rfl (hb hby at_308) rfl ?_
        refine XS.icmpNo X122.here hx rfl (hb hby at_310) rfl (XT.ii_ne_f (by rw [hv115, hv119, y21, y22]; decide)) ?_
        refine XT.iconstV X122.here hx rfl (1 : Int32) (hb hby at_313) rfl ?_
        refine XS.goto X122.here hx rfl (pc0 := 314) (pc' := 318) rfl (hb hby at_314) (by decide) (by decide) ?_
        exact k)
      obtain ⟨fs, hr, hrun, hended, hW, hsame⟩ := X122.leave (v := some (.int (1 : Int32))) (fun h => by rw [Bd.returns] at h; cases h)
      refine ⟨_, _, pre124 _ ?_, hrun, hended, _, _, rfl, ?_, ⟨_, rfl⟩, hW, hsame.mono (by decide) (by decide)⟩
      · show Steps p.tables e below (T122.setTop (mkF m 318 #[.val (.int p0), .val (.int p1), .val (.int p2), .val (.int p3), .val (.int p4), .val (.int k0), .val (.int k1), .val (.int k2), .val (.ref r6), .val (.ref r9), .val (.ref r12), .val (.int an), .val (.ref a16), .val (.int (1 : Int32)), .val (.int (1 : Int32)), .val (.int (0 : Int32)), .val (.int (1 : Int32)), .val (.int v86), .val (.int v93), .val (.int v100), .val (.int (1 : Int32)), .val (.int v104), .val (.int v111), .val (.int (((1 : Int32) + v115) + v119))] [(.int (1 : Int32))])) _
        exact retN X122 hx (t := .boolean) Bd.returns (by simp) (hb hby at_318) hr
      · show Q_own_law Z p0 p1 p2 p3 p4 cs h0 n0 _ T122.heap _
        rw [e122]
        exact ⟨rfl, N122⟩
  · have Z31 : n0 ≤ h31.size := Nat.le_trans Z28 K31.1
    have N31 := Fr.app N28 N31q
    have pre125 : ∀ t, Steps p.tables e below (T31.setTop (mkF m 151 #[.val (.int p0), .val (.int p1), .val (.int p2), .val (.int p3), .val (.int p4), .val (.int k0), .val (.int k1), .val (.int k2), .val (.ref r6), .val (.ref r9), .val (.ref r12), .val (.int an), .val (.ref a16), .val (.int (1 : Int32)), .val (.int (1 : Int32)), .unset, .unset, .unset, .unset, .unset, .unset, .unset, .unset, .unset] [(.int (1 : Int32))])) t → Steps p.tables e below (s₁.setTop (entryFrame m #[(.int p0), (.int p1), (.int p2), (.int p3), (.int p4)] maxLocals)) t := fun t k => pre30 _ (st31.trans k)
    have pre126 : ∀ t, Steps p.tables e below (T31.setTop (mkF m 158 #[.val (.int p0), .val (.int p1), .val (.int p2), .val (.int p3), .val (.int p4), .val (.int k0), .val (.int k1), .val (.int k2), .val (.ref r6), .val (.ref r9), .val (.ref r12), .val (.int an), .val (.ref a16), .val (.int (1 : Int32)), .val (.int (1 : Int32)), .val (.int (1 : Int32)), .unset, .unset, .unset, .unset, .unset, .unset, .unset, .unset] [(.int p1), (.ref r6), (.ref a16)])) t → Steps p.tables e below (s₁.setTop (entryFrame m #[(.int p0), (.int p1), (.int p2), (.int p3), (.int p4)] maxLocals)) t := fun t k => pre125 _ (by
      refine XS.istore X31.here hx rfl (hb hby at_151) rfl (l' := #[.val (.int p0), .val (.int p1), .val (.int p2), .val (.int p3), .val (.int p4), .val (.int k0), .val (.int k1), .val (.int k2), .val (.ref r6), .val (.ref r9), .val (.ref r12), .val (.int an), .val (.ref a16), .val (.int (1 : Int32)), .val (.int (1 : Int32)), .val (.int (1 : Int32)), .unset, .unset, .unset, .unset, .unset, .unset, .unset, .unset]) rfl ?_
      refine XS.aload X31.here hx rfl (hb hby at_153) rfl rfl ?_
      refine XS.aload X31.here hx rfl (hb hby at_155) rfl rfl ?_
      refine XS.iloadN X31.here hx rfl (hb hby at_157) rfl ?_
      exact k)
    obtain ⟨cq127, kq127, q127a, q127b, q127c⟩ := isOf hZ e31 HS31.1
    obtain ⟨_, _, ⟨T127, L127, k127, n127⟩, -, X127, ⟨Lc127, hQ127, l127, y127, z127⟩, st127⟩ := X31.virtualBack hx (y := (⟨"com/example/erma/erma/analysis/DistinctSteps", "add", "(Ljava/lang/String;I)Z"⟩ : MethodName)) (z := (⟨"com/example/erma/erma/analysis/DistinctSteps", "add", "(Ljava/lang/String;I)Z"⟩ : MethodName)) hown (mvT hZ (hw _ (List.mem_of_getElem? (i := 56) rfl))) (mvT hZ (hw _ (List.mem_of_getElem? (i := 57) rfl))) (notFace_of_selects (args := #[]) (mvT hZ (hw _ (List.mem_of_getElem? (i := 59) rfl)))) (mvT hZ (hw _ (List.mem_of_getElem? (i := 59) rfl))) (mvT hZ (hw _ (List.mem_of_getElem? (i := 58) rfl))) (by decide) (backOf (W := 0) (own_add2 l Z a0 hw [] a16 r6 p1 sa ta la oa ka kb kc kd Sg31 Tg31 Og31 Lg31 (own_bx k0) cs p3 (own_bx k2) p2 (own_bx k1) h31 n0 Z31 HS31 HI31 (((GC.keep KP gall).keep K28 HP.ge).keep K31 HS28.ge).sta hcs (((G0.keep KP gall).keep K28 HP.ge).keep K31 HS28.ge)) hZ (hw _ (List.mem_of_getElem? (i := 60) rfl)) (hw _ (List.mem_of_getElem? (i := 28) rfl)) (by decide) (by decide)) q127a q127c (g := (mkF m 158 #[.val (.int p0), .val (.int p1), .val (.int p2), .val (.int p3), .val (.int p4), .val (.int k0), .val (.int k1), .val (.int k2), .val (.ref r6), .val (.ref r9), .val (.ref r12), .val (.int an), .val (.ref a16), .val (.int (1 : Int32)), .val (.int (1 : Int32)), .val (.int (1 : Int32)), .unset, .unset, .unset, .unset, .unset, .unset, .unset, .unset] [(.int p1), (.ref r6), (.ref a16)])) rfl (by rw [hml]; rfl) (Steps.refl _) (argsL := [(.ref r6), (.int p1)]) (rest := []) (lenOf own_pd__Ljava_lang_String_I_Z rfl) rfl (by show 2 * 0 + _ ≤ _; exact Nat.le_of_eq rfl) (hb hby at_158) (fun _ _ => ⟨rfl, e31, (by decide : 11 + 0 ≤ _), (by decide : 60 + 0 ≤ _)⟩)
    dsimp only [Pt.U, Pt.locs, Pt.cells, Pt.slots] at X127 l127 y127 z127 st127 hQ127
    subst l127 y127 z127
    obtain ⟨h127, e127⟩ : ∃ z, T127.heap = z := ⟨_, rfl⟩
    rw [e127] at hQ127
    rcases hQ127 with ⟨fd127, rfl, N127q, eh127⟩ | ⟨fd127, rfl, N127q, K127, Sg127, Tg127, Og127, Lg127, HS127, HI127⟩
    · rw [eh127] at e127
      have N127 := Fr.app N31 N127q
      have pre128 : ∀ t, Steps p.tables e below (T127.setTop (mkF m 161 #[.val (.int p0), .val (.int p1), .val (.int p2), .val (.int p3), .val (.int p4), .val (.int k0), .val (.int k1), .val (.int k2), .val (.ref r6), .val (.ref r9), .val (.ref r12), .val (.int an), .val (.ref a16), .val (.int (1 : Int32)), .val (.int (1 : Int32)), .val (.int (1 : Int32)), .unset, .unset, .unset, .unset, .unset, .unset, .unset, .unset] [(.int (0 : Int32))])) t → Steps p.tables e below (s₁.setTop (entryFrame m #[(.int p0), (.int p1), (.int p2), (.int p3), (.int p4)] maxLocals)) t := fun t k => pre126 _ (st127.trans k)
      have pre129 : ∀ t, Steps p.tables e below (T127.setTop (mkF m 165 #[.val (.int p0), .val (.int p1), .val (.int p2), .val (.int p3), .val (.int p4), .val (.int k0), .val (.int k1), .val (.int k2), .val (.ref r6), .val (.ref r9), .val (.ref r12), .val (.int an), .val (.ref a16), .val (.int (1 : Int32)), .val (.int (1 : Int32)), .val (.int (1 : Int32)), .val (.int (0 : Int32)), .unset, .unset, .unset, .unset, .unset, .unset, .unset] [(.int p3), (.int p2)])) t → Steps p.tables e below (s₁.setTop (entryFrame m #[(.int p0), (.int p1), (.int p2), (.int p3), (.int p4)] maxLocals)) t := fun t k => pre128 _ (by
        refine XS.istore X127.here hx rfl (hb hby at_161) rfl (l' := #[.val (.int p0), .val (.int p1), .val (.int p2), .val (.int p3), .val (.int p4), .val (.int k0), .val (.int k1), .val (.int k2), .val (.ref r6), .val (.ref r9), .val (.ref r12), .val (.int an), .val (.ref a16), .val (.int (1 : Int32)), .val (.int (1 : Int32)), .val (.int (1 : Int32)), .val (.int (0 : Int32)), .unset, .unset, .unset, .unset, .unset, .unset, .unset]) rfl ?_
        refine XS.iloadN X127.here hx rfl (hb hby at_163) rfl ?_
        refine XS.iloadN X127.here hx rfl (hb hby at_164) rfl ?_
        exact k)
      obtain ⟨v132, hv132⟩ : ∃ z : Int32, z = (if k1 = k2 then (1 : Int32) else (0 : Int32)) := ⟨_, rfl⟩
      obtain ⟨v134, hv134⟩ : ∃ z : Int32, z = (if p2 = p3 then v132 else (0 : Int32)) := ⟨_, rfl⟩
      have pre135 : ∀ t, Steps p.tables e below (T127.setTop (mkF m 180 #[.val (.int p0), .val (.int p1), .val (.int p2), .val (.int p3), .val (.int p4), .val (.int k0), .val (.int k1), .val (.int k2), .val (.ref r6), .val (.ref r9), .val (.ref r12), .val (.int an), .val (.ref a16), .val (.int (1 : Int32)), .val (.int (1 : Int32)), .val (.int (1 : Int32)), .val (.int (0 : Int32)), .unset, .unset, .unset, .unset, .unset, .unset, .unset] [(.int v134)])) t → Steps p.tables e below (s₁.setTop (entryFrame m #[(.int p0), (.int p1), (.int p2), (.int p3), (.int p4)] maxLocals)) t := fun t k => pre129 _ (by
        by_cases c165_130 : p2 = p3
        · rw [show v134 = _ from hv134.trans (if_pos c165_130)] at k
          refine XS.icmpNo X127.here hx rfl (hb hby at_165) rfl (XT.ii_ne_f c165_130) ?_
          refine XS.iload X127.here hx rfl (hb hby at_168) rfl ?_
          refine XS.iload X127.here hx rfl (hb hby at_170) rfl ?_
          have m133 : ∀ t, Steps p.tables e below (T127.setTop (mkF m 180 #[.val (.int p0), .val (.int p1), .val (.int p2), .val (.int p3), .val (.int p4), .val (.int k0), .val (.int k1), .val (.int k2), .val (.ref r6), .val (.ref r9), .val (.ref r12), .val (.int an), .val (.ref a16), .val (.int (1 : Int32)), .val (.int (1 : Int32)), .val (.int (1 : Int32)), .val (.int (0 : Int32)), .unset, .unset, .unset, .unset, .unset, .unset, .unset] [(.int v132)])) t → Steps p.tables e below (T127.setTop (mkF m 172 #[.val (.int p0), .val (.int p1), .val (.int p2), .val (.int p3), .val (.int p4), .val (.int k0), .val (.int k1), .val (.int k2), .val (.ref r6), .val (.ref r9), .val (.ref r12), .val (.int an), .val (.ref a16), .val (.int (1 : Int32)), .val (.int (1 : Int32)), .val (.int (1 : Int32)), .val (.int (0 : Int32)), .unset, .unset, .unset, .unset, .unset, .unset, .unset] [(.int k2), (.int k1)])) t := fun t k => by
            by_cases c172_131 : k1 = k2
            · rw [show v132 = _ from hv132.trans (if_pos c172_131)] at k
              refine XS.icmpNo X127.here hx rfl (hb hby at_172) rfl (XT.ii_ne_f c172_131) ?_
              refine XT.iconstV X127.here hx rfl (1 : Int32) (hb hby at_175) rfl ?_
              refine XS.goto X127.here hx rfl (pc0 := 176) (pc' := 180) rfl (hb hby at_176) (by decide) (by decide) ?_
              exact k
            · rw [show v132 = _ from hv132.trans (if_neg c172_131)] at k
              refine XS.icmpYes X127.here hx rfl (pc0 := 172) (pc' := 179) rfl (hb hby at_172) rfl (XT.ii_ne_t c172_131) (by decide) (by decide) ?_
              refine XT.iconstV X127.here hx rfl (0 : Int32) (hb hby at_179) rfl ?_
              exact k
          refine m133 _ ?_
          exact k
        · rw [show v134 = _ from hv134.trans (if_neg c165_130)] at k
          refine XS.icmpYes X127.here hx rfl (pc0 := 165) (pc' := 179) rfl (hb hby at_165) rfl (XT.ii_ne_t c165_130) (by decide) (by decide) ?_
          refine XT.iconstV X127.here hx rfl (0 : Int32) (hb hby at_179) rfl ?_
          exact k)
      have pre136 : ∀ t, Steps p.tables e below (T127.setTop (mkF m 184 #[.val (.int p0), .val (.int p1), .val (.int p2), .val (.int p3), .val (.int p4), .val (.int k0), .val (.int k1), .val (.int k2), .val (.ref r6), .val (.ref r9), .val (.ref r12), .val (.int an), .val (.ref a16), .val (.int (1 : Int32)), .val (.int (1 : Int32)), .val (.int (1 : Int32)), .val (.int (0 : Int32)), .val (.int v134), .unset, .unset, .unset, .unset, .unset, .unset] [(.int p2), (.int p1)])) t → Steps p.tables e below (s₁.setTop (entryFrame m #[(.int p0), (.int p1), (.int p2), (.int p3), (.int p4)] maxLocals)) t := fun t k => pre135 _ (by
        refine XS.istore X127.here hx rfl (hb hby at_180) rfl (l' := #[.val (.int p0), .val (.int p1), .val (.int p2), .val (.int p3), .val (.int p4), .val (.int k0), .val (.int k1), .val (.int k2), .val (.ref r6), .val (.ref r9), .val (.ref r12), .val (.int an), .val (.ref a16), .val (.int (1 : Int32)), .val (.int (1 : Int32)), .val (.int (1 : Int32)), .val (.int (0 : Int32)), .val (.int v134), .unset, .unset, .unset, .unset, .unset, .unset]) rfl ?_
        refine XS.iloadN X127.here hx rfl (hb hby at_182) rfl ?_
        refine XS.iloadN X127.here hx rfl (hb hby at_183) rfl ?_
        exact k)
      obtain ⟨v139, hv139⟩ : ∃ z : Int32, z = (if k0 = k1 then (1 : Int32) else (0 : Int32)) := ⟨_, rfl⟩
      obtain ⟨v141, hv141⟩ : ∃ z : Int32, z = (if p1 = p2 then v139 else (0 : Int32)) := ⟨_, rfl⟩
      have pre142 : ∀ t, Steps p.tables e below (T127.setTop (mkF m 199 #[.val (.int p0), .val (.int p1), .val (.int p2), .val (.int p3), .val (.int p4), .val (.int k0), .val (.int k1), .val (.int k2), .val (.ref r6), .val (.ref r9), .val (.ref r12), .val (.int an), .val (.ref a16), .val (.int (1 : Int32)), .val (.int (1 : Int32)), .val (.int (1 : Int32)), .val (.int (0 : Int32)), .val (.int v134), .unset, .unset, .unset, .unset, .unset, .unset] [(.int v141)])) t → Steps p.tables e below (s₁.setTop (entryFrame m #[(.int p0), (.int p1), (.int p2), (.int p3), (.int p4)] maxLocals)) t := fun t k => pre136 _ (by
        by_cases c184_137 : p1 = p2
        · rw [show v141 = _ from hv141.trans (if_pos c184_137)] at k
          refine XS.icmpNo X127.here hx rfl (hb hby at_184) rfl (XT.ii_ne_f c184_137) ?_
          refine XS.iload X127.here hx rfl (hb hby at_187) rfl ?_
          refine XS.iload X127.here hx rfl (hb hby at_189) rfl ?_
          have m140 : ∀ t, Steps p.tables e below (T127.setTop (mkF m 199 #[.val (.int p0), .val (.int p1), .val (.int p2), .val (.int p3), .val (.int p4), .val (.int k0), .val (.int k1), .val (.int k2), .val (.ref r6), .val (.ref r9), .val (.ref r12), .val (.int an), .val (.ref a16), .val (.int (1 : Int32)), .val (.int (1 : Int32)), .val (.int (1 : Int32)), .val (.int (0 : Int32)), .val (.int v134), .unset, .unset, .unset, .unset, .unset, .unset] [(.int v139)])) t → Steps p.tables e below (T127.setTop (mkF m 191 #[.val (.int p0), .val (.int p1), .val (.int p2), .val (.int p3), .val (.int p4), .val (.int k0), .val (.int k1), .val (.int k2), .val (.ref r6), .val (.ref r9), .val (.ref r12), .val (.int an), .val (.ref a16), .val (.int (1 : Int32)), .val (.int (1 : Int32)), .val (.int (1 : Int32)), .val (.int (0 : Int32)), .val (.int v134), .unset, .unset, .unset, .unset, .unset, .unset] [(.int k1), (.int k0)])) t := fun t k => by
            by_cases c191_138 : k0 = k1
            · rw [show v139 = _ from hv139.trans (if_pos c191_138)] at k
              refine XS.icmpNo X127.here hx rfl (hb hby at_191) rfl (XT.ii_ne_f c191_138) ?_
              refine XT.iconstV X127.here hx rfl (1 : Int32) (hb hby at_194) rfl ?_
              refine XS.goto X127.here hx rfl (pc0 := 195) (pc' := 199) rfl (hb hby at_195) (by decide) (by decide) ?_
              exact k
            · rw [show v139 = _ from hv139.trans (if_neg c191_138)] at k
              refine XS.icmpYes X127.here hx rfl (pc0 := 191) (pc' := 198) rfl (hb hby at_191) rfl (XT.ii_ne_t c191_138) (by decide) (by decide) ?_
              refine XT.iconstV X127.here hx rfl (0 : Int32) (hb hby at_198) rfl ?_
              exact k
          refine m140 _ ?_
          exact k
        · rw [show v141 = _ from hv141.trans (if_neg c184_137)] at k
          refine XS.icmpYes X127.here hx rfl (pc0 := 184) (pc' := 198) rfl (hb hby at_184) rfl (XT.ii_ne_t c184_137) (by decide) (by decide) ?_
          refine XT.iconstV X127.here hx rfl (0 : Int32) (hb hby at_198) rfl ?_
          exact k)
      have pre143 : ∀ t, Steps p.tables e below (T127.setTop (mkF m 203 #[.val (.int p0), .val (.int p1), .val (.int p2), .val (.int p3), .val (.int p4), .val (.int k0), .val (.int k1), .val (.int k2), .val (.ref r6), .val (.ref r9), .val (.ref r12), .val (.int an), .val (.ref a16), .val (.int (1 : Int32)), .val (.int (1 : Int32)), .val (.int (1 : Int32)), .val (.int (0 : Int32)), .val (.int v134), .val (.int v141), .unset, .unset, .unset, .unset, .unset] [(.int p3), (.int p1)])) t → Steps p.tables e below (s₁.setTop (entryFrame m #[(.int p0), (.int p1), (.int p2), (.int p3), (.int p4)] maxLocals)) t := fun t k => pre142 _ (by
        refine XS.istore X127.here hx rfl (hb hby at_199) rfl (l' := #[.val (.int p0), .val (.int p1), .val (.int p2), .val (.int p3), .val (.int p4), .val (.int k0), .val (.int k1), .val (.int k2), .val (.ref r6), .val (.ref r9), .val (.ref r12), .val (.int an), .val (.ref a16), .val (.int (1 : Int32)), .val (.int (1 : Int32)), .val (.int (1 : Int32)), .val (.int (0 : Int32)), .val (.int v134), .val (.int v141), .unset, .unset, .unset, .unset, .unset]) rfl ?_
        refine XS.iloadN X127.here hx rfl (hb hby at_201) rfl ?_
        refine XS.iloadN X127.here hx rfl (hb hby at_202) rfl ?_
        exact k)
      obtain ⟨v146, hv146⟩ : ∃ z : Int32, z = (if k0 = k2 then (1 : Int32) else (0 : Int32)) := ⟨_, rfl⟩
      obtain ⟨v148, hv148⟩ : ∃ z : Int32, z = (if p1 = p3 then v146 else (0 : Int32)) := ⟨_, rfl⟩
      have pre149 : ∀ t, Steps p.tables e below (T127.setTop (mkF m 218 #[.val (.int p0), .val (.int p1), .val (.int p2), .val (.int p3), .val (.int p4), .val (.int k0), .val (.int k1), .val (.int k2), .val (.ref r6), .val (.ref r9), .val (.ref r12), .val (.int an), .val (.ref a16), .val (.int (1 : Int32)), .val (.int (1 : Int32)), .val (.int (1 : Int32)), .val (.int (0 : Int32)), .val (.int v134), .val (.int v141), .unset, .unset, .unset, .unset, .unset] [(.int v148)])) t → Steps p.tables e below (s₁.setTop (entryFrame m #[(.int p0), (.int p1), (.int p2), (.int p3), (.int p4)] maxLocals)) t := fun t k => pre143 _ (by
        by_cases c203_144 : p1 = p3
        · rw [show v148 = _ from hv148.trans (if_pos c203_144)] at k
          refine XS.icmpNo X127.here hx rfl (hb hby at_203) rfl (XT.ii_ne_f c203_144) ?_
          refine XS.iload X127.here hx rfl (hb hby at_206) rfl ?_
          refine XS.iload X127.here hx rfl (hb hby at_208) rfl ?_
          have m147 : ∀ t, Steps p.tables e below (T127.setTop (mkF m 218 #[.val (.int p0), .val (.int p1), .val (.int p2), .val (.int p3), .val (.int p4), .val (.int k0), .val (.int k1), .val (.int k2), .val (.ref r6), .val (.ref r9), .val (.ref r12), .val (.int an), .val (.ref a16), .val (.int (1 : Int32)), .val (.int (1 : Int32)), .val (.int (1 : Int32)), .val (.int (0 : Int32)), .val (.int v134), .val (.int v141), .unset, .unset, .unset, .unset, .unset] [(.int v146)])) t → Steps p.tables e below (T127.setTop (mkF m 210 #[.val (.int p0), .val (.int p1), .val (.int p2), .val (.int p3), .val (.int p4), .val (.int k0), .val (.int k1), .val (.int k2), .val (.ref r6), .val (.ref r9), .val (.ref r12), .val (.int an), .val (.ref a16), .val (.int (1 : Int32)), .val (.int (1 : Int32)), .val (.int (1 : Int32)), .val (.int (0 : Int32)), .val (.int v134), .val (.int v141), .unset, .unset, .unset, .unset, .unset] [(.int k2), (.int k0)])) t := fun t k => by
            by_cases c210_145 : k0 = k2
            · rw [show v146 = _ from hv146.trans (if_pos c210_145)] at k
              refine XS.icmpNo X127.here hx rfl (hb hby at_210) rfl (XT.ii_ne_f c210_145) ?_
              refine XT.iconstV X127.here hx rfl (1 : Int32) (hb hby at_213) rfl ?_
              refine XS.goto X127.here hx rfl (pc0 := 214) (pc' := 218) rfl (hb hby at_214) (by decide) (by decide) ?_
              exact k
            · rw [show v146 = _ from hv146.trans (if_neg c210_145)] at k
              refine XS.icmpYes X127.here hx rfl (pc0 := 210) (pc' := 217) rfl (hb hby at_210) rfl (XT.ii_ne_t c210_145) (by decide) (by decide) ?_
              refine XT.iconstV X127.here hx rfl (0 : Int32) (hb hby at_217) rfl ?_
              exact k
          refine m147 _ ?_
          exact k
        · rw [show v148 = _ from hv148.trans (if_neg c203_144)] at k
          refine XS.icmpYes X127.here hx rfl (pc0 := 203) (pc' := 217) rfl (hb hby at_203) rfl (XT.ii_ne_t c203_144) (by decide) (by decide) ?_
          refine XT.iconstV X127.here hx rfl (0 : Int32) (hb hby at_217) rfl ?_
          exact k)
      have pre150 : ∀ t, Steps p.tables e below (T127.setTop (mkF m 225 #[.val (.int p0), .val (.int p1), .val (.int p2), .val (.int p3), .val (.int p4), .val (.int k0), .val (.int k1), .val (.int k2), .val (.ref r6), .val (.ref r9), .val (.ref r12), .val (.int an), .val (.ref a16), .val (.int (1 : Int32)), .val (.int (1 : Int32)), .val (.int (1 : Int32)), .val (.int (0 : Int32)), .val (.int v134), .val (.int v141), .val (.int v148), .val (.int (1 : Int32)), .unset, .unset, .unset] [(.int v134)])) t → Steps p.tables e below (s₁.setTop (entryFrame m #[(.int p0), (.int p1), (.int p2), (.int p3), (.int p4)] maxLocals)) t := fun t k => pre149 _ (by
        refine XS.istore X127.here hx rfl (hb hby at_218) rfl (l' := #[.val (.int p0), .val (.int p1), .val (.int p2), .val (.int p3), .val (.int p4), .val (.int k0), .val (.int k1), .val (.int k2), .val (.ref r6), .val (.ref r9), .val (.ref r12), .val (.int an), .val (.ref a16), .val (.int (1 : Int32)), .val (.int (1 : Int32)), .val (.int (1 : Int32)), .val (.int (0 : Int32)), .val (.int v134), .val (.int v141), .val (.int v148), .unset, .unset, .unset, .unset]) rfl ?_
        refine XT.iconstV X127.here hx rfl (1 : Int32) (hb hby at_220) rfl ?_
        refine XS.istore X127.here hx rfl (hb hby at_221) rfl (l' := #[.val (.int p0), .val (.int p1), .val (.int p2), .val (.int p3), .val (.int p4), .val (.int k0), .val (.int k1), .val (.int k2), .val (.ref r6), .val (.ref r9), .val (.ref r12), .val (.int an), .val (.ref a16), .val (.int (1 : Int32)), .val (.int (1 : Int32)), .val (.int (1 : Int32)), .val (.int (0 : Int32)), .val (.int v134), .val (.int v141), .val (.int v148), .val (.int (1 : Int32)), .unset, .unset, .unset]) rfl ?_
        refine XS.iload X127.here hx rfl (hb hby at_223) rfl ?_
        exact k)
      obtain ⟨v152, hv152⟩ : ∃ z : Int32, z = (if v134 = 0 then (1 : Int32) else (0 : Int32)) := ⟨_, rfl⟩
      have pre153 : ∀ t, Steps p.tables e below (T127.setTop (mkF m 233 #[.val (.int p0), .val (.int p1), .val (.int p2), .val (.int p3), .val (.int p4), .val (.int k0), .val (.int k1), .val (.int k2), .val (.ref r6), .val (.ref r9), .val (.ref r12), .val (.int an), .val (.ref a16), .val (.int (1 : Int32)), .val (.int (1 : Int32)), .val (.int (1 : Int32)), .val (.int (0 : Int32)), .val (.int v134), .val (.int v141), .val (.int v148), .val (.int (1 : Int32)), .unset, .unset, .unset] [(.int v152)])) t → Steps p.tables e below (s₁.setTop (entryFrame m #[(.int p0), (.int p1), (.int p2), (.int p3), (.int p4)] maxLocals)) t := fun t k => pre150 _ (by
        by_cases c225_151 : v134 = 0
        · rw [show v152 = _ from hv152.trans (if_pos c225_151)] at k
          refine XS.ifNo X127.here hx rfl (hb hby at_225) rfl (XT.i0_ne_f c225_151) ?_
          refine XT.iconstV X127.here hx rfl (1 : Int32) (hb hby at_228) rfl ?_
          refine XS.goto X127.here hx rfl (pc0 := 229) (pc' := 233) rfl (hb hby at_229) (by decide) (by decide) ?_
          exact k
        · rw [show v152 = _ from hv152.trans (if_neg c225_151)] at k
          refine XS.ifYes X127.here hx rfl (pc0 := 225) (pc' := 232) rfl (hb hby at_225) rfl (XT.i0_ne_t c225_151) (by decide) (by decide) ?_
          refine XT.iconstV X127.here hx rfl (0 : Int32) (hb hby at_232) rfl ?_
          exact k)
      have pre154 : ∀ t, Steps p.tables e below (T127.setTop (mkF m 237 #[.val (.int p0), .val (.int p1), .val (.int p2), .val (.int p3), .val (.int p4), .val (.int k0), .val (.int k1), .val (.int k2), .val (.ref r6), .val (.ref r9), .val (.ref r12), .val (.int an), .val (.ref a16), .val (.int (1 : Int32)), .val (.int (1 : Int32)), .val (.int (1 : Int32)), .val (.int (0 : Int32)), .val (.int v134), .val (.int v141), .val (.int v148), .val (.int (1 : Int32)), .val (.int v152), .unset, .unset] [(.int v141)])) t → Steps p.tables e below (s₁.setTop (entryFrame m #[(.int p0), (.int p1), (.int p2), (.int p3), (.int p4)] maxLocals)) t := fun t k => pre153 _ (by
        refine XS.istore X127.here hx rfl (hb hby at_233) rfl (l' := #[.val (.int p0), .val (.int p1), .val (.int p2), .val (.int p3), .val (.int p4), .val (.int k0), .val (.int k1), .val (.int k2), .val (.ref r6), .val (.ref r9), .val (.ref r12), .val (.int an), .val (.ref a16), .val (.int (1 : Int32)), .val (.int (1 : Int32)), .val (.int (1 : Int32)), .val (.int (0 : Int32)), .val (.int v134), .val (.int v141), .val (.int v148), .val (.int (1 : Int32)), .val (.int v152), .unset, .unset]) rfl ?_
        refine XS.iload X127.here hx rfl (hb hby at_235) rfl ?_
        exact k)
      obtain ⟨v157, hv157⟩ : ∃ z : Int32, z = (if v148 = 0 then (1 : Int32) else (0 : Int32)) := ⟨_, rfl⟩
      obtain ⟨v159, hv159⟩ : ∃ z : Int32, z = (if v141 = 0 then v157 else (0 : Int32)) := ⟨_, rfl⟩
      have pre160 : ∀ t, Steps p.tables e below (T127.setTop (mkF m 250 #[.val (.int p0), .val (.int p1), .val (.int p2), .val (.int p3), .val (.int p4), .val (.int k0), .val (.int k1), .val (.int k2), .val (.ref r6), .val (.ref r9), .val (.ref r12), .val (.int an), .val (.ref a16), .val (.int (1 : Int32)), .val (.int (1 : Int32)), .val (.int (1 : Int32)), .val (.int (0 : Int32)), .val (.int v134), .val (.int v141), .val (.int v148), .val (.int (1 : Int32)), .val (.int v152), .unset, .unset] [(.int v159)])) t → Steps p.tables e below (s₁.setTop (entryFrame m #[(.int p0), (.int p1), (.int p2), (.int p3), (.int p4)] maxLocals)) t := fun t k => pre154 _ (by
        by_cases c237_155 : v141 = 0
        · rw [show v159 = _ from hv159.trans (if_pos c237_155)] at k
          refine XS.ifNo X127.here hx rfl (hb hby at_237) rfl (XT.i0_ne_f c237_155) ?_
          refine XS.iload X127.here hx rfl (hb hby at_240) rfl ?_
          have m158 : ∀ t, Steps p.tables e below (T127.setTop (mkF m 250 #[.val (.int p0), .val (.int p1), .val (.int p2), .val (.int p3), .val (.int p4), .val (.int k0), .val (.int k1), .val (.int k2), .val (.ref r6), .val (.ref r9), .val (.ref r12), .val (.int an), .val (.ref a16), .val (.int (1 : Int32)), .val (.int (1 : Int32)), .val (.int (1 : Int32)), .val (.int (0 : Int32)), .val (.int v134), .val (.int v141), .val (.int v148), .val (.int (1 : Int32)), .val (.int v152), .unset, .unset] [(.int v157)])) t → Steps p.tables e below (T127.setTop (mkF m 242 #[.val (.int p0), .val (.int p1), .val (.int p2), .val (.int p3), .val (.int p4), .val (.int k0), .val (.int k1), .val (.int k2), .val (.ref r6), .val (.ref r9), .val (.ref r12), .val (.int an), .val (.ref a16), .val (.int (1 : Int32)), .val (.int (1 : Int32)), .val (.int (1 : Int32)), .val (.int (0 : Int32)), .val (.int v134), .val (.int v141), .val (.int v148), .val (.int (1 : Int32)), .val (.int v152), .unset, .unset] [(.int v148)])) t := fun t k => by
            by_cases c242_156 : v148 = 0
            · rw [show v157 = _ from hv157.trans (if_pos c242_156)] at k
              refine XS.ifNo X127.here hx rfl (hb hby at_242) rfl (XT.i0_ne_f c242_156) ?_
              refine XT.iconstV X127.here hx rfl (1 : Int32) (hb hby at_245) rfl ?_
              refine XS.goto X127.here hx rfl (pc0 := 246) (pc' := 250) rfl (hb hby at_246) (by decide) (by decide) ?_
              exact k
            · rw [show v157 = _ from hv157.trans (if_neg c242_156)] at k
              refine XS.ifYes X127.here hx rfl (pc0 := 242) (pc' := 249) rfl (hb hby at_242) rfl (XT.i0_ne_t c242_156) (by decide) (by decide) ?_
              refine XT.iconstV X127.here hx rfl (0 : Int32) (hb hby at_249) rfl ?_
              exact k
          refine m158 _ ?_
          exact k
        · rw [show v159 = _ from hv159.trans (if_neg c237_155)] at k
          refine XS.ifYes X127.here hx rfl (pc0 := 237) (pc' := 249) rfl (hb hby at_237) rfl (XT.i0_ne_t c237_155) (by decide) (by decide) ?_
          refine XT.iconstV X127.here hx rfl (0 : Int32) (hb hby at_249) rfl ?_
          exact k)
      have pre161 : ∀ t, Steps p.tables e below (T127.setTop (mkF m 255 #[.val (.int p0), .val (.int p1), .val (.int p2), .val (.int p3), .val (.int p4), .val (.int k0), .val (.int k1), .val (.int k2), .val (.ref r6), .val (.ref r9), .val (.ref r12), .val (.int an), .val (.ref a16), .val (.int (1 : Int32)), .val (.int (1 : Int32)), .val (.int (1 : Int32)), .val (.int (0 : Int32)), .val (.int v134), .val (.int v141), .val (.int v148), .val (.int (1 : Int32)), .val (.int v152), .val (.int v159), .unset] [(.int v152), (.int (1 : Int32))])) t → Steps p.tables e below (s₁.setTop (entryFrame m #[(.int p0), (.int p1), (.int p2), (.int p3), (.int p4)] maxLocals)) t := fun t k => pre160 _ (by
        refine XS.istore X127.here hx rfl (hb hby at_250) rfl (l' := #[.val (.int p0), .val (.int p1), .val (.int p2), .val (.int p3), .val (.int p4), .val (.int k0), .val (.int k1), .val (.int k2), .val (.ref r6), .val (.ref r9), .val (.ref r12), .val (.int an), .val (.ref a16), .val (.int (1 : Int32)), .val (.int (1 : Int32)), .val (.int (1 : Int32)), .val (.int (0 : Int32)), .val (.int v134), .val (.int v141), .val (.int v148), .val (.int (1 : Int32)), .val (.int v152), .val (.int v159), .unset]) rfl ?_
        refine XT.iconstV X127.here hx rfl (1 : Int32) (hb hby at_252) rfl ?_
        refine XS.iload X127.here hx rfl (hb hby at_253) rfl ?_
        exact k)
      obtain ⟨v163, hv163⟩ : ∃ z : Int32, z = (if v152 = 0 then (0 : Int32) else (1 : Int32)) := ⟨_, rfl⟩
      have pre164 : ∀ t, Steps p.tables e below (T127.setTop (mkF m 263 #[.val (.int p0), .val (.int p1), .val (.int p2), .val (.int p3), .val (.int p4), .val (.int k0), .val (.int k1), .val (.int k2), .val (.ref r6), .val (.ref r9), .val (.ref r12), .val (.int an), .val (.ref a16), .val (.int (1 : Int32)), .val (.int (1 : Int32)), .val (.int (1 : Int32)), .val (.int (0 : Int32)), .val (.int v134), .val (.int v141), .val (.int v148), .val (.int (1 : Int32)), .val (.int v152), .val (.int v159), .unset] [(.int v163), (.int (1 : Int32))])) t → Steps p.tables e below (s₁.setTop (entryFrame m #[(.int p0), (.int p1), (.int p2), (.int p3), (.int p4)] maxLocals)) t := fun t k => pre161 _ (by
        by_cases c255_162 : v152 = 0
        · rw [show v163 = _ from hv163.trans (if_pos c255_162)] at k
          refine XS.ifYes X127.here hx rfl (pc0 := 255) (pc' := 262) rfl (hb hby at_255) rfl (XT.i0_eq_t c255_162) (by decide) (by decide) ?_
          refine XT.iconstV X127.here hx rfl (0 : Int32) (hb hby at_262) rfl ?_
          exact k
        · rw [show v163 = _ from hv163.trans (if_neg c255_162)] at k
          refine XS.ifNo X127.here hx rfl (hb hby at_255) rfl (XT.i0_eq_f c255_162) ?_
          refine XT.iconstV X127.here hx rfl (1 : Int32) (hb hby at_258) rfl ?_
          refine XS.goto X127.here hx rfl (pc0 := 259) (pc' := 263) rfl (hb hby at_259) (by decide) (by decide) ?_
          exact k)
      have pre165 : ∀ t, Steps p.tables e below (T127.setTop (mkF m 266 #[.val (.int p0), .val (.int p1), .val (.int p2), .val (.int p3), .val (.int p4), .val (.int k0), .val (.int k1), .val (.int k2), .val (.ref r6), .val (.ref r9), .val (.ref r12), .val (.int an), .val (.ref a16), .val (.int (1 : Int32)), .val (.int (1 : Int32)), .val (.int (1 : Int32)), .val (.int (0 : Int32)), .val (.int v134), .val (.int v141), .val (.int v148), .val (.int (1 : Int32)), .val (.int v152), .val (.int v159), .unset] [(.int v159), (.int ((1 : Int32) + v163))])) t → Steps p.tables e below (s₁.setTop (entryFrame m #[(.int p0), (.int p1), (.int p2), (.int p3), (.int p4)] maxLocals)) t := fun t k => pre164 _ (by
        refine XS.iadd X127.here hx rfl (hb hby at_263) rfl ?_
        refine XS.iload X127.here hx rfl (hb hby at_264) rfl ?_
        exact k)
      obtain ⟨v167, hv167⟩ : ∃ z : Int32, z = (if v159 = 0 then (0 : Int32) else (1 : Int32)) := ⟨_, rfl⟩
      have pre168 : ∀ t, Steps p.tables e below (T127.setTop (mkF m 274 #[.val (.int p0), .val (.int p1), .val (.int p2), .val (.int p3), .val (.int p4), .val (.int k0), .val (.int k1), .val (.int k2), .val (.ref r6), .val (.ref r9), .val (.ref r12), .val (.int an), .val (.ref a16), .val (.int (1 : Int32)), .val (.int (1 : Int32)), .val (.int (1 : Int32)), .val (.int (0 : Int32)), .val (.int v134), .val (.int v141), .val (.int v148), .val (.int (1 : Int32)), .val (.int v152), .val (.int v159), .unset] [(.int v167), (.int ((1 : Int32) + v163))])) t → Steps p.tables e below (s₁.setTop (entryFrame m #[(.int p0), (.int p1), (.int p2), (.int p3), (.int p4)] maxLocals)) t := fun t k => pre165 _ (by
        by_cases c266_166 : v159 = 0
        · rw [show v167 = _ from hv167.trans (if_pos c266_166)] at k
          refine XS.ifYes X127.here hx rfl (pc0 := 266) (pc' := 273) rfl (hb hby at_266) rfl (XT.i0_eq_t c266_166) (by decide) (by decide) ?_
          refine XT.iconstV X127.here hx rfl (0 : Int32) (hb hby at_273) rfl ?_
          exact k
        · rw [show v167 = _ from hv167.trans (if_neg c266_166)] at k
          refine XS.ifNo X127.here hx rfl (hb hby at_266) rfl (XT.i0_eq_f c266_166) ?_
          refine XT.iconstV X127.here hx rfl (1 : Int32) (hb hby at_269) rfl ?_
          refine XS.goto X127.here hx rfl (pc0 := 270) (pc' := 274) rfl (hb hby at_270) (by decide) (by decide) ?_
          exact k)
      have e17 := own_e hv132 hv134
      have e18 := own_e hv139 hv141
      have e19 := own_e hv146 hv148
      have A12 : ¬ (p2 = p3 ∧ k1 = k2) := fun q => fd31 ⟨q.1, by rw [q.2]⟩
      have A :  ((p1 = p2 ∧ k0 = k1) ∨ (p1 = p3 ∧ k0 = k2)) := fd127.elim (fun q => Or.inr ⟨q.1, (own_bx_inj u0 z0 u2 z2).mp q.2⟩) (fun q => Or.inl ⟨q.1, (own_bx_inj u0 z0 u1 z1).mp q.2⟩)
      have y21 : v152 = (1 : Int32) := by rw [hv152, e17]; rw [if_neg A12]; decide
      have y22 : v159 = (0 : Int32) := own_or e18 e19 hv157 hv159 (if_pos A).symm
      have pre169 : ∀ t, Steps p.tables e below (T127.setTop (mkF m 305 #[.val (.int p0), .val (.int p1), .val (.int p2), .val (.int p3), .val (.int p4), .val (.int k0), .val (.int k1), .val (.int k2), .val (.ref r6), .val (.ref r9), .val (.ref r12), .val (.int an), .val (.ref a16), .val (.int (1 : Int32)), .val (.int (1 : Int32)), .val (.int (1 : Int32)), .val (.int (0 : Int32)), .val (.int v134), .val (.int v141), .val (.int v148), .val (.int (1 : Int32)), .val (.int v152), .val (.int v159), .val (.int (((1 : Int32) + v163) + v167))] [(.ref a16)])) t → Steps p.tables e below (s₁.setTop (entryFrame m #[(.int p0), (.int p1), (.int p2), (.int p3), (.int p4)] maxLocals)) t := fun t k => pre168 _ (by
        refine XS.iadd X127.here hx rfl (hb hby at_274) rfl ?_
        refine XS.istore X127.here hx rfl (hb hby at_275) rfl (l' := #[.val (.int p0), .val (.int p1), .val (.int p2), .val (.int p3), .val (.int p4), .val (.int k0), .val (.int k1), .val (.int k2), .val (.ref r6), .val (.ref r9), .val (.ref r12), .val (.int an), .val (.ref a16), .val (.int (1 : Int32)), .val (.int (1 : Int32)), .val (.int (1 : Int32)), .val (.int (0 : Int32)), .val (.int v134), .val (.int v141), .val (.int v148), .val (.int (1 : Int32)), .val (.int v152), .val (.int v159), .val (.int (((1 : Int32) + v163) + v167))]) rfl ?_
        refine XS.iload X127.here hx rfl (hb hby at_277) rfl ?_
        refine XS.ifNo X127.here hx rfl (hb hby at_279) rfl (XT.i0_eq_f (by decide)) ?_
        refine XS.iload X127.here hx rfl (hb hby at_282) rfl ?_
        refine XS.iload X127.here hx rfl (hb hby at_284) rfl ?_
        refine XS.icmpNo X127.here hx rfl (hb hby at_286) rfl (XT.ii_ne_f (by decide)) ?_
        show Steps p.tables e below (T127.setTop (mkF m 289 #[.val (.int p0), .val (.int p1), .val (.int p2), .val (.int p3), .val (.int p4), .val (.int k0), .val (.int k1), .val (.int k2), .val (.ref r6), .val (.ref r9), .val (.ref r12), .val (.int an), .val (.ref a16), .val (.int (1 : Int32)), .val (.int (1 : Int32)), .val (.int (1 : Int32)), .val (.int (0 : Int32)), .val (.int v134), .val (.int v141), .val (.int v148), .val (.int (1 : Int32)), .val (.int v152), .val (.int v159), .val (.int (((1 : Int32) + v163) + v167))] [])) _
        refine XS.iload X127.here hx rfl (hb hby at_289) rfl ?_
        refine XS.iload X127.here hx rfl (hb hby at_291) rfl ?_
        refine XS.icmpNo X127.here hx rfl (hb hby at_293) rfl (XT.ii_ne_f y21.symm) ?_
        refine XS.iload X127.here hx rfl (hb hby at_296) rfl ?_
        refine XS.iload X127.here hx rfl (hb hby at_298) rfl ?_
        refine XS.icmpNo X127.here hx rfl (hb hby at_300) rfl (XT.ii_ne_f y22.symm) ?_
        refine XS.aload X127.here hx rfl (hb hby at_303) rfl rfl ?_
        exact k)
      obtain ⟨cq170, kq170, q170a, q170b, q170c⟩ := isOf hZ e127 HS31.1
      obtain ⟨_, _, ⟨T170, L170, k170, n170⟩, -, X170, ⟨Lc170, hQ170, l170, y170, z170⟩, st170⟩ := X127.virtualBack hx (y := (⟨"com/example/erma/erma/analysis/DistinctSteps", "size", "()I"⟩ : MethodName)) (z := (⟨"com/example/erma/erma/analysis/DistinctSteps", "size", "()I"⟩ : MethodName)) hown (mvT hZ (hw _ (List.mem_of_getElem? (i := 51) rfl))) (mvT hZ (hw _ (List.mem_of_getElem? (i := 52) rfl))) (notFace_of_selects (args := #[]) (mvT hZ (hw _ (List.mem_of_getElem? (i := 54) rfl)))) (mvT hZ (hw _ (List.mem_of_getElem? (i := 54) rfl))) (mvT hZ (hw _ (List.mem_of_getElem? (i := 53) rfl))) (by decide) (backOf (W := 0) (own_size l Z a0 hw [] a16 (2 : Int32) h31 n0 Z31 HS31.2.2.2.2.2.1) hZ (hw _ (List.mem_of_getElem? (i := 55) rfl)) (hw _ (List.mem_of_getElem? (i := 28) rfl)) (by decide) (by decide)) q170a q170c (g := (mkF m 305 #[.val (.int p0), .val (.int p1), .val (.int p2), .val (.int p3), .val (.int p4), .val (.int k0), .val (.int k1), .val (.int k2), .val (.ref r6), .val (.ref r9), .val (.ref r12), .val (.int an), .val (.ref a16), .val (.int (1 : Int32)), .val (.int (1 : Int32)), .val (.int (1 : Int32)), .val (.int (0 : Int32)), .val (.int v134), .val (.int v141), .val (.int v148), .val (.int (1 : Int32)), .val (.int v152), .val (.int v159), .val (.int (((1 : Int32) + v163) + v167))] [(.ref a16)])) rfl (by rw [hml]; rfl) (Steps.refl _) (argsL := []) (rest := []) (lenOf own_pd___I rfl) rfl (by show 2 * 0 + _ ≤ _; exact Nat.le_of_eq rfl) (hb hby at_305) (fun _ _ => ⟨rfl, e127, (by decide : 11 + 0 ≤ _), (by decide : 60 + 0 ≤ _)⟩)
      dsimp only [Pt.U, Pt.locs, Pt.cells, Pt.slots] at X170 l170 y170 z170 st170 hQ170
      subst l170 y170 z170
      obtain ⟨rfl, N170q, e170⟩ := hQ170
      have N170 := Fr.app N127 N170q
      have pre171 : ∀ t, Steps p.tables e below (T170.setTop (mkF m 308 #[.val (.int p0), .val (.int p1), .val (.int p2), .val (.int p3), .val (.int p4), .val (.int k0), .val (.int k1), .val (.int k2), .val (.ref r6), .val (.ref r9), .val (.ref r12), .val (.int an), .val (.ref a16), .val (.int (1 : Int32)), .val (.int (1 : Int32)), .val (.int (1 : Int32)), .val (.int (0 : Int32)), .val (.int v134), .val (.int v141), .val (.int v148), .val (.int (1 : Int32)), .val (.int v152), .val (.int v159), .val (.int (((1 : Int32) + v163) + v167))] [(.int (2 : Int32))])) t → Steps p.tables e below (s₁.setTop (entryFrame m #[(.int p0), (.int p1), (.int p2), (.int p3), (.int p4)] maxLocals)) t := fun t k => pre169 _ (st170.trans k)
      have pre172 : ∀ t, Steps p.tables e below (T170.setTop (mkF m 318 #[.val (.int p0), .val (.int p1), .val (.int p2), .val (.int p3), .val (.int p4), .val (.int k0), .val (.int k1), .val (.int k2), .val (.ref r6), .val (.ref r9), .val (.ref r12), .val (.int an), .val (.ref a16), .val (.int (1 : Int32)), .val (.int (1 : Int32)), .val (.int (1 : Int32)), .val (.int (0 : Int32)), .val (.int v134), .val (.int v141), .val (.int v148), .val (.int (1 : Int32)), .val (.int v152), .val (.int v159), .val (.int (((1 : Int32) + v163) + v167))] [(.int (1 : Int32))])) t → Steps p.tables e below (s₁.setTop (entryFrame m #[(.int p0), (.int p1), (.int p2), (.int p3), (.int p4)] maxLocals)) t := fun t k => pre171 _ (by
        refine XS.iload X170.here hx rfl (hb hby at_308) rfl ?_
        refine XS.icmpNo X170.here hx rfl (hb hby at_310) rfl (XT.ii_ne_f (by rw [hv163, hv167, y21, y22]; decide)) ?_
        refine XT.iconstV X170.here hx rfl (1 : Int32) (hb hby at_313) rfl ?_
        refine XS.goto X170.here hx rfl (pc0 := 314) (pc' := 318) rfl (hb hby at_314) (by decide) (by decide) ?_
        exact k)
      obtain ⟨fs, hr, hrun, hended, hW, hsame⟩ := X170.leave (v := some (.int (1 : Int32))) (fun h => by rw [Bd.returns] at h; cases h)
      refine ⟨_, _, pre172 _ ?_, hrun, hended, _, _, rfl, ?_, ⟨_, rfl⟩, hW, hsame.mono (by decide) (by decide)⟩
      · show Steps p.tables e below (T170.setTop (mkF m 318 #[.val (.int p0), .val (.int p1), .val (.int p2), .val (.int p3), .val (.int p4), .val (.int k0), .val (.int k1), .val (.int k2), .val (.ref r6), .val (.ref r9), .val (.ref r12), .val (.int an), .val (.ref a16), .val (.int (1 : Int32)), .val (.int (1 : Int32)), .val (.int (1 : Int32)), .val (.int (0 : Int32)), .val (.int v134), .val (.int v141), .val (.int v148), .val (.int (1 : Int32)), .val (.int v152), .val (.int v159), .val (.int (((1 : Int32) + v163) + v167))] [(.int (1 : Int32))])) _
        exact retN X170 hx (t := .boolean) Bd.returns (by simp) (hb hby at_318) hr
      · show Q_own_law Z p0 p1 p2 p3 p4 cs h0 n0 _ T170.heap _
        rw [e170]
        exact ⟨rfl, N170⟩
    · have Z127 : n0 ≤ h127.size := Nat.le_trans Z31 K127.1
      have N127 := Fr.app N31 N127q
      have pre173 : ∀ t, Steps p.tables e below (T127.setTop (mkF m 161 #[.val (.int p0), .val (.int p1), .val (.int p2), .val (.int p3), .val (.int p4), .val (.int k0), .val (.int k1), .val (.int k2), .val (.ref r6), .val (.ref r9), .val (.ref r12), .val (.int an), .val (.ref a16), .val (.int (1 : Int32)), .val (.int (1 : Int32)), .val (.int (1 : Int32)), .unset, .unset, .unset, .unset, .unset, .unset, .unset, .unset] [(.int (1 : Int32))])) t → Steps p.tables e below (s₁.setTop (entryFrame m #[(.int p0), (.int p1), (.int p2), (.int p3), (.int p4)] maxLocals)) t := fun t k => pre126 _ (st127.trans k)
      have pre174 : ∀ t, Steps p.tables e below (T127.setTop (mkF m 165 #[.val (.int p0), .val (.int p1), .val (.int p2), .val (.int p3), .val (.int p4), .val (.int k0), .val (.int k1), .val (.int k2), .val (.ref r6), .val (.ref r9), .val (.ref r12), .val (.int an), .val (.ref a16), .val (.int (1 : Int32)), .val (.int (1 : Int32)), .val (.int (1 : Int32)), .val (.int (1 : Int32)), .unset, .unset, .unset, .unset, .unset, .unset, .unset] [(.int p3), (.int p2)])) t → Steps p.tables e below (s₁.setTop (entryFrame m #[(.int p0), (.int p1), (.int p2), (.int p3), (.int p4)] maxLocals)) t := fun t k => pre173 _ (by
        refine XS.istore X127.here hx rfl (hb hby at_161) rfl (l' := #[.val (.int p0), .val (.int p1), .val (.int p2), .val (.int p3), .val (.int p4), .val (.int k0), .val (.int k1), .val (.int k2), .val (.ref r6), .val (.ref r9), .val (.ref r12), .val (.int an), .val (.ref a16), .val (.int (1 : Int32)), .val (.int (1 : Int32)), .val (.int (1 : Int32)), .val (.int (1 : Int32)), .unset, .unset, .unset, .unset, .unset, .unset, .unset]) rfl ?_
        refine XS.iloadN X127.here hx rfl (hb hby at_163) rfl ?_
        refine XS.iloadN X127.here hx rfl (hb hby at_164) rfl ?_
        exact k)
      obtain ⟨v177, hv177⟩ : ∃ z : Int32, z = (if k1 = k2 then (1 : Int32) else (0 : Int32)) := ⟨_, rfl⟩
      obtain ⟨v179, hv179⟩ : ∃ z : Int32, z = (if p2 = p3 then v177 else (0 : Int32)) := ⟨_, rfl⟩
      have pre180 : ∀ t, Steps p.tables e below (T127.setTop (mkF m 180 #[.val (.int p0), .val (.int p1), .val (.int p2), .val (.int p3), .val (.int p4), .val (.int k0), .val (.int k1), .val (.int k2), .val (.ref r6), .val (.ref r9), .val (.ref r12), .val (.int an), .val (.ref a16), .val (.int (1 : Int32)), .val (.int (1 : Int32)), .val (.int (1 : Int32)), .val (.int (1 : Int32)), .unset, .unset, .unset, .unset, .unset, .unset, .unset] [(.int v179)])) t → Steps p.tables e below (s₁.setTop (entryFrame m #[(.int p0), (.int p1), (.int p2), (.int p3), (.int p4)] maxLocals)) t := fun t k => pre174 _ (by
        by_cases c165_175 : p2 = p3
        · rw [show v179 = _ from hv179.trans (if_pos c165_175)] at k
          refine XS.icmpNo X127.here hx rfl (hb hby at_165) rfl (XT.ii_ne_f c165_175) ?_
          refine XS.iload X127.here hx rfl (hb hby at_168) rfl ?_
          refine XS.iload X127.here hx rfl (hb hby at_170) rfl ?_
          have m178 : ∀ t, Steps p.tables e below (T127.setTop (mkF m 180 #[.val (.int p0), .val (.int p1), .val (.int p2), .val (.int p3), .val (.int p4), .val (.int k0), .val (.int k1), .val (.int k2), .val (.ref r6), .val (.ref r9), .val (.ref r12), .val (.int an), .val (.ref a16), .val (.int (1 : Int32)), .val (.int (1 : Int32)), .val (.int (1 : Int32)), .val (.int (1 : Int32)), .unset, .unset, .unset, .unset, .unset, .unset, .unset] [(.int v177)])) t → Steps p.tables e below (T127.setTop (mkF m 172 #[.val (.int p0), .val (.int p1), .val (.int p2), .val (.int p3), .val (.int p4), .val (.int k0), .val (.int k1), .val (.int k2), .val (.ref r6), .val (.ref r9), .val (.ref r12), .val (.int an), .val (.ref a16), .val (.int (1 : Int32)), .val (.int (1 : Int32)), .val (.int (1 : Int32)), .val (.int (1 : Int32)), .unset, .unset, .unset, .unset, .unset, .unset, .unset] [(.int k2), (.int k1)])) t := fun t k => by
            by_cases c172_176 : k1 = k2
            · rw [show v177 = _ from hv177.trans (if_pos c172_176)] at k
              refine XS.icmpNo X127.here hx rfl (hb hby at_172) rfl (XT.ii_ne_f c172_176) ?_
              refine XT.iconstV X127.here hx rfl (1 : Int32) (hb hby at_175) rfl ?_
              refine XS.goto X127.here hx rfl (pc0 := 176) (pc' := 180) rfl (hb hby at_176) (by decide) (by decide) ?_
              exact k
            · rw [show v177 = _ from hv177.trans (if_neg c172_176)] at k
              refine XS.icmpYes X127.here hx rfl (pc0 := 172) (pc' := 179) rfl (hb hby at_172) rfl (XT.ii_ne_t c172_176) (by decide) (by decide) ?_
              refine XT.iconstV X127.here hx rfl (0 : Int32) (hb hby at_179) rfl ?_
              exact k
          refine m178 _ ?_
          exact k
        · rw [show v179 = _ from hv179.trans (if_neg c165_175)] at k
          refine XS.icmpYes X127.here hx rfl (pc0 := 165) (pc' := 179) rfl (hb hby at_165) rfl (XT.ii_ne_t c165_175) (by decide) (by decide) ?_
          refine XT.iconstV X127.here hx rfl (0 : Int32) (hb hby at_179) rfl ?_
          exact k)
      have pre181 : ∀ t, Steps p.tables e below (T127.setTop (mkF m 184 #[.val (.int p0), .val (.int p1), .val (.int p2), .val (.int p3), .val (.int p4), .val (.int k0), .val (.int k1), .val (.int k2), .val (.ref r6), .val (.ref r9), .val (.ref r12), .val (.int an), .val (.ref a16), .val (.int (1 : Int32)), .val (.int (1 : Int32)), .val (.int (1 : Int32)), .val (.int (1 : Int32)), .val (.int v179), .unset, .unset, .unset, .unset, .unset, .unset] [(.int p2), (.int p1)])) t → Steps p.tables e below (s₁.setTop (entryFrame m #[(.int p0), (.int p1), (.int p2), (.int p3), (.int p4)] maxLocals)) t := fun t k => pre180 _ (by
        refine XS.istore X127.here hx rfl (hb hby at_180) rfl (l' := #[.val (.int p0), .val (.int p1), .val (.int p2), .val (.int p3), .val (.int p4), .val (.int k0), .val (.int k1), .val (.int k2), .val (.ref r6), .val (.ref r9), .val (.ref r12), .val (.int an), .val (.ref a16), .val (.int (1 : Int32)), .val (.int (1 : Int32)), .val (.int (1 : Int32)), .val (.int (1 : Int32)), .val (.int v179), .unset, .unset, .unset, .unset, .unset, .unset]) rfl ?_
        refine XS.iloadN X127.here hx rfl (hb hby at_182) rfl ?_
        refine XS.iloadN X127.here hx rfl (hb hby at_183) rfl ?_
        exact k)
      obtain ⟨v184, hv184⟩ : ∃ z : Int32, z = (if k0 = k1 then (1 : Int32) else (0 : Int32)) := ⟨_, rfl⟩
      obtain ⟨v186, hv186⟩ : ∃ z : Int32, z = (if p1 = p2 then v184 else (0 : Int32)) := ⟨_, rfl⟩
      have pre187 : ∀ t, Steps p.tables e below (T127.setTop (mkF m 199 #[.val (.int p0), .val (.int p1), .val (.int p2), .val (.int p3), .val (.int p4), .val (.int k0), .val (.int k1), .val (.int k2), .val (.ref r6), .val (.ref r9), .val (.ref r12), .val (.int an), .val (.ref a16), .val (.int (1 : Int32)), .val (.int (1 : Int32)), .val (.int (1 : Int32)), .val (.int (1 : Int32)), .val (.int v179), .unset, .unset, .unset, .unset, .unset, .unset] [(.int v186)])) t → Steps p.tables e below (s₁.setTop (entryFrame m #[(.int p0), (.int p1), (.int p2), (.int p3), (.int p4)] maxLocals)) t := fun t k => pre181 _ (by
        by_cases c184_182 : p1 = p2
        · rw [show v186 = _ from hv186.trans (if_pos c184_182)] at k
          refine XS.icmpNo X127.here hx rfl (hb hby at_184) rfl (XT.ii_ne_f c184_182) ?_
          refine XS.iload X127.here hx rfl (hb hby at_187) rfl ?_
          refine XS.iload X127.here hx rfl (hb hby at_189) rfl ?_
          have m185 : ∀ t, Steps p.tables e below (T127.setTop (mkF m 199 #[.val (.int p0), .val (.int p1), .val (.int p2), .val (.int p3), .val (.int p4), .val (.int k0), .val (.int k1), .val (.int k2), .val (.ref r6), .val (.ref r9), .val (.ref r12), .val (.int an), .val (.ref a16), .val (.int (1 : Int32)), .val (.int (1 : Int32)), .val (.int (1 : Int32)), .val (.int (1 : Int32)), .val (.int v179), .unset, .unset, .unset, .unset, .unset, .unset] [(.int v184)])) t → Steps p.tables e below (T127.setTop (mkF m 191 #[.val (.int p0), .val (.int p1), .val (.int p2), .val (.int p3), .val (.int p4), .val (.int k0), .val (.int k1), .val (.int k2), .val (.ref r6), .val (.ref r9), .val (.ref r12), .val (.int an), .val (.ref a16), .val (.int (1 : Int32)), .val (.int (1 : Int32)), .val (.int (1 : Int32)), .val (.int (1 : Int32)), .val (.int v179), .unset, .unset, .unset, .unset, .unset, .unset] [(.int k1), (.int k0)])) t := fun t k => by
            by_cases c191_183 : k0 = k1
            · rw [show v184 = _ from hv184.trans (if_pos c191_183)] at k
              refine XS.icmpNo X127.here hx rfl (hb hby at_191) rfl (XT.ii_ne_f c191_183) ?_
              refine XT.iconstV X127.here hx rfl (1 : Int32) (hb hby at_194) rfl ?_
              refine XS.goto X127.here hx rfl (pc0 := 195) (pc' := 199) rfl (hb hby at_195) (by decide) (by decide) ?_
              exact k
            · rw [show v184 = _ from hv184.trans (if_neg c191_183)] at k
              refine XS.icmpYes X127.here hx rfl (pc0 := 191) (pc' := 198) rfl (hb hby at_191) rfl (XT.ii_ne_t c191_183) (by decide) (by decide) ?_
              refine XT.iconstV X127.here hx rfl (0 : Int32) (hb hby at_198) rfl ?_
              exact k
          refine m185 _ ?_
          exact k
        · rw [show v186 = _ from hv186.trans (if_neg c184_182)] at k
          refine XS.icmpYes X127.here hx rfl (pc0 := 184) (pc' := 198) rfl (hb hby at_184) rfl (XT.ii_ne_t c184_182) (by decide) (by decide) ?_
          refine XT.iconstV X127.here hx rfl (0 : Int32) (hb hby at_198) rfl ?_
          exact k)
      have pre188 : ∀ t, Steps p.tables e below (T127.setTop (mkF m 203 #[.val (.int p0), .val (.int p1), .val (.int p2), .val (.int p3), .val (.int p4), .val (.int k0), .val (.int k1), .val (.int k2), .val (.ref r6), .val (.ref r9), .val (.ref r12), .val (.int an), .val (.ref a16), .val (.int (1 : Int32)), .val (.int (1 : Int32)), .val (.int (1 : Int32)), .val (.int (1 : Int32)), .val (.int v179), .val (.int v186), .unset, .unset, .unset, .unset, .unset] [(.int p3), (.int p1)])) t → Steps p.tables e below (s₁.setTop (entryFrame m #[(.int p0), (.int p1), (.int p2), (.int p3), (.int p4)] maxLocals)) t := fun t k => pre187 _ (by
        refine XS.istore X127.here hx rfl (hb hby at_199) rfl (l' := #[.val (.int p0), .val (.int p1), .val (.int p2), .val (.int p3), .val (.int p4), .val (.int k0), .val (.int k1), .val (.int k2), .val (.ref r6), .val (.ref r9), .val (.ref r12), .val (.int an), .val (.ref a16), .val (.int (1 : Int32)), .val (.int (1 : Int32)), .val (.int (1 : Int32)), .val (.int (1 : Int32)), .val (.int v179), .val (.int v186), .unset, .unset, .unset, .unset, .unset]) rfl ?_
        refine XS.iloadN X127.here hx rfl (hb hby at_201) rfl ?_
        refine XS.iloadN X127.here hx rfl (hb hby at_202) rfl ?_
        exact k)
      obtain ⟨v191, hv191⟩ : ∃ z : Int32, z = (if k0 = k2 then (1 : Int32) else (0 : Int32)) := ⟨_, rfl⟩
      obtain ⟨v193, hv193⟩ : ∃ z : Int32, z = (if p1 = p3 then v191 else (0 : Int32)) := ⟨_, rfl⟩
      have pre194 : ∀ t, Steps p.tables e below (T127.setTop (mkF m 218 #[.val (.int p0), .val (.int p1), .val (.int p2), .val (.int p3), .val (.int p4), .val (.int k0), .val (.int k1), .val (.int k2), .val (.ref r6), .val (.ref r9), .val (.ref r12), .val (.int an), .val (.ref a16), .val (.int (1 : Int32)), .val (.int (1 : Int32)), .val (.int (1 : Int32)), .val (.int (1 : Int32)), .val (.int v179), .val (.int v186), .unset, .unset, .unset, .unset, .unset] [(.int v193)])) t → Steps p.tables e below (s₁.setTop (entryFrame m #[(.int p0), (.int p1), (.int p2), (.int p3), (.int p4)] maxLocals)) t := fun t k => pre188 _ (by
        by_cases c203_189 : p1 = p3
        · rw [show v193 = _ from hv193.trans (if_pos c203_189)] at k
          refine XS.icmpNo X127.here hx rfl (hb hby at_203) rfl (XT.ii_ne_f c203_189) ?_
          refine XS.iload X127.here hx rfl (hb hby at_206) rfl ?_
          refine XS.iload X127.here hx rfl (hb hby at_208) rfl ?_
          have m192 : ∀ t, Steps p.tables e below (T127.setTop (mkF m 218 #[.val (.int p0), .val (.int p1), .val (.int p2), .val (.int p3), .val (.int p4), .val (.int k0), .val (.int k1), .val (.int k2), .val (.ref r6), .val (.ref r9), .val (.ref r12), .val (.int an), .val (.ref a16), .val (.int (1 : Int32)), .val (.int (1 : Int32)), .val (.int (1 : Int32)), .val (.int (1 : Int32)), .val (.int v179), .val (.int v186), .unset, .unset, .unset, .unset, .unset] [(.int v191)])) t → Steps p.tables e below (T127.setTop (mkF m 210 #[.val (.int p0), .val (.int p1), .val (.int p2), .val (.int p3), .val (.int p4), .val (.int k0), .val (.int k1), .val (.int k2), .val (.ref r6), .val (.ref r9), .val (.ref r12), .val (.int an), .val (.ref a16), .val (.int (1 : Int32)), .val (.int (1 : Int32)), .val (.int (1 : Int32)), .val (.int (1 : Int32)), .val (.int v179), .val (.int v186), .unset, .unset, .unset, .unset, .unset] [(.int k2), (.int k0)])) t := fun t k => by
            by_cases c210_190 : k0 = k2
            · rw [show v191 = _ from hv191.trans (if_pos c210_190)] at k
              refine XS.icmpNo X127.here hx rfl (hb hby at_210) rfl (XT.ii_ne_f c210_190) ?_
              refine XT.iconstV X127.here hx rfl (1 : Int32) (hb hby at_213) rfl ?_
              refine XS.goto X127.here hx rfl (pc0 := 214) (pc' := 218) rfl (hb hby at_214) (by decide) (by decide) ?_
              exact k
            · rw [show v191 = _ from hv191.trans (if_neg c210_190)] at k
              refine XS.icmpYes X127.here hx rfl (pc0 := 210) (pc' := 217) rfl (hb hby at_210) rfl (XT.ii_ne_t c210_190) (by decide) (by decide) ?_
              refine XT.iconstV X127.here hx rfl (0 : Int32) (hb hby at_217) rfl ?_
              exact k
          refine m192 _ ?_
          exact k
        · rw [show v193 = _ from hv193.trans (if_neg c203_189)] at k
          refine XS.icmpYes X127.here hx rfl (pc0 := 203) (pc' := 217) rfl (hb hby at_203) rfl (XT.ii_ne_t c203_189) (by decide) (by decide) ?_
          refine XT.iconstV X127.here hx rfl (0 : Int32) (hb hby at_217) rfl ?_
          exact k)
      have pre195 : ∀ t, Steps p.tables e below (T127.setTop (mkF m 225 #[.val (.int p0), .val (.int p1), .val (.int p2), .val (.int p3), .val (.int p4), .val (.int k0), .val (.int k1), .val (.int k2), .val (.ref r6), .val (.ref r9), .val (.ref r12), .val (.int an), .val (.ref a16), .val (.int (1 : Int32)), .val (.int (1 : Int32)), .val (.int (1 : Int32)), .val (.int (1 : Int32)), .val (.int v179), .val (.int v186), .val (.int v193), .val (.int (1 : Int32)), .unset, .unset, .unset] [(.int v179)])) t → Steps p.tables e below (s₁.setTop (entryFrame m #[(.int p0), (.int p1), (.int p2), (.int p3), (.int p4)] maxLocals)) t := fun t k => pre194 _ (by
        refine XS.istore X127.here hx rfl (hb hby at_218) rfl (l' := #[.val (.int p0), .val (.int p1), .val (.int p2), .val (.int p3), .val (.int p4), .val (.int k0), .val (.int k1), .val (.int k2), .val (.ref r6), .val (.ref r9), .val (.ref r12), .val (.int an), .val (.ref a16), .val (.int (1 : Int32)), .val (.int (1 : Int32)), .val (.int (1 : Int32)), .val (.int (1 : Int32)), .val (.int v179), .val (.int v186), .val (.int v193), .unset, .unset, .unset, .unset]) rfl ?_
        refine XT.iconstV X127.here hx rfl (1 : Int32) (hb hby at_220) rfl ?_
        refine XS.istore X127.here hx rfl (hb hby at_221) rfl (l' := #[.val (.int p0), .val (.int p1), .val (.int p2), .val (.int p3), .val (.int p4), .val (.int k0), .val (.int k1), .val (.int k2), .val (.ref r6), .val (.ref r9), .val (.ref r12), .val (.int an), .val (.ref a16), .val (.int (1 : Int32)), .val (.int (1 : Int32)), .val (.int (1 : Int32)), .val (.int (1 : Int32)), .val (.int v179), .val (.int v186), .val (.int v193), .val (.int (1 : Int32)), .unset, .unset, .unset]) rfl ?_
        refine XS.iload X127.here hx rfl (hb hby at_223) rfl ?_
        exact k)
      obtain ⟨v197, hv197⟩ : ∃ z : Int32, z = (if v179 = 0 then (1 : Int32) else (0 : Int32)) := ⟨_, rfl⟩
      have pre198 : ∀ t, Steps p.tables e below (T127.setTop (mkF m 233 #[.val (.int p0), .val (.int p1), .val (.int p2), .val (.int p3), .val (.int p4), .val (.int k0), .val (.int k1), .val (.int k2), .val (.ref r6), .val (.ref r9), .val (.ref r12), .val (.int an), .val (.ref a16), .val (.int (1 : Int32)), .val (.int (1 : Int32)), .val (.int (1 : Int32)), .val (.int (1 : Int32)), .val (.int v179), .val (.int v186), .val (.int v193), .val (.int (1 : Int32)), .unset, .unset, .unset] [(.int v197)])) t → Steps p.tables e below (s₁.setTop (entryFrame m #[(.int p0), (.int p1), (.int p2), (.int p3), (.int p4)] maxLocals)) t := fun t k => pre195 _ (by
        by_cases c225_196 : v179 = 0
        · rw [show v197 = _ from hv197.trans (if_pos c225_196)] at k
          refine XS.ifNo X127.here hx rfl (hb hby at_225) rfl (XT.i0_ne_f c225_196) ?_
          refine XT.iconstV X127.here hx rfl (1 : Int32) (hb hby at_228) rfl ?_
          refine XS.goto X127.here hx rfl (pc0 := 229) (pc' := 233) rfl (hb hby at_229) (by decide) (by decide) ?_
          exact k
        · rw [show v197 = _ from hv197.trans (if_neg c225_196)] at k
          refine XS.ifYes X127.here hx rfl (pc0 := 225) (pc' := 232) rfl (hb hby at_225) rfl (XT.i0_ne_t c225_196) (by decide) (by decide) ?_
          refine XT.iconstV X127.here hx rfl (0 : Int32) (hb hby at_232) rfl ?_
          exact k)
      have pre199 : ∀ t, Steps p.tables e below (T127.setTop (mkF m 237 #[.val (.int p0), .val (.int p1), .val (.int p2), .val (.int p3), .val (.int p4), .val (.int k0), .val (.int k1), .val (.int k2), .val (.ref r6), .val (.ref r9), .val (.ref r12), .val (.int an), .val (.ref a16), .val (.int (1 : Int32)), .val (.int (1 : Int32)), .val (.int (1 : Int32)), .val (.int (1 : Int32)), .val (.int v179), .val (.int v186), .val (.int v193), .val (.int (1 : Int32)), .val (.int v197), .unset, .unset] [(.int v186)])) t → Steps p.tables e below (s₁.setTop (entryFrame m #[(.int p0), (.int p1), (.int p2), (.int p3), (.int p4)] maxLocals)) t := fun t k => pre198 _ (by
        refine XS.istore X127.here hx rfl (hb hby at_233) rfl (l' := #[.val (.int p0), .val (.int p1), .val (.int p2), .val (.int p3), .val (.int p4), .val (.int k0), .val (.int k1), .val (.int k2), .val (.ref r6), .val (.ref r9), .val (.ref r12), .val (.int an), .val (.ref a16), .val (.int (1 : Int32)), .val (.int (1 : Int32)), .val (.int (1 : Int32)), .val (.int (1 : Int32)), .val (.int v179), .val (.int v186), .val (.int v193), .val (.int (1 : Int32)), .val (.int v197), .unset, .unset]) rfl ?_
        refine XS.iload X127.here hx rfl (hb hby at_235) rfl ?_
        exact k)
      obtain ⟨v202, hv202⟩ : ∃ z : Int32, z = (if v193 = 0 then (1 : Int32) else (0 : Int32)) := ⟨_, rfl⟩
      obtain ⟨v204, hv204⟩ : ∃ z : Int32, z = (if v186 = 0 then v202 else (0 : Int32)) := ⟨_, rfl⟩
      have pre205 : ∀ t, Steps p.tables e below (T127.setTop (mkF m 250 #[.val (.int p0), .val (.int p1), .val (.int p2), .val (.int p3), .val (.int p4), .val (.int k0), .val (.int k1), .val (.int k2), .val (.ref r6), .val (.ref r9), .val (.ref r12), .val (.int an), .val (.ref a16), .val (.int (1 : Int32)), .val (.int (1 : Int32)), .val (.int (1 : Int32)), .val (.int (1 : Int32)), .val (.int v179), .val (.int v186), .val (.int v193), .val (.int (1 : Int32)), .val (.int v197), .unset, .unset] [(.int v204)])) t → Steps p.tables e below (s₁.setTop (entryFrame m #[(.int p0), (.int p1), (.int p2), (.int p3), (.int p4)] maxLocals)) t := fun t k => pre199 _ (by
        by_cases c237_200 : v186 = 0
        · rw [show v204 = _ from hv204.trans (if_pos c237_200)] at k
          refine XS.ifNo X127.here hx rfl (hb hby at_237) rfl (XT.i0_ne_f c237_200) ?_
          refine XS.iload X127.here hx rfl (hb hby at_240) rfl ?_
          have m203 : ∀ t, Steps p.tables e below (T127.setTop (mkF m 250 #[.val (.int p0), .val (.int p1), .val (.int p2), .val (.int p3), .val (.int p4), .val (.int k0), .val (.int k1), .val (.int k2), .val (.ref r6), .val (.ref r9), .val (.ref r12), .val (.int an), .val (.ref a16), .val (.int (1 : Int32)), .val (.int (1 : Int32)), .val (.int (1 : Int32)), .val (.int (1 : Int32)), .val (.int v179), .val (.int v186), .val (.int v193), .val (.int (1 : Int32)), .val (.int v197), .unset, .unset] [(.int v202)])) t → Steps p.tables e below (T127.setTop (mkF m 242 #[.val (.int p0), .val (.int p1), .val (.int p2), .val (.int p3), .val (.int p4), .val (.int k0), .val (.int k1), .val (.int k2), .val (.ref r6), .val (.ref r9), .val (.ref r12), .val (.int an), .val (.ref a16), .val (.int (1 : Int32)), .val (.int (1 : Int32)), .val (.int (1 : Int32)), .val (.int (1 : Int32)), .val (.int v179), .val (.int v186), .val (.int v193), .val (.int (1 : Int32)), .val (.int v197), .unset, .unset] [(.int v193)])) t := fun t k => by
            by_cases c242_201 : v193 = 0
            · rw [show v202 = _ from hv202.trans (if_pos c242_201)] at k
              refine XS.ifNo X127.here hx rfl (hb hby at_242) rfl (XT.i0_ne_f c242_201) ?_
              refine XT.iconstV X127.here hx rfl (1 : Int32) (hb hby at_245) rfl ?_
              refine XS.goto X127.here hx rfl (pc0 := 246) (pc' := 250) rfl (hb hby at_246) (by decide) (by decide) ?_
              exact k
            · rw [show v202 = _ from hv202.trans (if_neg c242_201)] at k
              refine XS.ifYes X127.here hx rfl (pc0 := 242) (pc' := 249) rfl (hb hby at_242) rfl (XT.i0_ne_t c242_201) (by decide) (by decide) ?_
              refine XT.iconstV X127.here hx rfl (0 : Int32) (hb hby at_249) rfl ?_
              exact k
          refine m203 _ ?_
          exact k
        · rw [show v204 = _ from hv204.trans (if_neg c237_200)] at k
          refine XS.ifYes X127.here hx rfl (pc0 := 237) (pc' := 249) rfl (hb hby at_237) rfl (XT.i0_ne_t c237_200) (by decide) (by decide) ?_
          refine XT.iconstV X127.here hx rfl (0 : Int32) (hb hby at_249) rfl ?_
          exact k)
      have pre206 : ∀ t, Steps p.tables e below (T127.setTop (mkF m 255 #[.val (.int p0), .val (.int p1), .val (.int p2), .val (.int p3), .val (.int p4), .val (.int k0), .val (.int k1), .val (.int k2), .val (.ref r6), .val (.ref r9), .val (.ref r12), .val (.int an), .val (.ref a16), .val (.int (1 : Int32)), .val (.int (1 : Int32)), .val (.int (1 : Int32)), .val (.int (1 : Int32)), .val (.int v179), .val (.int v186), .val (.int v193), .val (.int (1 : Int32)), .val (.int v197), .val (.int v204), .unset] [(.int v197), (.int (1 : Int32))])) t → Steps p.tables e below (s₁.setTop (entryFrame m #[(.int p0), (.int p1), (.int p2), (.int p3), (.int p4)] maxLocals)) t := fun t k => pre205 _ (by
        refine XS.istore X127.here hx rfl (hb hby at_250) rfl (l' := #[.val (.int p0), .val (.int p1), .val (.int p2), .val (.int p3), .val (.int p4), .val (.int k0), .val (.int k1), .val (.int k2), .val (.ref r6), .val (.ref r9), .val (.ref r12), .val (.int an), .val (.ref a16), .val (.int (1 : Int32)), .val (.int (1 : Int32)), .val (.int (1 : Int32)), .val (.int (1 : Int32)), .val (.int v179), .val (.int v186), .val (.int v193), .val (.int (1 : Int32)), .val (.int v197), .val (.int v204), .unset]) rfl ?_
        refine XT.iconstV X127.here hx rfl (1 : Int32) (hb hby at_252) rfl ?_
        refine XS.iload X127.here hx rfl (hb hby at_253) rfl ?_
        exact k)
      obtain ⟨v208, hv208⟩ : ∃ z : Int32, z = (if v197 = 0 then (0 : Int32) else (1 : Int32)) := ⟨_, rfl⟩
      have pre209 : ∀ t, Steps p.tables e below (T127.setTop (mkF m 263 #[.val (.int p0), .val (.int p1), .val (.int p2), .val (.int p3), .val (.int p4), .val (.int k0), .val (.int k1), .val (.int k2), .val (.ref r6), .val (.ref r9), .val (.ref r12), .val (.int an), .val (.ref a16), .val (.int (1 : Int32)), .val (.int (1 : Int32)), .val (.int (1 : Int32)), .val (.int (1 : Int32)), .val (.int v179), .val (.int v186), .val (.int v193), .val (.int (1 : Int32)), .val (.int v197), .val (.int v204), .unset] [(.int v208), (.int (1 : Int32))])) t → Steps p.tables e below (s₁.setTop (entryFrame m #[(.int p0), (.int p1), (.int p2), (.int p3), (.int p4)] maxLocals)) t := fun t k => pre206 _ (by
        by_cases c255_207 : v197 = 0
        · rw [show v208 = _ from hv208.trans (if_pos c255_207)] at k
          refine XS.ifYes X127.here hx rfl (pc0 := 255) (pc' := 262) rfl (hb hby at_255) rfl (XT.i0_eq_t c255_207) (by decide) (by decide) ?_
          refine XT.iconstV X127.here hx rfl (0 : Int32) (hb hby at_262) rfl ?_
          exact k
        · rw [show v208 = _ from hv208.trans (if_neg c255_207)] at k
          refine XS.ifNo X127.here hx rfl (hb hby at_255) rfl (XT.i0_eq_f c255_207) ?_
          refine XT.iconstV X127.here hx rfl (1 : Int32) (hb hby at_258) rfl ?_
          refine XS.goto X127.here hx rfl (pc0 := 259) (pc' := 263) rfl (hb hby at_259) (by decide) (by decide) ?_
          exact k)
      have pre210 : ∀ t, Steps p.tables e below (T127.setTop (mkF m 266 #[.val (.int p0), .val (.int p1), .val (.int p2), .val (.int p3), .val (.int p4), .val (.int k0), .val (.int k1), .val (.int k2), .val (.ref r6), .val (.ref r9), .val (.ref r12), .val (.int an), .val (.ref a16), .val (.int (1 : Int32)), .val (.int (1 : Int32)), .val (.int (1 : Int32)), .val (.int (1 : Int32)), .val (.int v179), .val (.int v186), .val (.int v193), .val (.int (1 : Int32)), .val (.int v197), .val (.int v204), .unset] [(.int v204), (.int ((1 : Int32) + v208))])) t → Steps p.tables e below (s₁.setTop (entryFrame m #[(.int p0), (.int p1), (.int p2), (.int p3), (.int p4)] maxLocals)) t := fun t k => pre209 _ (by
        refine XS.iadd X127.here hx rfl (hb hby at_263) rfl ?_
        refine XS.iload X127.here hx rfl (hb hby at_264) rfl ?_
        exact k)
      obtain ⟨v212, hv212⟩ : ∃ z : Int32, z = (if v204 = 0 then (0 : Int32) else (1 : Int32)) := ⟨_, rfl⟩
      have pre213 : ∀ t, Steps p.tables e below (T127.setTop (mkF m 274 #[.val (.int p0), .val (.int p1), .val (.int p2), .val (.int p3), .val (.int p4), .val (.int k0), .val (.int k1), .val (.int k2), .val (.ref r6), .val (.ref r9), .val (.ref r12), .val (.int an), .val (.ref a16), .val (.int (1 : Int32)), .val (.int (1 : Int32)), .val (.int (1 : Int32)), .val (.int (1 : Int32)), .val (.int v179), .val (.int v186), .val (.int v193), .val (.int (1 : Int32)), .val (.int v197), .val (.int v204), .unset] [(.int v212), (.int ((1 : Int32) + v208))])) t → Steps p.tables e below (s₁.setTop (entryFrame m #[(.int p0), (.int p1), (.int p2), (.int p3), (.int p4)] maxLocals)) t := fun t k => pre210 _ (by
        by_cases c266_211 : v204 = 0
        · rw [show v212 = _ from hv212.trans (if_pos c266_211)] at k
          refine XS.ifYes X127.here hx rfl (pc0 := 266) (pc' := 273) rfl (hb hby at_266) rfl (XT.i0_eq_t c266_211) (by decide) (by decide) ?_
          refine XT.iconstV X127.here hx rfl (0 : Int32) (hb hby at_273) rfl ?_
          exact k
        · rw [show v212 = _ from hv212.trans (if_neg c266_211)] at k
          refine XS.ifNo X127.here hx rfl (hb hby at_266) rfl (XT.i0_eq_f c266_211) ?_
          refine XT.iconstV X127.here hx rfl (1 : Int32) (hb hby at_269) rfl ?_
          refine XS.goto X127.here hx rfl (pc0 := 270) (pc' := 274) rfl (hb hby at_270) (by decide) (by decide) ?_
          exact k)
      have e17 := own_e hv177 hv179
      have e18 := own_e hv184 hv186
      have e19 := own_e hv191 hv193
      have A12 : ¬ (p2 = p3 ∧ k1 = k2) := fun q => fd31 ⟨q.1, by rw [q.2]⟩
      have A : ¬ ((p1 = p2 ∧ k0 = k1) ∨ (p1 = p3 ∧ k0 = k2)) := fun q => fd127 (q.elim (fun q => Or.inr ⟨q.1, by rw [q.2]⟩) (fun q => Or.inl ⟨q.1, by rw [q.2]⟩))
      have y21 : v197 = (1 : Int32) := by rw [hv197, e17]; rw [if_neg A12]; decide
      have y22 : v204 = (1 : Int32) := own_or e18 e19 hv202 hv204 (if_neg A).symm
      have pre214 : ∀ t, Steps p.tables e below (T127.setTop (mkF m 305 #[.val (.int p0), .val (.int p1), .val (.int p2), .val (.int p3), .val (.int p4), .val (.int k0), .val (.int k1), .val (.int k2), .val (.ref r6), .val (.ref r9), .val (.ref r12), .val (.int an), .val (.ref a16), .val (.int (1 : Int32)), .val (.int (1 : Int32)), .val (.int (1 : Int32)), .val (.int (1 : Int32)), .val (.int v179), .val (.int v186), .val (.int v193), .val (.int (1 : Int32)), .val (.int v197), .val (.int v204), .val (.int (((1 : Int32) + v208) + v212))] [(.ref a16)])) t → Steps p.tables e below (s₁.setTop (entryFrame m #[(.int p0), (.int p1), (.int p2), (.int p3), (.int p4)] maxLocals)) t := fun t k => pre213 _ (by
        refine XS.iadd X127.here hx rfl (hb hby at_274) rfl ?_
        refine XS.istore X127.here hx rfl (hb hby at_275) rfl (l' := #[.val (.int p0), .val (.int p1), .val (.int p2), .val (.int p3), .val (.int p4), .val (.int k0), .val (.int k1), .val (.int k2), .val (.ref r6), .val (.ref r9), .val (.ref r12), .val (.int an), .val (.ref a16), .val (.int (1 : Int32)), .val (.int (1 : Int32)), .val (.int (1 : Int32)), .val (.int (1 : Int32)), .val (.int v179), .val (.int v186), .val (.int v193), .val (.int (1 : Int32)), .val (.int v197), .val (.int v204), .val (.int (((1 : Int32) + v208) + v212))]) rfl ?_
        refine XS.iload X127.here hx rfl (hb hby at_277) rfl ?_
        refine XS.ifNo X127.here hx rfl (hb hby at_279) rfl (XT.i0_eq_f (by decide)) ?_
        refine XS.iload X127.here hx rfl (hb hby at_282) rfl ?_
        refine XS.iload X127.here hx rfl (hb hby at_284) rfl ?_
        refine XS.icmpNo X127.here hx rfl (hb hby at_286) rfl (XT.ii_ne_f (by decide)) ?_
        show Steps p.tables e below (T127.setTop (mkF m 289 #[.val (.int p0), .val (.int p1), .val (.int p2), .val (.int p3), .val (.int p4), .val (.int k0), .val (.int k1), .val (.int k2), .val (.ref r6), .val (.ref r9), .val (.ref r12), .val (.int an), .val (.ref a16), .val (.int (1 : Int32)), .val (.int (1 : Int32)), .val (.int (1 : Int32)), .val (.int (1 : Int32)), .val (.int v179), .val (.int v186), .val (.int v193), .val (.int (1 : Int32)), .val (.int v197), .val (.int v204), .val (.int (((1 : Int32) + v208) + v212))] [])) _
        refine XS.iload X127.here hx rfl (hb hby at_289) rfl ?_
        refine XS.iload X127.here hx rfl (hb hby at_291) rfl ?_
        refine XS.icmpNo X127.here hx rfl (hb hby at_293) rfl (XT.ii_ne_f y21.symm) ?_
        refine XS.iload X127.here hx rfl (hb hby at_296) rfl ?_
        refine XS.iload X127.here hx rfl (hb hby at_298) rfl ?_
        refine XS.icmpNo X127.here hx rfl (hb hby at_300) rfl (XT.ii_ne_f y22.symm) ?_
        refine XS.aload X127.here hx rfl (hb hby at_303) rfl rfl ?_
        exact k)
      obtain ⟨cq215, kq215, q215a, q215b, q215c⟩ := isOf hZ e127 HS127.1
      obtain ⟨_, _, ⟨T215, L215, k215, n215⟩, -, X215, ⟨Lc215, hQ215, l215, y215, z215⟩, st215⟩ := X127.virtualBack hx (y := (⟨"com/example/erma/erma/analysis/DistinctSteps", "size", "()I"⟩ : MethodName)) (z := (⟨"com/example/erma/erma/analysis/DistinctSteps", "size", "()I"⟩ : MethodName)) hown (mvT hZ (hw _ (List.mem_of_getElem? (i := 51) rfl))) (mvT hZ (hw _ (List.mem_of_getElem? (i := 52) rfl))) (notFace_of_selects (args := #[]) (mvT hZ (hw _ (List.mem_of_getElem? (i := 54) rfl)))) (mvT hZ (hw _ (List.mem_of_getElem? (i := 54) rfl))) (mvT hZ (hw _ (List.mem_of_getElem? (i := 53) rfl))) (by decide) (backOf (W := 0) (own_size l Z a0 hw [] a16 (3 : Int32) h127 n0 Z127 HS127.2.2.2.2.2.1) hZ (hw _ (List.mem_of_getElem? (i := 55) rfl)) (hw _ (List.mem_of_getElem? (i := 28) rfl)) (by decide) (by decide)) q215a q215c (g := (mkF m 305 #[.val (.int p0), .val (.int p1), .val (.int p2), .val (.int p3), .val (.int p4), .val (.int k0), .val (.int k1), .val (.int k2), .val (.ref r6), .val (.ref r9), .val (.ref r12), .val (.int an), .val (.ref a16), .val (.int (1 : Int32)), .val (.int (1 : Int32)), .val (.int (1 : Int32)), .val (.int (1 : Int32)), .val (.int v179), .val (.int v186), .val (.int v193), .val (.int (1 : Int32)), .val (.int v197), .val (.int v204), .val (.int (((1 : Int32) + v208) + v212))] [(.ref a16)])) rfl (by rw [hml]; rfl) (Steps.refl _) (argsL := []) (rest := []) (lenOf own_pd___I rfl) rfl (by show 2 * 0 + _ ≤ _; exact Nat.le_of_eq rfl) (hb hby at_305) (fun _ _ => ⟨rfl, e127, (by decide : 11 + 0 ≤ _), (by decide : 60 + 0 ≤ _)⟩)
      dsimp only [Pt.U, Pt.locs, Pt.cells, Pt.slots] at X215 l215 y215 z215 st215 hQ215
      subst l215 y215 z215
      obtain ⟨rfl, N215q, e215⟩ := hQ215
      have N215 := Fr.app N127 N215q
      have pre216 : ∀ t, Steps p.tables e below (T215.setTop (mkF m 308 #[.val (.int p0), .val (.int p1), .val (.int p2), .val (.int p3), .val (.int p4), .val (.int k0), .val (.int k1), .val (.int k2), .val (.ref r6), .val (.ref r9), .val (.ref r12), .val (.int an), .val (.ref a16), .val (.int (1 : Int32)), .val (.int (1 : Int32)), .val (.int (1 : Int32)), .val (.int (1 : Int32)), .val (.int v179), .val (.int v186), .val (.int v193), .val (.int (1 : Int32)), .val (.int v197), .val (.int v204), .val (.int (((1 : Int32) + v208) + v212))] [(.int (3 : Int32))])) t → Steps p.tables e below (s₁.setTop (entryFrame m #[(.int p0), (.int p1), (.int p2), (.int p3), (.int p4)] maxLocals)) t := fun t k => pre214 _ (st215.trans k)
      have pre217 : ∀ t, Steps p.tables e below (T215.setTop (mkF m 318 #[.val (.int p0), .val (.int p1), .val (.int p2), .val (.int p3), .val (.int p4), .val (.int k0), .val (.int k1), .val (.int k2), .val (.ref r6), .val (.ref r9), .val (.ref r12), .val (.int an), .val (.ref a16), .val (.int (1 : Int32)), .val (.int (1 : Int32)), .val (.int (1 : Int32)), .val (.int (1 : Int32)), .val (.int v179), .val (.int v186), .val (.int v193), .val (.int (1 : Int32)), .val (.int v197), .val (.int v204), .val (.int (((1 : Int32) + v208) + v212))] [(.int (1 : Int32))])) t → Steps p.tables e below (s₁.setTop (entryFrame m #[(.int p0), (.int p1), (.int p2), (.int p3), (.int p4)] maxLocals)) t := fun t k => pre216 _ (by
        refine XS.iload X215.here hx rfl (hb hby at_308) rfl ?_
        refine XS.icmpNo X215.here hx rfl (hb hby at_310) rfl (XT.ii_ne_f (by rw [hv208, hv212, y21, y22]; decide)) ?_
        refine XT.iconstV X215.here hx rfl (1 : Int32) (hb hby at_313) rfl ?_
        refine XS.goto X215.here hx rfl (pc0 := 314) (pc' := 318) rfl (hb hby at_314) (by decide) (by decide) ?_
        exact k)
      obtain ⟨fs, hr, hrun, hended, hW, hsame⟩ := X215.leave (v := some (.int (1 : Int32))) (fun h => by rw [Bd.returns] at h; cases h)
      refine ⟨_, _, pre217 _ ?_, hrun, hended, _, _, rfl, ?_, ⟨_, rfl⟩, hW, hsame.mono (by decide) (by decide)⟩
      · show Steps p.tables e below (T215.setTop (mkF m 318 #[.val (.int p0), .val (.int p1), .val (.int p2), .val (.int p3), .val (.int p4), .val (.int k0), .val (.int k1), .val (.int k2), .val (.ref r6), .val (.ref r9), .val (.ref r12), .val (.int an), .val (.ref a16), .val (.int (1 : Int32)), .val (.int (1 : Int32)), .val (.int (1 : Int32)), .val (.int (1 : Int32)), .val (.int v179), .val (.int v186), .val (.int v193), .val (.int (1 : Int32)), .val (.int v197), .val (.int v204), .val (.int (((1 : Int32) + v208) + v212))] [(.int (1 : Int32))])) _
        exact retN X215 hx (t := .boolean) Bd.returns (by simp) (hb hby at_318) hr
      · show Q_own_law Z p0 p1 p2 p3 p4 cs h0 n0 _ T215.heap _
        rw [e215]
        exact ⟨rfl, N215⟩
set_option maxRecDepth 65536 in
set_option maxHeartbeats 40000000 in
theorem comes_1 {Post : Tables → Env → Array Value → State → Outcome → State → Prop} (hpost : ∀ tb e args s v u, (limb_1_1.after args s (.returned v) u = true ∧ limb_1_2.after args s (.returned v) u = true ∧ True) → FrameEnd s (.returned v) u (Jvm.fieldLocs frame_1_writes args s ++ Jvm.arrayLocs frame_1_arrays args s ++ Jvm.staticLocs frame_1_statics s) 32 192 → Post tb e args s (.returned v) u) :
    ArmFor flags0 classFile x code maxLocals ret World_1 tables_1 room_1 Calls_1 rest_1 Pre_1 Post := by
  intro l hfl _ _ p e ha hc hk s m args below hf hA hF happ hP
  obtain ⟨hcalls, hrest, hpre⟩ := hP
  obtain ⟨-, -, -, hnamed, -, -, -, hat⟩ := (Spec.applies_iff hf).mp happ
  obtain ⟨hg, hn⟩ := and_e (Cond.before_iff.mp (show (Jvm.Cond.and given_1 narrow_1).before args s = true from hpre))
  obtain ⟨h1, g0⟩ := and_e hg
  obtain ⟨w0, w1, w2, w3, w4, rfl⟩ : ∃ w0 w1 w2 w3 w4 : Value, args = #[w0, w1, w2, w3, w4] := by
    have hs : args.size = 5 := by simpa [Cond.value, given_1] using h1
    obtain ⟨L⟩ := args
    match L, hs with
    | [w0, w1, w2, w3, w4], _ => exact ⟨w0, w1, w2, w3, w4, rfl⟩
  have hw := fun d (hd : d ∈ tables_1) => atoms_spec (ws := Jvm.Cond.code x code maxLocals ret :: tables_1) hat d (List.mem_cons_of_mem _ hd)
  have hfit : Fit s := fun {y c} hc i hi => by
    obtain ⟨ha, rfl⟩ := Array.getElem?_eq_some_iff.mp hc
    have q := List.all_eq_true.mp ((Array.all_eq_true_iff_forall_mem.mp hF) _ (Array.getElem_mem ha)) i (List.mem_range.mpr hi)
    simpa [Array.getElem?_eq_getElem hi] using q
  obtain ⟨t0, g1⟩ := and_e g0
  obtain ⟨i0, q0⟩ := is_v t0
  obtain rfl : w0 = (.int i0) := Option.some.inj q0
  obtain ⟨t1, g2⟩ := and_e g1
  obtain ⟨i1, q1⟩ := is_v t1
  obtain rfl : w1 = (.int i1) := Option.some.inj q1
  obtain ⟨t2, g3⟩ := and_e g2
  obtain ⟨i2, q2⟩ := is_v t2
  obtain rfl : w2 = (.int i2) := Option.some.inj q2
  obtain ⟨t3, g4⟩ := and_e g3
  obtain ⟨i3, q3⟩ := is_v t3
  obtain rfl : w3 = (.int i3) := Option.some.inj q3
  have t4 := g4
  obtain ⟨i4, q4⟩ := is_v t4
  obtain rfl : w4 = (.int i4) := Option.some.inj q4
  have hset : ∀ d ∈ jdkStatics_1, d.before _ s = true := (atoms_of jdkStatics_1 (own := restOwn_1) (by first | exact hrest | (rw [← rest_1_c_eq]; exact hrest))).1
  obtain ⟨cs, evc⟩ := is_v (Cond.before_iff.mp (hset _ (List.mem_of_getElem? (i := 1) rfl)))
  have CS := Sta.start evc (Or.inl (hset _ (List.mem_of_getElem? (i := 0) rfl)))
  have hcs : ¬ cs = 0 := gotF (Cond.eq_ints evc (Term.int_eval (0 : Int32))) (not_v (Cond.before_iff.mp (hset _ (List.mem_of_getElem? (i := 2) rfl))))
  obtain ⟨n, o, h1, h2, h3, _, L, rfl, ⟨rfl, N⟩, hq⟩ := own_law l s _ hw tables_1 i0 i1 i2 i3 i4 cs s.heap s.heap.size (Nat.le_refl _) CS hcs p e ha hc hk s m _ below hf ((Spec.applies_iff_loose hf).mp happ).1 ⟨rfl, State.Warmed39.refl s, rfl⟩ trivial
  refine ⟨n, _, h1, h2, h3, hpost _ _ _ _ _ _ ⟨Cond.after_iff.mpr rfl, Cond.after_iff.mpr (eq_i res_at (Term.int_eval (1)) rfl), trivial⟩ ⟨hq.1, hq.2.1, (hq.2.2.sift fun y hy => Or.inr (N y hy)).mono (by decide) (by decide)⟩⟩
theorem main_1_1 : Claimed_1_1 := comes_1 fun _ _ _ _ _ _ h hF => ⟨h.1, hF⟩
theorem main_1_2 : Claimed_1_2 := comes_1 fun _ _ _ _ _ _ h hF => ⟨h.2.1, hF⟩
end Jvm.Pilot.@@N@@
namespace Jvm.Pilot.@@N@@
open Jvm Jvm.ClassFile Sem Op Lib Jvm.Free Jvm.Stand Jvm.Pilot.@@N@@.Jvm.D
/-! MADE BY PROGRAM (witnessworld.py) out of the Statement's table words and the real class files: 18 classes; the members and pool entries that the words name. The judged class is class 1, her method 1. -/
namespace start1
open Jvm.ClassFile
def u (s : String) : CpInfo := .utf8 (stringToUtf16 s)
/-- a pool by its gaps: so many unusable entries, then the entry; so many at the end -/
def gap : Nat → List CpInfo → List CpInfo
  | 0, r => r
  | n + 1, r => .unusable :: gap n r
def poolList (es : List (Nat × CpInfo)) (last : Nat) : List CpInfo := es.foldr (fun e r => gap e.1 (e.2 :: r)) (gap last [])
def pool (es : List (Nat × CpInfo)) (last : Nat) : Array CpInfo := ⟨poolList es last⟩
def fileOf (pool : Array CpInfo) (this : Nat) (attrs : Array Attribute := #[]) (ms : Array MethodInfo := #[]) (fl : Nat := 33) (sup : Nat := 0) (ifs : Array Nat := #[]) (fds : Array FieldInfo := #[]) : ClassFile where
  minorVersion := 0
  majorVersion := 65
  constantPool := pool
  accessFlags := fl
  thisClass := this
  superClass := sup
  interfaces := ifs
  fields := fds
  methods := ms
  attributes := attrs
def plain (name : String) (sup : Option ClassId) : Class where
  name := name
  kind := .ordinary
  loader := none
  accessFlags := 33
  super := sup
  interfaces := #[]
  cf := none
  fields := #[]
  methods := #[]
  instanceTypes := #[]
  staticTypes := #[]
  resolved := #[]
  callSites := []
  init := .initialized
  statics := none
  mirror := none

def pool0 : Array CpInfo := pool [(5, u "<init>"), (0, u "()V"), (1, .class_ 10), (1, u "java/lang/Object")] 113

def k0c0 : Code := { maxStack := 0, maxLocals := 1, code := object_method_1_code, exceptionTable := #[], attributes := #[] }
def k0m0 : Method := { name := "<init>", desc := "()V", sig := { parameters := [], returnType := none }, accessFlags := 1, code := some k0c0 }
/-- java/lang/Object -/
def k0 : Class := { plain "java/lang/Object" none with
  accessFlags := 33
  interfaces := #[]
  cf := some (fileOf pool0 8 #[] #[{ accessFlags := 1, nameIndex := 5, descriptorIndex := 6, attributes := #[] }] 33 0 #[] #[])
  fields := #[]
  methods := #[k0m0]
  instanceTypes := #[]
  staticTypes := #[]
  resolved := Array.replicate 124 none
  statics := none }

def pool1 : Array CpInfo := pool [(2, .class_ 4), (0, .nameAndType 5 6), (0, u "java/lang/Object"), (0, u "<init>"), (0, u "()V"), (0, .methodref 8 9), (0, .class_ 10), (0, .nameAndType 11 12), (0, u "java/lang/String"), (0, u "valueOf"), (0, u "(C)Ljava/lang/String;"), (0, .class_ 14), (0, u "com/example/erma/erma/analysis/DistinctSteps"), (0, .methodref 13 3), (0, .methodref 13 17), (0, .nameAndType 18 19), (0, u "add"), (0, u "(Ljava/lang/String;I)Z"), (0, .methodref 13 21), (0, .nameAndType 22 6), (0, u "clear"), (0, .methodref 13 24), (0, .nameAndType 25 26), (0, u "size"), (0, u "()I"), (0, .class_ 28), (0, u "com/example/erma/erma/analysis/DistinctStepsClearPinLaw"), (2, u "law"), (0, u "(IIIII)Z")] 3

def k1m0 : Method := { name := "<init>", desc := "()V", sig := { parameters := [], returnType := none }, accessFlags := 1, code := none }
def k1c1 : Code := { maxStack := 3, maxLocals := 24, code := code, exceptionTable := #[], attributes := #[] }
def k1m1 : Method := { name := "law", desc := "(IIIII)Z", sig := { parameters := [.int, .int, .int, .int, .int], returnType := some .boolean }, accessFlags := 9, code := some k1c1 }
/-- com/example/erma/erma/analysis/DistinctStepsClearPinLaw -/
def k1 : Class := { plain "com/example/erma/erma/analysis/DistinctStepsClearPinLaw" (some 0) with
  accessFlags := 49
  interfaces := #[]
  cf := some (fileOf pool1 27 #[] #[{ accessFlags := 1, nameIndex := 5, descriptorIndex := 6, attributes := #[] }, { accessFlags := 9, nameIndex := 31, descriptorIndex := 32, attributes := #[] }] 49 2 #[] #[])
  fields := #[]
  methods := #[k1m0, k1m1]
  instanceTypes := #[]
  staticTypes := #[]
  resolved := Array.replicate 36 none
  statics := none }

def pool2 : Array CpInfo := pool [(1, .class_ 2), (0, u "java/io/Serializable"), (0, .class_ 4), (0, u "java/lang/Object")] 2

/-- java/io/Serializable -/
def k2 : Class := { plain "java/io/Serializable" (some 0) with
  accessFlags := 1537
  interfaces := #[]
  cf := some (fileOf pool2 1 #[] #[] 1537 3 #[] #[])
  fields := #[]
  methods := #[]
  instanceTypes := #[]
  staticTypes := #[]
  resolved := Array.replicate 7 none
  statics := none }

def pool3 : Array CpInfo := pool [(1, .class_ 2), (0, u "java/lang/Comparable"), (0, .class_ 4), (0, u "java/lang/Object")] 7

/-- java/lang/Comparable -/
def k3 : Class := { plain "java/lang/Comparable" (some 0) with
  accessFlags := 1537
  interfaces := #[]
  cf := some (fileOf pool3 1 #[] #[] 1537 3 #[] #[])
  fields := #[]
  methods := #[]
  instanceTypes := #[]
  staticTypes := #[]
  resolved := Array.replicate 12 none
  statics := none }

def pool4 : Array CpInfo := pool [(2, .class_ 4), (1, u "java/lang/CharSequence"), (42, .class_ 48), (0, u "java/lang/CharSequence$1CodePointIterator"), (10, .class_ 60), (0, u "java/lang/CharSequence$1CharIterator"), (5, .class_ 67), (0, u "java/lang/Object")] 63

/-- java/lang/CharSequence -/
def k4 : Class := { plain "java/lang/CharSequence" (some 0) with
  accessFlags := 1537
  interfaces := #[]
  cf := some (fileOf pool4 2 #[.nestMembers #[47, 59]] #[] 1537 66 #[] #[])
  fields := #[]
  methods := #[]
  instanceTypes := #[]
  staticTypes := #[]
  resolved := Array.replicate 131 none
  statics := none }

def pool5 : Array CpInfo := pool [(1, .class_ 2), (0, u "java/lang/constant/Constable"), (0, .class_ 4), (0, u "java/lang/Object")] 6

/-- java/lang/constant/Constable -/
def k5 : Class := { plain "java/lang/constant/Constable" (some 0) with
  accessFlags := 1537
  interfaces := #[]
  cf := some (fileOf pool5 1 #[] #[] 1537 3 #[] #[])
  fields := #[]
  methods := #[]
  instanceTypes := #[]
  staticTypes := #[]
  resolved := Array.replicate 11 none
  statics := none }

def pool6 : Array CpInfo := pool [(1, .class_ 2), (0, u "java/lang/constant/ConstantDesc"), (0, .class_ 4), (0, u "java/lang/Object")] 32

/-- java/lang/constant/ConstantDesc -/
def k6 : Class := { plain "java/lang/constant/ConstantDesc" (some 0) with
  accessFlags := 1537
  interfaces := #[]
  cf := some (fileOf pool6 1 #[] #[] 1537 3 #[] #[])
  fields := #[]
  methods := #[]
  instanceTypes := #[]
  staticTypes := #[]
  resolved := Array.replicate 37 none
  statics := none }

def pool7 : Array CpInfo := pool [(1, .methodref 2 3), (0, .class_ 4), (0, .nameAndType 5 6), (0, u "java/lang/Object"), (0, u "<init>"), (0, u "()V"), (2, .fieldref 10 11), (0, .class_ 12), (0, .nameAndType 13 14), (0, u "java/lang/String"), (0, u "value"), (0, u "[B"), (0, .fieldref 10 16), (0, .nameAndType 17 18), (0, u "coder"), (0, u "B"), (2, u "hash"), (0, u "I"), (2, u "hashIsZero"), (0, u "Z"), (11, .fieldref 10 39), (0, .nameAndType 40 26), (0, u "COMPACT_STRINGS"), (12, u "toBytes"), (53, .class_ 109), (1, u "java/lang/StringLatin1"), (99, .methodref 10 210), (0, .nameAndType 5 211), (0, u "([BB)V"), (157, u "(C)Z"), (171, .methodref 107 542), (0, .nameAndType 543 544), (0, u "equals"), (0, u "([B[B)Z"), (28, u "(Ljava/lang/Object;)Z"), (1, .class_ 576), (0, u "java/lang/CharSequence"), (22, u "CASE_INSENSITIVE_ORDER"), (0, u "Ljava/util/Comparator;"), (181, u "valueOf"), (0, u "(C)Ljava/lang/String;"), (231, .methodref 107 1016), (0, .nameAndType 1017 369), (0, u "canEncode"), (0, .methodref 107 1019), (0, .nameAndType 53 1020), (0, u "(C)[B"), (80, u "serialPersistentFields"), (0, u "[Ljava/io/ObjectStreamField;"), (0, .class_ 1104), (0, u "java/lang/String$CaseInsensitiveComparator"), (1, .class_ 1107), (0, u "java/io/Serializable"), (0, .class_ 1109), (0, u "java/lang/Comparable"), (0, .class_ 1111), (0, u "java/lang/constant/Constable"), (0, .class_ 1113), (0, u "java/lang/constant/ConstantDesc"), (2, u "serialVersionUID"), (0, u "J"), (3, u "REPL"), (0, u "C"), (2, u "LATIN1"), (1, u "UTF16")] 323

def k7m0 : Method := { name := "<init>", desc := "()V", sig := { parameters := [], returnType := none }, accessFlags := 1, code := none }
def k7c1 : Code := { maxStack := 2, maxLocals := 3, code := jdk_42_method_66_code, exceptionTable := #[], attributes := #[] }
def k7m1 : Method := { name := "equals", desc := "(Ljava/lang/Object;)Z", sig := { parameters := [(.object "java/lang/Object")], returnType := some .boolean }, accessFlags := 1, code := some k7c1 }
def k7c2 : Code := { maxStack := 4, maxLocals := 1, code := jdk_42_method_139_code, exceptionTable := #[], attributes := #[] }
def k7m2 : Method := { name := "valueOf", desc := "(C)Ljava/lang/String;", sig := { parameters := [.char], returnType := some (.object "java/lang/String") }, accessFlags := 9, code := some k7c2 }
def k7c3 : Code := { maxStack := 2, maxLocals := 3, code := jdk_42_method_151_code, exceptionTable := #[], attributes := #[] }
def k7m3 : Method := { name := "<init>", desc := "([BB)V", sig := { parameters := [(.array .byte), .byte], returnType := none }, accessFlags := 0, code := some k7c3 }
/-- java/lang/String -/
def k7 : Class := { plain "java/lang/String" (some 0) with
  accessFlags := 49
  interfaces := #[2, 3, 4, 5, 6]
  cf := some (fileOf pool7 10 #[.nestMembers #[1103]] #[{ accessFlags := 1, nameIndex := 5, descriptorIndex := 6, attributes := #[] }, { accessFlags := 1, nameIndex := 543, descriptorIndex := 573, attributes := #[] }, { accessFlags := 9, nameIndex := 782, descriptorIndex := 783, attributes := #[] }, { accessFlags := 0, nameIndex := 5, descriptorIndex := 211, attributes := #[] }] 49 2 #[1106, 1108, 575, 1110, 1112] #[{ accessFlags := 18, nameIndex := 13, descriptorIndex := 14, attributes := #[] }, { accessFlags := 18, nameIndex := 17, descriptorIndex := 18, attributes := #[] }, { accessFlags := 2, nameIndex := 21, descriptorIndex := 22, attributes := #[] }, { accessFlags := 2, nameIndex := 25, descriptorIndex := 26, attributes := #[] }, { accessFlags := 26, nameIndex := 1116, descriptorIndex := 1117, attributes := #[] }, { accessFlags := 24, nameIndex := 40, descriptorIndex := 26, attributes := #[] }, { accessFlags := 26, nameIndex := 1101, descriptorIndex := 1102, attributes := #[] }, { accessFlags := 26, nameIndex := 1121, descriptorIndex := 1122, attributes := #[] }, { accessFlags := 25, nameIndex := 599, descriptorIndex := 600, attributes := #[] }, { accessFlags := 24, nameIndex := 1125, descriptorIndex := 18, attributes := #[] }, { accessFlags := 24, nameIndex := 1127, descriptorIndex := 18, attributes := #[] }])
  fields := #[{ name := "value", type := (.array .byte), accessFlags := 18, slot := 0, constantValue := 0 }, { name := "coder", type := .byte, accessFlags := 18, slot := 1, constantValue := 0 }, { name := "hash", type := .int, accessFlags := 2, slot := 2, constantValue := 0 }, { name := "hashIsZero", type := .boolean, accessFlags := 2, slot := 3, constantValue := 0 }, { name := "serialVersionUID", type := .long, accessFlags := 26, slot := 0, constantValue := 0 }, { name := "COMPACT_STRINGS", type := .boolean, accessFlags := 24, slot := 1, constantValue := 0 }, { name := "serialPersistentFields", type := (.array (.object "java/io/ObjectStreamField")), accessFlags := 26, slot := 2, constantValue := 0 }, { name := "REPL", type := .char, accessFlags := 26, slot := 3, constantValue := 0 }, { name := "CASE_INSENSITIVE_ORDER", type := (.object "java/util/Comparator"), accessFlags := 25, slot := 4, constantValue := 0 }, { name := "LATIN1", type := .byte, accessFlags := 24, slot := 5, constantValue := 0 }, { name := "UTF16", type := .byte, accessFlags := 24, slot := 6, constantValue := 0 }]
  methods := #[k7m0, k7m1, k7m2, k7m3]
  instanceTypes := #[(.array .byte), .byte, .int, .boolean]
  staticTypes := #[.long, .boolean, (.array (.object "java/io/ObjectStreamField")), .char, (.object "java/util/Comparator"), .byte, .byte]
  resolved := Array.replicate 1451 none
  statics := some 0 }

def pool8 : Array CpInfo := pool [(4, .class_ 6), (1, u "java/lang/Object"), (0, u "<init>"), (0, u "()V"), (5, .class_ 16), (1, u "java/lang/StringLatin1"), (73, u "canEncode"), (14, u "(C)Z"), (15, u "$assertionsDisabled"), (0, u "Z"), (98, .class_ 223), (1, u "java/lang/StringLatin1$LinesSpliterator"), (57, u "equals"), (0, u "([B[B)Z"), (97, u "toBytes"), (1, u "(C)[B"), (7, .class_ 391), (0, u "java/lang/StringLatin1$CharsSpliterator")] 3

def k8m0 : Method := { name := "<init>", desc := "()V", sig := { parameters := [], returnType := none }, accessFlags := 0, code := none }
def k8c1 : Code := { maxStack := 2, maxLocals := 1, code := jdk_43_method_3_code, exceptionTable := #[], attributes := #[] }
def k8m1 : Method := { name := "canEncode", desc := "(C)Z", sig := { parameters := [.char], returnType := some .boolean }, accessFlags := 9, code := some k8c1 }
def k8c2 : Code := { maxStack := 3, maxLocals := 3, code := jdk_43_method_13_code, exceptionTable := #[], attributes := #[] }
def k8m2 : Method := { name := "equals", desc := "([B[B)Z", sig := { parameters := [(.array .byte), (.array .byte)], returnType := some .boolean }, accessFlags := 9, code := some k8c2 }
def k8c3 : Code := { maxStack := 4, maxLocals := 1, code := jdk_43_method_46_code, exceptionTable := #[], attributes := #[] }
def k8m3 : Method := { name := "toBytes", desc := "(C)[B", sig := { parameters := [.char], returnType := some (.array .byte) }, accessFlags := 9, code := some k8c3 }
/-- java/lang/StringLatin1 -/
def k8 : Class := { plain "java/lang/StringLatin1" (some 0) with
  accessFlags := 48
  interfaces := #[]
  cf := some (fileOf pool8 14 #[.nestMembers #[390, 221]] #[{ accessFlags := 0, nameIndex := 7, descriptorIndex := 8, attributes := #[] }, { accessFlags := 9, nameIndex := 90, descriptorIndex := 105, attributes := #[] }, { accessFlags := 9, nameIndex := 281, descriptorIndex := 282, attributes := #[] }, { accessFlags := 9, nameIndex := 380, descriptorIndex := 382, attributes := #[] }] 48 4 #[] #[{ accessFlags := 4120, nameIndex := 121, descriptorIndex := 122, attributes := #[] }])
  fields := #[{ name := "$assertionsDisabled", type := .boolean, accessFlags := 4120, slot := 0, constantValue := 0 }]
  methods := #[k8m0, k8m1, k8m2, k8m3]
  instanceTypes := #[]
  staticTypes := #[.boolean]
  resolved := Array.replicate 395 none
  statics := none }

def pool9 : Array CpInfo := pool [(1, .methodref 2 3), (0, .class_ 4), (0, .nameAndType 5 6), (0, u "java/lang/Object"), (0, u "<init>"), (0, u "()V"), (0, .fieldref 8 9), (0, .class_ 10), (0, .nameAndType 11 12), (0, u "com/example/erma/erma/analysis/DistinctSteps"), (0, u "slots"), (0, u "[I"), (0, .fieldref 8 14), (0, .nameAndType 15 12), (0, u "targets"), (0, .class_ 17), (0, u "java/lang/String"), (0, .fieldref 8 19), (0, .nameAndType 20 21), (0, u "labels"), (0, u "[Ljava/lang/String;"), (0, .fieldref 8 23), (0, .nameAndType 24 12), (0, u "slotOf"), (0, .fieldref 8 26), (0, .nameAndType 27 28), (0, u "size"), (0, u "I"), (3, .methodref 8 33), (0, .nameAndType 34 35), (0, u "slotFor"), (0, u "(II)I"), (0, .methodref 16 37), (0, .nameAndType 38 39), (0, u "equals"), (0, u "(Ljava/lang/Object;)Z"), (10, .integer 2654435769), (2, u "clear"), (1, u "add"), (0, u "(Ljava/lang/String;I)Z"), (0, u "()I")] 2

def k9c0 : Code := { maxStack := 2, maxLocals := 1, code := prog_35_method_1_code, exceptionTable := #[], attributes := #[] }
def k9m0 : Method := { name := "<init>", desc := "()V", sig := { parameters := [], returnType := none }, accessFlags := 0, code := some k9c0 }
def k9c1 : Code := { maxStack := 3, maxLocals := 2, code := prog_35_method_2_code, exceptionTable := #[], attributes := #[] }
def k9m1 : Method := { name := "clear", desc := "()V", sig := { parameters := [], returnType := none }, accessFlags := 0, code := some k9c1 }
def k9c2 : Code := { maxStack := 4, maxLocals := 6, code := prog_35_method_3_code, exceptionTable := #[], attributes := #[] }
def k9m2 : Method := { name := "add", desc := "(Ljava/lang/String;I)Z", sig := { parameters := [(.object "java/lang/String"), .int], returnType := some .boolean }, accessFlags := 0, code := some k9c2 }
def k9c3 : Code := { maxStack := 1, maxLocals := 1, code := prog_35_method_4_code, exceptionTable := #[], attributes := #[] }
def k9m3 : Method := { name := "size", desc := "()I", sig := { parameters := [], returnType := some .int }, accessFlags := 0, code := some k9c3 }
def k9c4 : Code := { maxStack := 3, maxLocals := 3, code := prog_35_method_6_code, exceptionTable := #[], attributes := #[] }
def k9m4 : Method := { name := "slotFor", desc := "(II)I", sig := { parameters := [.int, .int], returnType := some .int }, accessFlags := 10, code := some k9c4 }
/-- com/example/erma/erma/analysis/DistinctSteps -/
def k9 : Class := { plain "com/example/erma/erma/analysis/DistinctSteps" (some 0) with
  accessFlags := 32
  interfaces := #[]
  cf := some (fileOf pool9 8 #[] #[{ accessFlags := 0, nameIndex := 5, descriptorIndex := 6, attributes := #[] }, { accessFlags := 0, nameIndex := 53, descriptorIndex := 6, attributes := #[] }, { accessFlags := 0, nameIndex := 55, descriptorIndex := 56, attributes := #[] }, { accessFlags := 0, nameIndex := 27, descriptorIndex := 57, attributes := #[] }, { accessFlags := 10, nameIndex := 34, descriptorIndex := 35, attributes := #[] }] 32 2 #[] #[{ accessFlags := 2, nameIndex := 11, descriptorIndex := 12, attributes := #[] }, { accessFlags := 2, nameIndex := 15, descriptorIndex := 12, attributes := #[] }, { accessFlags := 2, nameIndex := 20, descriptorIndex := 21, attributes := #[] }, { accessFlags := 2, nameIndex := 24, descriptorIndex := 12, attributes := #[] }, { accessFlags := 2, nameIndex := 27, descriptorIndex := 28, attributes := #[] }])
  fields := #[{ name := "slots", type := (.array .int), accessFlags := 2, slot := 0, constantValue := 0 }, { name := "targets", type := (.array .int), accessFlags := 2, slot := 1, constantValue := 0 }, { name := "labels", type := (.array (.object "java/lang/String")), accessFlags := 2, slot := 2, constantValue := 0 }, { name := "slotOf", type := (.array .int), accessFlags := 2, slot := 3, constantValue := 0 }, { name := "size", type := .int, accessFlags := 2, slot := 4, constantValue := 0 }]
  methods := #[k9m0, k9m1, k9m2, k9m3, k9m4]
  instanceTypes := #[(.array .int), (.array .int), (.array (.object "java/lang/String")), (.array .int), .int]
  staticTypes := #[]
  resolved := Array.replicate 60 none
  statics := none }

def pool10 : Array CpInfo := pool [(2, .class_ 4), (1, u "java/lang/Object"), (0, u "<init>"), (0, u "()V"), (17, .class_ 26), (1, u "jdk/internal/util/Preconditions"), (28, .class_ 56), (0, u "jdk/internal/util/Preconditions$4"), (57, .class_ 115), (0, u "jdk/internal/util/Preconditions$1"), (7, u "SIOOBE_FORMATTER"), (0, u "Ljava/util/function/BiFunction;"), (0, .class_ 126), (0, u "jdk/internal/util/Preconditions$2"), (3, u "AIOOBE_FORMATTER"), (0, .class_ 132), (0, u "jdk/internal/util/Preconditions$3"), (3, u "IOOBE_FORMATTER")] 57

def k10m0 : Method := { name := "<init>", desc := "()V", sig := { parameters := [], returnType := none }, accessFlags := 1, code := none }
/-- jdk/internal/util/Preconditions -/
def k10 : Class := { plain "jdk/internal/util/Preconditions" (some 0) with
  accessFlags := 33
  interfaces := #[]
  cf := some (fileOf pool10 24 #[.nestMembers #[55, 131, 125, 114]] #[{ accessFlags := 1, nameIndex := 5, descriptorIndex := 6, attributes := #[] }] 33 2 #[] #[{ accessFlags := 25, nameIndex := 123, descriptorIndex := 124, attributes := #[] }, { accessFlags := 25, nameIndex := 130, descriptorIndex := 124, attributes := #[] }, { accessFlags := 25, nameIndex := 136, descriptorIndex := 124, attributes := #[] }])
  fields := #[{ name := "SIOOBE_FORMATTER", type := (.object "java/util/function/BiFunction"), accessFlags := 25, slot := 0, constantValue := 0 }, { name := "AIOOBE_FORMATTER", type := (.object "java/util/function/BiFunction"), accessFlags := 25, slot := 1, constantValue := 0 }, { name := "IOOBE_FORMATTER", type := (.object "java/util/function/BiFunction"), accessFlags := 25, slot := 2, constantValue := 0 }]
  methods := #[k10m0]
  instanceTypes := #[]
  staticTypes := #[(.object "java/util/function/BiFunction"), (.object "java/util/function/BiFunction"), (.object "java/util/function/BiFunction")]
  resolved := Array.replicate 194 none
  statics := some 1 }

def pool11 : Array CpInfo := pool [(9, u "<init>"), (6, .class_ 18), (1, u "java/lang/Object"), (0, u "()V"), (1, .class_ 23), (1, u "jdk/internal/util/ArraysSupport"), (0, u "LOG2_ARRAY_LONG_INDEX_SCALE"), (0, u "I"), (2, u "U"), (0, u "Ljdk/internal/misc/Unsafe;"), (8, u "BIG_ENDIAN"), (0, u "Z"), (8, u "LOG2_BYTE_BIT_SIZE"), (4, u "LOG2_ARRAY_INT_INDEX_SCALE"), (54, u "JLA"), (0, u "Ljdk/internal/access/JavaLangAccess;"), (11, u "LOG2_ARRAY_BOOLEAN_INDEX_SCALE"), (9, u "LOG2_ARRAY_BYTE_INDEX_SCALE"), (5, u "LOG2_ARRAY_CHAR_INDEX_SCALE"), (5, u "LOG2_ARRAY_SHORT_INDEX_SCALE"), (18, u "LOG2_ARRAY_FLOAT_INDEX_SCALE"), (24, u "LOG2_ARRAY_DOUBLE_INDEX_SCALE"), (89, u "T_BOOLEAN"), (2, u "T_CHAR"), (1, u "T_FLOAT"), (1, u "T_DOUBLE"), (1, u "T_BYTE"), (1, u "T_SHORT"), (1, u "T_INT"), (1, u "T_LONG"), (1, u "SOFT_MAX_ARRAY_LENGTH")] 83

def k11m0 : Method := { name := "<init>", desc := "()V", sig := { parameters := [], returnType := none }, accessFlags := 2, code := none }
/-- jdk/internal/util/ArraysSupport -/
def k11 : Class := { plain "jdk/internal/util/ArraysSupport" (some 0) with
  accessFlags := 33
  interfaces := #[]
  cf := some (fileOf pool11 21 #[] #[{ accessFlags := 2, nameIndex := 9, descriptorIndex := 19, attributes := #[] }] 33 16 #[] #[{ accessFlags := 24, nameIndex := 28, descriptorIndex := 29, attributes := #[] }, { accessFlags := 26, nameIndex := 38, descriptorIndex := 39, attributes := #[] }, { accessFlags := 25, nameIndex := 121, descriptorIndex := 25, attributes := #[] }, { accessFlags := 25, nameIndex := 131, descriptorIndex := 25, attributes := #[] }, { accessFlags := 25, nameIndex := 137, descriptorIndex := 25, attributes := #[] }, { accessFlags := 25, nameIndex := 143, descriptorIndex := 25, attributes := #[] }, { accessFlags := 25, nameIndex := 53, descriptorIndex := 25, attributes := #[] }, { accessFlags := 25, nameIndex := 24, descriptorIndex := 25, attributes := #[] }, { accessFlags := 25, nameIndex := 162, descriptorIndex := 25, attributes := #[] }, { accessFlags := 25, nameIndex := 187, descriptorIndex := 25, attributes := #[] }, { accessFlags := 26, nameIndex := 48, descriptorIndex := 25, attributes := #[] }, { accessFlags := 25, nameIndex := 277, descriptorIndex := 25, attributes := #[] }, { accessFlags := 25, nameIndex := 280, descriptorIndex := 25, attributes := #[] }, { accessFlags := 25, nameIndex := 282, descriptorIndex := 25, attributes := #[] }, { accessFlags := 25, nameIndex := 284, descriptorIndex := 25, attributes := #[] }, { accessFlags := 25, nameIndex := 286, descriptorIndex := 25, attributes := #[] }, { accessFlags := 25, nameIndex := 288, descriptorIndex := 25, attributes := #[] }, { accessFlags := 25, nameIndex := 290, descriptorIndex := 25, attributes := #[] }, { accessFlags := 25, nameIndex := 292, descriptorIndex := 25, attributes := #[] }, { accessFlags := 26, nameIndex := 108, descriptorIndex := 109, attributes := #[] }, { accessFlags := 25, nameIndex := 294, descriptorIndex := 25, attributes := #[] }])
  fields := #[{ name := "U", type := (.object "jdk/internal/misc/Unsafe"), accessFlags := 24, slot := 0, constantValue := 0 }, { name := "BIG_ENDIAN", type := .boolean, accessFlags := 26, slot := 1, constantValue := 0 }, { name := "LOG2_ARRAY_BOOLEAN_INDEX_SCALE", type := .int, accessFlags := 25, slot := 2, constantValue := 0 }, { name := "LOG2_ARRAY_BYTE_INDEX_SCALE", type := .int, accessFlags := 25, slot := 3, constantValue := 0 }, { name := "LOG2_ARRAY_CHAR_INDEX_SCALE", type := .int, accessFlags := 25, slot := 4, constantValue := 0 }, { name := "LOG2_ARRAY_SHORT_INDEX_SCALE", type := .int, accessFlags := 25, slot := 5, constantValue := 0 }, { name := "LOG2_ARRAY_INT_INDEX_SCALE", type := .int, accessFlags := 25, slot := 6, constantValue := 0 }, { name := "LOG2_ARRAY_LONG_INDEX_SCALE", type := .int, accessFlags := 25, slot := 7, constantValue := 0 }, { name := "LOG2_ARRAY_FLOAT_INDEX_SCALE", type := .int, accessFlags := 25, slot := 8, constantValue := 0 }, { name := "LOG2_ARRAY_DOUBLE_INDEX_SCALE", type := .int, accessFlags := 25, slot := 9, constantValue := 0 }, { name := "LOG2_BYTE_BIT_SIZE", type := .int, accessFlags := 26, slot := 10, constantValue := 0 }, { name := "T_BOOLEAN", type := .int, accessFlags := 25, slot := 11, constantValue := 0 }, { name := "T_CHAR", type := .int, accessFlags := 25, slot := 12, constantValue := 0 }, { name := "T_FLOAT", type := .int, accessFlags := 25, slot := 13, constantValue := 0 }, { name := "T_DOUBLE", type := .int, accessFlags := 25, slot := 14, constantValue := 0 }, { name := "T_BYTE", type := .int, accessFlags := 25, slot := 15, constantValue := 0 }, { name := "T_SHORT", type := .int, accessFlags := 25, slot := 16, constantValue := 0 }, { name := "T_INT", type := .int, accessFlags := 25, slot := 17, constantValue := 0 }, { name := "T_LONG", type := .int, accessFlags := 25, slot := 18, constantValue := 0 }, { name := "JLA", type := (.object "jdk/internal/access/JavaLangAccess"), accessFlags := 26, slot := 19, constantValue := 0 }, { name := "SOFT_MAX_ARRAY_LENGTH", type := .int, accessFlags := 25, slot := 20, constantValue := 0 }]
  methods := #[k11m0]
  instanceTypes := #[]
  staticTypes := #[(.object "jdk/internal/misc/Unsafe"), .boolean, .int, .int, .int, .int, .int, .int, .int, .int, .int, .int, .int, .int, .int, .int, .int, .int, .int, (.object "jdk/internal/access/JavaLangAccess"), .int]
  resolved := Array.replicate 378 none
  statics := none }

def pool12 : Array CpInfo := pool [(1, u "java/lang/Cloneable"), (0, .class_ 1), (0, u "java/lang/Object"), (0, .class_ 3)] 3

/-- java/lang/Cloneable -/
def k12 : Class := { plain "java/lang/Cloneable" (some 0) with
  accessFlags := 1537
  interfaces := #[]
  cf := some (fileOf pool12 2 #[] #[] 1537 4 #[] #[])
  fields := #[]
  methods := #[]
  instanceTypes := #[]
  staticTypes := #[]
  resolved := Array.replicate 8 none
  statics := none }

/-- the primitive byte -/
def k13 : Class := { plain "byte" none with kind := .primitive 'B', accessFlags := 0x411 }
/-- [B -/
def k14 : Class := { plain "[B" (some 0) with kind := .array 13 .byte, interfaces := #[12, 2], accessFlags := 1041 }

/-- the primitive int -/
def k15 : Class := { plain "int" none with kind := .primitive 'I', accessFlags := 0x411 }
/-- [I -/
def k16 : Class := { plain "[I" (some 0) with kind := .array 15 .int, interfaces := #[12, 2], accessFlags := 1041 }

/-- [Ljava/lang/String; -/
def k17 : Class := { plain "[Ljava/lang/String;" (some 0) with kind := .array 7 (.object "java/lang/String"), interfaces := #[12, 2], accessFlags := 1041 }

def heap : Heap := #[{ cls := 7, slots := #[.long 0, .int 1, .null, .int 0, .null, .int 0, .int 0], vm := .statics 7 },
  { cls := 10, slots := #[.null, .null, .null], vm := .statics 10 }]
def classes : Array Class := #[k0, k1, k2, k3, k4, k5, k6, k7, k8, k9, k10, k11, k12, k13, k14, k15, k16, k17]
def interned : List (Array UInt16 × Addr) := []
def slotsUsed : Nat := 10
def theMethod : MethodId := ⟨1, 1⟩
def args0 : Array Value := #[.int 3, .int 1, .int 2, .int 3, .int 4276803]
def aboutOver (below : List Frame) : State where
  vm := { classes := classes, interned := interned.toArray }
  heap := heap
  slotsUsed := slotsUsed
  threads := #[{ frames := .invoking theMethod args0 :: below }]
def below0 : List Frame := [.native { method := ⟨0, 0⟩, args := #[] }]
def about1 : State := aboutOver below0
def p0 : Program := .bare "" "" ""
def e0 : Env := launch0.env 0 0 0
theorem w_frames : about1.frames = Frame.invoking theMethod args0 :: below0 := rfl
set_option maxRecDepth 65536 in
theorem w_args : argsFit about1.vm theMethod args0 = true := by decide +kernel
set_option maxRecDepth 65536 in
theorem w_heap : heapFits about1 = true := by decide +kernel
set_option maxRecDepth 65536 in
theorem w_runnable : about1.curStatus? = some .runnable := by decide +kernel
set_option maxRecDepth 65536 in
theorem w_alone : about1.alone = true := by decide +kernel
set_option maxRecDepth 65536 in
theorem w_named : about1.methodNamed? x = some theMethod := by decide +kernel
set_option maxRecDepth 65536 in
theorem w_hears : about1.hears theMethod below0 = true := by decide +kernel
set_option maxRecDepth 65536 in
theorem w_ripe : about1.ripe theMethod args0 below0 = true := by decide +kernel
theorem w_running : about1.status = .running := rfl
set_option maxRecDepth 65536 in
theorem w_room : about1.hasRoom e0.platform room_1 = true :=
  launch0.hasRoom_least _ room_1 (by decide +kernel) (by decide +kernel) (by decide +kernel) (by decide +kernel) (by decide +kernel) (by decide +kernel)
theorem allAtoms_all (ts : List Jvm.Cond) (a : Array Jvm.Value) (st : Jvm.State) : (allAtoms ts).before a st = ts.all (fun c => c.before a st) := by
  induction ts with
  | nil => rfl
  | cons c t ih =>
    show (Jvm.Cond.and c (allAtoms t)).before a st = _
    rw [Jvm.Cond.before_and, ih, List.all_cons]
def words1 : List Jvm.Cond := Jvm.Cond.code x code maxLocals ret :: tables_1
/-- a 'code' word, met by the world's own term for the bytes: nothing is compared byte by byte -/
theorem code_word {y : MethodName} {bytes : ByteArray} {mx : Nat} {rt : Option FieldType} {a : Array Value} {s : State} {m : MethodId} {meth : Method} {c : Code} (h1 : s.methodNamed? y = some m) (h2 : s.vm.method? m = some meth) (h3 : meth.code = some c) (h4 : c.code = bytes)
    (h5 : (c.maxLocals == mx && c.exceptionTable.isEmpty && decide (c.maxStack ≤ mostOperands) && decide (meth.sig.returnType = rt) && !meth.locks && decide (parseMethodDescriptor y.desc = some meth.sig)) = true) : (Jvm.Cond.code y bytes mx rt).before a s = true := by
  simp only [Bool.and_eq_true, beq_iff_eq, Bool.not_eq_true', decide_eq_true_eq] at h5
  obtain ⟨⟨⟨⟨⟨g1, g2⟩, g3⟩, g4⟩, g5⟩, g6⟩ := h5
  simp [Cond.before, Cond.holds, Cond.value, h1, h2, h3, h4, g1, g2, g3, g4, g5, g6]
def isCode : Jvm.Cond → Bool
  | .code _ _ _ _ => true
  | _ => false
theorem all_split {L : List Jvm.Cond} {P : Jvm.Cond → Bool} (h1 : L.all (fun c => isCode c || P c) = true) (h2 : ∀ c ∈ L.filter isCode, P c = true) : L.all P = true := by
  refine List.all_eq_true.mpr fun c hc => ?_
  have h := List.all_eq_true.mp h1 c hc
  rcases Bool.eq_false_or_eq_true (isCode c) with hi | hi
  · exact h2 c (List.mem_filter.mpr ⟨hc, hi⟩)
  · simpa [hi] using h
set_option maxRecDepth 65536 in
theorem w_c0 : (Jvm.Cond.code x code maxLocals ret).before args0 about1 = true := code_word (m := ⟨1, 1⟩) (meth := k1m1) (c := k1c1) (by decide +kernel) rfl rfl rfl (by decide +kernel)
set_option maxRecDepth 65536 in
theorem w_c1 : (Jvm.Cond.code ({ cls := "java/lang/String", name := "valueOf", desc := "(C)Ljava/lang/String;" } : Jvm.MethodName) jdk_42_method_139_code (1 : Nat) (Option.some (Jvm.ClassFile.FieldType.object "java/lang/String"))).before args0 about1 = true := code_word (m := ⟨7, 2⟩) (meth := k7m2) (c := k7c2) (by decide +kernel) rfl rfl rfl (by decide +kernel)
set_option maxRecDepth 65536 in
theorem w_c2 : (Jvm.Cond.code ({ cls := "java/lang/StringLatin1", name := "canEncode", desc := "(C)Z" } : Jvm.MethodName) jdk_43_method_3_code (1 : Nat) (Option.some Jvm.ClassFile.FieldType.boolean)).before args0 about1 = true := code_word (m := ⟨8, 1⟩) (meth := k8m1) (c := k8c1) (by decide +kernel) rfl rfl rfl (by decide +kernel)
set_option maxRecDepth 65536 in
theorem w_c3 : (Jvm.Cond.code ({ cls := "java/lang/StringLatin1", name := "toBytes", desc := "(C)[B" } : Jvm.MethodName) jdk_43_method_46_code (1 : Nat) (Option.some (Jvm.ClassFile.FieldType.array Jvm.ClassFile.FieldType.byte))).before args0 about1 = true := code_word (m := ⟨8, 3⟩) (meth := k8m3) (c := k8c3) (by decide +kernel) rfl rfl rfl (by decide +kernel)
set_option maxRecDepth 65536 in
theorem w_c4 : (Jvm.Cond.code ({ cls := "java/lang/String", name := "<init>", desc := "([BB)V" } : Jvm.MethodName) jdk_42_method_151_code (3 : Nat) (Option.none : Option Jvm.ClassFile.FieldType)).before args0 about1 = true := code_word (m := ⟨7, 3⟩) (meth := k7m3) (c := k7c3) (by decide +kernel) rfl rfl rfl (by decide +kernel)
set_option maxRecDepth 65536 in
theorem w_c5 : (Jvm.Cond.code ({ cls := "java/lang/Object", name := "<init>", desc := "()V" } : Jvm.MethodName) object_method_1_code (1 : Nat) (Option.none : Option Jvm.ClassFile.FieldType)).before args0 about1 = true := code_word (m := ⟨0, 0⟩) (meth := k0m0) (c := k0c0) (by decide +kernel) rfl rfl rfl (by decide +kernel)
set_option maxRecDepth 65536 in
theorem w_c6 : (Jvm.Cond.code ({ cls := "com/example/erma/erma/analysis/DistinctSteps", name := "<init>", desc := "()V" } : Jvm.MethodName) prog_35_method_1_code (1 : Nat) (Option.none : Option Jvm.ClassFile.FieldType)).before args0 about1 = true := code_word (m := ⟨9, 0⟩) (meth := k9m0) (c := k9c0) (by decide +kernel) rfl rfl rfl (by decide +kernel)
set_option maxRecDepth 65536 in
theorem w_c7 : (Jvm.Cond.code ({ cls := "com/example/erma/erma/analysis/DistinctSteps", name := "clear", desc := "()V" } : Jvm.MethodName) prog_35_method_2_code (2 : Nat) (Option.none : Option Jvm.ClassFile.FieldType)).before args0 about1 = true := code_word (m := ⟨9, 1⟩) (meth := k9m1) (c := k9c1) (by decide +kernel) rfl rfl rfl (by decide +kernel)
set_option maxRecDepth 65536 in
theorem w_c8 : (Jvm.Cond.code ({ cls := "com/example/erma/erma/analysis/DistinctSteps", name := "size", desc := "()I" } : Jvm.MethodName) prog_35_method_4_code (1 : Nat) (Option.some Jvm.ClassFile.FieldType.int)).before args0 about1 = true := code_word (m := ⟨9, 3⟩) (meth := k9m3) (c := k9c3) (by decide +kernel) rfl rfl rfl (by decide +kernel)
set_option maxRecDepth 65536 in
theorem w_c9 : (Jvm.Cond.code ({ cls := "com/example/erma/erma/analysis/DistinctSteps", name := "add", desc := "(Ljava/lang/String;I)Z" } : Jvm.MethodName) prog_35_method_3_code (6 : Nat) (Option.some Jvm.ClassFile.FieldType.boolean)).before args0 about1 = true := code_word (m := ⟨9, 2⟩) (meth := k9m2) (c := k9c2) (by decide +kernel) rfl rfl rfl (by decide +kernel)
set_option maxRecDepth 65536 in
theorem w_c10 : (Jvm.Cond.code ({ cls := "com/example/erma/erma/analysis/DistinctSteps", name := "slotFor", desc := "(II)I" } : Jvm.MethodName) prog_35_method_6_code (3 : Nat) (Option.some Jvm.ClassFile.FieldType.int)).before args0 about1 = true := code_word (m := ⟨9, 4⟩) (meth := k9m4) (c := k9c4) (by decide +kernel) rfl rfl rfl (by decide +kernel)
set_option maxRecDepth 65536 in
theorem w_c11 : (Jvm.Cond.code ({ cls := "java/lang/String", name := "equals", desc := "(Ljava/lang/Object;)Z" } : Jvm.MethodName) jdk_42_method_66_code (3 : Nat) (Option.some Jvm.ClassFile.FieldType.boolean)).before args0 about1 = true := code_word (m := ⟨7, 1⟩) (meth := k7m1) (c := k7c1) (by decide +kernel) rfl rfl rfl (by decide +kernel)
set_option maxRecDepth 65536 in
theorem w_c12 : (Jvm.Cond.code ({ cls := "java/lang/StringLatin1", name := "equals", desc := "([B[B)Z" } : Jvm.MethodName) jdk_43_method_13_code (3 : Nat) (Option.some Jvm.ClassFile.FieldType.boolean)).before args0 about1 = true := code_word (m := ⟨8, 2⟩) (meth := k8m2) (c := k8c2) (by decide +kernel) rfl rfl rfl (by decide +kernel)
def codes1 : List Jvm.Cond := [Jvm.Cond.code x code maxLocals ret, Jvm.Cond.code ({ cls := "java/lang/String", name := "valueOf", desc := "(C)Ljava/lang/String;" } : Jvm.MethodName) jdk_42_method_139_code (1 : Nat) (Option.some (Jvm.ClassFile.FieldType.object "java/lang/String")), Jvm.Cond.code ({ cls := "java/lang/StringLatin1", name := "canEncode", desc := "(C)Z" } : Jvm.MethodName) jdk_43_method_3_code (1 : Nat) (Option.some Jvm.ClassFile.FieldType.boolean), Jvm.Cond.code ({ cls := "java/lang/StringLatin1", name := "toBytes", desc := "(C)[B" } : Jvm.MethodName) jdk_43_method_46_code (1 : Nat) (Option.some (Jvm.ClassFile.FieldType.array Jvm.ClassFile.FieldType.byte)), Jvm.Cond.code ({ cls := "java/lang/String", name := "<init>", desc := "([BB)V" } : Jvm.MethodName) jdk_42_method_151_code (3 : Nat) (Option.none : Option Jvm.ClassFile.FieldType), Jvm.Cond.code ({ cls := "java/lang/Object", name := "<init>", desc := "()V" } : Jvm.MethodName) object_method_1_code (1 : Nat) (Option.none : Option Jvm.ClassFile.FieldType), Jvm.Cond.code ({ cls := "com/example/erma/erma/analysis/DistinctSteps", name := "<init>", desc := "()V" } : Jvm.MethodName) prog_35_method_1_code (1 : Nat) (Option.none : Option Jvm.ClassFile.FieldType), Jvm.Cond.code ({ cls := "com/example/erma/erma/analysis/DistinctSteps", name := "clear", desc := "()V" } : Jvm.MethodName) prog_35_method_2_code (2 : Nat) (Option.none : Option Jvm.ClassFile.FieldType), Jvm.Cond.code ({ cls := "com/example/erma/erma/analysis/DistinctSteps", name := "size", desc := "()I" } : Jvm.MethodName) prog_35_method_4_code (1 : Nat) (Option.some Jvm.ClassFile.FieldType.int), Jvm.Cond.code ({ cls := "com/example/erma/erma/analysis/DistinctSteps", name := "add", desc := "(Ljava/lang/String;I)Z" } : Jvm.MethodName) prog_35_method_3_code (6 : Nat) (Option.some Jvm.ClassFile.FieldType.boolean), Jvm.Cond.code ({ cls := "com/example/erma/erma/analysis/DistinctSteps", name := "slotFor", desc := "(II)I" } : Jvm.MethodName) prog_35_method_6_code (3 : Nat) (Option.some Jvm.ClassFile.FieldType.int), Jvm.Cond.code ({ cls := "java/lang/String", name := "equals", desc := "(Ljava/lang/Object;)Z" } : Jvm.MethodName) jdk_42_method_66_code (3 : Nat) (Option.some Jvm.ClassFile.FieldType.boolean), Jvm.Cond.code ({ cls := "java/lang/StringLatin1", name := "equals", desc := "([B[B)Z" } : Jvm.MethodName) jdk_43_method_13_code (3 : Nat) (Option.some Jvm.ClassFile.FieldType.boolean)]
set_option maxRecDepth 65536 in
theorem codes_eq : words1.filter isCode = codes1 := rfl
theorem w_codes : ∀ c ∈ words1.filter isCode, c.before args0 about1 = true := by
  rw [codes_eq]
  intro c hc
  simp only [codes1, List.mem_cons, List.not_mem_nil, or_false] at hc
  rcases hc with rfl | rfl | rfl | rfl | rfl | rfl | rfl | rfl | rfl | rfl | rfl | rfl | rfl
  · exact w_c0
  · exact w_c1
  · exact w_c2
  · exact w_c3
  · exact w_c4
  · exact w_c5
  · exact w_c6
  · exact w_c7
  · exact w_c8
  · exact w_c9
  · exact w_c10
  · exact w_c11
  · exact w_c12
set_option maxRecDepth 65536 in
theorem w_t1 : (words1.take 24).all (fun c => isCode c || c.before args0 about1) = true := by decide +kernel
set_option maxRecDepth 65536 in
theorem w_t2 : ((words1.drop 24).take 24).all (fun c => isCode c || c.before args0 about1) = true := by decide +kernel
set_option maxRecDepth 65536 in
theorem w_t3 : (((words1.drop 24).drop 24).take 24).all (fun c => isCode c || c.before args0 about1) = true := by decide +kernel
set_option maxRecDepth 65536 in
theorem w_t4 : (((words1.drop 24).drop 24).drop 24).all (fun c => isCode c || c.before args0 about1) = true := by decide +kernel
theorem w_tables : (allAtoms (Jvm.Cond.code x code maxLocals ret :: tables_1)).before args0 about1 = true := by
  rw [allAtoms_all]
  show words1.all (fun c => c.before args0 about1) = true
  refine all_split ?_ w_codes
  rw [← List.take_append_drop 24 words1, List.all_append, w_t1, ← List.take_append_drop 24 (words1.drop 24), List.all_append, w_t2, ← List.take_append_drop 24 ((words1.drop 24).drop 24), List.all_append, w_t3, w_t4]
  rfl
set_option maxRecDepth 65536 in
theorem w_rest : rest_1_c.before args0 about1 = true := by decide +kernel
set_option maxRecDepth 65536 in
theorem w_case : (Jvm.Cond.and given_1 narrow_1).before args0 about1 = true := by decide +kernel
theorem w_applies : (headSpec (Jvm.Cond.code x code maxLocals ret :: tables_1) room_1).applies x e0.platform about1 = true :=
  (Spec.applies_iff w_frames).mpr ⟨w_running, w_runnable, w_alone, w_named, w_hears, w_ripe, w_room, w_tables⟩
theorem atStart : AtStart classFile x code maxLocals ret World_1 tables_1 room_1 Calls_1 rest_1 Pre_1 launch0 p0 e0 about1 theMethod args0 below0 :=
  ⟨lists_1, trivial, launch0.admits_env _ _ _, launch0.least_env, fairChoices_fair.cas, fairChoices_fair.clock, w_frames, w_args, w_heap, w_applies, trivial, w_rest, w_case⟩
end start1
theorem witness_1 : WitnessClaimed_1 := ⟨start1.p0, start1.e0, start1.about1, start1.theMethod, start1.args0, start1.below0, start1.atStart⟩
end Jvm.Pilot.@@N@@
