import JvmDerived
import JvmDerived.Pilot.@@N@@Statement
import JvmDerived.Pilot.@@N@@Code
set_option linter.unusedVariables false
set_option linter.unusedSimpArgs false
namespace Jvm.RoadKit
open Sem ClassFile Op Lib Jvm.Stand Jvm.Free Jvm.LawKit
section New
variable {p : Program} {l : Launch} {e : Env} {R : Room} {s : State} {m : MethodId} {args : Array Value} {below : List Frame} {meth : Method} {c : Code} {T : State} {locs : List Loc} {cells slots : Nat}
theorem retI (X : Stand p l e R s m args below meth c T locs cells slots) (hx : p.tables.exec = Jvm.exec) {pc : Nat} {Ls : Array Slot} {z : Int32} {rest : List Value} (hret : meth.sig.returnType = some .int) (hd : decode c.code pc = .ok (.ireturn, 1)) {fs : List Frame}
    (hl : ∀ (f : JFrame) (acts : List Action), f.method = m → f.locked = none → f.entered = [] → (doReturn e (T.setTop f) acts (some (.int z))).1 = T.setFrames fs) : Steps p.tables e below (T.setTop (mkF m pc Ls (.int z :: rest))) (T.setFrames fs) := by
  have hm' : T.vm.method? m = some meth := X.method'
  have hn : narrow .int (.int z) = .int z := rfl
  show Steps p.tables e below (T.setTop { method := m, pc := pc, locals := Ls, stack := _ :: rest, locked := none }) _
  jvm_step X.here [X.here.top, hx, hd, hm', hret, hn]
  first | (intro acts; rw [hl _ acts rfl rfl rfl]) | rw [hl _ _ rfl rfl rfl]
  exact Steps.refl _
end New
/-! own: a long's comparison, an array by a function -/
theorem own_tltL {x y : Int64} (h : x < y) : ifCond.holds .lt (lcmpW x y) = true ∧ ifCond.holds .ge (lcmpW x y) = false ∧ ifCond.holds .gt (lcmpW y x) = true ∧ ifCond.holds .le (lcmpW y x) = false := by
  have h1 := (lc_lt x y).mpr h
  have h2 := (lc_gt y x).mpr h
  rw [← lcW] at h1 h2
  simp only [if0]
  exact ⟨(tlt h1).1, (tlt h1).2.1, (tlt h2).2.2.1, (tlt h2).2.2.2⟩
theorem own_fltL {x y : Int64} (h : ¬ x < y) : ifCond.holds .lt (lcmpW x y) = false ∧ ifCond.holds .ge (lcmpW x y) = true ∧ ifCond.holds .gt (lcmpW y x) = false ∧ ifCond.holds .le (lcmpW y x) = true := by
  have h1 := mt (lc_lt x y).mp h
  have h2 := mt (lc_gt y x).mp h
  rw [← lcW] at h1 h2
  simp only [if0]
  exact ⟨(flt h1).1, (flt h1).2.1, (flt h2).2.2.1, (flt h2).2.2.2⟩
theorem own_teqL {x y : Int64} (h : x = y) : ifCond.holds .eq (lcmpW x y) = true ∧ ifCond.holds .ne (lcmpW x y) = false := by
  have h1 := (lc_eq x y).mpr h
  rw [← lcW] at h1
  simp only [if0]
  exact teq h1
theorem own_feqL {x y : Int64} (h : ¬ x = y) : ifCond.holds .eq (lcmpW x y) = false ∧ ifCond.holds .ne (lcmpW x y) = true := by
  have h1 := mt (lc_eq x y).mp h
  rw [← lcW] at h1
  simp only [if0]
  exact feq h1
theorem own_nb (x : Int32) : nar .byte (x.toInt8.toInt32) = x.toInt8.toInt32 := by
  show (x.toInt8.toInt32).toInt8.toInt32 = _
  simp
theorem own_sel {args : Array Value} {s : State} {y z : MethodName} (hi : (Cond.instanceMethod y).before args s = true) (hp : (Cond.privateMethod y).before args s = true) (h2 : (Cond.selects y.cls z z).before args s = true) (hc : z.cls = y.cls)
    (hy : y.cls ≠ "java/lang/invoke/MethodHandle" ∧ y.cls ≠ "java/lang/invoke/VarHandle") : (Cond.selects y.cls y y).before args s = true := by
  obtain ⟨mk, meth, hn, hm, -, -⟩ := Cond.instanceMethod_spec hi
  obtain ⟨c, r, m2, -, -, f3, -, k, f4, f5⟩ := Cond.selects_spec h2
  have e1 := findClass_of_methodNamed hn
  have e2 := findClass_of_methodNamed f3
  rw [hc, e1] at e2
  have e3 : m2.cls = mk.cls := (Option.some.inj e2).symm
  have e4 := State.methodFound?_of_named hn hy
  have e5 := selectMethod_private (p := {}) (c := mk.cls) hm (Cond.privateMethod_at hp mk meth hn hm)
  rw [e3] at f4
  simp [Cond.before, Cond.holds, Cond.value, e1, e4, hn, e5, f4, f5]
def AF (Z : State) (h : Heap) (a : Addr) (ty : FieldType) (n : Nat) (g : Nat → Value) : Prop := ∃ c : Cell, Arr Z h a c ty ∧ c.slots.size = n ∧ ∀ j, j < n → c.slots[j]? = some (g j)
abbrev AI (Z : State) (h : Heap) (a : Addr) (ty : FieldType) (n : Nat) (f : Nat → Int32) : Prop := AF Z h a ty n (fun j => .int (f j))
abbrev AJ (Z : State) (h : Heap) (a : Addr) (ty : FieldType) (n : Nat) (f : Nat → Int64) : Prop := AF Z h a ty n (fun j => .long (f j))
abbrev AD (Z : State) (h : Heap) (a : Addr) (ty : FieldType) (n : Nat) (f : Nat → UInt64) : Prop := AF Z h a ty n (fun j => .double (f j))
def up {α : Type} (f : Nat → α) (i : Nat) (v : α) : Nat → α := fun j => if j = i then v else f j
def zI : Nat → Int32 := fun _ => 0
def zJ : Nat → Int64 := fun _ => 0
section Arrs
variable {Z : State} {h h' : Heap} {a b : Addr} {ty : FieldType} {n : Nat} {g g' : Nat → Value}
theorem AF.lt (F : AF Z h a ty n g) : a < h.size := by obtain ⟨c, A, -⟩ := F; exact A.lt
theorem AF.ext (F : AF Z h a ty n g) (E : Ext h h') : AF Z h' a ty n g := by obtain ⟨c, A, r⟩ := F; exact ⟨c, A.ext E, r⟩
theorem AF.other {sl : Nat} {v : Value} (F : AF Z h b ty n g) (W : Wr h h' a sl v) (q : b ≠ a) : AF Z h' b ty n g := by obtain ⟨c, A, r⟩ := F; exact ⟨c, A.other W q, r⟩
theorem AF.keep {ws : List Addr} (F : AF Z h a ty n g) (K : Keep h h' ws) (q : a ∉ ws) : AF Z h' a ty n g := by obtain ⟨c, A, r⟩ := F; exact ⟨c, ⟨K.2.1 a c A.1 q, A.2⟩, r⟩
theorem AF.re (F : AF Z h a ty n g) (q : ∀ j, j < n → g j = g' j) : AF Z h a ty n g' := by obtain ⟨c, A, S, H⟩ := F; exact ⟨c, A, S, fun j hj => by rw [H j hj, q j hj]⟩
theorem AF.at (F : AF Z h a ty n g) {j : Int32} (i : Nat) (hj : j.toInt = i) (hi : i < n) : ∃ c : Cell, Arr Z h a c ty ∧ ¬ (j < 0 ∨ c.slots.size ≤ j.toNatClampNeg) ∧ c.slots[j.toNatClampNeg]? = some (g i) := by
  obtain ⟨c, A, S, H⟩ := F
  have e : j.toNatClampNeg = i := by simp only [Int32.toNatClampNeg, hj]; omega
  refine ⟨c, A, ?_, by rw [e]; exact H i hi⟩
  rw [e, S, Int32.lt_iff_toInt_lt, hj]
  have : (0 : Int32).toInt = 0 := rfl
  omega
theorem AF.len (F : AF Z h a ty n g) : ∃ c : Cell, Arr Z h a c ty ∧ c.slots.size = n := by obtain ⟨c, A, S, -⟩ := F; exact ⟨c, A, S⟩
theorem AF.set {k : Nat} {v : Value} (F : AF Z h a ty n g) (W : Wr h h' a k v) : AF Z h' a ty n (fun j => if j = k then v else g j) := by
  obtain ⟨c, A, S, H⟩ := F
  refine ⟨_, A.same W, by rw [sz_set]; exact S, fun j hj => ?_⟩
  by_cases q : j = k
  · subst q; simp [Cell.setSlot, S, hj]
  · show _ = some (if j = k then v else g j)
    rw [if_neg q]; have := H j hj; simp only [Cell.setSlot] at this ⊢; rw [Array.getElem?_setIfInBounds_ne (Ne.symm q)]; exact this
theorem own_tn {j : Int32} {i : Nat} (hj : j.toInt = i) : j.toNatClampNeg = i := by simp only [Int32.toNatClampNeg, hj]; omega
theorem AF.setI {f : Nat → Int32} {j : Int32} {v : Int32} (F : AI Z h a ty n f) (W : Wr h h' a j.toNatClampNeg (.int v)) (i : Nat) (hj : j.toInt = i) : AI Z h' a ty n (up f i v) := by
  rw [own_tn hj] at W
  exact (AF.set F W).re fun k _ => by by_cases q : k = i <;> simp [up, q]
theorem AF.setJ {f : Nat → Int64} {j : Int32} {v : Int64} (F : AJ Z h a ty n f) (W : Wr h h' a j.toNatClampNeg (.long v)) (i : Nat) (hj : j.toInt = i) : AJ Z h' a ty n (up f i v) := by
  rw [own_tn hj] at W
  exact (AF.set F W).re fun k _ => by by_cases q : k = i <;> simp [up, q]
theorem AF.setD {f : Nat → UInt64} {j : Int32} {v : UInt64} (F : AD Z h a ty n f) (W : Wr h h' a j.toNatClampNeg (.double v)) (i : Nat) (hj : j.toInt = i) : AD Z h' a ty n (up f i v) := by
  rw [own_tn hj] at W
  exact (AF.set F W).re fun k _ => by by_cases q : k = i <;> simp [up, q]
theorem AF.new {k : ClassId} {z : Int32} (A : Arr Z h a (newA k ty z) ty) (hz : z.toInt = n) : AF Z h a ty n (fun _ => defaultValue ty) :=
  ⟨_, A, by rw [sz_new]; exact own_tn hz, fun j hj => by simp [newA, own_tn hz, hj]⟩
end Arrs
end Jvm.RoadKit
namespace Jvm.Pilot.@@N@@
open Jvm Jvm.ClassFile Sem Op Lib Jvm.Free Jvm.Stand Jvm.LawKit Jvm.RoadKit Bundle Jvm.Pilot.@@N@@.Jvm.D
theorem ef_2 (m : MethodId) (ra : Addr) : entryFrame m #[(.ref ra)] 1 = mkF m 0 #[.val (.ref ra)] [] := by first | (simp [entryFrame, mkF, argsToLocals, Value.category]; done) | rfl
theorem d2_0 : decode jdk_30_method_1_code 0 = .ok (.aload_n 0, 1) := by decide +kernel
theorem d2_1 : decode jdk_30_method_1_code 1 = .ok (.invokespecial 1, 3) := by decide +kernel
theorem d2_4 : decode jdk_30_method_1_code 4 = .ok (.return_, 1) := by decide +kernel
theorem pn_java_lang_Record : plainName "java/lang/Record" = true := by first | (simp [plainName, overriddenIn]; done) | decide +kernel
def Q2 (Z : State) (ra : Addr) (h0 : Heap) (n0 : Nat) (v : Option Value) (h : Heap) (L : List Loc) : Prop := v = none ∧ Fr n0 L ∧ h = h0
set_option maxRecDepth 65536 in
set_option maxHeartbeats 40000000 in
theorem rm2 (l : Launch) (Z : State) (a0 : Array Value) (hw : ∀ d ∈ tables_1, d.before a0 Z = true) (ws : List Jvm.Cond) (ra : Addr) (h0 : Heap) (n0 : Nat) (Z0 : n0 ≤ h0.size) :
    MetFree l (⟨"java/lang/Record", "<init>", "()V"⟩ : MethodName) (head1 (Jvm.Cond.code (⟨"java/lang/Record", "<init>", "()V"⟩ : MethodName) jdk_30_method_1_code 1 none :: ws) ({ frames := 1, cells := 0, slots := 0, locals := 12 } : Room)) (fun a U => a = #[(.ref ra)] ∧ Z.Warmed39 U.vm ∧ U.heap = h0) (fun _ _ _ _ _ => True) (fun _ U o U' => ∃ v L, o = .returned v ∧ Q2 Z ra h0 n0 v U'.heap L ∧ FrameEnd U o U' L ({ frames := 1, cells := 0, slots := 0, locals := 12 } : Room).cells ({ frames := 1, cells := 0, slots := 0, locals := 12 } : Room).slots) := by
  refine MetFree.of_bodySF (plainFor_of_name pn_java_lang_Record) hisR ?_
  intro p e s m args below meth c s₁ Bd hml0 hP hK
  obtain ⟨rfl, hZ, hh⟩ := hP
  have hx := Bd.exec
  have hby := Bd.bytes
  have hml : c.maxLocals = 1 := hml0
  have hown : s.vm.findClass "java/lang/Record" = some m.cls := findClass_of_methodNamed Bd.named
  have hnm := (name_of_methodNamed Bd.named Bd.method).1
  have X0 : Stand p l e ({ frames := 1, cells := 0, slots := 0, locals := 12 } : Room) s m #[(.ref ra)] below meth c s₁ [] 0 0 := Stand.of_body Bd
  have e0 : s₁.heap = h0 := by rw [← hh, Bd.state]; rfl
  have N0 := Fr.nil n0
  have K0 : Keep h0 h0 [] := Keep.refl h0 _
  have pre0 : ∀ t, Steps p.tables e below (s₁.setTop (mkF m 0 #[.val (.ref ra)] [])) t → Steps p.tables e below (s₁.setTop (entryFrame m #[(.ref ra)] 1)) t := fun t k => castTop (ef_2 m ra) k
  obtain ⟨T1, X1, e1, st1⟩ := initO X0 hx hZ hown (hw _ (List.mem_of_getElem? (i := 12) rfl)) (hw _ (List.mem_of_getElem? (i := 13) rfl)) (hw _ (List.mem_of_getElem? (i := 14) rfl)) e0 (g := (mkF m 1 #[.val (.ref ra)] [(.ref ra)])) rfl (by rw [hml]; rfl) rfl (hb hby d2_1) (by decide) (W := 0) (by show 2 * 0 + _ ≤ _; exact Nat.le_of_eq rfl) (by decide)
  obtain ⟨fs, hr, hrun, hended, hW, hsame⟩ := X1.leave (v := none) (fun _ => rfl)
  refine ⟨_, _, pre0 _ ?_, hrun, hended, _, _, rfl, ?_, ⟨_, rfl⟩, hW, hsame.mono (by decide) (by decide)⟩
  · show Steps p.tables e below (s₁.setTop (mkF m 0 #[.val (.ref ra)] [])) _
    refine XS.aloadN X0.here hx rfl (hb hby d2_0) rfl rfl ?_
    show Steps p.tables e below (s₁.setTop (mkF m 1 #[.val (.ref ra)] [(.ref ra)])) _
    refine st1 _ ?_
    show Steps p.tables e below (T1.setTop (mkF m 4 #[.val (.ref ra)] [])) _
    exact X1.returnOut hx Bd.returns (hb hby d2_4) hr
  · show Q2 Z ra h0 n0 _ T1.heap _
    rw [e1]
    exact ⟨rfl, N0, rfl⟩
theorem ef_1 (m : MethodId) (ra : Addr) (pv : Int32) : entryFrame m #[(.ref ra), (.int pv)] 2 = mkF m 0 #[.val (.ref ra), .val (.int pv)] [] := by first | (simp [entryFrame, mkF, argsToLocals, Value.category]; done) | rfl
theorem d1_0 : decode prog_16_method_1_code 0 = .ok (.aload_n 0, 1) := by decide +kernel
theorem pd_0 : parseMethodDescriptor "()V" = some ⟨[], none⟩ := by decide +kernel
theorem d1_1 : decode prog_16_method_1_code 1 = .ok (.invokespecial 3, 3) := by decide +kernel
theorem d1_4 : decode prog_16_method_1_code 4 = .ok (.iload_n 1, 1) := by decide +kernel
theorem d1_5 : decode prog_16_method_1_code 5 = .ok (.iconst 1, 1) := by decide +kernel
theorem d1_6 : decode prog_16_method_1_code 6 = .ok (.if_icmp .ge 17, 3) := by decide +kernel
theorem d1_23 : decode prog_16_method_1_code 23 = .ok (.aload_n 0, 1) := by decide +kernel
theorem d1_24 : decode prog_16_method_1_code 24 = .ok (.iload_n 1, 1) := by decide +kernel
theorem d1_25 : decode prog_16_method_1_code 25 = .ok (.putfield 18, 3) := by decide +kernel
theorem d1_28 : decode prog_16_method_1_code 28 = .ok (.return_, 1) := by decide +kernel
theorem pn_com_example_partlint_partlint_model_ApiLevel : plainName "com/example/partlint/partlint/model/ApiLevel" = true := by first | (simp [plainName, overriddenIn]; done) | decide +kernel
def Q1 (Z : State) (ra : Addr) (pv : Int32) (u_value_ra : Int32) (h0 : Heap) (n0 : Nat) (v : Option Value) (h : Heap) (L : List Loc) : Prop := v = none ∧ Fr n0 L ∧ Keep h0 h [ra] ∧ Fld Z h ra "com/example/partlint/partlint/model/ApiLevel" "value" "I" (.int pv)
set_option maxRecDepth 65536 in
set_option maxHeartbeats 40000000 in
theorem rm1 (l : Launch) (Z : State) (a0 : Array Value) (hw : ∀ d ∈ tables_1, d.before a0 Z = true) (ws : List Jvm.Cond) (ra : Addr) (pv : Int32) (u_value_ra : Int32) (h0 : Heap) (n0 : Nat) (Z0 : n0 ≤ h0.size) (hc6 : ¬ (pv < (1 : Int32))) (E_ra : Exa Z h0 ra "com/example/partlint/partlint/model/ApiLevel") (F_value_ra : Fld Z h0 ra "com/example/partlint/partlint/model/ApiLevel" "value" "I" (.int u_value_ra)) (g_ra : n0 ≤ ra) :
    MetFree l (⟨"com/example/partlint/partlint/model/ApiLevel", "<init>", "(I)V"⟩ : MethodName) (head1 (Jvm.Cond.code (⟨"com/example/partlint/partlint/model/ApiLevel", "<init>", "(I)V"⟩ : MethodName) prog_16_method_1_code 2 none :: ws) ({ frames := 2, cells := 0, slots := 0, locals := 24 } : Room)) (fun a U => a = #[(.ref ra), (.int pv)] ∧ Z.Warmed39 U.vm ∧ U.heap = h0) (fun _ _ _ _ _ => True) (fun _ U o U' => ∃ v L, o = .returned v ∧ Q1 Z ra pv u_value_ra h0 n0 v U'.heap L ∧ FrameEnd U o U' L ({ frames := 2, cells := 0, slots := 0, locals := 24 } : Room).cells ({ frames := 2, cells := 0, slots := 0, locals := 24 } : Room).slots) := by
  refine MetFree.of_bodySF (plainFor_of_name pn_com_example_partlint_partlint_model_ApiLevel) hisR ?_
  intro p e s m args below meth c s₁ Bd hml0 hP hK
  obtain ⟨rfl, hZ, hh⟩ := hP
  have hx := Bd.exec
  have hby := Bd.bytes
  have hml : c.maxLocals = 2 := hml0
  have hown : s.vm.findClass "com/example/partlint/partlint/model/ApiLevel" = some m.cls := findClass_of_methodNamed Bd.named
  have hnm := (name_of_methodNamed Bd.named Bd.method).1
  have X0 : Stand p l e ({ frames := 2, cells := 0, slots := 0, locals := 24 } : Room) s m #[(.ref ra), (.int pv)] below meth c s₁ [] 0 0 := Stand.of_body Bd
  have e0 : s₁.heap = h0 := by rw [← hh, Bd.state]; rfl
  have N0 := Fr.nil n0
  have K0 : Keep h0 h0 [ra] := Keep.refl h0 _
  have pre0 : ∀ t, Steps p.tables e below (s₁.setTop (mkF m 0 #[.val (.ref ra), .val (.int pv)] [])) t → Steps p.tables e below (s₁.setTop (entryFrame m #[(.ref ra), (.int pv)] 2)) t := fun t k => castTop (ef_1 m ra pv) k
  obtain ⟨_, _, ⟨T1, L1, k1, n1⟩, -, X1, ⟨Lc1, hQ1, l1, y1, z1⟩, st1⟩ := X0.specialBack hx (y := (⟨"java/lang/Record", "<init>", "()V"⟩ : MethodName)) rfl hown (mvT hZ (hw _ (List.mem_of_getElem? (i := 7) rfl))) (mvT hZ (hw _ (List.mem_of_getElem? (i := 8) rfl))) (mvT hZ (hw _ (List.mem_of_getElem? (i := 11) rfl))) (by decide) (backOf (W := 0) (rm2 l Z a0 hw [] ra h0 n0 Z0 ) hZ (hw _ (List.mem_of_getElem? (i := 11) rfl)) (hw _ (List.mem_of_getElem? (i := 10) rfl)) (by decide) (by decide)) (g := (mkF m 1 #[.val (.ref ra), .val (.int pv)] [(.ref ra)])) rfl (by rw [hml]; rfl) (Steps.refl _) (a := ra) (argsL := []) (rest := []) (lenOf pd_0 rfl) rfl (by show 2 * 0 + _ ≤ _; exact Nat.le_of_eq rfl) (hb hby d1_1) (fun _ _ => ⟨rfl, e0, (by decide : 0 + 0 ≤ _), (by decide : 0 + 0 ≤ _)⟩)
  dsimp only [Pt.U, Pt.locs, Pt.cells, Pt.slots] at X1 l1 y1 z1 st1 hQ1
  subst l1 y1 z1
  obtain ⟨rfl, N1q, e1⟩ := hQ1
  have N1 := Fr.app N0 N1q
  obtain ⟨T2, h2, X2, e2, W2, st2⟩ := putF X1 hx hZ hown (host := "") (Or.inl (hw _ (List.mem_of_getElem? (i := 15) rfl))) Via.refl e1 F_value_ra E_ra (Or.inr ⟨(hw _ (List.mem_of_getElem? (i := 16) rfl)), rfl, hnm⟩) (hw _ (List.mem_of_getElem? (i := 2) rfl)) (ty := .int) (by decide) rfl rfl (g := (mkF m 25 #[.val (.ref ra), .val (.int pv)] [(.int pv), (.ref ra)])) rfl rfl (hb hby d1_25)
  have N2 := Fr.snoc X2 N1 g_ra
  have Z2 : n0 ≤ h2.size := Nat.le_trans Z0 (Keep.of_wr W2).1
  have K2 : Keep h0 h2 [ra] := K0.wr W2 (Or.inl (List.mem_of_getElem? (i := 0) rfl))
  have f3 : Fld Z h2 ra "com/example/partlint/partlint/model/ApiLevel" "value" "I" (.int pv) := F_value_ra.same W2
  have f4 : Exa Z h2 ra "com/example/partlint/partlint/model/ApiLevel" := E_ra.wr W2
  obtain ⟨fs, hr, hrun, hended, hW, hsame⟩ := X2.leave (v := none) (fun _ => rfl)
  refine ⟨_, _, pre0 _ ?_, hrun, hended, _, _, rfl, ?_, ⟨_, rfl⟩, hW, hsame.mono (by decide) (by decide)⟩
  · show Steps p.tables e below (s₁.setTop (mkF m 0 #[.val (.ref ra), .val (.int pv)] [])) _
    refine XS.aloadN X0.here hx rfl (hb hby d1_0) rfl rfl ?_
    show Steps p.tables e below (s₁.setTop (mkF m 1 #[.val (.ref ra), .val (.int pv)] [(.ref ra)])) _
    refine st1.trans ?_
    show Steps p.tables e below (T1.setTop (mkF m 4 #[.val (.ref ra), .val (.int pv)] [])) _
    refine XS.iloadN X1.here hx rfl (hb hby d1_4) rfl ?_
    show Steps p.tables e below (T1.setTop (mkF m 5 #[.val (.ref ra), .val (.int pv)] [(.int pv)])) _
    refine XS.iconst X1.here hx rfl (hb hby d1_5) ?_
    show Steps p.tables e below (T1.setTop (mkF m 6 #[.val (.ref ra), .val (.int pv)] [(.int (1 : Int32)), (.int pv)])) _
    refine XS.icmpYes X1.here hx rfl (pc0 := 6) (pc' := 23) rfl (hb hby d1_6) rfl (flt hc6).2.1 (by decide) (by decide) ?_
    show Steps p.tables e below (T1.setTop (mkF m 23 #[.val (.ref ra), .val (.int pv)] [])) _
    refine XS.aloadN X1.here hx rfl (hb hby d1_23) rfl rfl ?_
    show Steps p.tables e below (T1.setTop (mkF m 24 #[.val (.ref ra), .val (.int pv)] [(.ref ra)])) _
    refine XS.iloadN X1.here hx rfl (hb hby d1_24) rfl ?_
    show Steps p.tables e below (T1.setTop (mkF m 25 #[.val (.ref ra), .val (.int pv)] [(.int pv), (.ref ra)])) _
    refine st2 _ ?_
    show Steps p.tables e below (T2.setTop (mkF m 28 #[.val (.ref ra), .val (.int pv)] [])) _
    exact X2.returnOut hx Bd.returns (hb hby d1_28) hr
  · show Q1 Z ra pv u_value_ra h0 n0 _ T2.heap _
    rw [e2]
    exact ⟨rfl, N2, K2, f3⟩
theorem ef_4 (m : MethodId) (ra : Addr) : entryFrame m #[(.ref ra)] 2 = mkF m 0 #[.val (.ref ra), .unset] [] := by first | (simp [entryFrame, mkF, argsToLocals, Value.category]; done) | rfl
theorem d4_0 : decode prog_16_method_6_code 0 = .ok (.aload_n 0, 1) := by decide +kernel
theorem d4_1 : decode prog_16_method_6_code 1 = .ok (.getfield 18, 3) := by decide +kernel
theorem d4_4 : decode prog_16_method_6_code 4 = .ok (.bipush 100, 2) := by decide +kernel
theorem d4_6 : decode prog_16_method_6_code 6 = .ok (.irem, 1) := by decide +kernel
theorem d4_7 : decode prog_16_method_6_code 7 = .ok (.istore_n 1, 1) := by decide +kernel
theorem d4_8 : decode prog_16_method_6_code 8 = .ok (.aload_n 0, 1) := by decide +kernel
theorem d4_9 : decode prog_16_method_6_code 9 = .ok (.getfield 18, 3) := by decide +kernel
theorem d4_12 : decode prog_16_method_6_code 12 = .ok (.ldc 72, 2) := by decide +kernel
theorem d4_14 : decode prog_16_method_6_code 14 = .ok (.if_icmp .lt 27, 3) := by decide +kernel
theorem d4_41 : decode prog_16_method_6_code 41 = .ok (.iconst 0, 1) := by decide +kernel
theorem d4_42 : decode prog_16_method_6_code 42 = .ok (.ireturn, 1) := by decide +kernel
theorem d4_17 : decode prog_16_method_6_code 17 = .ok (.aload_n 0, 1) := by decide +kernel
theorem d4_18 : decode prog_16_method_6_code 18 = .ok (.getfield 18, 3) := by decide +kernel
theorem d4_21 : decode prog_16_method_6_code 21 = .ok (.ldc 73, 2) := by decide +kernel
theorem d4_23 : decode prog_16_method_6_code 23 = .ok (.if_icmp .gt 18, 3) := by decide +kernel
theorem d4_26 : decode prog_16_method_6_code 26 = .ok (.iload_n 1, 1) := by decide +kernel
theorem d4_27 : decode prog_16_method_6_code 27 = .ok (.iconst 1, 1) := by decide +kernel
theorem d4_28 : decode prog_16_method_6_code 28 = .ok (.if_icmp .lt 13, 3) := by decide +kernel
theorem d4_31 : decode prog_16_method_6_code 31 = .ok (.iload_n 1, 1) := by decide +kernel
theorem d4_32 : decode prog_16_method_6_code 32 = .ok (.bipush 12, 2) := by decide +kernel
theorem d4_34 : decode prog_16_method_6_code 34 = .ok (.if_icmp .gt 7, 3) := by decide +kernel
theorem d4_37 : decode prog_16_method_6_code 37 = .ok (.iconst 1, 1) := by decide +kernel
theorem d4_38 : decode prog_16_method_6_code 38 = .ok (.goto 4, 3) := by decide +kernel
def r4_v (wv : Int32) : Int32 := (if wv < (202404 : Int32) then (0 : Int32) else (if (999912 : Int32) < wv then (0 : Int32) else (if (wv % (100 : Int32)) < (1 : Int32) then (0 : Int32) else (if (12 : Int32) < (wv % (100 : Int32)) then (0 : Int32) else (1 : Int32)))))
def Q4 (Z : State) (ra : Addr) (wv : Int32) (h0 : Heap) (n0 : Nat) (v : Option Value) (h : Heap) (L : List Loc) : Prop := v = some (.int (r4_v wv)) ∧ Fr n0 L ∧ h = h0
set_option maxRecDepth 65536 in
set_option maxHeartbeats 40000000 in
theorem rm4 (l : Launch) (Z : State) (a0 : Array Value) (hw : ∀ d ∈ tables_1, d.before a0 Z = true) (ws : List Jvm.Cond) (ra : Addr) (wv : Int32) (h0 : Heap) (n0 : Nat) (Z0 : n0 ≤ h0.size) (F_value_ra : Fld Z h0 ra "com/example/partlint/partlint/model/ApiLevel" "value" "I" (.int wv)) :
    MetFree l (⟨"com/example/partlint/partlint/model/ApiLevel", "isVendorForm", "()Z"⟩ : MethodName) (head1 (Jvm.Cond.code (⟨"com/example/partlint/partlint/model/ApiLevel", "isVendorForm", "()Z"⟩ : MethodName) prog_16_method_6_code 2 (some .boolean) :: ws) ({ frames := 0, cells := 0, slots := 0, locals := 0 } : Room)) (fun a U => a = #[(.ref ra)] ∧ Z.Warmed39 U.vm ∧ U.heap = h0) (fun _ _ _ _ _ => True) (fun _ U o U' => ∃ v L, o = .returned v ∧ Q4 Z ra wv h0 n0 v U'.heap L ∧ FrameEnd U o U' L ({ frames := 0, cells := 0, slots := 0, locals := 0 } : Room).cells ({ frames := 0, cells := 0, slots := 0, locals := 0 } : Room).slots) := by
  refine MetFree.of_bodySF (plainFor_of_name pn_com_example_partlint_partlint_model_ApiLevel) hisR ?_
  intro p e s m args below meth c s₁ Bd hml0 hP hK
  obtain ⟨rfl, hZ, hh⟩ := hP
  have hx := Bd.exec
  have hby := Bd.bytes
  have hml : c.maxLocals = 2 := hml0
  have hown : s.vm.findClass "com/example/partlint/partlint/model/ApiLevel" = some m.cls := findClass_of_methodNamed Bd.named
  have hnm := (name_of_methodNamed Bd.named Bd.method).1
  have X0 : Stand p l e ({ frames := 0, cells := 0, slots := 0, locals := 0 } : Room) s m #[(.ref ra)] below meth c s₁ [] 0 0 := Stand.of_body Bd
  have e0 : s₁.heap = h0 := by rw [← hh, Bd.state]; rfl
  have N0 := Fr.nil n0
  have K0 : Keep h0 h0 [] := Keep.refl h0 _
  have pre0 : ∀ t, Steps p.tables e below (s₁.setTop (mkF m 0 #[.val (.ref ra), .unset] [])) t → Steps p.tables e below (s₁.setTop (entryFrame m #[(.ref ra)] 2)) t := fun t k => castTop (ef_4 m ra) k
  obtain ⟨T1, X1, e1, st1⟩ := getF X0 hx hZ hown (host := "") (Or.inl (hw _ (List.mem_of_getElem? (i := 15) rfl))) Via.refl e0 F_value_ra (g := (mkF m 1 #[.val (.ref ra), .unset] [(.ref ra)])) rfl rfl (hb hby d4_1)
  obtain ⟨T2, X2, e2, st2⟩ := getF X1 hx hZ hown (host := "") (Or.inl (hw _ (List.mem_of_getElem? (i := 15) rfl))) Via.refl e1 F_value_ra (g := (mkF m 9 #[.val (.ref ra), .val (.int (wv % (100 : Int32)))] [(.ref ra)])) rfl rfl (hb hby d4_9)
  have pre3 : ∀ t, Steps p.tables e below (T2.setTop (mkF m 14 #[.val (.ref ra), .val (.int (wv % (100 : Int32)))] [(.int (202404 : Int32)), (.int wv)])) t → Steps p.tables e below (s₁.setTop (entryFrame m #[(.ref ra)] 2)) t := by
    intro t k
    refine pre0 _ ?_
    show Steps p.tables e below (s₁.setTop (mkF m 0 #[.val (.ref ra), .unset] [])) _
    refine XS.aloadN X0.here hx rfl (hb hby d4_0) rfl rfl ?_
    show Steps p.tables e below (s₁.setTop (mkF m 1 #[.val (.ref ra), .unset] [(.ref ra)])) _
    refine st1 _ ?_
    show Steps p.tables e below (T1.setTop (mkF m 4 #[.val (.ref ra), .unset] [(.int wv)])) _
    refine XS.bipush X1.here hx rfl (hb hby d4_4) ?_
    show Steps p.tables e below (T1.setTop (mkF m 6 #[.val (.ref ra), .unset] [(.int (100 : Int32)), (.int wv)])) _
    refine iremM X1 hx rfl (hb hby d4_6) rfl (by decide) ?_
    show Steps p.tables e below (T1.setTop (mkF m 7 #[.val (.ref ra), .unset] [(.int (wv % (100 : Int32)))])) _
    refine XS.istoreN X1.here hx rfl (hb hby d4_7) rfl (l' := #[.val (.ref ra), .val (.int (wv % (100 : Int32)))]) rfl ?_
    show Steps p.tables e below (T1.setTop (mkF m 8 #[.val (.ref ra), .val (.int (wv % (100 : Int32)))] [])) _
    refine XS.aloadN X1.here hx rfl (hb hby d4_8) rfl rfl ?_
    show Steps p.tables e below (T1.setTop (mkF m 9 #[.val (.ref ra), .val (.int (wv % (100 : Int32)))] [(.ref ra)])) _
    refine st2 _ ?_
    show Steps p.tables e below (T2.setTop (mkF m 12 #[.val (.ref ra), .val (.int (wv % (100 : Int32)))] [(.int wv)])) _
    refine X2.ldcInt hx hown (mvT hZ (hw _ (List.mem_of_getElem? (i := 22) rfl))) (g := (mkF m 12 #[.val (.ref ra), .val (.int (wv % (100 : Int32)))] [(.int wv)])) rfl (hb hby d4_12) _ ?_
    exact k
  by_cases hk4 : wv < (202404 : Int32)
  · obtain ⟨fs, hr, hrun, hended, hW, hsame⟩ := X2.leave (v := some (.int (0 : Int32))) (fun h => by rw [Bd.returns] at h; cases h)
    refine ⟨_, _, pre3 _ ?_, hrun, hended, _, _, rfl, ?_, ⟨_, rfl⟩, hW, hsame.mono (by decide) (by decide)⟩
    · show Steps p.tables e below (T2.setTop (mkF m 14 #[.val (.ref ra), .val (.int (wv % (100 : Int32)))] [(.int (202404 : Int32)), (.int wv)])) _
      refine XS.icmpYes X2.here hx rfl (pc0 := 14) (pc' := 41) rfl (hb hby d4_14) rfl (tlt hk4).1 (by decide) (by decide) ?_
      show Steps p.tables e below (T2.setTop (mkF m 41 #[.val (.ref ra), .val (.int (wv % (100 : Int32)))] [])) _
      refine XS.iconst X2.here hx rfl (hb hby d4_41) ?_
      show Steps p.tables e below (T2.setTop (mkF m 42 #[.val (.ref ra), .val (.int (wv % (100 : Int32)))] [(.int (0 : Int32))])) _
      exact retN X2 hx (t := .boolean) Bd.returns (by simp) (hb hby d4_42) hr
    · show Q4 Z ra wv h0 n0 _ T2.heap _
      rw [e2]
      have ev12 : (r4_v wv) = (0 : Int32) := by unfold r4_v; rw [if_pos hk4]
      exact ⟨(congrArg (fun z => some (Value.int z)) ev12.symm), N0, rfl⟩
  · obtain ⟨T5, X5, e5, st5⟩ := getF X2 hx hZ hown (host := "") (Or.inl (hw _ (List.mem_of_getElem? (i := 15) rfl))) Via.refl e2 F_value_ra (g := (mkF m 18 #[.val (.ref ra), .val (.int (wv % (100 : Int32)))] [(.ref ra)])) rfl rfl (hb hby d4_18)
    have pre6 : ∀ t, Steps p.tables e below (T5.setTop (mkF m 23 #[.val (.ref ra), .val (.int (wv % (100 : Int32)))] [(.int (999912 : Int32)), (.int wv)])) t → Steps p.tables e below (s₁.setTop (entryFrame m #[(.ref ra)] 2)) t := by
      intro t k
      refine pre3 _ ?_
      show Steps p.tables e below (T2.setTop (mkF m 14 #[.val (.ref ra), .val (.int (wv % (100 : Int32)))] [(.int (202404 : Int32)), (.int wv)])) _
      refine XS.icmpNo X2.here hx rfl (hb hby d4_14) rfl (flt hk4).1 ?_
      show Steps p.tables e below (T2.setTop (mkF m 17 #[.val (.ref ra), .val (.int (wv % (100 : Int32)))] [])) _
      refine XS.aloadN X2.here hx rfl (hb hby d4_17) rfl rfl ?_
      show Steps p.tables e below (T2.setTop (mkF m 18 #[.val (.ref ra), .val (.int (wv % (100 : Int32)))] [(.ref ra)])) _
      refine st5 _ ?_
      show Steps p.tables e below (T5.setTop (mkF m 21 #[.val (.ref ra), .val (.int (wv % (100 : Int32)))] [(.int wv)])) _
      refine X5.ldcInt hx hown (mvT hZ (hw _ (List.mem_of_getElem? (i := 23) rfl))) (g := (mkF m 21 #[.val (.ref ra), .val (.int (wv % (100 : Int32)))] [(.int wv)])) rfl (hb hby d4_21) _ ?_
      exact k
    by_cases hk7 : (999912 : Int32) < wv
    · obtain ⟨fs, hr, hrun, hended, hW, hsame⟩ := X5.leave (v := some (.int (0 : Int32))) (fun h => by rw [Bd.returns] at h; cases h)
      refine ⟨_, _, pre6 _ ?_, hrun, hended, _, _, rfl, ?_, ⟨_, rfl⟩, hW, hsame.mono (by decide) (by decide)⟩
      · show Steps p.tables e below (T5.setTop (mkF m 23 #[.val (.ref ra), .val (.int (wv % (100 : Int32)))] [(.int (999912 : Int32)), (.int wv)])) _
        refine XS.icmpYes X5.here hx rfl (pc0 := 23) (pc' := 41) rfl (hb hby d4_23) rfl (tlt hk7).2.2.1 (by decide) (by decide) ?_
        show Steps p.tables e below (T5.setTop (mkF m 41 #[.val (.ref ra), .val (.int (wv % (100 : Int32)))] [])) _
        refine XS.iconst X5.here hx rfl (hb hby d4_41) ?_
        show Steps p.tables e below (T5.setTop (mkF m 42 #[.val (.ref ra), .val (.int (wv % (100 : Int32)))] [(.int (0 : Int32))])) _
        exact retN X5 hx (t := .boolean) Bd.returns (by simp) (hb hby d4_42) hr
      · show Q4 Z ra wv h0 n0 _ T5.heap _
        rw [e5]
        have ev13 : (r4_v wv) = (0 : Int32) := by unfold r4_v; rw [if_neg hk4, if_pos hk7]
        exact ⟨(congrArg (fun z => some (Value.int z)) ev13.symm), N0, rfl⟩
    · have pre8 : ∀ t, Steps p.tables e below (T5.setTop (mkF m 28 #[.val (.ref ra), .val (.int (wv % (100 : Int32)))] [(.int (1 : Int32)), (.int (wv % (100 : Int32)))])) t → Steps p.tables e below (s₁.setTop (entryFrame m #[(.ref ra)] 2)) t := by
        intro t k
        refine pre6 _ ?_
        show Steps p.tables e below (T5.setTop (mkF m 23 #[.val (.ref ra), .val (.int (wv % (100 : Int32)))] [(.int (999912 : Int32)), (.int wv)])) _
        refine XS.icmpNo X5.here hx rfl (hb hby d4_23) rfl (flt hk7).2.2.1 ?_
        show Steps p.tables e below (T5.setTop (mkF m 26 #[.val (.ref ra), .val (.int (wv % (100 : Int32)))] [])) _
        refine XS.iloadN X5.here hx rfl (hb hby d4_26) rfl ?_
        show Steps p.tables e below (T5.setTop (mkF m 27 #[.val (.ref ra), .val (.int (wv % (100 : Int32)))] [(.int (wv % (100 : Int32)))])) _
        refine XS.iconst X5.here hx rfl (hb hby d4_27) ?_
        exact k
      by_cases hk9 : (wv % (100 : Int32)) < (1 : Int32)
      · obtain ⟨fs, hr, hrun, hended, hW, hsame⟩ := X5.leave (v := some (.int (0 : Int32))) (fun h => by rw [Bd.returns] at h; cases h)
        refine ⟨_, _, pre8 _ ?_, hrun, hended, _, _, rfl, ?_, ⟨_, rfl⟩, hW, hsame.mono (by decide) (by decide)⟩
        · show Steps p.tables e below (T5.setTop (mkF m 28 #[.val (.ref ra), .val (.int (wv % (100 : Int32)))] [(.int (1 : Int32)), (.int (wv % (100 : Int32)))])) _
          refine XS.icmpYes X5.here hx rfl (pc0 := 28) (pc' := 41) rfl (hb hby d4_28) rfl (tlt hk9).1 (by decide) (by decide) ?_
          show Steps p.tables e below (T5.setTop (mkF m 41 #[.val (.ref ra), .val (.int (wv % (100 : Int32)))] [])) _
          refine XS.iconst X5.here hx rfl (hb hby d4_41) ?_
          show Steps p.tables e below (T5.setTop (mkF m 42 #[.val (.ref ra), .val (.int (wv % (100 : Int32)))] [(.int (0 : Int32))])) _
          exact retN X5 hx (t := .boolean) Bd.returns (by simp) (hb hby d4_42) hr
        · show Q4 Z ra wv h0 n0 _ T5.heap _
          rw [e5]
          have ev14 : (r4_v wv) = (0 : Int32) := by unfold r4_v; rw [if_neg hk4, if_neg hk7, if_pos hk9]
          exact ⟨(congrArg (fun z => some (Value.int z)) ev14.symm), N0, rfl⟩
      · have pre10 : ∀ t, Steps p.tables e below (T5.setTop (mkF m 34 #[.val (.ref ra), .val (.int (wv % (100 : Int32)))] [(.int (12 : Int32)), (.int (wv % (100 : Int32)))])) t → Steps p.tables e below (s₁.setTop (entryFrame m #[(.ref ra)] 2)) t := by
          intro t k
          refine pre8 _ ?_
          show Steps p.tables e below (T5.setTop (mkF m 28 #[.val (.ref ra), .val (.int (wv % (100 : Int32)))] [(.int (1 : Int32)), (.int (wv % (100 : Int32)))])) _
          refine XS.icmpNo X5.here hx rfl (hb hby d4_28) rfl (flt hk9).1 ?_
          show Steps p.tables e below (T5.setTop (mkF m 31 #[.val (.ref ra), .val (.int (wv % (100 : Int32)))] [])) _
          refine XS.iloadN X5.here hx rfl (hb hby d4_31) rfl ?_
          show Steps p.tables e below (T5.setTop (mkF m 32 #[.val (.ref ra), .val (.int (wv % (100 : Int32)))] [(.int (wv % (100 : Int32)))])) _
          refine XS.bipush X5.here hx rfl (hb hby d4_32) ?_
          exact k
        by_cases hk11 : (12 : Int32) < (wv % (100 : Int32))
        · obtain ⟨fs, hr, hrun, hended, hW, hsame⟩ := X5.leave (v := some (.int (0 : Int32))) (fun h => by rw [Bd.returns] at h; cases h)
          refine ⟨_, _, pre10 _ ?_, hrun, hended, _, _, rfl, ?_, ⟨_, rfl⟩, hW, hsame.mono (by decide) (by decide)⟩
          · show Steps p.tables e below (T5.setTop (mkF m 34 #[.val (.ref ra), .val (.int (wv % (100 : Int32)))] [(.int (12 : Int32)), (.int (wv % (100 : Int32)))])) _
            refine XS.icmpYes X5.here hx rfl (pc0 := 34) (pc' := 41) rfl (hb hby d4_34) rfl (tlt hk11).2.2.1 (by decide) (by decide) ?_
            show Steps p.tables e below (T5.setTop (mkF m 41 #[.val (.ref ra), .val (.int (wv % (100 : Int32)))] [])) _
            refine XS.iconst X5.here hx rfl (hb hby d4_41) ?_
            show Steps p.tables e below (T5.setTop (mkF m 42 #[.val (.ref ra), .val (.int (wv % (100 : Int32)))] [(.int (0 : Int32))])) _
            exact retN X5 hx (t := .boolean) Bd.returns (by simp) (hb hby d4_42) hr
          · show Q4 Z ra wv h0 n0 _ T5.heap _
            rw [e5]
            have ev15 : (r4_v wv) = (0 : Int32) := by unfold r4_v; rw [if_neg hk4, if_neg hk7, if_neg hk9, if_pos hk11]
            exact ⟨(congrArg (fun z => some (Value.int z)) ev15.symm), N0, rfl⟩
        · obtain ⟨fs, hr, hrun, hended, hW, hsame⟩ := X5.leave (v := some (.int (1 : Int32))) (fun h => by rw [Bd.returns] at h; cases h)
          refine ⟨_, _, pre10 _ ?_, hrun, hended, _, _, rfl, ?_, ⟨_, rfl⟩, hW, hsame.mono (by decide) (by decide)⟩
          · show Steps p.tables e below (T5.setTop (mkF m 34 #[.val (.ref ra), .val (.int (wv % (100 : Int32)))] [(.int (12 : Int32)), (.int (wv % (100 : Int32)))])) _
            refine XS.icmpNo X5.here hx rfl (hb hby d4_34) rfl (flt hk11).2.2.1 ?_
            show Steps p.tables e below (T5.setTop (mkF m 37 #[.val (.ref ra), .val (.int (wv % (100 : Int32)))] [])) _
            refine XS.iconst X5.here hx rfl (hb hby d4_37) ?_
            show Steps p.tables e below (T5.setTop (mkF m 38 #[.val (.ref ra), .val (.int (wv % (100 : Int32)))] [(.int (1 : Int32))])) _
            refine XS.goto X5.here hx rfl (pc0 := 38) (pc' := 42) rfl (hb hby d4_38) (by decide) (by decide) ?_
            show Steps p.tables e below (T5.setTop (mkF m 42 #[.val (.ref ra), .val (.int (wv % (100 : Int32)))] [(.int (1 : Int32))])) _
            exact retN X5 hx (t := .boolean) Bd.returns (by simp) (hb hby d4_42) hr
          · show Q4 Z ra wv h0 n0 _ T5.heap _
            rw [e5]
            have ev16 : (r4_v wv) = (1 : Int32) := by unfold r4_v; rw [if_neg hk4, if_neg hk7, if_neg hk9, if_neg hk11]
            exact ⟨(congrArg (fun z => some (Value.int z)) ev16.symm), N0, rfl⟩
theorem ef_0 (m : MethodId) (yy : Int32) (mm : Int32) (ss : Int32) : entryFrame m #[(.int yy), (.int mm), (.int ss)] maxLocals = mkF m 0 #[.val (.int yy), .val (.int mm), .val (.int ss), .unset, .unset, .unset, .unset, .unset] [] := by first | (simp [entryFrame, mkF, argsToLocals, Value.category, maxLocals]; done) | rfl
theorem pd_1 : parseMethodDescriptor "(I)V" = some ⟨[.int], none⟩ := by decide +kernel
theorem pd_2 : parseMethodDescriptor "()Z" = some ⟨[], some .boolean⟩ := by decide +kernel
def j0_4_l4 (yy : Int32) (ss : Int32) : Int32 := (if (ss &&& (3 : Int32)) = (0 : Int32) then ((yy &&& (2147483647 : Int32)) % (21474836 : Int32)) else (if (ss &&& (3 : Int32)) = (1 : Int32) then ((2016 : Int32) + (yy &&& (15 : Int32))) else (if (ss &&& (3 : Int32)) = (2 : Int32) then ((9992 : Int32) + (yy &&& (15 : Int32))) else (yy &&& (31 : Int32)))))
def j0_88_l7 (yy : Int32) (mm : Int32) (ss : Int32) : Int32 := (if ((mm &&& (2147483647 : Int32)) % (100 : Int32)) < (1 : Int32) then (0 : Int32) else (if (12 : Int32) < ((mm &&& (2147483647 : Int32)) % (100 : Int32)) then (0 : Int32) else (if (9999 : Int32) < (j0_4_l4 yy ss) then (0 : Int32) else (if (2024 : Int32) < (j0_4_l4 yy ss) then (1 : Int32) else (if (j0_4_l4 yy ss) = (2024 : Int32) then (if ((mm &&& (2147483647 : Int32)) % (100 : Int32)) < (4 : Int32) then (0 : Int32) else (1 : Int32)) else (0 : Int32))))))
theorem pn_com_example_partlint_partlint_model_ApiLevelIsVendorFormPinLaw : plainName "com/example/partlint/partlint/model/ApiLevelIsVendorFormPinLaw" = true := by first | (simp [plainName, overriddenIn]; done) | decide +kernel
theorem own_year (yy ss : Int32) : 0 ≤ (j0_4_l4 yy ss).toInt ∧ (j0_4_l4 yy ss).toInt ≤ 21474835 := by
  unfold j0_4_l4
  have : (2147483647 : Int32).toInt = 2147483647 := rfl
  have := c_mask yy (2147483647 : Int32) 31 (by decide) (by decide)
  have := rng32 (yy &&& (2147483647 : Int32))
  have : (21474836 : Int32).toInt = 21474836 := rfl
  have := c_irem (yy &&& (2147483647 : Int32)) (21474836 : Int32) 21474836 rfl
  have := rng32 ((yy &&& (2147483647 : Int32)) % (21474836 : Int32))
  have : (2016 : Int32).toInt = 2016 := rfl
  have : (15 : Int32).toInt = 15 := rfl
  have := c_mask yy (15 : Int32) 4 (by decide) (by decide)
  have := rng32 (yy &&& (15 : Int32))
  have := c_iadd (2016 : Int32) (yy &&& (15 : Int32))
  have := rng32 ((2016 : Int32) + (yy &&& (15 : Int32)))
  try have : ((2016 : Int32) + (yy &&& (15 : Int32))).toInt = 2016 + (yy &&& (15 : Int32)).toInt := by omega
  have : (9992 : Int32).toInt = 9992 := rfl
  have := c_iadd (9992 : Int32) (yy &&& (15 : Int32))
  have := rng32 ((9992 : Int32) + (yy &&& (15 : Int32)))
  try have : ((9992 : Int32) + (yy &&& (15 : Int32))).toInt = 9992 + (yy &&& (15 : Int32)).toInt := by omega
  have : (31 : Int32).toInt = 31 := rfl
  have := c_mask yy (31 : Int32) 5 (by decide) (by decide)
  have := rng32 (yy &&& (31 : Int32))
  repeat' split
  all_goals omega
theorem own_pos (yy mm ss : Int32) (h : ¬ (((j0_4_l4 yy ss) * (100 : Int32)) + ((mm &&& (2147483647 : Int32)) % (100 : Int32))) = (0 : Int32)) : ¬ ((((j0_4_l4 yy ss) * (100 : Int32)) + ((mm &&& (2147483647 : Int32)) % (100 : Int32))) < (1 : Int32)) := by
  have := own_year yy ss
  have : (100 : Int32).toInt = 100 := rfl
  have := c_imul (j0_4_l4 yy ss) (100 : Int32); rw [show (100 : Int32).toInt = 100 from rfl] at this
  have := rng32 ((j0_4_l4 yy ss) * (100 : Int32))
  try have : ((j0_4_l4 yy ss) * (100 : Int32)).toInt = (j0_4_l4 yy ss).toInt * 100 := by omega
  have : (2147483647 : Int32).toInt = 2147483647 := rfl
  have := c_mask mm (2147483647 : Int32) 31 (by decide) (by decide)
  have := rng32 (mm &&& (2147483647 : Int32))
  have := c_irem (mm &&& (2147483647 : Int32)) (100 : Int32) 100 rfl
  have := rng32 ((mm &&& (2147483647 : Int32)) % (100 : Int32))
  have := c_iadd ((j0_4_l4 yy ss) * (100 : Int32)) ((mm &&& (2147483647 : Int32)) % (100 : Int32))
  have := rng32 (((j0_4_l4 yy ss) * (100 : Int32)) + ((mm &&& (2147483647 : Int32)) % (100 : Int32)))
  try have : (((j0_4_l4 yy ss) * (100 : Int32)) + ((mm &&& (2147483647 : Int32)) % (100 : Int32))).toInt = ((j0_4_l4 yy ss) * (100 : Int32)).toInt + ((mm &&& (2147483647 : Int32)) % (100 : Int32)).toInt := by omega
  have : (0 : Int32).toInt = 0 := rfl
  have : (1 : Int32).toInt = 1 := rfl
  rw [← Int32.toInt_inj] at h
  rw [Int32.lt_iff_toInt_lt]
  omega
theorem own_fin (yy mm ss : Int32) : (r4_v (((j0_4_l4 yy ss) * (100 : Int32)) + ((mm &&& (2147483647 : Int32)) % (100 : Int32)))) = (j0_88_l7 yy mm ss) := by
  have := own_year yy ss
  have : (100 : Int32).toInt = 100 := rfl
  have := c_imul (j0_4_l4 yy ss) (100 : Int32); rw [show (100 : Int32).toInt = 100 from rfl] at this
  have := rng32 ((j0_4_l4 yy ss) * (100 : Int32))
  try have : ((j0_4_l4 yy ss) * (100 : Int32)).toInt = (j0_4_l4 yy ss).toInt * 100 := by omega
  have : (2147483647 : Int32).toInt = 2147483647 := rfl
  have := c_mask mm (2147483647 : Int32) 31 (by decide) (by decide)
  have := rng32 (mm &&& (2147483647 : Int32))
  have := c_irem (mm &&& (2147483647 : Int32)) (100 : Int32) 100 rfl
  have := rng32 ((mm &&& (2147483647 : Int32)) % (100 : Int32))
  have := c_iadd ((j0_4_l4 yy ss) * (100 : Int32)) ((mm &&& (2147483647 : Int32)) % (100 : Int32))
  have := rng32 (((j0_4_l4 yy ss) * (100 : Int32)) + ((mm &&& (2147483647 : Int32)) % (100 : Int32)))
  try have : (((j0_4_l4 yy ss) * (100 : Int32)) + ((mm &&& (2147483647 : Int32)) % (100 : Int32))).toInt = ((j0_4_l4 yy ss) * (100 : Int32)).toInt + ((mm &&& (2147483647 : Int32)) % (100 : Int32)).toInt := by omega
  have := c_irem (((j0_4_l4 yy ss) * (100 : Int32)) + ((mm &&& (2147483647 : Int32)) % (100 : Int32))) (100 : Int32) 100 rfl
  have := rng32 ((((j0_4_l4 yy ss) * (100 : Int32)) + ((mm &&& (2147483647 : Int32)) % (100 : Int32))) % (100 : Int32))
  have : (0 : Int32).toInt = 0 := rfl
  have : (1 : Int32).toInt = 1 := rfl
  have : (12 : Int32).toInt = 12 := rfl
  have : (9999 : Int32).toInt = 9999 := rfl
  have : (2024 : Int32).toInt = 2024 := rfl
  have : (4 : Int32).toInt = 4 := rfl
  have : (202404 : Int32).toInt = 202404 := rfl
  have : (999912 : Int32).toInt = 999912 := rfl
  unfold r4_v j0_88_l7
  simp only [Int32.lt_iff_toInt_lt, ← Int32.toInt_inj]
  repeat' split
  all_goals first | rfl | (exfalso; omega)
def Q0 (Z : State) (yy : Int32) (mm : Int32) (ss : Int32) (h0 : Heap) (n0 : Nat) (v : Option Value) (h : Heap) (L : List Loc) : Prop := v = some (.int (1 : Int32)) ∧ Fr n0 L
set_option maxRecDepth 65536 in
set_option maxHeartbeats 40000000 in
theorem rm0 (l : Launch) (Z : State) (a0 : Array Value) (hw : ∀ d ∈ tables_1, d.before a0 Z = true) (ws : List Jvm.Cond) (yy : Int32) (mm : Int32) (ss : Int32) (h0 : Heap) (n0 : Nat) (Z0 : n0 ≤ h0.size) :
    MetFree l x (head1 (Jvm.Cond.code x code maxLocals ret :: ws) room_1) (fun a U => a = #[(.int yy), (.int mm), (.int ss)] ∧ Z.Warmed39 U.vm ∧ U.heap = h0) (fun _ _ _ _ _ => True) (fun _ U o U' => ∃ v L, o = .returned v ∧ Q0 Z yy mm ss h0 n0 v U'.heap L ∧ FrameEnd U o U' L room_1.cells room_1.slots) := by
  refine MetFree.of_bodySF (plainFor_of_name pn_com_example_partlint_partlint_model_ApiLevelIsVendorFormPinLaw) hisR ?_
  intro p e s m args below meth c s₁ Bd hml0 hP hK
  obtain ⟨rfl, hZ, hh⟩ := hP
  have hx := Bd.exec
  have hby := Bd.bytes
  have hml : c.maxLocals = 8 := hml0
  have hown : s.vm.findClass "com/example/partlint/partlint/model/ApiLevelIsVendorFormPinLaw" = some m.cls := findClass_of_methodNamed Bd.named
  have hnm := (name_of_methodNamed Bd.named Bd.method).1
  have X0 : Stand p l e room_1 s m #[(.int yy), (.int mm), (.int ss)] below meth c s₁ [] 0 0 := Stand.of_body Bd
  have e0 : s₁.heap = h0 := by rw [← hh, Bd.state]; rfl
  have N0 := Fr.nil n0
  have K0 : Keep h0 h0 [] := Keep.refl h0 _
  have pre0 : ∀ t, Steps p.tables e below (s₁.setTop (mkF m 0 #[.val (.int yy), .val (.int mm), .val (.int ss), .unset, .unset, .unset, .unset, .unset] [])) t → Steps p.tables e below (s₁.setTop (entryFrame m #[(.int yy), (.int mm), (.int ss)] maxLocals)) t := fun t k => castTop (ef_0 m yy mm ss) k
  have pre8 : ∀ t, Steps p.tables e below (s₁.setTop (mkF m 4 #[.val (.int yy), .val (.int mm), .val (.int ss), .val (.int (ss &&& (3 : Int32))), .unset, .unset, .unset, .unset] [])) t → Steps p.tables e below (s₁.setTop (entryFrame m #[(.int yy), (.int mm), (.int ss)] maxLocals)) t := by
    intro t k
    refine pre0 _ ?_
    show Steps p.tables e below (s₁.setTop (mkF m 0 #[.val (.int yy), .val (.int mm), .val (.int ss), .unset, .unset, .unset, .unset, .unset] [])) _
    refine XS.iloadN X0.here hx rfl (hb hby at_0) rfl ?_
    show Steps p.tables e below (s₁.setTop (mkF m 1 #[.val (.int yy), .val (.int mm), .val (.int ss), .unset, .unset, .unset, .unset, .unset] [(.int ss)])) _
    refine XS.iconst X0.here hx rfl (hb hby at_1) ?_
    show Steps p.tables e below (s₁.setTop (mkF m 2 #[.val (.int yy), .val (.int mm), .val (.int ss), .unset, .unset, .unset, .unset, .unset] [(.int (3 : Int32)), (.int ss)])) _
    refine XS.iand X0.here hx rfl (hb hby at_2) rfl ?_
    show Steps p.tables e below (s₁.setTop (mkF m 3 #[.val (.int yy), .val (.int mm), .val (.int ss), .unset, .unset, .unset, .unset, .unset] [(.int (ss &&& (3 : Int32)))])) _
    refine XS.istoreN X0.here hx rfl (hb hby at_3) rfl (l' := #[.val (.int yy), .val (.int mm), .val (.int ss), .val (.int (ss &&& (3 : Int32))), .unset, .unset, .unset, .unset]) rfl ?_
    exact k
  have pre9 : ∀ t, Steps p.tables e below (s₁.setTop (mkF m 62 #[.val (.int yy), .val (.int mm), .val (.int ss), .val (.int (ss &&& (3 : Int32))), .val (.int (j0_4_l4 yy ss)), .unset, .unset, .unset] [])) t → Steps p.tables e below (s₁.setTop (entryFrame m #[(.int yy), (.int mm), (.int ss)] maxLocals)) t := by
    intro t k
    refine pre8 _ ?_
    show Steps p.tables e below (s₁.setTop (mkF m 4 #[.val (.int yy), .val (.int mm), .val (.int ss), .val (.int (ss &&& (3 : Int32))), .unset, .unset, .unset, .unset] [])) _
    refine XS.iloadN X0.here hx rfl (hb hby at_4) rfl ?_
    by_cases hk1 : (ss &&& (3 : Int32)) = (0 : Int32)
    · show Steps p.tables e below (s₁.setTop (mkF m 5 #[.val (.int yy), .val (.int mm), .val (.int ss), .val (.int (ss &&& (3 : Int32))), .unset, .unset, .unset, .unset] [(.int (ss &&& (3 : Int32)))])) _
      refine XS.ifNo X0.here hx rfl (hb hby at_5) rfl ((if0 _ _).trans (teq hk1).2) ?_
      show Steps p.tables e below (s₁.setTop (mkF m 8 #[.val (.int yy), .val (.int mm), .val (.int ss), .val (.int (ss &&& (3 : Int32))), .unset, .unset, .unset, .unset] [])) _
      refine XS.iloadN X0.here hx rfl (hb hby at_8) rfl ?_
      show Steps p.tables e below (s₁.setTop (mkF m 9 #[.val (.int yy), .val (.int mm), .val (.int ss), .val (.int (ss &&& (3 : Int32))), .unset, .unset, .unset, .unset] [(.int yy)])) _
      refine X0.ldcInt hx hown (mvT hZ (hw _ (List.mem_of_getElem? (i := 0) rfl))) (g := (mkF m 9 #[.val (.int yy), .val (.int mm), .val (.int ss), .val (.int (ss &&& (3 : Int32))), .unset, .unset, .unset, .unset] [(.int yy)])) rfl (hb hby at_9) _ ?_
      show Steps p.tables e below (s₁.setTop (mkF m 11 #[.val (.int yy), .val (.int mm), .val (.int ss), .val (.int (ss &&& (3 : Int32))), .unset, .unset, .unset, .unset] [(.int (2147483647 : Int32)), (.int yy)])) _
      refine XS.iand X0.here hx rfl (hb hby at_11) rfl ?_
      show Steps p.tables e below (s₁.setTop (mkF m 12 #[.val (.int yy), .val (.int mm), .val (.int ss), .val (.int (ss &&& (3 : Int32))), .unset, .unset, .unset, .unset] [(.int (yy &&& (2147483647 : Int32)))])) _
      refine X0.ldcInt hx hown (mvT hZ (hw _ (List.mem_of_getElem? (i := 24) rfl))) (g := (mkF m 12 #[.val (.int yy), .val (.int mm), .val (.int ss), .val (.int (ss &&& (3 : Int32))), .unset, .unset, .unset, .unset] [(.int (yy &&& (2147483647 : Int32)))])) rfl (hb hby at_12) _ ?_
      show Steps p.tables e below (s₁.setTop (mkF m 14 #[.val (.int yy), .val (.int mm), .val (.int ss), .val (.int (ss &&& (3 : Int32))), .unset, .unset, .unset, .unset] [(.int (21474836 : Int32)), (.int (yy &&& (2147483647 : Int32)))])) _
      refine iremM X0 hx rfl (hb hby at_14) rfl (by decide) ?_
      show Steps p.tables e below (s₁.setTop (mkF m 15 #[.val (.int yy), .val (.int mm), .val (.int ss), .val (.int (ss &&& (3 : Int32))), .unset, .unset, .unset, .unset] [(.int ((yy &&& (2147483647 : Int32)) % (21474836 : Int32)))])) _
      refine XS.istore X0.here hx rfl (hb hby at_15) rfl (l' := #[.val (.int yy), .val (.int mm), .val (.int ss), .val (.int (ss &&& (3 : Int32))), .val (.int ((yy &&& (2147483647 : Int32)) % (21474836 : Int32))), .unset, .unset, .unset]) rfl ?_
      show Steps p.tables e below (s₁.setTop (mkF m 17 #[.val (.int yy), .val (.int mm), .val (.int ss), .val (.int (ss &&& (3 : Int32))), .val (.int ((yy &&& (2147483647 : Int32)) % (21474836 : Int32))), .unset, .unset, .unset] [])) _
      refine XS.goto X0.here hx rfl (pc0 := 17) (pc' := 62) rfl (hb hby at_17) (by decide) (by decide) ?_
      have ev4 : (j0_4_l4 yy ss) = ((yy &&& (2147483647 : Int32)) % (21474836 : Int32)) := by unfold j0_4_l4; rw [if_pos hk1]
      rw [ev4] at k
      exact k
    · show Steps p.tables e below (s₁.setTop (mkF m 5 #[.val (.int yy), .val (.int mm), .val (.int ss), .val (.int (ss &&& (3 : Int32))), .unset, .unset, .unset, .unset] [(.int (ss &&& (3 : Int32)))])) _
      refine XS.ifYes X0.here hx rfl (pc0 := 5) (pc' := 20) rfl (hb hby at_5) rfl ((if0 _ _).trans (feq hk1).2) (by decide) (by decide) ?_
      show Steps p.tables e below (s₁.setTop (mkF m 20 #[.val (.int yy), .val (.int mm), .val (.int ss), .val (.int (ss &&& (3 : Int32))), .unset, .unset, .unset, .unset] [])) _
      refine XS.iloadN X0.here hx rfl (hb hby at_20) rfl ?_
      show Steps p.tables e below (s₁.setTop (mkF m 21 #[.val (.int yy), .val (.int mm), .val (.int ss), .val (.int (ss &&& (3 : Int32))), .unset, .unset, .unset, .unset] [(.int (ss &&& (3 : Int32)))])) _
      refine XS.iconst X0.here hx rfl (hb hby at_21) ?_
      by_cases hk2 : (ss &&& (3 : Int32)) = (1 : Int32)
      · show Steps p.tables e below (s₁.setTop (mkF m 22 #[.val (.int yy), .val (.int mm), .val (.int ss), .val (.int (ss &&& (3 : Int32))), .unset, .unset, .unset, .unset] [(.int (1 : Int32)), (.int (ss &&& (3 : Int32)))])) _
        refine XS.icmpNo X0.here hx rfl (hb hby at_22) rfl (teq hk2).2 ?_
        show Steps p.tables e below (s₁.setTop (mkF m 25 #[.val (.int yy), .val (.int mm), .val (.int ss), .val (.int (ss &&& (3 : Int32))), .unset, .unset, .unset, .unset] [])) _
        refine XS.sipush X0.here hx rfl (hb hby at_25) ?_
        show Steps p.tables e below (s₁.setTop (mkF m 28 #[.val (.int yy), .val (.int mm), .val (.int ss), .val (.int (ss &&& (3 : Int32))), .unset, .unset, .unset, .unset] [(.int (2016 : Int32))])) _
        refine XS.iloadN X0.here hx rfl (hb hby at_28) rfl ?_
        show Steps p.tables e below (s₁.setTop (mkF m 29 #[.val (.int yy), .val (.int mm), .val (.int ss), .val (.int (ss &&& (3 : Int32))), .unset, .unset, .unset, .unset] [(.int yy), (.int (2016 : Int32))])) _
        refine XS.bipush X0.here hx rfl (hb hby at_29) ?_
        show Steps p.tables e below (s₁.setTop (mkF m 31 #[.val (.int yy), .val (.int mm), .val (.int ss), .val (.int (ss &&& (3 : Int32))), .unset, .unset, .unset, .unset] [(.int (15 : Int32)), (.int yy), (.int (2016 : Int32))])) _
        refine XS.iand X0.here hx rfl (hb hby at_31) rfl ?_
        show Steps p.tables e below (s₁.setTop (mkF m 32 #[.val (.int yy), .val (.int mm), .val (.int ss), .val (.int (ss &&& (3 : Int32))), .unset, .unset, .unset, .unset] [(.int (yy &&& (15 : Int32))), (.int (2016 : Int32))])) _
        refine XS.iadd X0.here hx rfl (hb hby at_32) rfl ?_
        show Steps p.tables e below (s₁.setTop (mkF m 33 #[.val (.int yy), .val (.int mm), .val (.int ss), .val (.int (ss &&& (3 : Int32))), .unset, .unset, .unset, .unset] [(.int ((2016 : Int32) + (yy &&& (15 : Int32))))])) _
        refine XS.istore X0.here hx rfl (hb hby at_33) rfl (l' := #[.val (.int yy), .val (.int mm), .val (.int ss), .val (.int (ss &&& (3 : Int32))), .val (.int ((2016 : Int32) + (yy &&& (15 : Int32)))), .unset, .unset, .unset]) rfl ?_
        show Steps p.tables e below (s₁.setTop (mkF m 35 #[.val (.int yy), .val (.int mm), .val (.int ss), .val (.int (ss &&& (3 : Int32))), .val (.int ((2016 : Int32) + (yy &&& (15 : Int32)))), .unset, .unset, .unset] [])) _
        refine XS.goto X0.here hx rfl (pc0 := 35) (pc' := 62) rfl (hb hby at_35) (by decide) (by decide) ?_
        have ev5 : (j0_4_l4 yy ss) = ((2016 : Int32) + (yy &&& (15 : Int32))) := by unfold j0_4_l4; rw [if_neg hk1, if_pos hk2]
        rw [ev5] at k
        exact k
      · show Steps p.tables e below (s₁.setTop (mkF m 22 #[.val (.int yy), .val (.int mm), .val (.int ss), .val (.int (ss &&& (3 : Int32))), .unset, .unset, .unset, .unset] [(.int (1 : Int32)), (.int (ss &&& (3 : Int32)))])) _
        refine XS.icmpYes X0.here hx rfl (pc0 := 22) (pc' := 38) rfl (hb hby at_22) rfl (feq hk2).2 (by decide) (by decide) ?_
        show Steps p.tables e below (s₁.setTop (mkF m 38 #[.val (.int yy), .val (.int mm), .val (.int ss), .val (.int (ss &&& (3 : Int32))), .unset, .unset, .unset, .unset] [])) _
        refine XS.iloadN X0.here hx rfl (hb hby at_38) rfl ?_
        show Steps p.tables e below (s₁.setTop (mkF m 39 #[.val (.int yy), .val (.int mm), .val (.int ss), .val (.int (ss &&& (3 : Int32))), .unset, .unset, .unset, .unset] [(.int (ss &&& (3 : Int32)))])) _
        refine XS.iconst X0.here hx rfl (hb hby at_39) ?_
        by_cases hk3 : (ss &&& (3 : Int32)) = (2 : Int32)
        · show Steps p.tables e below (s₁.setTop (mkF m 40 #[.val (.int yy), .val (.int mm), .val (.int ss), .val (.int (ss &&& (3 : Int32))), .unset, .unset, .unset, .unset] [(.int (2 : Int32)), (.int (ss &&& (3 : Int32)))])) _
          refine XS.icmpNo X0.here hx rfl (hb hby at_40) rfl (teq hk3).2 ?_
          show Steps p.tables e below (s₁.setTop (mkF m 43 #[.val (.int yy), .val (.int mm), .val (.int ss), .val (.int (ss &&& (3 : Int32))), .unset, .unset, .unset, .unset] [])) _
          refine XS.sipush X0.here hx rfl (hb hby at_43) ?_
          show Steps p.tables e below (s₁.setTop (mkF m 46 #[.val (.int yy), .val (.int mm), .val (.int ss), .val (.int (ss &&& (3 : Int32))), .unset, .unset, .unset, .unset] [(.int (9992 : Int32))])) _
          refine XS.iloadN X0.here hx rfl (hb hby at_46) rfl ?_
          show Steps p.tables e below (s₁.setTop (mkF m 47 #[.val (.int yy), .val (.int mm), .val (.int ss), .val (.int (ss &&& (3 : Int32))), .unset, .unset, .unset, .unset] [(.int yy), (.int (9992 : Int32))])) _
          refine XS.bipush X0.here hx rfl (hb hby at_47) ?_
          show Steps p.tables e below (s₁.setTop (mkF m 49 #[.val (.int yy), .val (.int mm), .val (.int ss), .val (.int (ss &&& (3 : Int32))), .unset, .unset, .unset, .unset] [(.int (15 : Int32)), (.int yy), (.int (9992 : Int32))])) _
          refine XS.iand X0.here hx rfl (hb hby at_49) rfl ?_
          show Steps p.tables e below (s₁.setTop (mkF m 50 #[.val (.int yy), .val (.int mm), .val (.int ss), .val (.int (ss &&& (3 : Int32))), .unset, .unset, .unset, .unset] [(.int (yy &&& (15 : Int32))), (.int (9992 : Int32))])) _
          refine XS.iadd X0.here hx rfl (hb hby at_50) rfl ?_
          show Steps p.tables e below (s₁.setTop (mkF m 51 #[.val (.int yy), .val (.int mm), .val (.int ss), .val (.int (ss &&& (3 : Int32))), .unset, .unset, .unset, .unset] [(.int ((9992 : Int32) + (yy &&& (15 : Int32))))])) _
          refine XS.istore X0.here hx rfl (hb hby at_51) rfl (l' := #[.val (.int yy), .val (.int mm), .val (.int ss), .val (.int (ss &&& (3 : Int32))), .val (.int ((9992 : Int32) + (yy &&& (15 : Int32)))), .unset, .unset, .unset]) rfl ?_
          show Steps p.tables e below (s₁.setTop (mkF m 53 #[.val (.int yy), .val (.int mm), .val (.int ss), .val (.int (ss &&& (3 : Int32))), .val (.int ((9992 : Int32) + (yy &&& (15 : Int32)))), .unset, .unset, .unset] [])) _
          refine XS.goto X0.here hx rfl (pc0 := 53) (pc' := 62) rfl (hb hby at_53) (by decide) (by decide) ?_
          have ev6 : (j0_4_l4 yy ss) = ((9992 : Int32) + (yy &&& (15 : Int32))) := by unfold j0_4_l4; rw [if_neg hk1, if_neg hk2, if_pos hk3]
          rw [ev6] at k
          exact k
        · show Steps p.tables e below (s₁.setTop (mkF m 40 #[.val (.int yy), .val (.int mm), .val (.int ss), .val (.int (ss &&& (3 : Int32))), .unset, .unset, .unset, .unset] [(.int (2 : Int32)), (.int (ss &&& (3 : Int32)))])) _
          refine XS.icmpYes X0.here hx rfl (pc0 := 40) (pc' := 56) rfl (hb hby at_40) rfl (feq hk3).2 (by decide) (by decide) ?_
          show Steps p.tables e below (s₁.setTop (mkF m 56 #[.val (.int yy), .val (.int mm), .val (.int ss), .val (.int (ss &&& (3 : Int32))), .unset, .unset, .unset, .unset] [])) _
          refine XS.iloadN X0.here hx rfl (hb hby at_56) rfl ?_
          show Steps p.tables e below (s₁.setTop (mkF m 57 #[.val (.int yy), .val (.int mm), .val (.int ss), .val (.int (ss &&& (3 : Int32))), .unset, .unset, .unset, .unset] [(.int yy)])) _
          refine XS.bipush X0.here hx rfl (hb hby at_57) ?_
          show Steps p.tables e below (s₁.setTop (mkF m 59 #[.val (.int yy), .val (.int mm), .val (.int ss), .val (.int (ss &&& (3 : Int32))), .unset, .unset, .unset, .unset] [(.int (31 : Int32)), (.int yy)])) _
          refine XS.iand X0.here hx rfl (hb hby at_59) rfl ?_
          show Steps p.tables e below (s₁.setTop (mkF m 60 #[.val (.int yy), .val (.int mm), .val (.int ss), .val (.int (ss &&& (3 : Int32))), .unset, .unset, .unset, .unset] [(.int (yy &&& (31 : Int32)))])) _
          refine XS.istore X0.here hx rfl (hb hby at_60) rfl (l' := #[.val (.int yy), .val (.int mm), .val (.int ss), .val (.int (ss &&& (3 : Int32))), .val (.int (yy &&& (31 : Int32))), .unset, .unset, .unset]) rfl ?_
          have ev7 : (j0_4_l4 yy ss) = (yy &&& (31 : Int32)) := by unfold j0_4_l4; rw [if_neg hk1, if_neg hk2, if_neg hk3]
          rw [ev7] at k
          exact k
  have pre10 : ∀ t, Steps p.tables e below (s₁.setTop (mkF m 83 #[.val (.int yy), .val (.int mm), .val (.int ss), .val (.int (ss &&& (3 : Int32))), .val (.int (j0_4_l4 yy ss)), .val (.int ((mm &&& (2147483647 : Int32)) % (100 : Int32))), .val (.int (((j0_4_l4 yy ss) * (100 : Int32)) + ((mm &&& (2147483647 : Int32)) % (100 : Int32)))), .unset] [(.int (((j0_4_l4 yy ss) * (100 : Int32)) + ((mm &&& (2147483647 : Int32)) % (100 : Int32))))])) t → Steps p.tables e below (s₁.setTop (entryFrame m #[(.int yy), (.int mm), (.int ss)] maxLocals)) t := by
    intro t k
    refine pre9 _ ?_
    show Steps p.tables e below (s₁.setTop (mkF m 62 #[.val (.int yy), .val (.int mm), .val (.int ss), .val (.int (ss &&& (3 : Int32))), .val (.int (j0_4_l4 yy ss)), .unset, .unset, .unset] [])) _
    refine XS.iloadN X0.here hx rfl (hb hby at_62) rfl ?_
    show Steps p.tables e below (s₁.setTop (mkF m 63 #[.val (.int yy), .val (.int mm), .val (.int ss), .val (.int (ss &&& (3 : Int32))), .val (.int (j0_4_l4 yy ss)), .unset, .unset, .unset] [(.int mm)])) _
    refine X0.ldcInt hx hown (mvT hZ (hw _ (List.mem_of_getElem? (i := 0) rfl))) (g := (mkF m 63 #[.val (.int yy), .val (.int mm), .val (.int ss), .val (.int (ss &&& (3 : Int32))), .val (.int (j0_4_l4 yy ss)), .unset, .unset, .unset] [(.int mm)])) rfl (hb hby at_63) _ ?_
    show Steps p.tables e below (s₁.setTop (mkF m 65 #[.val (.int yy), .val (.int mm), .val (.int ss), .val (.int (ss &&& (3 : Int32))), .val (.int (j0_4_l4 yy ss)), .unset, .unset, .unset] [(.int (2147483647 : Int32)), (.int mm)])) _
    refine XS.iand X0.here hx rfl (hb hby at_65) rfl ?_
    show Steps p.tables e below (s₁.setTop (mkF m 66 #[.val (.int yy), .val (.int mm), .val (.int ss), .val (.int (ss &&& (3 : Int32))), .val (.int (j0_4_l4 yy ss)), .unset, .unset, .unset] [(.int (mm &&& (2147483647 : Int32)))])) _
    refine XS.bipush X0.here hx rfl (hb hby at_66) ?_
    show Steps p.tables e below (s₁.setTop (mkF m 68 #[.val (.int yy), .val (.int mm), .val (.int ss), .val (.int (ss &&& (3 : Int32))), .val (.int (j0_4_l4 yy ss)), .unset, .unset, .unset] [(.int (100 : Int32)), (.int (mm &&& (2147483647 : Int32)))])) _
    refine iremM X0 hx rfl (hb hby at_68) rfl (by decide) ?_
    show Steps p.tables e below (s₁.setTop (mkF m 69 #[.val (.int yy), .val (.int mm), .val (.int ss), .val (.int (ss &&& (3 : Int32))), .val (.int (j0_4_l4 yy ss)), .unset, .unset, .unset] [(.int ((mm &&& (2147483647 : Int32)) % (100 : Int32)))])) _
    refine XS.istore X0.here hx rfl (hb hby at_69) rfl (l' := #[.val (.int yy), .val (.int mm), .val (.int ss), .val (.int (ss &&& (3 : Int32))), .val (.int (j0_4_l4 yy ss)), .val (.int ((mm &&& (2147483647 : Int32)) % (100 : Int32))), .unset, .unset]) rfl ?_
    show Steps p.tables e below (s₁.setTop (mkF m 71 #[.val (.int yy), .val (.int mm), .val (.int ss), .val (.int (ss &&& (3 : Int32))), .val (.int (j0_4_l4 yy ss)), .val (.int ((mm &&& (2147483647 : Int32)) % (100 : Int32))), .unset, .unset] [])) _
    refine XS.iload X0.here hx rfl (hb hby at_71) rfl ?_
    show Steps p.tables e below (s₁.setTop (mkF m 73 #[.val (.int yy), .val (.int mm), .val (.int ss), .val (.int (ss &&& (3 : Int32))), .val (.int (j0_4_l4 yy ss)), .val (.int ((mm &&& (2147483647 : Int32)) % (100 : Int32))), .unset, .unset] [(.int (j0_4_l4 yy ss))])) _
    refine XS.bipush X0.here hx rfl (hb hby at_73) ?_
    show Steps p.tables e below (s₁.setTop (mkF m 75 #[.val (.int yy), .val (.int mm), .val (.int ss), .val (.int (ss &&& (3 : Int32))), .val (.int (j0_4_l4 yy ss)), .val (.int ((mm &&& (2147483647 : Int32)) % (100 : Int32))), .unset, .unset] [(.int (100 : Int32)), (.int (j0_4_l4 yy ss))])) _
    refine XS.imul X0.here hx rfl (hb hby at_75) rfl ?_
    show Steps p.tables e below (s₁.setTop (mkF m 76 #[.val (.int yy), .val (.int mm), .val (.int ss), .val (.int (ss &&& (3 : Int32))), .val (.int (j0_4_l4 yy ss)), .val (.int ((mm &&& (2147483647 : Int32)) % (100 : Int32))), .unset, .unset] [(.int ((j0_4_l4 yy ss) * (100 : Int32)))])) _
    refine XS.iload X0.here hx rfl (hb hby at_76) rfl ?_
    show Steps p.tables e below (s₁.setTop (mkF m 78 #[.val (.int yy), .val (.int mm), .val (.int ss), .val (.int (ss &&& (3 : Int32))), .val (.int (j0_4_l4 yy ss)), .val (.int ((mm &&& (2147483647 : Int32)) % (100 : Int32))), .unset, .unset] [(.int ((mm &&& (2147483647 : Int32)) % (100 : Int32))), (.int ((j0_4_l4 yy ss) * (100 : Int32)))])) _
    refine XS.iadd X0.here hx rfl (hb hby at_78) rfl ?_
    show Steps p.tables e below (s₁.setTop (mkF m 79 #[.val (.int yy), .val (.int mm), .val (.int ss), .val (.int (ss &&& (3 : Int32))), .val (.int (j0_4_l4 yy ss)), .val (.int ((mm &&& (2147483647 : Int32)) % (100 : Int32))), .unset, .unset] [(.int (((j0_4_l4 yy ss) * (100 : Int32)) + ((mm &&& (2147483647 : Int32)) % (100 : Int32))))])) _
    refine XS.istore X0.here hx rfl (hb hby at_79) rfl (l' := #[.val (.int yy), .val (.int mm), .val (.int ss), .val (.int (ss &&& (3 : Int32))), .val (.int (j0_4_l4 yy ss)), .val (.int ((mm &&& (2147483647 : Int32)) % (100 : Int32))), .val (.int (((j0_4_l4 yy ss) * (100 : Int32)) + ((mm &&& (2147483647 : Int32)) % (100 : Int32)))), .unset]) rfl ?_
    show Steps p.tables e below (s₁.setTop (mkF m 81 #[.val (.int yy), .val (.int mm), .val (.int ss), .val (.int (ss &&& (3 : Int32))), .val (.int (j0_4_l4 yy ss)), .val (.int ((mm &&& (2147483647 : Int32)) % (100 : Int32))), .val (.int (((j0_4_l4 yy ss) * (100 : Int32)) + ((mm &&& (2147483647 : Int32)) % (100 : Int32)))), .unset] [])) _
    refine XS.iload X0.here hx rfl (hb hby at_81) rfl ?_
    exact k
  by_cases hk11 : (((j0_4_l4 yy ss) * (100 : Int32)) + ((mm &&& (2147483647 : Int32)) % (100 : Int32))) = (0 : Int32)
  · obtain ⟨fs, hr, hrun, hended, hW, hsame⟩ := X0.leave (v := some (.int (1 : Int32))) (fun h => by rw [Bd.returns] at h; cases h)
    refine ⟨_, _, pre10 _ ?_, hrun, hended, _, _, rfl, ?_, ⟨_, rfl⟩, hW, hsame.mono (by decide) (by decide)⟩
    · show Steps p.tables e below (s₁.setTop (mkF m 83 #[.val (.int yy), .val (.int mm), .val (.int ss), .val (.int (ss &&& (3 : Int32))), .val (.int (j0_4_l4 yy ss)), .val (.int ((mm &&& (2147483647 : Int32)) % (100 : Int32))), .val (.int (((j0_4_l4 yy ss) * (100 : Int32)) + ((mm &&& (2147483647 : Int32)) % (100 : Int32)))), .unset] [(.int (((j0_4_l4 yy ss) * (100 : Int32)) + ((mm &&& (2147483647 : Int32)) % (100 : Int32))))])) _
      refine XS.ifNo X0.here hx rfl (hb hby at_83) rfl ((if0 _ _).trans (teq hk11).2) ?_
      show Steps p.tables e below (s₁.setTop (mkF m 86 #[.val (.int yy), .val (.int mm), .val (.int ss), .val (.int (ss &&& (3 : Int32))), .val (.int (j0_4_l4 yy ss)), .val (.int ((mm &&& (2147483647 : Int32)) % (100 : Int32))), .val (.int (((j0_4_l4 yy ss) * (100 : Int32)) + ((mm &&& (2147483647 : Int32)) % (100 : Int32)))), .unset] [])) _
      refine XS.iconst X0.here hx rfl (hb hby at_86) ?_
      show Steps p.tables e below (s₁.setTop (mkF m 87 #[.val (.int yy), .val (.int mm), .val (.int ss), .val (.int (ss &&& (3 : Int32))), .val (.int (j0_4_l4 yy ss)), .val (.int ((mm &&& (2147483647 : Int32)) % (100 : Int32))), .val (.int (((j0_4_l4 yy ss) * (100 : Int32)) + ((mm &&& (2147483647 : Int32)) % (100 : Int32)))), .unset] [(.int (1 : Int32))])) _
      exact retN X0 hx (t := .boolean) Bd.returns (by simp) (hb hby at_87) hr
    · show Q0 Z yy mm ss h0 n0 _ s₁.heap _
      rw [e0]
      exact ⟨rfl, N0⟩
  · have pre25 : ∀ t, Steps p.tables e below (s₁.setTop (mkF m 88 #[.val (.int yy), .val (.int mm), .val (.int ss), .val (.int (ss &&& (3 : Int32))), .val (.int (j0_4_l4 yy ss)), .val (.int ((mm &&& (2147483647 : Int32)) % (100 : Int32))), .val (.int (((j0_4_l4 yy ss) * (100 : Int32)) + ((mm &&& (2147483647 : Int32)) % (100 : Int32)))), .unset] [])) t → Steps p.tables e below (s₁.setTop (entryFrame m #[(.int yy), (.int mm), (.int ss)] maxLocals)) t := by
      intro t k
      refine pre10 _ ?_
      show Steps p.tables e below (s₁.setTop (mkF m 83 #[.val (.int yy), .val (.int mm), .val (.int ss), .val (.int (ss &&& (3 : Int32))), .val (.int (j0_4_l4 yy ss)), .val (.int ((mm &&& (2147483647 : Int32)) % (100 : Int32))), .val (.int (((j0_4_l4 yy ss) * (100 : Int32)) + ((mm &&& (2147483647 : Int32)) % (100 : Int32)))), .unset] [(.int (((j0_4_l4 yy ss) * (100 : Int32)) + ((mm &&& (2147483647 : Int32)) % (100 : Int32))))])) _
      refine XS.ifYes X0.here hx rfl (pc0 := 83) (pc' := 88) rfl (hb hby at_83) rfl ((if0 _ _).trans (feq hk11).2) (by decide) (by decide) ?_
      exact k
    have pre26 : ∀ t, Steps p.tables e below (s₁.setTop (mkF m 138 #[.val (.int yy), .val (.int mm), .val (.int ss), .val (.int (ss &&& (3 : Int32))), .val (.int (j0_4_l4 yy ss)), .val (.int ((mm &&& (2147483647 : Int32)) % (100 : Int32))), .val (.int (((j0_4_l4 yy ss) * (100 : Int32)) + ((mm &&& (2147483647 : Int32)) % (100 : Int32)))), .val (.int (j0_88_l7 yy mm ss))] [])) t → Steps p.tables e below (s₁.setTop (entryFrame m #[(.int yy), (.int mm), (.int ss)] maxLocals)) t := by
      intro t k
      refine pre25 _ ?_
      show Steps p.tables e below (s₁.setTop (mkF m 88 #[.val (.int yy), .val (.int mm), .val (.int ss), .val (.int (ss &&& (3 : Int32))), .val (.int (j0_4_l4 yy ss)), .val (.int ((mm &&& (2147483647 : Int32)) % (100 : Int32))), .val (.int (((j0_4_l4 yy ss) * (100 : Int32)) + ((mm &&& (2147483647 : Int32)) % (100 : Int32)))), .unset] [])) _
      refine XS.iload X0.here hx rfl (hb hby at_88) rfl ?_
      show Steps p.tables e below (s₁.setTop (mkF m 90 #[.val (.int yy), .val (.int mm), .val (.int ss), .val (.int (ss &&& (3 : Int32))), .val (.int (j0_4_l4 yy ss)), .val (.int ((mm &&& (2147483647 : Int32)) % (100 : Int32))), .val (.int (((j0_4_l4 yy ss) * (100 : Int32)) + ((mm &&& (2147483647 : Int32)) % (100 : Int32)))), .unset] [(.int ((mm &&& (2147483647 : Int32)) % (100 : Int32)))])) _
      refine XS.iconst X0.here hx rfl (hb hby at_90) ?_
      by_cases hk12 : ((mm &&& (2147483647 : Int32)) % (100 : Int32)) < (1 : Int32)
      · show Steps p.tables e below (s₁.setTop (mkF m 91 #[.val (.int yy), .val (.int mm), .val (.int ss), .val (.int (ss &&& (3 : Int32))), .val (.int (j0_4_l4 yy ss)), .val (.int ((mm &&& (2147483647 : Int32)) % (100 : Int32))), .val (.int (((j0_4_l4 yy ss) * (100 : Int32)) + ((mm &&& (2147483647 : Int32)) % (100 : Int32)))), .unset] [(.int (1 : Int32)), (.int ((mm &&& (2147483647 : Int32)) % (100 : Int32)))])) _
        refine XS.icmpYes X0.here hx rfl (pc0 := 91) (pc' := 135) rfl (hb hby at_91) rfl (tlt hk12).1 (by decide) (by decide) ?_
        show Steps p.tables e below (s₁.setTop (mkF m 135 #[.val (.int yy), .val (.int mm), .val (.int ss), .val (.int (ss &&& (3 : Int32))), .val (.int (j0_4_l4 yy ss)), .val (.int ((mm &&& (2147483647 : Int32)) % (100 : Int32))), .val (.int (((j0_4_l4 yy ss) * (100 : Int32)) + ((mm &&& (2147483647 : Int32)) % (100 : Int32)))), .unset] [])) _
        refine XS.iconst X0.here hx rfl (hb hby at_135) ?_
        show Steps p.tables e below (s₁.setTop (mkF m 136 #[.val (.int yy), .val (.int mm), .val (.int ss), .val (.int (ss &&& (3 : Int32))), .val (.int (j0_4_l4 yy ss)), .val (.int ((mm &&& (2147483647 : Int32)) % (100 : Int32))), .val (.int (((j0_4_l4 yy ss) * (100 : Int32)) + ((mm &&& (2147483647 : Int32)) % (100 : Int32)))), .unset] [(.int (0 : Int32))])) _
        refine XS.istore X0.here hx rfl (hb hby at_136) rfl (l' := #[.val (.int yy), .val (.int mm), .val (.int ss), .val (.int (ss &&& (3 : Int32))), .val (.int (j0_4_l4 yy ss)), .val (.int ((mm &&& (2147483647 : Int32)) % (100 : Int32))), .val (.int (((j0_4_l4 yy ss) * (100 : Int32)) + ((mm &&& (2147483647 : Int32)) % (100 : Int32)))), .val (.int (0 : Int32))]) rfl ?_
        have ev18 : (j0_88_l7 yy mm ss) = (0 : Int32) := by unfold j0_88_l7; rw [if_pos hk12]
        rw [ev18] at k
        exact k
      · show Steps p.tables e below (s₁.setTop (mkF m 91 #[.val (.int yy), .val (.int mm), .val (.int ss), .val (.int (ss &&& (3 : Int32))), .val (.int (j0_4_l4 yy ss)), .val (.int ((mm &&& (2147483647 : Int32)) % (100 : Int32))), .val (.int (((j0_4_l4 yy ss) * (100 : Int32)) + ((mm &&& (2147483647 : Int32)) % (100 : Int32)))), .unset] [(.int (1 : Int32)), (.int ((mm &&& (2147483647 : Int32)) % (100 : Int32)))])) _
        refine XS.icmpNo X0.here hx rfl (hb hby at_91) rfl (flt hk12).1 ?_
        show Steps p.tables e below (s₁.setTop (mkF m 94 #[.val (.int yy), .val (.int mm), .val (.int ss), .val (.int (ss &&& (3 : Int32))), .val (.int (j0_4_l4 yy ss)), .val (.int ((mm &&& (2147483647 : Int32)) % (100 : Int32))), .val (.int (((j0_4_l4 yy ss) * (100 : Int32)) + ((mm &&& (2147483647 : Int32)) % (100 : Int32)))), .unset] [])) _
        refine XS.iload X0.here hx rfl (hb hby at_94) rfl ?_
        show Steps p.tables e below (s₁.setTop (mkF m 96 #[.val (.int yy), .val (.int mm), .val (.int ss), .val (.int (ss &&& (3 : Int32))), .val (.int (j0_4_l4 yy ss)), .val (.int ((mm &&& (2147483647 : Int32)) % (100 : Int32))), .val (.int (((j0_4_l4 yy ss) * (100 : Int32)) + ((mm &&& (2147483647 : Int32)) % (100 : Int32)))), .unset] [(.int ((mm &&& (2147483647 : Int32)) % (100 : Int32)))])) _
        refine XS.bipush X0.here hx rfl (hb hby at_96) ?_
        by_cases hk13 : (12 : Int32) < ((mm &&& (2147483647 : Int32)) % (100 : Int32))
        · show Steps p.tables e below (s₁.setTop (mkF m 98 #[.val (.int yy), .val (.int mm), .val (.int ss), .val (.int (ss &&& (3 : Int32))), .val (.int (j0_4_l4 yy ss)), .val (.int ((mm &&& (2147483647 : Int32)) % (100 : Int32))), .val (.int (((j0_4_l4 yy ss) * (100 : Int32)) + ((mm &&& (2147483647 : Int32)) % (100 : Int32)))), .unset] [(.int (12 : Int32)), (.int ((mm &&& (2147483647 : Int32)) % (100 : Int32)))])) _
          refine XS.icmpYes X0.here hx rfl (pc0 := 98) (pc' := 135) rfl (hb hby at_98) rfl (tlt hk13).2.2.1 (by decide) (by decide) ?_
          show Steps p.tables e below (s₁.setTop (mkF m 135 #[.val (.int yy), .val (.int mm), .val (.int ss), .val (.int (ss &&& (3 : Int32))), .val (.int (j0_4_l4 yy ss)), .val (.int ((mm &&& (2147483647 : Int32)) % (100 : Int32))), .val (.int (((j0_4_l4 yy ss) * (100 : Int32)) + ((mm &&& (2147483647 : Int32)) % (100 : Int32)))), .unset] [])) _
          refine XS.iconst X0.here hx rfl (hb hby at_135) ?_
          show Steps p.tables e below (s₁.setTop (mkF m 136 #[.val (.int yy), .val (.int mm), .val (.int ss), .val (.int (ss &&& (3 : Int32))), .val (.int (j0_4_l4 yy ss)), .val (.int ((mm &&& (2147483647 : Int32)) % (100 : Int32))), .val (.int (((j0_4_l4 yy ss) * (100 : Int32)) + ((mm &&& (2147483647 : Int32)) % (100 : Int32)))), .unset] [(.int (0 : Int32))])) _
          refine XS.istore X0.here hx rfl (hb hby at_136) rfl (l' := #[.val (.int yy), .val (.int mm), .val (.int ss), .val (.int (ss &&& (3 : Int32))), .val (.int (j0_4_l4 yy ss)), .val (.int ((mm &&& (2147483647 : Int32)) % (100 : Int32))), .val (.int (((j0_4_l4 yy ss) * (100 : Int32)) + ((mm &&& (2147483647 : Int32)) % (100 : Int32)))), .val (.int (0 : Int32))]) rfl ?_
          have ev19 : (j0_88_l7 yy mm ss) = (0 : Int32) := by unfold j0_88_l7; rw [if_neg hk12, if_pos hk13]
          rw [ev19] at k
          exact k
        · show Steps p.tables e below (s₁.setTop (mkF m 98 #[.val (.int yy), .val (.int mm), .val (.int ss), .val (.int (ss &&& (3 : Int32))), .val (.int (j0_4_l4 yy ss)), .val (.int ((mm &&& (2147483647 : Int32)) % (100 : Int32))), .val (.int (((j0_4_l4 yy ss) * (100 : Int32)) + ((mm &&& (2147483647 : Int32)) % (100 : Int32)))), .unset] [(.int (12 : Int32)), (.int ((mm &&& (2147483647 : Int32)) % (100 : Int32)))])) _
          refine XS.icmpNo X0.here hx rfl (hb hby at_98) rfl (flt hk13).2.2.1 ?_
          show Steps p.tables e below (s₁.setTop (mkF m 101 #[.val (.int yy), .val (.int mm), .val (.int ss), .val (.int (ss &&& (3 : Int32))), .val (.int (j0_4_l4 yy ss)), .val (.int ((mm &&& (2147483647 : Int32)) % (100 : Int32))), .val (.int (((j0_4_l4 yy ss) * (100 : Int32)) + ((mm &&& (2147483647 : Int32)) % (100 : Int32)))), .unset] [])) _
          refine XS.iload X0.here hx rfl (hb hby at_101) rfl ?_
          show Steps p.tables e below (s₁.setTop (mkF m 103 #[.val (.int yy), .val (.int mm), .val (.int ss), .val (.int (ss &&& (3 : Int32))), .val (.int (j0_4_l4 yy ss)), .val (.int ((mm &&& (2147483647 : Int32)) % (100 : Int32))), .val (.int (((j0_4_l4 yy ss) * (100 : Int32)) + ((mm &&& (2147483647 : Int32)) % (100 : Int32)))), .unset] [(.int (j0_4_l4 yy ss))])) _
          refine XS.sipush X0.here hx rfl (hb hby at_103) ?_
          by_cases hk14 : (9999 : Int32) < (j0_4_l4 yy ss)
          · show Steps p.tables e below (s₁.setTop (mkF m 106 #[.val (.int yy), .val (.int mm), .val (.int ss), .val (.int (ss &&& (3 : Int32))), .val (.int (j0_4_l4 yy ss)), .val (.int ((mm &&& (2147483647 : Int32)) % (100 : Int32))), .val (.int (((j0_4_l4 yy ss) * (100 : Int32)) + ((mm &&& (2147483647 : Int32)) % (100 : Int32)))), .unset] [(.int (9999 : Int32)), (.int (j0_4_l4 yy ss))])) _
            refine XS.icmpYes X0.here hx rfl (pc0 := 106) (pc' := 135) rfl (hb hby at_106) rfl (tlt hk14).2.2.1 (by decide) (by decide) ?_
            show Steps p.tables e below (s₁.setTop (mkF m 135 #[.val (.int yy), .val (.int mm), .val (.int ss), .val (.int (ss &&& (3 : Int32))), .val (.int (j0_4_l4 yy ss)), .val (.int ((mm &&& (2147483647 : Int32)) % (100 : Int32))), .val (.int (((j0_4_l4 yy ss) * (100 : Int32)) + ((mm &&& (2147483647 : Int32)) % (100 : Int32)))), .unset] [])) _
            refine XS.iconst X0.here hx rfl (hb hby at_135) ?_
            show Steps p.tables e below (s₁.setTop (mkF m 136 #[.val (.int yy), .val (.int mm), .val (.int ss), .val (.int (ss &&& (3 : Int32))), .val (.int (j0_4_l4 yy ss)), .val (.int ((mm &&& (2147483647 : Int32)) % (100 : Int32))), .val (.int (((j0_4_l4 yy ss) * (100 : Int32)) + ((mm &&& (2147483647 : Int32)) % (100 : Int32)))), .unset] [(.int (0 : Int32))])) _
            refine XS.istore X0.here hx rfl (hb hby at_136) rfl (l' := #[.val (.int yy), .val (.int mm), .val (.int ss), .val (.int (ss &&& (3 : Int32))), .val (.int (j0_4_l4 yy ss)), .val (.int ((mm &&& (2147483647 : Int32)) % (100 : Int32))), .val (.int (((j0_4_l4 yy ss) * (100 : Int32)) + ((mm &&& (2147483647 : Int32)) % (100 : Int32)))), .val (.int (0 : Int32))]) rfl ?_
            have ev20 : (j0_88_l7 yy mm ss) = (0 : Int32) := by unfold j0_88_l7; rw [if_neg hk12, if_neg hk13, if_pos hk14]
            rw [ev20] at k
            exact k
          · show Steps p.tables e below (s₁.setTop (mkF m 106 #[.val (.int yy), .val (.int mm), .val (.int ss), .val (.int (ss &&& (3 : Int32))), .val (.int (j0_4_l4 yy ss)), .val (.int ((mm &&& (2147483647 : Int32)) % (100 : Int32))), .val (.int (((j0_4_l4 yy ss) * (100 : Int32)) + ((mm &&& (2147483647 : Int32)) % (100 : Int32)))), .unset] [(.int (9999 : Int32)), (.int (j0_4_l4 yy ss))])) _
            refine XS.icmpNo X0.here hx rfl (hb hby at_106) rfl (flt hk14).2.2.1 ?_
            show Steps p.tables e below (s₁.setTop (mkF m 109 #[.val (.int yy), .val (.int mm), .val (.int ss), .val (.int (ss &&& (3 : Int32))), .val (.int (j0_4_l4 yy ss)), .val (.int ((mm &&& (2147483647 : Int32)) % (100 : Int32))), .val (.int (((j0_4_l4 yy ss) * (100 : Int32)) + ((mm &&& (2147483647 : Int32)) % (100 : Int32)))), .unset] [])) _
            refine XS.iload X0.here hx rfl (hb hby at_109) rfl ?_
            show Steps p.tables e below (s₁.setTop (mkF m 111 #[.val (.int yy), .val (.int mm), .val (.int ss), .val (.int (ss &&& (3 : Int32))), .val (.int (j0_4_l4 yy ss)), .val (.int ((mm &&& (2147483647 : Int32)) % (100 : Int32))), .val (.int (((j0_4_l4 yy ss) * (100 : Int32)) + ((mm &&& (2147483647 : Int32)) % (100 : Int32)))), .unset] [(.int (j0_4_l4 yy ss))])) _
            refine XS.sipush X0.here hx rfl (hb hby at_111) ?_
            by_cases hk15 : (2024 : Int32) < (j0_4_l4 yy ss)
            · show Steps p.tables e below (s₁.setTop (mkF m 114 #[.val (.int yy), .val (.int mm), .val (.int ss), .val (.int (ss &&& (3 : Int32))), .val (.int (j0_4_l4 yy ss)), .val (.int ((mm &&& (2147483647 : Int32)) % (100 : Int32))), .val (.int (((j0_4_l4 yy ss) * (100 : Int32)) + ((mm &&& (2147483647 : Int32)) % (100 : Int32)))), .unset] [(.int (2024 : Int32)), (.int (j0_4_l4 yy ss))])) _
              refine XS.icmpYes X0.here hx rfl (pc0 := 114) (pc' := 131) rfl (hb hby at_114) rfl (tlt hk15).2.2.1 (by decide) (by decide) ?_
              show Steps p.tables e below (s₁.setTop (mkF m 131 #[.val (.int yy), .val (.int mm), .val (.int ss), .val (.int (ss &&& (3 : Int32))), .val (.int (j0_4_l4 yy ss)), .val (.int ((mm &&& (2147483647 : Int32)) % (100 : Int32))), .val (.int (((j0_4_l4 yy ss) * (100 : Int32)) + ((mm &&& (2147483647 : Int32)) % (100 : Int32)))), .unset] [])) _
              refine XS.iconst X0.here hx rfl (hb hby at_131) ?_
              show Steps p.tables e below (s₁.setTop (mkF m 132 #[.val (.int yy), .val (.int mm), .val (.int ss), .val (.int (ss &&& (3 : Int32))), .val (.int (j0_4_l4 yy ss)), .val (.int ((mm &&& (2147483647 : Int32)) % (100 : Int32))), .val (.int (((j0_4_l4 yy ss) * (100 : Int32)) + ((mm &&& (2147483647 : Int32)) % (100 : Int32)))), .unset] [(.int (1 : Int32))])) _
              refine XS.goto X0.here hx rfl (pc0 := 132) (pc' := 136) rfl (hb hby at_132) (by decide) (by decide) ?_
              show Steps p.tables e below (s₁.setTop (mkF m 136 #[.val (.int yy), .val (.int mm), .val (.int ss), .val (.int (ss &&& (3 : Int32))), .val (.int (j0_4_l4 yy ss)), .val (.int ((mm &&& (2147483647 : Int32)) % (100 : Int32))), .val (.int (((j0_4_l4 yy ss) * (100 : Int32)) + ((mm &&& (2147483647 : Int32)) % (100 : Int32)))), .unset] [(.int (1 : Int32))])) _
              refine XS.istore X0.here hx rfl (hb hby at_136) rfl (l' := #[.val (.int yy), .val (.int mm), .val (.int ss), .val (.int (ss &&& (3 : Int32))), .val (.int (j0_4_l4 yy ss)), .val (.int ((mm &&& (2147483647 : Int32)) % (100 : Int32))), .val (.int (((j0_4_l4 yy ss) * (100 : Int32)) + ((mm &&& (2147483647 : Int32)) % (100 : Int32)))), .val (.int (1 : Int32))]) rfl ?_
              have ev21 : (j0_88_l7 yy mm ss) = (1 : Int32) := by unfold j0_88_l7; rw [if_neg hk12, if_neg hk13, if_neg hk14, if_pos hk15]
              rw [ev21] at k
              exact k
            · show Steps p.tables e below (s₁.setTop (mkF m 114 #[.val (.int yy), .val (.int mm), .val (.int ss), .val (.int (ss &&& (3 : Int32))), .val (.int (j0_4_l4 yy ss)), .val (.int ((mm &&& (2147483647 : Int32)) % (100 : Int32))), .val (.int (((j0_4_l4 yy ss) * (100 : Int32)) + ((mm &&& (2147483647 : Int32)) % (100 : Int32)))), .unset] [(.int (2024 : Int32)), (.int (j0_4_l4 yy ss))])) _
              refine XS.icmpNo X0.here hx rfl (hb hby at_114) rfl (flt hk15).2.2.1 ?_
              show Steps p.tables e below (s₁.setTop (mkF m 117 #[.val (.int yy), .val (.int mm), .val (.int ss), .val (.int (ss &&& (3 : Int32))), .val (.int (j0_4_l4 yy ss)), .val (.int ((mm &&& (2147483647 : Int32)) % (100 : Int32))), .val (.int (((j0_4_l4 yy ss) * (100 : Int32)) + ((mm &&& (2147483647 : Int32)) % (100 : Int32)))), .unset] [])) _
              refine XS.iload X0.here hx rfl (hb hby at_117) rfl ?_
              show Steps p.tables e below (s₁.setTop (mkF m 119 #[.val (.int yy), .val (.int mm), .val (.int ss), .val (.int (ss &&& (3 : Int32))), .val (.int (j0_4_l4 yy ss)), .val (.int ((mm &&& (2147483647 : Int32)) % (100 : Int32))), .val (.int (((j0_4_l4 yy ss) * (100 : Int32)) + ((mm &&& (2147483647 : Int32)) % (100 : Int32)))), .unset] [(.int (j0_4_l4 yy ss))])) _
              refine XS.sipush X0.here hx rfl (hb hby at_119) ?_
              by_cases hk16 : (j0_4_l4 yy ss) = (2024 : Int32)
              · show Steps p.tables e below (s₁.setTop (mkF m 122 #[.val (.int yy), .val (.int mm), .val (.int ss), .val (.int (ss &&& (3 : Int32))), .val (.int (j0_4_l4 yy ss)), .val (.int ((mm &&& (2147483647 : Int32)) % (100 : Int32))), .val (.int (((j0_4_l4 yy ss) * (100 : Int32)) + ((mm &&& (2147483647 : Int32)) % (100 : Int32)))), .unset] [(.int (2024 : Int32)), (.int (j0_4_l4 yy ss))])) _
                refine XS.icmpNo X0.here hx rfl (hb hby at_122) rfl (teq hk16).2 ?_
                show Steps p.tables e below (s₁.setTop (mkF m 125 #[.val (.int yy), .val (.int mm), .val (.int ss), .val (.int (ss &&& (3 : Int32))), .val (.int (j0_4_l4 yy ss)), .val (.int ((mm &&& (2147483647 : Int32)) % (100 : Int32))), .val (.int (((j0_4_l4 yy ss) * (100 : Int32)) + ((mm &&& (2147483647 : Int32)) % (100 : Int32)))), .unset] [])) _
                refine XS.iload X0.here hx rfl (hb hby at_125) rfl ?_
                show Steps p.tables e below (s₁.setTop (mkF m 127 #[.val (.int yy), .val (.int mm), .val (.int ss), .val (.int (ss &&& (3 : Int32))), .val (.int (j0_4_l4 yy ss)), .val (.int ((mm &&& (2147483647 : Int32)) % (100 : Int32))), .val (.int (((j0_4_l4 yy ss) * (100 : Int32)) + ((mm &&& (2147483647 : Int32)) % (100 : Int32)))), .unset] [(.int ((mm &&& (2147483647 : Int32)) % (100 : Int32)))])) _
                refine XS.iconst X0.here hx rfl (hb hby at_127) ?_
                by_cases hk17 : ((mm &&& (2147483647 : Int32)) % (100 : Int32)) < (4 : Int32)
                · show Steps p.tables e below (s₁.setTop (mkF m 128 #[.val (.int yy), .val (.int mm), .val (.int ss), .val (.int (ss &&& (3 : Int32))), .val (.int (j0_4_l4 yy ss)), .val (.int ((mm &&& (2147483647 : Int32)) % (100 : Int32))), .val (.int (((j0_4_l4 yy ss) * (100 : Int32)) + ((mm &&& (2147483647 : Int32)) % (100 : Int32)))), .unset] [(.int (4 : Int32)), (.int ((mm &&& (2147483647 : Int32)) % (100 : Int32)))])) _
                  refine XS.icmpYes X0.here hx rfl (pc0 := 128) (pc' := 135) rfl (hb hby at_128) rfl (tlt hk17).1 (by decide) (by decide) ?_
                  show Steps p.tables e below (s₁.setTop (mkF m 135 #[.val (.int yy), .val (.int mm), .val (.int ss), .val (.int (ss &&& (3 : Int32))), .val (.int (j0_4_l4 yy ss)), .val (.int ((mm &&& (2147483647 : Int32)) % (100 : Int32))), .val (.int (((j0_4_l4 yy ss) * (100 : Int32)) + ((mm &&& (2147483647 : Int32)) % (100 : Int32)))), .unset] [])) _
                  refine XS.iconst X0.here hx rfl (hb hby at_135) ?_
                  show Steps p.tables e below (s₁.setTop (mkF m 136 #[.val (.int yy), .val (.int mm), .val (.int ss), .val (.int (ss &&& (3 : Int32))), .val (.int (j0_4_l4 yy ss)), .val (.int ((mm &&& (2147483647 : Int32)) % (100 : Int32))), .val (.int (((j0_4_l4 yy ss) * (100 : Int32)) + ((mm &&& (2147483647 : Int32)) % (100 : Int32)))), .unset] [(.int (0 : Int32))])) _
                  refine XS.istore X0.here hx rfl (hb hby at_136) rfl (l' := #[.val (.int yy), .val (.int mm), .val (.int ss), .val (.int (ss &&& (3 : Int32))), .val (.int (j0_4_l4 yy ss)), .val (.int ((mm &&& (2147483647 : Int32)) % (100 : Int32))), .val (.int (((j0_4_l4 yy ss) * (100 : Int32)) + ((mm &&& (2147483647 : Int32)) % (100 : Int32)))), .val (.int (0 : Int32))]) rfl ?_
                  have ev22 : (j0_88_l7 yy mm ss) = (0 : Int32) := by unfold j0_88_l7; rw [if_neg hk12, if_neg hk13, if_neg hk14, if_neg hk15, if_pos hk16, if_pos hk17]
                  rw [ev22] at k
                  exact k
                · show Steps p.tables e below (s₁.setTop (mkF m 128 #[.val (.int yy), .val (.int mm), .val (.int ss), .val (.int (ss &&& (3 : Int32))), .val (.int (j0_4_l4 yy ss)), .val (.int ((mm &&& (2147483647 : Int32)) % (100 : Int32))), .val (.int (((j0_4_l4 yy ss) * (100 : Int32)) + ((mm &&& (2147483647 : Int32)) % (100 : Int32)))), .unset] [(.int (4 : Int32)), (.int ((mm &&& (2147483647 : Int32)) % (100 : Int32)))])) _
                  refine XS.icmpNo X0.here hx rfl (hb hby at_128) rfl (flt hk17).1 ?_
                  show Steps p.tables e below (s₁.setTop (mkF m 131 #[.val (.int yy), .val (.int mm), .val (.int ss), .val (.int (ss &&& (3 : Int32))), .val (.int (j0_4_l4 yy ss)), .val (.int ((mm &&& (2147483647 : Int32)) % (100 : Int32))), .val (.int (((j0_4_l4 yy ss) * (100 : Int32)) + ((mm &&& (2147483647 : Int32)) % (100 : Int32)))), .unset] [])) _
                  refine XS.iconst X0.here hx rfl (hb hby at_131) ?_
                  show Steps p.tables e below (s₁.setTop (mkF m 132 #[.val (.int yy), .val (.int mm), .val (.int ss), .val (.int (ss &&& (3 : Int32))), .val (.int (j0_4_l4 yy ss)), .val (.int ((mm &&& (2147483647 : Int32)) % (100 : Int32))), .val (.int (((j0_4_l4 yy ss) * (100 : Int32)) + ((mm &&& (2147483647 : Int32)) % (100 : Int32)))), .unset] [(.int (1 : Int32))])) _
                  refine XS.goto X0.here hx rfl (pc0 := 132) (pc' := 136) rfl (hb hby at_132) (by decide) (by decide) ?_
                  show Steps p.tables e below (s₁.setTop (mkF m 136 #[.val (.int yy), .val (.int mm), .val (.int ss), .val (.int (ss &&& (3 : Int32))), .val (.int (j0_4_l4 yy ss)), .val (.int ((mm &&& (2147483647 : Int32)) % (100 : Int32))), .val (.int (((j0_4_l4 yy ss) * (100 : Int32)) + ((mm &&& (2147483647 : Int32)) % (100 : Int32)))), .unset] [(.int (1 : Int32))])) _
                  refine XS.istore X0.here hx rfl (hb hby at_136) rfl (l' := #[.val (.int yy), .val (.int mm), .val (.int ss), .val (.int (ss &&& (3 : Int32))), .val (.int (j0_4_l4 yy ss)), .val (.int ((mm &&& (2147483647 : Int32)) % (100 : Int32))), .val (.int (((j0_4_l4 yy ss) * (100 : Int32)) + ((mm &&& (2147483647 : Int32)) % (100 : Int32)))), .val (.int (1 : Int32))]) rfl ?_
                  have ev23 : (j0_88_l7 yy mm ss) = (1 : Int32) := by unfold j0_88_l7; rw [if_neg hk12, if_neg hk13, if_neg hk14, if_neg hk15, if_pos hk16, if_neg hk17]
                  rw [ev23] at k
                  exact k
              · show Steps p.tables e below (s₁.setTop (mkF m 122 #[.val (.int yy), .val (.int mm), .val (.int ss), .val (.int (ss &&& (3 : Int32))), .val (.int (j0_4_l4 yy ss)), .val (.int ((mm &&& (2147483647 : Int32)) % (100 : Int32))), .val (.int (((j0_4_l4 yy ss) * (100 : Int32)) + ((mm &&& (2147483647 : Int32)) % (100 : Int32)))), .unset] [(.int (2024 : Int32)), (.int (j0_4_l4 yy ss))])) _
                refine XS.icmpYes X0.here hx rfl (pc0 := 122) (pc' := 135) rfl (hb hby at_122) rfl (feq hk16).2 (by decide) (by decide) ?_
                show Steps p.tables e below (s₁.setTop (mkF m 135 #[.val (.int yy), .val (.int mm), .val (.int ss), .val (.int (ss &&& (3 : Int32))), .val (.int (j0_4_l4 yy ss)), .val (.int ((mm &&& (2147483647 : Int32)) % (100 : Int32))), .val (.int (((j0_4_l4 yy ss) * (100 : Int32)) + ((mm &&& (2147483647 : Int32)) % (100 : Int32)))), .unset] [])) _
                refine XS.iconst X0.here hx rfl (hb hby at_135) ?_
                show Steps p.tables e below (s₁.setTop (mkF m 136 #[.val (.int yy), .val (.int mm), .val (.int ss), .val (.int (ss &&& (3 : Int32))), .val (.int (j0_4_l4 yy ss)), .val (.int ((mm &&& (2147483647 : Int32)) % (100 : Int32))), .val (.int (((j0_4_l4 yy ss) * (100 : Int32)) + ((mm &&& (2147483647 : Int32)) % (100 : Int32)))), .unset] [(.int (0 : Int32))])) _
                refine XS.istore X0.here hx rfl (hb hby at_136) rfl (l' := #[.val (.int yy), .val (.int mm), .val (.int ss), .val (.int (ss &&& (3 : Int32))), .val (.int (j0_4_l4 yy ss)), .val (.int ((mm &&& (2147483647 : Int32)) % (100 : Int32))), .val (.int (((j0_4_l4 yy ss) * (100 : Int32)) + ((mm &&& (2147483647 : Int32)) % (100 : Int32)))), .val (.int (0 : Int32))]) rfl ?_
                have ev24 : (j0_88_l7 yy mm ss) = (0 : Int32) := by unfold j0_88_l7; rw [if_neg hk12, if_neg hk13, if_neg hk14, if_neg hk15, if_neg hk16]
                rw [ev24] at k
                exact k
    obtain ⟨T27, h27, X27, e27, E27, A27, D27, -, st27⟩ := newO X0 hx hZ hown (hw _ (List.mem_of_getElem? (i := 1) rfl)) (hw _ (List.mem_of_getElem? (i := 2) rfl)) (hw _ (List.mem_of_getElem? (i := 3) rfl)) e0 (g := (mkF m 138 #[.val (.int yy), .val (.int mm), .val (.int ss), .val (.int (ss &&& (3 : Int32))), .val (.int (j0_4_l4 yy ss)), .val (.int ((mm &&& (2147483647 : Int32)) % (100 : Int32))), .val (.int (((j0_4_l4 yy ss) * (100 : Int32)) + ((mm &&& (2147483647 : Int32)) % (100 : Int32)))), .val (.int (j0_88_l7 yy mm ss))] [])) rfl (hb hby at_138) (by decide) (by decide)
    obtain ⟨b27, g27⟩ : ∃ z, z = h0.size := ⟨_, rfl⟩
    rw [← g27] at A27 D27 st27
    have gg27 : n0 ≤ b27 := Nat.le_trans Z0 (Nat.le_of_eq g27.symm)
    have Z27 : n0 ≤ h27.size := Nat.le_trans Z0 E27.1
    have f28 : Fld Z h27 b27 "com/example/partlint/partlint/model/ApiLevel" "value" "I" (.int (0 : Int32)) := D27 (Or.inr (hw _ (List.mem_of_getElem? (i := 16) rfl))) (ty := .int) (by decide)
    obtain ⟨_, _, ⟨T29, L29, k29, n29⟩, -, X29, ⟨Lc29, hQ29, l29, y29, z29⟩, st29⟩ := X27.specialBack hx (y := (⟨"com/example/partlint/partlint/model/ApiLevel", "<init>", "(I)V"⟩ : MethodName)) rfl hown (mvT hZ (hw _ (List.mem_of_getElem? (i := 4) rfl))) (mvT hZ (hw _ (List.mem_of_getElem? (i := 5) rfl))) (mvT hZ (hw _ (List.mem_of_getElem? (i := 6) rfl))) (by decide) (backOf (W := 1) (rm1 l Z a0 hw [] b27 (((j0_4_l4 yy ss) * (100 : Int32)) + ((mm &&& (2147483647 : Int32)) % (100 : Int32))) (0 : Int32) h27 n0 Z27 (own_pos yy mm ss hk11) A27 f28 gg27) hZ (hw _ (List.mem_of_getElem? (i := 6) rfl)) (hw _ (List.mem_of_getElem? (i := 3) rfl)) (by decide) (by decide)) (g := (mkF m 144 #[.val (.int yy), .val (.int mm), .val (.int ss), .val (.int (ss &&& (3 : Int32))), .val (.int (j0_4_l4 yy ss)), .val (.int ((mm &&& (2147483647 : Int32)) % (100 : Int32))), .val (.int (((j0_4_l4 yy ss) * (100 : Int32)) + ((mm &&& (2147483647 : Int32)) % (100 : Int32)))), .val (.int (j0_88_l7 yy mm ss))] [(.int (((j0_4_l4 yy ss) * (100 : Int32)) + ((mm &&& (2147483647 : Int32)) % (100 : Int32)))), (.ref b27), (.ref b27)])) rfl (by rw [hml]; rfl) (Steps.refl _) (a := b27) (argsL := [(.int (((j0_4_l4 yy ss) * (100 : Int32)) + ((mm &&& (2147483647 : Int32)) % (100 : Int32))))]) (rest := [(.ref b27)]) (lenOf pd_1 rfl) rfl (by show 2 * 0 + _ ≤ _; exact Nat.le_of_eq rfl) (hb hby at_144) (fun _ _ => ⟨rfl, e27, (by decide : 1 + 0 ≤ _), (by decide : 1 + 0 ≤ _)⟩)
    dsimp only [Pt.U, Pt.locs, Pt.cells, Pt.slots] at X29 l29 y29 z29 st29 hQ29
    subst l29 y29 z29
    obtain ⟨rfl, N29q, K29c, f30⟩ := hQ29
    have N29 := Fr.app N0 N29q
    have f31 : Exa Z T29.heap b27 "com/example/partlint/partlint/model/ApiLevel" := A27.keep K29c
    have Z29 : n0 ≤ T29.heap.size := Nat.le_trans Z27 K29c.1
    obtain ⟨cq32, kq32, q32a, q32b, q32c⟩ := isOf hZ rfl f31
    obtain ⟨_, _, ⟨T32, L32, k32, n32⟩, -, X32, ⟨Lc32, hQ32, l32, y32, z32⟩, st32⟩ := X29.virtualBack hx (y := (⟨"com/example/partlint/partlint/model/ApiLevel", "isVendorForm", "()Z"⟩ : MethodName)) (z := (⟨"com/example/partlint/partlint/model/ApiLevel", "isVendorForm", "()Z"⟩ : MethodName)) hown (mvT hZ (hw _ (List.mem_of_getElem? (i := 17) rfl))) (mvT hZ (hw _ (List.mem_of_getElem? (i := 18) rfl))) (notFace_of_selects (args := #[]) (mvT hZ (hw _ (List.mem_of_getElem? (i := 20) rfl)))) (mvT hZ (hw _ (List.mem_of_getElem? (i := 20) rfl))) (mvT hZ (hw _ (List.mem_of_getElem? (i := 19) rfl))) (by decide) (backOf (W := 0) (rm4 l Z a0 hw [] b27 (((j0_4_l4 yy ss) * (100 : Int32)) + ((mm &&& (2147483647 : Int32)) % (100 : Int32))) T29.heap n0 Z29 f30) hZ (hw _ (List.mem_of_getElem? (i := 21) rfl)) (hw _ (List.mem_of_getElem? (i := 3) rfl)) (by decide) (by decide)) q32a q32c (g := (mkF m 147 #[.val (.int yy), .val (.int mm), .val (.int ss), .val (.int (ss &&& (3 : Int32))), .val (.int (j0_4_l4 yy ss)), .val (.int ((mm &&& (2147483647 : Int32)) % (100 : Int32))), .val (.int (((j0_4_l4 yy ss) * (100 : Int32)) + ((mm &&& (2147483647 : Int32)) % (100 : Int32)))), .val (.int (j0_88_l7 yy mm ss))] [(.ref b27)])) rfl (by rw [hml]; rfl) (Steps.refl _) (argsL := []) (rest := []) (lenOf pd_2 rfl) rfl (by show 2 * 0 + _ ≤ _; exact Nat.le_of_eq rfl) (hb hby at_147) (fun _ _ => ⟨rfl, rfl, (by decide : 1 + 0 ≤ _), (by decide : 1 + 0 ≤ _)⟩)
    dsimp only [Pt.U, Pt.locs, Pt.cells, Pt.slots] at X32 l32 y32 z32 st32 hQ32
    subst l32 y32 z32
    obtain ⟨rfl, N32q, e32⟩ := hQ32
    have N32 := Fr.app N29 N32q
    obtain ⟨fs, hr, hrun, hended, hW, hsame⟩ := X32.leave (v := some (.int (1 : Int32))) (fun h => by rw [Bd.returns] at h; cases h)
    refine ⟨_, _, pre26 _ ?_, hrun, hended, _, _, rfl, ?_, ⟨_, rfl⟩, hW, hsame.mono (by decide) (by decide)⟩
    · show Steps p.tables e below (s₁.setTop (mkF m 138 #[.val (.int yy), .val (.int mm), .val (.int ss), .val (.int (ss &&& (3 : Int32))), .val (.int (j0_4_l4 yy ss)), .val (.int ((mm &&& (2147483647 : Int32)) % (100 : Int32))), .val (.int (((j0_4_l4 yy ss) * (100 : Int32)) + ((mm &&& (2147483647 : Int32)) % (100 : Int32)))), .val (.int (j0_88_l7 yy mm ss))] [])) _
      refine st27 _ ?_
      show Steps p.tables e below (T27.setTop (mkF m 141 #[.val (.int yy), .val (.int mm), .val (.int ss), .val (.int (ss &&& (3 : Int32))), .val (.int (j0_4_l4 yy ss)), .val (.int ((mm &&& (2147483647 : Int32)) % (100 : Int32))), .val (.int (((j0_4_l4 yy ss) * (100 : Int32)) + ((mm &&& (2147483647 : Int32)) % (100 : Int32)))), .val (.int (j0_88_l7 yy mm ss))] [(.ref b27)])) _
      refine XS.dup X27.here hx rfl (hb hby at_141) rfl rfl ?_
      show Steps p.tables e below (T27.setTop (mkF m 142 #[.val (.int yy), .val (.int mm), .val (.int ss), .val (.int (ss &&& (3 : Int32))), .val (.int (j0_4_l4 yy ss)), .val (.int ((mm &&& (2147483647 : Int32)) % (100 : Int32))), .val (.int (((j0_4_l4 yy ss) * (100 : Int32)) + ((mm &&& (2147483647 : Int32)) % (100 : Int32)))), .val (.int (j0_88_l7 yy mm ss))] [(.ref b27), (.ref b27)])) _
      refine XS.iload X27.here hx rfl (hb hby at_142) rfl ?_
      show Steps p.tables e below (T27.setTop (mkF m 144 #[.val (.int yy), .val (.int mm), .val (.int ss), .val (.int (ss &&& (3 : Int32))), .val (.int (j0_4_l4 yy ss)), .val (.int ((mm &&& (2147483647 : Int32)) % (100 : Int32))), .val (.int (((j0_4_l4 yy ss) * (100 : Int32)) + ((mm &&& (2147483647 : Int32)) % (100 : Int32)))), .val (.int (j0_88_l7 yy mm ss))] [(.int (((j0_4_l4 yy ss) * (100 : Int32)) + ((mm &&& (2147483647 : Int32)) % (100 : Int32)))), (.ref b27), (.ref b27)])) _
      refine st29.trans ?_
      show Steps p.tables e below (T29.setTop (mkF m 147 #[.val (.int yy), .val (.int mm), .val (.int ss), .val (.int (ss &&& (3 : Int32))), .val (.int (j0_4_l4 yy ss)), .val (.int ((mm &&& (2147483647 : Int32)) % (100 : Int32))), .val (.int (((j0_4_l4 yy ss) * (100 : Int32)) + ((mm &&& (2147483647 : Int32)) % (100 : Int32)))), .val (.int (j0_88_l7 yy mm ss))] [(.ref b27)])) _
      refine st32.trans ?_
      show Steps p.tables e below (T32.setTop (mkF m 150 #[.val (.int yy), .val (.int mm), .val (.int ss), .val (.int (ss &&& (3 : Int32))), .val (.int (j0_4_l4 yy ss)), .val (.int ((mm &&& (2147483647 : Int32)) % (100 : Int32))), .val (.int (((j0_4_l4 yy ss) * (100 : Int32)) + ((mm &&& (2147483647 : Int32)) % (100 : Int32)))), .val (.int (j0_88_l7 yy mm ss))] [(.int (r4_v (((j0_4_l4 yy ss) * (100 : Int32)) + ((mm &&& (2147483647 : Int32)) % (100 : Int32)))))])) _
      refine XS.iload X32.here hx rfl (hb hby at_150) rfl ?_
      show Steps p.tables e below (T32.setTop (mkF m 152 #[.val (.int yy), .val (.int mm), .val (.int ss), .val (.int (ss &&& (3 : Int32))), .val (.int (j0_4_l4 yy ss)), .val (.int ((mm &&& (2147483647 : Int32)) % (100 : Int32))), .val (.int (((j0_4_l4 yy ss) * (100 : Int32)) + ((mm &&& (2147483647 : Int32)) % (100 : Int32)))), .val (.int (j0_88_l7 yy mm ss))] [(.int (j0_88_l7 yy mm ss)), (.int (r4_v (((j0_4_l4 yy ss) * (100 : Int32)) + ((mm &&& (2147483647 : Int32)) % (100 : Int32)))))])) _
      refine XS.icmpNo X32.here hx rfl (hb hby at_152) rfl (teq (own_fin yy mm ss : ((r4_v (((j0_4_l4 yy ss) * (100 : Int32)) + ((mm &&& (2147483647 : Int32)) % (100 : Int32)))) = (j0_88_l7 yy mm ss)))).2 ?_
      show Steps p.tables e below (T32.setTop (mkF m 155 #[.val (.int yy), .val (.int mm), .val (.int ss), .val (.int (ss &&& (3 : Int32))), .val (.int (j0_4_l4 yy ss)), .val (.int ((mm &&& (2147483647 : Int32)) % (100 : Int32))), .val (.int (((j0_4_l4 yy ss) * (100 : Int32)) + ((mm &&& (2147483647 : Int32)) % (100 : Int32)))), .val (.int (j0_88_l7 yy mm ss))] [])) _
      refine XS.iconst X32.here hx rfl (hb hby at_155) ?_
      show Steps p.tables e below (T32.setTop (mkF m 156 #[.val (.int yy), .val (.int mm), .val (.int ss), .val (.int (ss &&& (3 : Int32))), .val (.int (j0_4_l4 yy ss)), .val (.int ((mm &&& (2147483647 : Int32)) % (100 : Int32))), .val (.int (((j0_4_l4 yy ss) * (100 : Int32)) + ((mm &&& (2147483647 : Int32)) % (100 : Int32)))), .val (.int (j0_88_l7 yy mm ss))] [(.int (1 : Int32))])) _
      refine XS.goto X32.here hx rfl (pc0 := 156) (pc' := 160) rfl (hb hby at_156) (by decide) (by decide) ?_
      show Steps p.tables e below (T32.setTop (mkF m 160 #[.val (.int yy), .val (.int mm), .val (.int ss), .val (.int (ss &&& (3 : Int32))), .val (.int (j0_4_l4 yy ss)), .val (.int ((mm &&& (2147483647 : Int32)) % (100 : Int32))), .val (.int (((j0_4_l4 yy ss) * (100 : Int32)) + ((mm &&& (2147483647 : Int32)) % (100 : Int32)))), .val (.int (j0_88_l7 yy mm ss))] [(.int (1 : Int32))])) _
      exact retN X32 hx (t := .boolean) Bd.returns (by simp) (hb hby at_160) hr
    · show Q0 Z yy mm ss h0 n0 _ T32.heap _
      rw [e32]
      exact ⟨rfl, N32⟩
set_option maxRecDepth 65536 in
set_option maxHeartbeats 40000000 in
theorem comes_1 {Post : Tables → Env → Array Value → State → Outcome → State → Prop} (hpost : ∀ tb e args s v u, (limb_1_1.after args s (.returned v) u = true ∧ limb_1_2.after args s (.returned v) u = true ∧ True) → FrameEnd s (.returned v) u (Jvm.fieldLocs frame_1_writes args s ++ Jvm.arrayLocs frame_1_arrays args s ++ Jvm.staticLocs frame_1_statics s) 16 128 → Post tb e args s (.returned v) u) :
    ArmFor flags0 classFile x code maxLocals ret World_1 tables_1 room_1 Calls_1 rest_1 Pre_1 Post := by
  intro l hfl _ _ p e ha hc hk s m args below hf hA hF happ hP
  obtain ⟨hcalls, hrest, hpre⟩ := hP
  obtain ⟨-, -, -, hnamed, -, -, -, hat⟩ := (Spec.applies_iff hf).mp happ
  obtain ⟨hg, hn⟩ := and_e (Cond.before_iff.mp (show (Jvm.Cond.and given_1 narrow_1).before args s = true from hpre))
  obtain ⟨gv1, gv2⟩ := and_e hg
  obtain ⟨gv3, gv4⟩ := and_e gv2
  obtain ⟨gv5, gv6⟩ := and_e gv4
  obtain ⟨w0, w1, w2, rfl⟩ : ∃ w0 w1 w2 : Value, args = #[w0, w1, w2] := by
    have hs : args.size = 3 := by simpa [Cond.value, given_1] using gv1
    obtain ⟨L⟩ := args
    match L, hs with
    | [w0, w1, w2], _ => exact ⟨w0, w1, w2, rfl⟩
  have hw := fun d (hd : d ∈ tables_1) => atoms_spec (ws := Jvm.Cond.code x code maxLocals ret :: tables_1) hat d (List.mem_cons_of_mem _ hd)
  have hfit : Fit s := fun {y c} hc i hi => by
    obtain ⟨ha, rfl⟩ := Array.getElem?_eq_some_iff.mp hc
    have q := List.all_eq_true.mp ((Array.all_eq_true_iff_forall_mem.mp hF) _ (Array.getElem_mem ha)) i (List.mem_range.mpr hi)
    simpa [Array.getElem?_eq_getElem hi] using q
  obtain ⟨i0, ei0⟩ := is_v gv3
  obtain rfl : w0 = (.int i0) := Option.some.inj ei0
  obtain ⟨i1, ei1⟩ := is_v gv5
  obtain rfl : w1 = (.int i1) := Option.some.inj ei1
  obtain ⟨i2, ei2⟩ := is_v gv6
  obtain rfl : w2 = (.int i2) := Option.some.inj ei2
  obtain ⟨n, o, h1, h2, h3, _, L, rfl, ⟨rfl, N⟩, hq⟩ := rm0 l s _ hw tables_1 i0 i1 i2 s.heap s.heap.size (Nat.le_refl _) p e ha hc hk s m _ below hf ((Spec.applies_iff_loose hf).mp happ).1 ⟨rfl, State.Warmed39.refl s, rfl⟩ trivial
  refine ⟨n, _, h1, h2, h3, hpost _ _ _ _ _ _ ⟨Cond.after_iff.mpr rfl, Cond.after_iff.mpr (eq_i res_at (Term.int_eval (1)) rfl), trivial⟩ ⟨hq.1, hq.2.1, (hq.2.2.sift fun y hy => Or.inr (N y hy)).mono (by decide) (by decide)⟩⟩
theorem main_1_1 : Claimed_1_1 := comes_1 fun _ _ _ _ _ _ h hF => ⟨h.1, hF⟩
theorem main_1_2 : Claimed_1_2 := comes_1 fun _ _ _ _ _ _ h hF => ⟨h.2.1, hF⟩
end Jvm.Pilot.@@N@@
namespace Jvm.Pilot.@@N@@
open Jvm Jvm.ClassFile Sem Op Lib Jvm.Free Jvm.Stand Jvm.Pilot.@@N@@.Jvm.D
/-! MADE BY PROGRAM (witnessworld.py) out of the Statement's table words and the real class files: 11 classes; the members and pool entries that the words name. The judged class is class 1, her method 1. -/
namespace start1
open Jvm.ClassFile
def u (s : String) : CpInfo := .utf8 (stringToUtf16 s)
/-- a pool by its gaps: so many unusable entries, then the entry; so many at the end -/
def gap : Nat → List CpInfo → List CpInfo
  | 0, r => r
  | n + 1, r => .unusable :: gap n r
def poolList (es : List (Nat × CpInfo)) (last : Nat) : List CpInfo := es.foldr (fun e r => gap e.1 (e.2 :: r)) (gap last [])
def pool (es : List (Nat × CpInfo)) (last : Nat) : Array CpInfo := ⟨poolList es last⟩
def fileOf (pool : Array CpInfo) (this : Nat) (attrs : Array Attribute := #[]) (ms : Array MethodInfo := #[]) (fl : Nat := 33) (sup : Nat := 0) (ifs : Array Nat := #[]) (fds : Array FieldInfo := #[]) : ClassFile where
  minorVersion := 0
  majorVersion := 65
  constantPool := pool
  accessFlags := fl
  thisClass := this
  superClass := sup
  interfaces := ifs
  fields := fds
  methods := ms
  attributes := attrs
def plain (name : String) (sup : Option ClassId) : Class where
  name := name
  kind := .ordinary
  loader := none
  accessFlags := 33
  super := sup
  interfaces := #[]
  cf := none
  fields := #[]
  methods := #[]
  instanceTypes := #[]
  staticTypes := #[]
  resolved := #[]
  callSites := []
  init := .initialized
  statics := none
  mirror := none

def pool0 : Array CpInfo := pool [(5, u "<init>"), (0, u "()V"), (1, .class_ 10), (1, u "java/lang/Object")] 113

def k0c0 : Code := { maxStack := 0, maxLocals := 1, code := object_method_1_code, exceptionTable := #[], attributes := #[] }
def k0m0 : Method := { name := "<init>", desc := "()V", sig := { parameters := [], returnType := none }, accessFlags := 1, code := some k0c0 }
/-- java/lang/Object -/
def k0 : Class := { plain "java/lang/Object" none with
  accessFlags := 33
  interfaces := #[]
  cf := some (fileOf pool0 8 #[] #[{ accessFlags := 1, nameIndex := 5, descriptorIndex := 6, attributes := #[] }] 33 0 #[] #[])
  fields := #[]
  methods := #[k0m0]
  instanceTypes := #[]
  staticTypes := #[]
  resolved := Array.replicate 124 none
  statics := none }

def pool1 : Array CpInfo := pool [(2, .class_ 4), (1, u "java/lang/Object"), (0, u "<init>"), (0, u "()V"), (0, .integer 2147483647), (0, .integer 21474836), (0, .class_ 10), (0, u "com/example/partlint/partlint/model/ApiLevel"), (0, .methodref 9 12), (0, .nameAndType 5 13), (0, u "(I)V"), (0, .methodref 9 15), (0, .nameAndType 16 17), (0, u "isVendorForm"), (0, u "()Z"), (0, .class_ 19), (0, u "com/example/partlint/partlint/model/ApiLevelIsVendorFormPinLaw"), (2, u "law"), (0, u "(III)Z")] 3

def k1m0 : Method := { name := "<init>", desc := "()V", sig := { parameters := [], returnType := none }, accessFlags := 1, code := none }
def k1c1 : Code := { maxStack := 3, maxLocals := 8, code := code, exceptionTable := #[], attributes := #[] }
def k1m1 : Method := { name := "law", desc := "(III)Z", sig := { parameters := [.int, .int, .int], returnType := some .boolean }, accessFlags := 9, code := some k1c1 }
/-- com/example/partlint/partlint/model/ApiLevelIsVendorFormPinLaw -/
def k1 : Class := { plain "com/example/partlint/partlint/model/ApiLevelIsVendorFormPinLaw" (some 0) with
  accessFlags := 49
  interfaces := #[]
  cf := some (fileOf pool1 18 #[] #[{ accessFlags := 1, nameIndex := 5, descriptorIndex := 6, attributes := #[] }, { accessFlags := 9, nameIndex := 22, descriptorIndex := 23, attributes := #[] }] 49 2 #[] #[])
  fields := #[]
  methods := #[k1m0, k1m1]
  instanceTypes := #[]
  staticTypes := #[]
  resolved := Array.replicate 27 none
  statics := none }

def pool2 : Array CpInfo := pool [(1, .methodref 2 3), (0, .class_ 4), (0, .nameAndType 5 6), (0, u "java/lang/Object"), (0, u "<init>"), (0, u "()V"), (0, .class_ 8), (0, u "java/lang/Record")] 13

def k2c0 : Code := { maxStack := 1, maxLocals := 1, code := jdk_30_method_1_code, exceptionTable := #[], attributes := #[] }
def k2m0 : Method := { name := "<init>", desc := "()V", sig := { parameters := [], returnType := none }, accessFlags := 4, code := some k2c0 }
/-- java/lang/Record -/
def k2 : Class := { plain "java/lang/Record" (some 0) with
  accessFlags := 1057
  interfaces := #[]
  cf := some (fileOf pool2 7 #[] #[{ accessFlags := 4, nameIndex := 5, descriptorIndex := 6, attributes := #[] }] 1057 2 #[] #[])
  fields := #[]
  methods := #[k2m0]
  instanceTypes := #[]
  staticTypes := #[]
  resolved := Array.replicate 22 none
  statics := none }

def pool3 : Array CpInfo := pool [(1, .class_ 2), (0, u "java/lang/Comparable"), (0, .class_ 4), (0, u "java/lang/Object")] 7

/-- java/lang/Comparable -/
def k3 : Class := { plain "java/lang/Comparable" (some 0) with
  accessFlags := 1537
  interfaces := #[]
  cf := some (fileOf pool3 1 #[] #[] 1537 3 #[] #[])
  fields := #[]
  methods := #[]
  instanceTypes := #[]
  staticTypes := #[]
  resolved := Array.replicate 12 none
  statics := none }

def pool4 : Array CpInfo := pool [(1, .class_ 2), (0, u "com/example/partlint/partlint/model/ApiLevel"), (0, .methodref 4 5), (0, .class_ 6), (0, .nameAndType 7 8), (0, u "java/lang/Record"), (0, u "<init>"), (0, u "()V"), (9, .fieldref 1 19), (0, .nameAndType 20 21), (0, u "value"), (0, u "I"), (22, u "(I)V"), (11, u "()Z"), (9, u "isVendorForm"), (5, .integer 202404), (0, .integer 999912), (29, .class_ 104), (0, u "java/lang/Comparable"), (0, u "LAST_SDK_FORM"), (2, u "FIRST_SDK_IN_VENDOR_FORM"), (1, u "FIRST_VENDOR_FORM"), (0, u "LAST_VENDOR_FORM"), (0, u "ONE_YEAR"), (1, u "MAX_DIGITS"), (1, u "SDK_FORM_WORDS"), (0, u "Ljava/lang/String;"), (2, u "VENDOR_FORM_WORDS")] 45

def k4c0 : Code := { maxStack := 3, maxLocals := 2, code := prog_16_method_1_code, exceptionTable := #[], attributes := #[] }
def k4m0 : Method := { name := "<init>", desc := "(I)V", sig := { parameters := [.int], returnType := none }, accessFlags := 1, code := some k4c0 }
def k4c1 : Code := { maxStack := 2, maxLocals := 2, code := prog_16_method_6_code, exceptionTable := #[], attributes := #[] }
def k4m1 : Method := { name := "isVendorForm", desc := "()Z", sig := { parameters := [], returnType := some .boolean }, accessFlags := 1, code := some k4c1 }
/-- com/example/partlint/partlint/model/ApiLevel -/
def k4 : Class := { plain "com/example/partlint/partlint/model/ApiLevel" (some 2) with
  accessFlags := 49
  interfaces := #[3]
  cf := some (fileOf pool4 1 #[] #[{ accessFlags := 1, nameIndex := 7, descriptorIndex := 44, attributes := #[] }, { accessFlags := 1, nameIndex := 66, descriptorIndex := 56, attributes := #[] }] 49 4 #[103] #[{ accessFlags := 18, nameIndex := 20, descriptorIndex := 21, attributes := #[] }, { accessFlags := 26, nameIndex := 105, descriptorIndex := 21, attributes := #[] }, { accessFlags := 26, nameIndex := 108, descriptorIndex := 21, attributes := #[] }, { accessFlags := 26, nameIndex := 110, descriptorIndex := 21, attributes := #[] }, { accessFlags := 26, nameIndex := 111, descriptorIndex := 21, attributes := #[] }, { accessFlags := 26, nameIndex := 112, descriptorIndex := 21, attributes := #[] }, { accessFlags := 26, nameIndex := 114, descriptorIndex := 21, attributes := #[] }, { accessFlags := 25, nameIndex := 116, descriptorIndex := 117, attributes := #[] }, { accessFlags := 25, nameIndex := 120, descriptorIndex := 117, attributes := #[] }])
  fields := #[{ name := "value", type := .int, accessFlags := 18, slot := 0, constantValue := 0 }, { name := "LAST_SDK_FORM", type := .int, accessFlags := 26, slot := 0, constantValue := 0 }, { name := "FIRST_SDK_IN_VENDOR_FORM", type := .int, accessFlags := 26, slot := 1, constantValue := 0 }, { name := "FIRST_VENDOR_FORM", type := .int, accessFlags := 26, slot := 2, constantValue := 0 }, { name := "LAST_VENDOR_FORM", type := .int, accessFlags := 26, slot := 3, constantValue := 0 }, { name := "ONE_YEAR", type := .int, accessFlags := 26, slot := 4, constantValue := 0 }, { name := "MAX_DIGITS", type := .int, accessFlags := 26, slot := 5, constantValue := 0 }, { name := "SDK_FORM_WORDS", type := (.object "java/lang/String"), accessFlags := 25, slot := 6, constantValue := 0 }, { name := "VENDOR_FORM_WORDS", type := (.object "java/lang/String"), accessFlags := 25, slot := 7, constantValue := 0 }]
  methods := #[k4m0, k4m1]
  instanceTypes := #[.int]
  staticTypes := #[.int, .int, .int, .int, .int, .int, (.object "java/lang/String"), (.object "java/lang/String")]
  resolved := Array.replicate 166 none
  statics := none }

def pool5 : Array CpInfo := pool [(1, u "java/lang/Cloneable"), (0, .class_ 1), (0, u "java/lang/Object"), (0, .class_ 3)] 3

/-- java/lang/Cloneable -/
def k5 : Class := { plain "java/lang/Cloneable" (some 0) with
  accessFlags := 1537
  interfaces := #[]
  cf := some (fileOf pool5 2 #[] #[] 1537 4 #[] #[])
  fields := #[]
  methods := #[]
  instanceTypes := #[]
  staticTypes := #[]
  resolved := Array.replicate 8 none
  statics := none }

def pool6 : Array CpInfo := pool [(1, u "java/io/Serializable"), (0, .class_ 1), (0, u "java/lang/Object"), (0, .class_ 3)] 3

/-- java/io/Serializable -/
def k6 : Class := { plain "java/io/Serializable" (some 0) with
  accessFlags := 1537
  interfaces := #[]
  cf := some (fileOf pool6 2 #[] #[] 1537 4 #[] #[])
  fields := #[]
  methods := #[]
  instanceTypes := #[]
  staticTypes := #[]
  resolved := Array.replicate 8 none
  statics := none }

/-- the primitive byte -/
def k7 : Class := { plain "byte" none with kind := .primitive 'B', accessFlags := 0x411 }
/-- [B -/
def k8 : Class := { plain "[B" (some 0) with kind := .array 7 .byte, interfaces := #[5, 6], accessFlags := 1041 }

/-- the primitive int -/
def k9 : Class := { plain "int" none with kind := .primitive 'I', accessFlags := 0x411 }
/-- [I -/
def k10 : Class := { plain "[I" (some 0) with kind := .array 9 .int, interfaces := #[5, 6], accessFlags := 1041 }

def heap : Heap := #[]
def classes : Array Class := #[k0, k1, k2, k3, k4, k5, k6, k7, k8, k9, k10]
def interned : List (Array UInt16 × Addr) := []
def slotsUsed : Nat := 0
def theMethod : MethodId := ⟨1, 1⟩
def args0 : Array Value := #[.int 2030, .int 5, .int 0]
def aboutOver (below : List Frame) : State where
  vm := { classes := classes, interned := interned.toArray }
  heap := heap
  slotsUsed := slotsUsed
  threads := #[{ frames := .invoking theMethod args0 :: below }]
def below0 : List Frame := [.native { method := ⟨0, 0⟩, args := #[] }]
def about1 : State := aboutOver below0
def p0 : Program := .bare "" "" ""
def e0 : Env := launch0.env 0 0 0
theorem w_frames : about1.frames = Frame.invoking theMethod args0 :: below0 := rfl
set_option maxRecDepth 65536 in
theorem w_args : argsFit about1.vm theMethod args0 = true := by decide +kernel
set_option maxRecDepth 65536 in
theorem w_heap : heapFits about1 = true := by decide +kernel
set_option maxRecDepth 65536 in
theorem w_runnable : about1.curStatus? = some .runnable := by decide +kernel
set_option maxRecDepth 65536 in
theorem w_alone : about1.alone = true := by decide +kernel
set_option maxRecDepth 65536 in
theorem w_named : about1.methodNamed? x = some theMethod := by decide +kernel
set_option maxRecDepth 65536 in
theorem w_hears : about1.hears theMethod below0 = true := by decide +kernel
set_option maxRecDepth 65536 in
theorem w_ripe : about1.ripe theMethod args0 below0 = true := by decide +kernel
theorem w_running : about1.status = .running := rfl
set_option maxRecDepth 65536 in
theorem w_room : about1.hasRoom e0.platform room_1 = true :=
  launch0.hasRoom_least _ room_1 (by decide +kernel) (by decide +kernel) (by decide +kernel) (by decide +kernel) (by decide +kernel) (by decide +kernel)
theorem allAtoms_all (ts : List Jvm.Cond) (a : Array Jvm.Value) (st : Jvm.State) : (allAtoms ts).before a st = ts.all (fun c => c.before a st) := by
  induction ts with
  | nil => rfl
  | cons c t ih =>
    show (Jvm.Cond.and c (allAtoms t)).before a st = _
    rw [Jvm.Cond.before_and, ih, List.all_cons]
def words1 : List Jvm.Cond := Jvm.Cond.code x code maxLocals ret :: tables_1
/-- a 'code' word, met by the world's own term for the bytes: nothing is compared byte by byte -/
theorem code_word {y : MethodName} {bytes : ByteArray} {mx : Nat} {rt : Option FieldType} {a : Array Value} {s : State} {m : MethodId} {meth : Method} {c : Code} (h1 : s.methodNamed? y = some m) (h2 : s.vm.method? m = some meth) (h3 : meth.code = some c) (h4 : c.code = bytes)
    (h5 : (c.maxLocals == mx && c.exceptionTable.isEmpty && decide (c.maxStack ≤ mostOperands) && decide (meth.sig.returnType = rt) && !meth.locks && decide (parseMethodDescriptor y.desc = some meth.sig)) = true) : (Jvm.Cond.code y bytes mx rt).before a s = true := by
  simp only [Bool.and_eq_true, beq_iff_eq, Bool.not_eq_true', decide_eq_true_eq] at h5
  obtain ⟨⟨⟨⟨⟨g1, g2⟩, g3⟩, g4⟩, g5⟩, g6⟩ := h5
  simp [Cond.before, Cond.holds, Cond.value, h1, h2, h3, h4, g1, g2, g3, g4, g5, g6]
def isCode : Jvm.Cond → Bool
  | .code _ _ _ _ => true
  | _ => false
theorem all_split {L : List Jvm.Cond} {P : Jvm.Cond → Bool} (h1 : L.all (fun c => isCode c || P c) = true) (h2 : ∀ c ∈ L.filter isCode, P c = true) : L.all P = true := by
  refine List.all_eq_true.mpr fun c hc => ?_
  have h := List.all_eq_true.mp h1 c hc
  rcases Bool.eq_false_or_eq_true (isCode c) with hi | hi
  · exact h2 c (List.mem_filter.mpr ⟨hc, hi⟩)
  · simpa [hi] using h
set_option maxRecDepth 65536 in
theorem w_c0 : (Jvm.Cond.code x code maxLocals ret).before args0 about1 = true := code_word (m := ⟨1, 1⟩) (meth := k1m1) (c := k1c1) (by decide +kernel) rfl rfl rfl (by decide +kernel)
set_option maxRecDepth 65536 in
theorem w_c1 : (Jvm.Cond.code ({ cls := "com/example/partlint/partlint/model/ApiLevel", name := "<init>", desc := "(I)V" } : Jvm.MethodName) prog_16_method_1_code (2 : Nat) (Option.none : Option Jvm.ClassFile.FieldType)).before args0 about1 = true := code_word (m := ⟨4, 0⟩) (meth := k4m0) (c := k4c0) (by decide +kernel) rfl rfl rfl (by decide +kernel)
set_option maxRecDepth 65536 in
theorem w_c2 : (Jvm.Cond.code ({ cls := "java/lang/Record", name := "<init>", desc := "()V" } : Jvm.MethodName) jdk_30_method_1_code (1 : Nat) (Option.none : Option Jvm.ClassFile.FieldType)).before args0 about1 = true := code_word (m := ⟨2, 0⟩) (meth := k2m0) (c := k2c0) (by decide +kernel) rfl rfl rfl (by decide +kernel)
set_option maxRecDepth 65536 in
theorem w_c3 : (Jvm.Cond.code ({ cls := "java/lang/Object", name := "<init>", desc := "()V" } : Jvm.MethodName) object_method_1_code (1 : Nat) (Option.none : Option Jvm.ClassFile.FieldType)).before args0 about1 = true := code_word (m := ⟨0, 0⟩) (meth := k0m0) (c := k0c0) (by decide +kernel) rfl rfl rfl (by decide +kernel)
set_option maxRecDepth 65536 in
theorem w_c4 : (Jvm.Cond.code ({ cls := "com/example/partlint/partlint/model/ApiLevel", name := "isVendorForm", desc := "()Z" } : Jvm.MethodName) prog_16_method_6_code (2 : Nat) (Option.some Jvm.ClassFile.FieldType.boolean)).before args0 about1 = true := code_word (m := ⟨4, 1⟩) (meth := k4m1) (c := k4c1) (by decide +kernel) rfl rfl rfl (by decide +kernel)
def codes1 : List Jvm.Cond := [Jvm.Cond.code x code maxLocals ret, Jvm.Cond.code ({ cls := "com/example/partlint/partlint/model/ApiLevel", name := "<init>", desc := "(I)V" } : Jvm.MethodName) prog_16_method_1_code (2 : Nat) (Option.none : Option Jvm.ClassFile.FieldType), Jvm.Cond.code ({ cls := "java/lang/Record", name := "<init>", desc := "()V" } : Jvm.MethodName) jdk_30_method_1_code (1 : Nat) (Option.none : Option Jvm.ClassFile.FieldType), Jvm.Cond.code ({ cls := "java/lang/Object", name := "<init>", desc := "()V" } : Jvm.MethodName) object_method_1_code (1 : Nat) (Option.none : Option Jvm.ClassFile.FieldType), Jvm.Cond.code ({ cls := "com/example/partlint/partlint/model/ApiLevel", name := "isVendorForm", desc := "()Z" } : Jvm.MethodName) prog_16_method_6_code (2 : Nat) (Option.some Jvm.ClassFile.FieldType.boolean)]
set_option maxRecDepth 65536 in
theorem codes_eq : words1.filter isCode = codes1 := rfl
theorem w_codes : ∀ c ∈ words1.filter isCode, c.before args0 about1 = true := by
  rw [codes_eq]
  intro c hc
  simp only [codes1, List.mem_cons, List.not_mem_nil, or_false] at hc
  rcases hc with rfl | rfl | rfl | rfl | rfl
  · exact w_c0
  · exact w_c1
  · exact w_c2
  · exact w_c3
  · exact w_c4
set_option maxRecDepth 65536 in
theorem w_t1 : (words1.take 24).all (fun c => isCode c || c.before args0 about1) = true := by decide +kernel
set_option maxRecDepth 65536 in
theorem w_t2 : (words1.drop 24).all (fun c => isCode c || c.before args0 about1) = true := by decide +kernel
theorem w_tables : (allAtoms (Jvm.Cond.code x code maxLocals ret :: tables_1)).before args0 about1 = true := by
  rw [allAtoms_all]
  show words1.all (fun c => c.before args0 about1) = true
  refine all_split ?_ w_codes
  rw [← List.take_append_drop 24 words1, List.all_append, w_t1, w_t2]
  rfl
set_option maxRecDepth 65536 in
theorem w_case : (Jvm.Cond.and given_1 narrow_1).before args0 about1 = true := by decide +kernel
theorem w_applies : (headSpec (Jvm.Cond.code x code maxLocals ret :: tables_1) room_1).applies x e0.platform about1 = true :=
  (Spec.applies_iff w_frames).mpr ⟨w_running, w_runnable, w_alone, w_named, w_hears, w_ripe, w_room, w_tables⟩
theorem atStart : AtStart classFile x code maxLocals ret World_1 tables_1 room_1 Calls_1 rest_1 Pre_1 launch0 p0 e0 about1 theMethod args0 below0 :=
  ⟨lists_1, trivial, launch0.admits_env _ _ _, launch0.least_env, fairChoices_fair.cas, fairChoices_fair.clock, w_frames, w_args, w_heap, w_applies, trivial, trivial, w_case⟩
end start1
theorem witness_1 : WitnessClaimed_1 := ⟨start1.p0, start1.e0, start1.about1, start1.theMethod, start1.args0, start1.below0, start1.atStart⟩
end Jvm.Pilot.@@N@@
