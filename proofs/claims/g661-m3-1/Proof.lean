import JvmDerived
import JvmDerived.Pilot.@@N@@Statement
import JvmDerived.Pilot.@@N@@Code
set_option linter.unusedVariables false
set_option linter.unusedSimpArgs false
namespace Jvm.RoadKit
open Sem ClassFile Op Lib Jvm.Stand Jvm.Free Jvm.LawKit
section New
variable {p : Program} {l : Launch} {e : Env} {R : Room} {s : State} {m : MethodId} {args : Array Value} {below : List Frame} {meth : Method} {c : Code} {T : State} {locs : List Loc} {cells slots : Nat}
theorem retI (X : Stand p l e R s m args below meth c T locs cells slots) (hx : p.tables.exec = Jvm.exec) {pc : Nat} {Ls : Array Slot} {z : Int32} {rest : List Value} (hret : meth.sig.returnType = some .int) (hd : decode c.code pc = .ok (.ireturn, 1)) {fs : List Frame}
    (hl : ∀ (f : JFrame) (acts : List Action), f.method = m → f.locked = none → f.entered = [] → (doReturn e (T.setTop f) acts (some (.int z))).1 = T.setFrames fs) : Steps p.tables e below (T.setTop (mkF m pc Ls (.int z :: rest))) (T.setFrames fs) := by
  have hm' : T.vm.method? m = some meth := X.method'
  have hn : narrow .int (.int z) = .int z := rfl
  show Steps p.tables e below (T.setTop { method := m, pc := pc, locals := Ls, stack := _ :: rest, locked := none }) _
  jvm_step X.here [X.here.top, hx, hd, hm', hret, hn]
  first | (intro acts; rw [hl _ acts rfl rfl rfl]) | rw [hl _ _ rfl rfl rfl]
  exact Steps.refl _
end New
/-! own: a long's comparison, an array by a function -/
theorem own_tltL {x y : Int64} (h : x < y) : ifCond.holds .lt (lcmpW x y) = true ∧ ifCond.holds .ge (lcmpW x y) = false ∧ ifCond.holds .gt (lcmpW y x) = true ∧ ifCond.holds .le (lcmpW y x) = false := by
  have h1 := (lc_lt x y).mpr h
  have h2 := (lc_gt y x).mpr h
  rw [← lcW] at h1 h2
  simp only [if0]
  exact ⟨(tlt h1).1, (tlt h1).2.1, (tlt h2).2.2.1, (tlt h2).2.2.2⟩
theorem own_fltL {x y : Int64} (h : ¬ x < y) : ifCond.holds .lt (lcmpW x y) = false ∧ ifCond.holds .ge (lcmpW x y) = true ∧ ifCond.holds .gt (lcmpW y x) = false ∧ ifCond.holds .le (lcmpW y x) = true := by
  have h1 := mt (lc_lt x y).mp h
  have h2 := mt (lc_gt y x).mp h
  rw [← lcW] at h1 h2
  simp only [if0]
  exact ⟨(flt h1).1, (flt h1).2.1, (flt h2).2.2.1, (flt h2).2.2.2⟩
theorem own_teqL {x y : Int64} (h : x = y) : ifCond.holds .eq (lcmpW x y) = true ∧ ifCond.holds .ne (lcmpW x y) = false := by
  have h1 := (lc_eq x y).mpr h
  rw [← lcW] at h1
  simp only [if0]
  exact teq h1
theorem own_feqL {x y : Int64} (h : ¬ x = y) : ifCond.holds .eq (lcmpW x y) = false ∧ ifCond.holds .ne (lcmpW x y) = true := by
  have h1 := mt (lc_eq x y).mp h
  rw [← lcW] at h1
  simp only [if0]
  exact feq h1
theorem own_nb (x : Int32) : nar .byte (x.toInt8.toInt32) = x.toInt8.toInt32 := by
  show (x.toInt8.toInt32).toInt8.toInt32 = _
  simp
theorem own_sel {args : Array Value} {s : State} {y z : MethodName} (hi : (Cond.instanceMethod y).before args s = true) (hp : (Cond.privateMethod y).before args s = true) (h2 : (Cond.selects y.cls z z).before args s = true) (hc : z.cls = y.cls)
    (hy : y.cls ≠ "java/lang/invoke/MethodHandle" ∧ y.cls ≠ "java/lang/invoke/VarHandle") : (Cond.selects y.cls y y).before args s = true := by
  obtain ⟨mk, meth, hn, hm, -, -⟩ := Cond.instanceMethod_spec hi
  obtain ⟨c, r, m2, -, -, f3, -, k, f4, f5⟩ := Cond.selects_spec h2
  have e1 := findClass_of_methodNamed hn
  have e2 := findClass_of_methodNamed f3
  rw [hc, e1] at e2
  have e3 : m2.cls = mk.cls := (Option.some.inj e2).symm
  have e4 := State.methodFound?_of_named hn hy
  have e5 := selectMethod_private (p := {}) (c := mk.cls) hm (Cond.privateMethod_at hp mk meth hn hm)
  rw [e3] at f4
  simp [Cond.before, Cond.holds, Cond.value, e1, e4, hn, e5, f4, f5]
def AF (Z : State) (h : Heap) (a : Addr) (ty : FieldType) (n : Nat) (g : Nat → Value) : Prop := ∃ c : Cell, Arr Z h a c ty ∧ c.slots.size = n ∧ ∀ j, j < n → c.slots[j]? = some (g j)
abbrev AI (Z : State) (h : Heap) (a : Addr) (ty : FieldType) (n : Nat) (f : Nat → Int32) : Prop := AF Z h a ty n (fun j => .int (f j))
abbrev AJ (Z : State) (h : Heap) (a : Addr) (ty : FieldType) (n : Nat) (f : Nat → Int64) : Prop := AF Z h a ty n (fun j => .long (f j))
abbrev AD (Z : State) (h : Heap) (a : Addr) (ty : FieldType) (n : Nat) (f : Nat → UInt64) : Prop := AF Z h a ty n (fun j => .double (f j))
def up {α : Type} (f : Nat → α) (i : Nat) (v : α) : Nat → α := fun j => if j = i then v else f j
def zI : Nat → Int32 := fun _ => 0
def zJ : Nat → Int64 := fun _ => 0
section Arrs
variable {Z : State} {h h' : Heap} {a b : Addr} {ty : FieldType} {n : Nat} {g g' : Nat → Value}
theorem AF.lt (F : AF Z h a ty n g) : a < h.size := by obtain ⟨c, A, -⟩ := F; exact A.lt
theorem AF.ext (F : AF Z h a ty n g) (E : Ext h h') : AF Z h' a ty n g := by obtain ⟨c, A, r⟩ := F; exact ⟨c, A.ext E, r⟩
theorem AF.other {sl : Nat} {v : Value} (F : AF Z h b ty n g) (W : Wr h h' a sl v) (q : b ≠ a) : AF Z h' b ty n g := by obtain ⟨c, A, r⟩ := F; exact ⟨c, A.other W q, r⟩
theorem AF.keep {ws : List Addr} (F : AF Z h a ty n g) (K : Keep h h' ws) (q : a ∉ ws) : AF Z h' a ty n g := by obtain ⟨c, A, r⟩ := F; exact ⟨c, ⟨K.2.1 a c A.1 q, A.2⟩, r⟩
theorem AF.re (F : AF Z h a ty n g) (q : ∀ j, j < n → g j = g' j) : AF Z h a ty n g' := by obtain ⟨c, A, S, H⟩ := F; exact ⟨c, A, S, fun j hj => by rw [H j hj, q j hj]⟩
theorem AF.at (F : AF Z h a ty n g) {j : Int32} (i : Nat) (hj : j.toInt = i) (hi : i < n) : ∃ c : Cell, Arr Z h a c ty ∧ ¬ (j < 0 ∨ c.slots.size ≤ j.toNatClampNeg) ∧ c.slots[j.toNatClampNeg]? = some (g i) := by
  obtain ⟨c, A, S, H⟩ := F
  have e : j.toNatClampNeg = i := by simp only [Int32.toNatClampNeg, hj]; omega
  refine ⟨c, A, ?_, by rw [e]; exact H i hi⟩
  rw [e, S, Int32.lt_iff_toInt_lt, hj]
  have : (0 : Int32).toInt = 0 := rfl
  omega
theorem AF.len (F : AF Z h a ty n g) : ∃ c : Cell, Arr Z h a c ty ∧ c.slots.size = n := by obtain ⟨c, A, S, -⟩ := F; exact ⟨c, A, S⟩
theorem AF.set {k : Nat} {v : Value} (F : AF Z h a ty n g) (W : Wr h h' a k v) : AF Z h' a ty n (fun j => if j = k then v else g j) := by
  obtain ⟨c, A, S, H⟩ := F
  refine ⟨_, A.same W, by rw [sz_set]; exact S, fun j hj => ?_⟩
  by_cases q : j = k
  · subst q; simp [Cell.setSlot, S, hj]
  · show _ = some (if j = k then v else g j)
    rw [if_neg q]; have := H j hj; simp only [Cell.setSlot] at this ⊢; rw [Array.getElem?_setIfInBounds_ne (Ne.symm q)]; exact this
theorem own_tn {j : Int32} {i : Nat} (hj : j.toInt = i) : j.toNatClampNeg = i := by simp only [Int32.toNatClampNeg, hj]; omega
theorem AF.setI {f : Nat → Int32} {j : Int32} {v : Int32} (F : AI Z h a ty n f) (W : Wr h h' a j.toNatClampNeg (.int v)) (i : Nat) (hj : j.toInt = i) : AI Z h' a ty n (up f i v) := by
  rw [own_tn hj] at W
  exact (AF.set F W).re fun k _ => by by_cases q : k = i <;> simp [up, q]
theorem AF.setJ {f : Nat → Int64} {j : Int32} {v : Int64} (F : AJ Z h a ty n f) (W : Wr h h' a j.toNatClampNeg (.long v)) (i : Nat) (hj : j.toInt = i) : AJ Z h' a ty n (up f i v) := by
  rw [own_tn hj] at W
  exact (AF.set F W).re fun k _ => by by_cases q : k = i <;> simp [up, q]
theorem AF.setD {f : Nat → UInt64} {j : Int32} {v : UInt64} (F : AD Z h a ty n f) (W : Wr h h' a j.toNatClampNeg (.double v)) (i : Nat) (hj : j.toInt = i) : AD Z h' a ty n (up f i v) := by
  rw [own_tn hj] at W
  exact (AF.set F W).re fun k _ => by by_cases q : k = i <;> simp [up, q]
theorem AF.new {k : ClassId} {z : Int32} (A : Arr Z h a (newA k ty z) ty) (hz : z.toInt = n) : AF Z h a ty n (fun _ => defaultValue ty) :=
  ⟨_, A, by rw [sz_new]; exact own_tn hz, fun j hj => by simp [newA, own_tn hz, hj]⟩
end Arrs
end Jvm.RoadKit
namespace Jvm.Pilot.@@N@@
open Jvm Jvm.ClassFile Sem Op Lib Jvm.Free Jvm.Stand Jvm.LawKit Jvm.RoadKit Bundle Jvm.Pilot.@@N@@.Jvm.D
theorem own_stD {p : Program} {l : Launch} {e : Env} {R : Room} {s : State} {m : MethodId} {args : Array Value} {below : List Frame} {meth : Method} {c : Code} {T : State} {locs : List Loc} {cells slots : Nat} {Z : State} {h : Heap}
    (X : Stand p l e R s m args below meth c T locs cells slots) (hx : p.tables.exec = Jvm.exec) (hZ : Z.Warmed39 s.vm) (eT : T.heap = h) {a : Addr} {cl : Cell} (A : Arr Z h a cl .double) {j : Int32} {x : UInt64} (hj : ¬ (j < 0 ∨ cl.slots.size ≤ j.toNatClampNeg)) {g : JFrame} (hg : g.method = m) {rest : List Value} (hs : g.stack = .double x :: .int j :: .ref a :: rest) (hd : decode c.code g.pc = .ok (.dastore, 1)) :
    ∃ T' h', Stand p l e R s m args below meth c T' (locs ++ [⟨a, j.toNatClampNeg⟩]) cells slots ∧ T'.heap = h' ∧ Wr h h' a j.toNatClampNeg (.double x) ∧ ∀ target, Steps p.tables e below (T'.setTop { g with pc := g.pc + 1, stack := rest }) target → Steps p.tables e below (T.setTop g) target := by
  obtain ⟨X', st⟩ := X.dastore hx (by rw [eT]; exact A.1) (State.isArrayOf_alike hZ.alike A.2.1) A.2.2 hj hg hs hd
  exact ⟨_, _, X', rfl, ⟨cl, A.1, A.plain, Nat.lt_of_not_le fun q => hj (Or.inr q), by rw [← eT]; rfl⟩, st⟩
theorem ef_2 (m : MethodId) (ra : Addr) : entryFrame m #[(.ref ra)] 1 = mkF m 0 #[.val (.ref ra)] [] := by first | (simp [entryFrame, mkF, argsToLocals, Value.category]; done) | rfl
theorem d2_0 : decode jdk_30_method_1_code 0 = .ok (.aload_n 0, 1) := by decide +kernel
theorem d2_1 : decode jdk_30_method_1_code 1 = .ok (.invokespecial 1, 3) := by decide +kernel
theorem d2_4 : decode jdk_30_method_1_code 4 = .ok (.return_, 1) := by decide +kernel
theorem pn_java_lang_Record : plainName "java/lang/Record" = true := by first | (simp [plainName, overriddenIn]; done) | decide +kernel
def Q2 (Z : State) (ra : Addr) (h0 : Heap) (n0 : Nat) (v : Option Value) (h : Heap) (L : List Loc) : Prop := v = none ∧ Fr n0 L ∧ h = h0
set_option maxRecDepth 65536 in
set_option maxHeartbeats 40000000 in
theorem rm2 (l : Launch) (Z : State) (a0 : Array Value) (hw : ∀ d ∈ tables_1, d.before a0 Z = true) (ws : List Jvm.Cond) (ra : Addr) (h0 : Heap) (n0 : Nat) (Z0 : n0 ≤ h0.size) :
    MetFree l (⟨"java/lang/Record", "<init>", "()V"⟩ : MethodName) (head1 (Jvm.Cond.code (⟨"java/lang/Record", "<init>", "()V"⟩ : MethodName) jdk_30_method_1_code 1 none :: ws) ({ frames := 1, cells := 0, slots := 0, locals := 12 } : Room)) (fun a U => a = #[(.ref ra)] ∧ Z.Warmed39 U.vm ∧ U.heap = h0) (fun _ _ _ _ _ => True) (fun _ U o U' => ∃ v L, o = .returned v ∧ Q2 Z ra h0 n0 v U'.heap L ∧ FrameEnd U o U' L ({ frames := 1, cells := 0, slots := 0, locals := 12 } : Room).cells ({ frames := 1, cells := 0, slots := 0, locals := 12 } : Room).slots) := by
  refine MetFree.of_bodySF (plainFor_of_name pn_java_lang_Record) hisR ?_
  intro p e s m args below meth c s₁ Bd hml0 hP hK
  obtain ⟨rfl, hZ, hh⟩ := hP
  have hx := Bd.exec
  have hby := Bd.bytes
  have hml : c.maxLocals = 1 := hml0
  have hown : s.vm.findClass "java/lang/Record" = some m.cls := findClass_of_methodNamed Bd.named
  have hnm := (name_of_methodNamed Bd.named Bd.method).1
  have X0 : Stand p l e ({ frames := 1, cells := 0, slots := 0, locals := 12 } : Room) s m #[(.ref ra)] below meth c s₁ [] 0 0 := Stand.of_body Bd
  have e0 : s₁.heap = h0 := by rw [← hh, Bd.state]; rfl
  have N0 := Fr.nil n0
  have K0 : Keep h0 h0 [] := Keep.refl h0 _
  have pre0 : ∀ t, Steps p.tables e below (s₁.setTop (mkF m 0 #[.val (.ref ra)] [])) t → Steps p.tables e below (s₁.setTop (entryFrame m #[(.ref ra)] 1)) t := fun t k => castTop (ef_2 m ra) k
  obtain ⟨T1, X1, e1, st1⟩ := initO X0 hx hZ hown (hw _ (List.mem_of_getElem? (i := 16) rfl)) (hw _ (List.mem_of_getElem? (i := 17) rfl)) (hw _ (List.mem_of_getElem? (i := 18) rfl)) e0 (g := (mkF m 1 #[.val (.ref ra)] [(.ref ra)])) rfl (by rw [hml]; rfl) rfl (hb hby d2_1) (by decide) (W := 0) (by show 2 * 0 + _ ≤ _; exact Nat.le_of_eq rfl) (by decide)
  obtain ⟨fs, hr, hrun, hended, hW, hsame⟩ := X1.leave (v := none) (fun _ => rfl)
  refine ⟨_, _, pre0 _ ?_, hrun, hended, _, _, rfl, ?_, ⟨_, rfl⟩, hW, hsame.mono (by decide) (by decide)⟩
  · show Steps p.tables e below (s₁.setTop (mkF m 0 #[.val (.ref ra)] [])) _
    refine XS.aloadN X0.here hx rfl (hb hby d2_0) rfl rfl ?_
    show Steps p.tables e below (s₁.setTop (mkF m 1 #[.val (.ref ra)] [(.ref ra)])) _
    refine st1 _ ?_
    show Steps p.tables e below (T1.setTop (mkF m 4 #[.val (.ref ra)] [])) _
    exact X1.returnOut hx Bd.returns (hb hby d2_4) hr
  · show Q2 Z ra h0 n0 _ T1.heap _
    rw [e1]
    exact ⟨rfl, N0, rfl⟩
theorem ef_1 (m : MethodId) (ra : Addr) (rd : Addr) (rj : Addr) (sd : UInt64) : entryFrame m #[(.ref ra), (.ref rd), (.ref rj), (.double sd)] 5 = mkF m 0 #[.val (.ref ra), .val (.ref rd), .val (.ref rj), .val (.double sd), .second] [] := by first | (simp [entryFrame, mkF, argsToLocals, Value.category]; done) | rfl
theorem d1_0 : decode prog_81_method_1_code 0 = .ok (.aload_n 0, 1) := by decide +kernel
theorem pd_0 : parseMethodDescriptor "()V" = some ⟨[], none⟩ := by decide +kernel
theorem d1_1 : decode prog_81_method_1_code 1 = .ok (.invokespecial 1, 3) := by decide +kernel
theorem d1_4 : decode prog_81_method_1_code 4 = .ok (.aload_n 0, 1) := by decide +kernel
theorem d1_5 : decode prog_81_method_1_code 5 = .ok (.aload_n 1, 1) := by decide +kernel
theorem d1_6 : decode prog_81_method_1_code 6 = .ok (.putfield 7, 3) := by decide +kernel
theorem d1_9 : decode prog_81_method_1_code 9 = .ok (.aload_n 0, 1) := by decide +kernel
theorem d1_10 : decode prog_81_method_1_code 10 = .ok (.aload_n 2, 1) := by decide +kernel
theorem d1_11 : decode prog_81_method_1_code 11 = .ok (.putfield 13, 3) := by decide +kernel
theorem d1_14 : decode prog_81_method_1_code 14 = .ok (.aload_n 0, 1) := by decide +kernel
theorem d1_15 : decode prog_81_method_1_code 15 = .ok (.dload_n 3, 1) := by decide +kernel
theorem d1_16 : decode prog_81_method_1_code 16 = .ok (.putfield 17, 3) := by decide +kernel
theorem d1_19 : decode prog_81_method_1_code 19 = .ok (.return_, 1) := by decide +kernel
theorem pn_com_example_hikyaku_hikyaku_store_Histogram_Counts : plainName "com/example/hikyaku/hikyaku/store/Histogram$Counts" = true := by first | (simp [plainName, overriddenIn]; done) | decide +kernel
def Q1 (Z : State) (ra : Addr) (rd : Addr) (rj : Addr) (sd : UInt64) (h0 : Heap) (n0 : Nat) (v : Option Value) (h : Heap) (L : List Loc) : Prop := v = none ∧ Fr n0 L ∧ Keep h0 h [ra] ∧ Fld Z h ra "com/example/hikyaku/hikyaku/store/Histogram$Counts" "boundsSeconds" "[D" (.ref rd) ∧ Fld Z h ra "com/example/hikyaku/hikyaku/store/Histogram$Counts" "buckets" "[J" (.ref rj) ∧ Fld Z h ra "com/example/hikyaku/hikyaku/store/Histogram$Counts" "sumSeconds" "D" (.double sd)
set_option maxRecDepth 65536 in
set_option maxHeartbeats 40000000 in
theorem rm1 (l : Launch) (Z : State) (a0 : Array Value) (hw : ∀ d ∈ tables_1, d.before a0 Z = true) (ws : List Jvm.Cond) (ra : Addr) (rd : Addr) (rj : Addr) (sd : UInt64) (h0 : Heap) (n0 : Nat) (Z0 : n0 ≤ h0.size) (E_ra : Exa Z h0 ra "com/example/hikyaku/hikyaku/store/Histogram$Counts") (F_boundsSeconds_ra : Fld Z h0 ra "com/example/hikyaku/hikyaku/store/Histogram$Counts" "boundsSeconds" "[D" .null) (F_buckets_ra : Fld Z h0 ra "com/example/hikyaku/hikyaku/store/Histogram$Counts" "buckets" "[J" .null) (F_sumSeconds_ra : Fld Z h0 ra "com/example/hikyaku/hikyaku/store/Histogram$Counts" "sumSeconds" "D" (.double (0 : UInt64))) (g_ra : n0 ≤ ra) :
    MetFree l (⟨"com/example/hikyaku/hikyaku/store/Histogram$Counts", "<init>", "([D[JD)V"⟩ : MethodName) (head1 (Jvm.Cond.code (⟨"com/example/hikyaku/hikyaku/store/Histogram$Counts", "<init>", "([D[JD)V"⟩ : MethodName) prog_81_method_1_code 5 none :: ws) ({ frames := 2, cells := 0, slots := 0, locals := 24 } : Room)) (fun a U => a = #[(.ref ra), (.ref rd), (.ref rj), (.double sd)] ∧ Z.Warmed39 U.vm ∧ U.heap = h0) (fun _ _ _ _ _ => True) (fun _ U o U' => ∃ v L, o = .returned v ∧ Q1 Z ra rd rj sd h0 n0 v U'.heap L ∧ FrameEnd U o U' L ({ frames := 2, cells := 0, slots := 0, locals := 24 } : Room).cells ({ frames := 2, cells := 0, slots := 0, locals := 24 } : Room).slots) := by
  refine MetFree.of_bodySF (plainFor_of_name pn_com_example_hikyaku_hikyaku_store_Histogram_Counts) hisR ?_
  intro p e s m args below meth c s₁ Bd hml0 hP hK
  obtain ⟨rfl, hZ, hh⟩ := hP
  have hx := Bd.exec
  have hby := Bd.bytes
  have hml : c.maxLocals = 5 := hml0
  have hown : s.vm.findClass "com/example/hikyaku/hikyaku/store/Histogram$Counts" = some m.cls := findClass_of_methodNamed Bd.named
  have hnm := (name_of_methodNamed Bd.named Bd.method).1
  have X0 : Stand p l e ({ frames := 2, cells := 0, slots := 0, locals := 24 } : Room) s m #[(.ref ra), (.ref rd), (.ref rj), (.double sd)] below meth c s₁ [] 0 0 := Stand.of_body Bd
  have e0 : s₁.heap = h0 := by rw [← hh, Bd.state]; rfl
  have N0 := Fr.nil n0
  have K0 : Keep h0 h0 [ra] := Keep.refl h0 _
  have pre0 : ∀ t, Steps p.tables e below (s₁.setTop (mkF m 0 #[.val (.ref ra), .val (.ref rd), .val (.ref rj), .val (.double sd), .second] [])) t → Steps p.tables e below (s₁.setTop (entryFrame m #[(.ref ra), (.ref rd), (.ref rj), (.double sd)] 5)) t := fun t k => castTop (ef_1 m ra rd rj sd) k
  obtain ⟨_, _, ⟨T1, L1, k1, n1⟩, -, X1, ⟨Lc1, hQ1, l1, y1, z1⟩, st1⟩ := X0.specialBack hx (y := (⟨"java/lang/Record", "<init>", "()V"⟩ : MethodName)) rfl hown (mvT hZ (hw _ (List.mem_of_getElem? (i := 11) rfl))) (mvT hZ (hw _ (List.mem_of_getElem? (i := 12) rfl))) (mvT hZ (hw _ (List.mem_of_getElem? (i := 15) rfl))) (by decide) (backOf (W := 0) (rm2 l Z a0 hw [] ra h0 n0 Z0 ) hZ (hw _ (List.mem_of_getElem? (i := 15) rfl)) (hw _ (List.mem_of_getElem? (i := 14) rfl)) (by decide) (by decide)) (g := (mkF m 1 #[.val (.ref ra), .val (.ref rd), .val (.ref rj), .val (.double sd), .second] [(.ref ra)])) rfl (by rw [hml]; rfl) (Steps.refl _) (a := ra) (argsL := []) (rest := []) (lenOf pd_0 rfl) rfl (by show 2 * 0 + _ ≤ _; exact Nat.le_of_eq rfl) (hb hby d1_1) (fun _ _ => ⟨rfl, e0, (by decide : 0 + 0 ≤ _), (by decide : 0 + 0 ≤ _)⟩)
  dsimp only [Pt.U, Pt.locs, Pt.cells, Pt.slots] at X1 l1 y1 z1 st1 hQ1
  subst l1 y1 z1
  obtain ⟨rfl, N1q, e1⟩ := hQ1
  have N1 := Fr.app N0 N1q
  obtain ⟨T2, h2, X2, e2, W2, st2⟩ := putF X1 hx hZ hown (host := "") (Or.inl (hw _ (List.mem_of_getElem? (i := 19) rfl))) Via.refl e1 F_boundsSeconds_ra E_ra (Or.inr ⟨(hw _ (List.mem_of_getElem? (i := 20) rfl)), rfl, hnm⟩) (hw _ (List.mem_of_getElem? (i := 6) rfl)) (ty := (.array .double)) (by decide) rfl rfl (g := (mkF m 6 #[.val (.ref ra), .val (.ref rd), .val (.ref rj), .val (.double sd), .second] [(.ref rd), (.ref ra)])) rfl rfl (hb hby d1_6)
  have N2 := Fr.snoc X2 N1 g_ra
  have Z2 : n0 ≤ h2.size := Nat.le_trans Z0 (Keep.of_wr W2).1
  have K2 : Keep h0 h2 [ra] := K0.wr W2 (Or.inl (List.mem_of_getElem? (i := 0) rfl))
  have f3 : Fld Z h2 ra "com/example/hikyaku/hikyaku/store/Histogram$Counts" "boundsSeconds" "[D" (.ref rd) := F_boundsSeconds_ra.same W2
  have f4 : Exa Z h2 ra "com/example/hikyaku/hikyaku/store/Histogram$Counts" := E_ra.wr W2
  have f5 : Fld Z h2 ra "com/example/hikyaku/hikyaku/store/Histogram$Counts" "buckets" "[J" .null := F_buckets_ra.other W2 (Or.inr (slot_ne (Or.inr (hw _ (List.mem_of_getElem? (i := 22) rfl))) (Or.inr (hw _ (List.mem_of_getElem? (i := 20) rfl))) (by decide) (t := (.array .long)) (t' := (.array .double)) (by decide) (by decide)))
  have f6 : Fld Z h2 ra "com/example/hikyaku/hikyaku/store/Histogram$Counts" "sumSeconds" "D" (.double (0 : UInt64)) := F_sumSeconds_ra.other W2 (Or.inr (slot_ne (Or.inr (hw _ (List.mem_of_getElem? (i := 24) rfl))) (Or.inr (hw _ (List.mem_of_getElem? (i := 20) rfl))) (by decide) (t := .double) (t' := (.array .double)) (by decide) (by decide)))
  obtain ⟨T7, h7, X7, e7, W7, st7⟩ := putF X2 hx hZ hown (host := "") (Or.inl (hw _ (List.mem_of_getElem? (i := 21) rfl))) Via.refl e2 f5 f4 (Or.inr ⟨(hw _ (List.mem_of_getElem? (i := 22) rfl)), rfl, hnm⟩) (hw _ (List.mem_of_getElem? (i := 6) rfl)) (ty := (.array .long)) (by decide) rfl rfl (g := (mkF m 11 #[.val (.ref ra), .val (.ref rd), .val (.ref rj), .val (.double sd), .second] [(.ref rj), (.ref ra)])) rfl rfl (hb hby d1_11)
  have N7 := Fr.snoc X7 N2 g_ra
  have Z7 : n0 ≤ h7.size := Nat.le_trans Z2 (Keep.of_wr W7).1
  have K7 : Keep h0 h7 [ra] := K2.wr W7 (Or.inl (List.mem_of_getElem? (i := 0) rfl))
  have f8 : Fld Z h7 ra "com/example/hikyaku/hikyaku/store/Histogram$Counts" "buckets" "[J" (.ref rj) := f5.same W7
  have f9 : Exa Z h7 ra "com/example/hikyaku/hikyaku/store/Histogram$Counts" := f4.wr W7
  have f10 : Fld Z h7 ra "com/example/hikyaku/hikyaku/store/Histogram$Counts" "boundsSeconds" "[D" (.ref rd) := f3.other W7 (Or.inr (slot_ne (Or.inr (hw _ (List.mem_of_getElem? (i := 20) rfl))) (Or.inr (hw _ (List.mem_of_getElem? (i := 22) rfl))) (by decide) (t := (.array .double)) (t' := (.array .long)) (by decide) (by decide)))
  have f11 : Fld Z h7 ra "com/example/hikyaku/hikyaku/store/Histogram$Counts" "sumSeconds" "D" (.double (0 : UInt64)) := f6.other W7 (Or.inr (slot_ne (Or.inr (hw _ (List.mem_of_getElem? (i := 24) rfl))) (Or.inr (hw _ (List.mem_of_getElem? (i := 22) rfl))) (by decide) (t := .double) (t' := (.array .long)) (by decide) (by decide)))
  obtain ⟨T12, h12, X12, e12, W12, st12⟩ := putF X7 hx hZ hown (host := "") (Or.inl (hw _ (List.mem_of_getElem? (i := 23) rfl))) Via.refl e7 f11 f9 (Or.inr ⟨(hw _ (List.mem_of_getElem? (i := 24) rfl)), rfl, hnm⟩) (hw _ (List.mem_of_getElem? (i := 6) rfl)) (ty := .double) (by decide) rfl rfl (g := (mkF m 16 #[.val (.ref ra), .val (.ref rd), .val (.ref rj), .val (.double sd), .second] [(.double sd), (.ref ra)])) rfl rfl (hb hby d1_16)
  have N12 := Fr.snoc X12 N7 g_ra
  have Z12 : n0 ≤ h12.size := Nat.le_trans Z7 (Keep.of_wr W12).1
  have K12 : Keep h0 h12 [ra] := K7.wr W12 (Or.inl (List.mem_of_getElem? (i := 0) rfl))
  have f13 : Fld Z h12 ra "com/example/hikyaku/hikyaku/store/Histogram$Counts" "sumSeconds" "D" (.double sd) := f11.same W12
  have f14 : Exa Z h12 ra "com/example/hikyaku/hikyaku/store/Histogram$Counts" := f9.wr W12
  have f15 : Fld Z h12 ra "com/example/hikyaku/hikyaku/store/Histogram$Counts" "boundsSeconds" "[D" (.ref rd) := f10.other W12 (Or.inr (slot_ne (Or.inr (hw _ (List.mem_of_getElem? (i := 20) rfl))) (Or.inr (hw _ (List.mem_of_getElem? (i := 24) rfl))) (by decide) (t := (.array .double)) (t' := .double) (by decide) (by decide)))
  have f16 : Fld Z h12 ra "com/example/hikyaku/hikyaku/store/Histogram$Counts" "buckets" "[J" (.ref rj) := f8.other W12 (Or.inr (slot_ne (Or.inr (hw _ (List.mem_of_getElem? (i := 22) rfl))) (Or.inr (hw _ (List.mem_of_getElem? (i := 24) rfl))) (by decide) (t := (.array .long)) (t' := .double) (by decide) (by decide)))
  obtain ⟨fs, hr, hrun, hended, hW, hsame⟩ := X12.leave (v := none) (fun _ => rfl)
  refine ⟨_, _, pre0 _ ?_, hrun, hended, _, _, rfl, ?_, ⟨_, rfl⟩, hW, hsame.mono (by decide) (by decide)⟩
  · show Steps p.tables e below (s₁.setTop (mkF m 0 #[.val (.ref ra), .val (.ref rd), .val (.ref rj), .val (.double sd), .second] [])) _
    refine XS.aloadN X0.here hx rfl (hb hby d1_0) rfl rfl ?_
    show Steps p.tables e below (s₁.setTop (mkF m 1 #[.val (.ref ra), .val (.ref rd), .val (.ref rj), .val (.double sd), .second] [(.ref ra)])) _
    refine st1.trans ?_
    show Steps p.tables e below (T1.setTop (mkF m 4 #[.val (.ref ra), .val (.ref rd), .val (.ref rj), .val (.double sd), .second] [])) _
    refine XS.aloadN X1.here hx rfl (hb hby d1_4) rfl rfl ?_
    show Steps p.tables e below (T1.setTop (mkF m 5 #[.val (.ref ra), .val (.ref rd), .val (.ref rj), .val (.double sd), .second] [(.ref ra)])) _
    refine XS.aloadN X1.here hx rfl (hb hby d1_5) rfl rfl ?_
    show Steps p.tables e below (T1.setTop (mkF m 6 #[.val (.ref ra), .val (.ref rd), .val (.ref rj), .val (.double sd), .second] [(.ref rd), (.ref ra)])) _
    refine st2 _ ?_
    show Steps p.tables e below (T2.setTop (mkF m 9 #[.val (.ref ra), .val (.ref rd), .val (.ref rj), .val (.double sd), .second] [])) _
    refine XS.aloadN X2.here hx rfl (hb hby d1_9) rfl rfl ?_
    show Steps p.tables e below (T2.setTop (mkF m 10 #[.val (.ref ra), .val (.ref rd), .val (.ref rj), .val (.double sd), .second] [(.ref ra)])) _
    refine XS.aloadN X2.here hx rfl (hb hby d1_10) rfl rfl ?_
    show Steps p.tables e below (T2.setTop (mkF m 11 #[.val (.ref ra), .val (.ref rd), .val (.ref rj), .val (.double sd), .second] [(.ref rj), (.ref ra)])) _
    refine st7 _ ?_
    show Steps p.tables e below (T7.setTop (mkF m 14 #[.val (.ref ra), .val (.ref rd), .val (.ref rj), .val (.double sd), .second] [])) _
    refine XS.aloadN X7.here hx rfl (hb hby d1_14) rfl rfl ?_
    show Steps p.tables e below (T7.setTop (mkF m 15 #[.val (.ref ra), .val (.ref rd), .val (.ref rj), .val (.double sd), .second] [(.ref ra)])) _
    refine XS.dloadN X7.here hx rfl (hb hby d1_15) rfl ?_
    show Steps p.tables e below (T7.setTop (mkF m 16 #[.val (.ref ra), .val (.ref rd), .val (.ref rj), .val (.double sd), .second] [(.double sd), (.ref ra)])) _
    refine st12 _ ?_
    show Steps p.tables e below (T12.setTop (mkF m 19 #[.val (.ref ra), .val (.ref rd), .val (.ref rj), .val (.double sd), .second] [])) _
    exact X12.returnOut hx Bd.returns (hb hby d1_19) hr
  · show Q1 Z ra rd rj sd h0 n0 _ T12.heap _
    rw [e12]
    exact ⟨rfl, N12, K12, f15, f16, f13⟩
theorem ef_4k0 (m : MethodId) (ra : Addr) : entryFrame m #[(.ref ra), (.int (0 : Int32))] 5 = mkF m 0 #[.val (.ref ra), .val (.int (0 : Int32)), .unset, .unset, .unset] [] := by first | (simp [entryFrame, mkF, argsToLocals, Value.category]; done) | rfl
theorem d4_0 : decode prog_81_method_2_code 0 = .ok (.lconst 0, 1) := by decide +kernel
theorem d4_1 : decode prog_81_method_2_code 1 = .ok (.lstore_n 2, 1) := by decide +kernel
theorem d4_2 : decode prog_81_method_2_code 2 = .ok (.iconst 0, 1) := by decide +kernel
theorem d4_3 : decode prog_81_method_2_code 3 = .ok (.istore 4, 2) := by decide +kernel
theorem d4_5 : decode prog_81_method_2_code 5 = .ok (.iload 4, 2) := by decide +kernel
theorem d4_7 : decode prog_81_method_2_code 7 = .ok (.iload_n 1, 1) := by decide +kernel
theorem d4_8 : decode prog_81_method_2_code 8 = .ok (.if_icmp .gt 19, 3) := by decide +kernel
theorem d4_11 : decode prog_81_method_2_code 11 = .ok (.lload_n 2, 1) := by decide +kernel
theorem d4_12 : decode prog_81_method_2_code 12 = .ok (.aload_n 0, 1) := by decide +kernel
theorem d4_13 : decode prog_81_method_2_code 13 = .ok (.getfield 13, 3) := by decide +kernel
theorem d4_16 : decode prog_81_method_2_code 16 = .ok (.iload 4, 2) := by decide +kernel
theorem d4_18 : decode prog_81_method_2_code 18 = .ok (.laload, 1) := by decide +kernel
theorem d4_19 : decode prog_81_method_2_code 19 = .ok (.ladd, 1) := by decide +kernel
theorem d4_20 : decode prog_81_method_2_code 20 = .ok (.lstore_n 2, 1) := by decide +kernel
theorem d4_21 : decode prog_81_method_2_code 21 = .ok (.iinc 4 1, 3) := by decide +kernel
theorem d4_24 : decode prog_81_method_2_code 24 = .ok (.goto (-19), 3) := by decide +kernel
theorem d4_27 : decode prog_81_method_2_code 27 = .ok (.lload_n 2, 1) := by decide +kernel
theorem d4_28 : decode prog_81_method_2_code 28 = .ok (.lreturn, 1) := by decide +kernel
def Q4k0 (Z : State) (ra : Addr) (rj : Addr) (fj : Nat → Int64) (h0 : Heap) (n0 : Nat) (v : Option Value) (h : Heap) (L : List Loc) : Prop := v = some (.long ((0 : Int64) + (fj 0))) ∧ Fr n0 L ∧ h = h0
set_option maxRecDepth 65536 in
set_option maxHeartbeats 40000000 in
theorem rm4k0 (l : Launch) (Z : State) (a0 : Array Value) (hw : ∀ d ∈ tables_1, d.before a0 Z = true) (ws : List Jvm.Cond) (ra : Addr) (rj : Addr) (fj : Nat → Int64) (h0 : Heap) (n0 : Nat) (Z0 : n0 ≤ h0.size) (F_buckets_ra : Fld Z h0 ra "com/example/hikyaku/hikyaku/store/Histogram$Counts" "buckets" "[J" (.ref rj)) (A_rj : AJ Z h0 rj .long 4 fj) :
    MetFree l (⟨"com/example/hikyaku/hikyaku/store/Histogram$Counts", "atMost", "(I)J"⟩ : MethodName) (head1 (Jvm.Cond.code (⟨"com/example/hikyaku/hikyaku/store/Histogram$Counts", "atMost", "(I)J"⟩ : MethodName) prog_81_method_2_code 5 (some .long) :: ws) ({ frames := 0, cells := 0, slots := 0, locals := 0 } : Room)) (fun a U => a = #[(.ref ra), (.int (0 : Int32))] ∧ Z.Warmed39 U.vm ∧ U.heap = h0) (fun _ _ _ _ _ => True) (fun _ U o U' => ∃ v L, o = .returned v ∧ Q4k0 Z ra rj fj h0 n0 v U'.heap L ∧ FrameEnd U o U' L ({ frames := 0, cells := 0, slots := 0, locals := 0 } : Room).cells ({ frames := 0, cells := 0, slots := 0, locals := 0 } : Room).slots) := by
  refine MetFree.of_bodySF (plainFor_of_name pn_com_example_hikyaku_hikyaku_store_Histogram_Counts) hisR ?_
  intro p e s m args below meth c s₁ Bd hml0 hP hK
  obtain ⟨rfl, hZ, hh⟩ := hP
  have hx := Bd.exec
  have hby := Bd.bytes
  have hml : c.maxLocals = 5 := hml0
  have hown : s.vm.findClass "com/example/hikyaku/hikyaku/store/Histogram$Counts" = some m.cls := findClass_of_methodNamed Bd.named
  have hnm := (name_of_methodNamed Bd.named Bd.method).1
  have X0 : Stand p l e ({ frames := 0, cells := 0, slots := 0, locals := 0 } : Room) s m #[(.ref ra), (.int (0 : Int32))] below meth c s₁ [] 0 0 := Stand.of_body Bd
  have e0 : s₁.heap = h0 := by rw [← hh, Bd.state]; rfl
  have N0 := Fr.nil n0
  have K0 : Keep h0 h0 [] := Keep.refl h0 _
  have pre0 : ∀ t, Steps p.tables e below (s₁.setTop (mkF m 0 #[.val (.ref ra), .val (.int (0 : Int32)), .unset, .unset, .unset] [])) t → Steps p.tables e below (s₁.setTop (entryFrame m #[(.ref ra), (.int (0 : Int32))] 5)) t := fun t k => castTop (ef_4k0 m ra) k
  obtain ⟨T1, X1, e1, st1⟩ := getF X0 hx hZ hown (host := "") (Or.inl (hw _ (List.mem_of_getElem? (i := 21) rfl))) Via.refl e0 F_buckets_ra (g := (mkF m 13 #[.val (.ref ra), .val (.int (0 : Int32)), .val (.long (0 : Int64)), .second, .val (.int (0 : Int32))] [(.ref ra), (.long (0 : Int64))])) rfl rfl (hb hby d4_13)
  obtain ⟨cl2, Arcl2, hincl2, hatcl2⟩ := AF.at A_rj (j := (0 : Int32)) 0 (by decide) (by decide)
  obtain ⟨fs, hr, hrun, hended, hW, hsame⟩ := X1.leave (v := some (.long ((0 : Int64) + (fj 0)))) (fun h => by rw [Bd.returns] at h; cases h)
  refine ⟨_, _, pre0 _ ?_, hrun, hended, _, _, rfl, ?_, ⟨_, rfl⟩, hW, hsame.mono (by decide) (by decide)⟩
  · show Steps p.tables e below (s₁.setTop (mkF m 0 #[.val (.ref ra), .val (.int (0 : Int32)), .unset, .unset, .unset] [])) _
    refine XS.lconst X0.here hx rfl (hb hby d4_0) ?_
    show Steps p.tables e below (s₁.setTop (mkF m 1 #[.val (.ref ra), .val (.int (0 : Int32)), .unset, .unset, .unset] [(.long (0 : Int64))])) _
    refine XS.lstoreN X0.here hx rfl (hb hby d4_1) rfl (l' := #[.val (.ref ra), .val (.int (0 : Int32)), .val (.long (0 : Int64)), .second, .unset]) rfl ?_
    show Steps p.tables e below (s₁.setTop (mkF m 2 #[.val (.ref ra), .val (.int (0 : Int32)), .val (.long (0 : Int64)), .second, .unset] [])) _
    refine XS.iconst X0.here hx rfl (hb hby d4_2) ?_
    show Steps p.tables e below (s₁.setTop (mkF m 3 #[.val (.ref ra), .val (.int (0 : Int32)), .val (.long (0 : Int64)), .second, .unset] [(.int (0 : Int32))])) _
    refine XS.istore X0.here hx rfl (hb hby d4_3) rfl (l' := #[.val (.ref ra), .val (.int (0 : Int32)), .val (.long (0 : Int64)), .second, .val (.int (0 : Int32))]) rfl ?_
    show Steps p.tables e below (s₁.setTop (mkF m 5 #[.val (.ref ra), .val (.int (0 : Int32)), .val (.long (0 : Int64)), .second, .val (.int (0 : Int32))] [])) _
    refine XS.iload X0.here hx rfl (hb hby d4_5) rfl ?_
    show Steps p.tables e below (s₁.setTop (mkF m 7 #[.val (.ref ra), .val (.int (0 : Int32)), .val (.long (0 : Int64)), .second, .val (.int (0 : Int32))] [(.int (0 : Int32))])) _
    refine XS.iloadN X0.here hx rfl (hb hby d4_7) rfl ?_
    show Steps p.tables e below (s₁.setTop (mkF m 8 #[.val (.ref ra), .val (.int (0 : Int32)), .val (.long (0 : Int64)), .second, .val (.int (0 : Int32))] [(.int (0 : Int32)), (.int (0 : Int32))])) _
    refine XS.icmpNo X0.here hx rfl (hb hby d4_8) rfl (flt (by decide : ¬ ((0 : Int32) < (0 : Int32)))).2.2.1 ?_
    show Steps p.tables e below (s₁.setTop (mkF m 11 #[.val (.ref ra), .val (.int (0 : Int32)), .val (.long (0 : Int64)), .second, .val (.int (0 : Int32))] [])) _
    refine XS.lloadN X0.here hx rfl (hb hby d4_11) rfl ?_
    show Steps p.tables e below (s₁.setTop (mkF m 12 #[.val (.ref ra), .val (.int (0 : Int32)), .val (.long (0 : Int64)), .second, .val (.int (0 : Int32))] [(.long (0 : Int64))])) _
    refine XS.aloadN X0.here hx rfl (hb hby d4_12) rfl rfl ?_
    show Steps p.tables e below (s₁.setTop (mkF m 13 #[.val (.ref ra), .val (.int (0 : Int32)), .val (.long (0 : Int64)), .second, .val (.int (0 : Int32))] [(.ref ra), (.long (0 : Int64))])) _
    refine st1 _ ?_
    show Steps p.tables e below (T1.setTop (mkF m 16 #[.val (.ref ra), .val (.int (0 : Int32)), .val (.long (0 : Int64)), .second, .val (.int (0 : Int32))] [(.ref rj), (.long (0 : Int64))])) _
    refine XS.iload X1.here hx rfl (hb hby d4_16) rfl ?_
    show Steps p.tables e below (T1.setTop (mkF m 18 #[.val (.ref ra), .val (.int (0 : Int32)), .val (.long (0 : Int64)), .second, .val (.int (0 : Int32))] [(.int (0 : Int32)), (.ref rj), (.long (0 : Int64))])) _
    refine X1.laload hx (j := (0 : Int32)) (v := (.long (fj 0))) (by rw [e1]; exact Arcl2.1) (State.isArrayOf_alike hZ.alike Arcl2.2.1) Arcl2.2.2 hincl2 hatcl2 (g := (mkF m 18 #[.val (.ref ra), .val (.int (0 : Int32)), .val (.long (0 : Int64)), .second, .val (.int (0 : Int32))] [(.int (0 : Int32)), (.ref rj), (.long (0 : Int64))])) rfl rfl (hb hby d4_18) _ ?_
    show Steps p.tables e below (T1.setTop (mkF m 19 #[.val (.ref ra), .val (.int (0 : Int32)), .val (.long (0 : Int64)), .second, .val (.int (0 : Int32))] [(.long (fj 0)), (.long (0 : Int64))])) _
    refine XS.ladd X1.here hx rfl (hb hby d4_19) rfl ?_
    show Steps p.tables e below (T1.setTop (mkF m 20 #[.val (.ref ra), .val (.int (0 : Int32)), .val (.long (0 : Int64)), .second, .val (.int (0 : Int32))] [(.long ((0 : Int64) + (fj 0)))])) _
    refine XS.lstoreN X1.here hx rfl (hb hby d4_20) rfl (l' := #[.val (.ref ra), .val (.int (0 : Int32)), .val (.long ((0 : Int64) + (fj 0))), .second, .val (.int (0 : Int32))]) rfl ?_
    show Steps p.tables e below (T1.setTop (mkF m 21 #[.val (.ref ra), .val (.int (0 : Int32)), .val (.long ((0 : Int64) + (fj 0))), .second, .val (.int (0 : Int32))] [])) _
    refine XS.iinc X1.here hx rfl (hb hby d4_21) rfl (l' := #[.val (.ref ra), .val (.int (0 : Int32)), .val (.long ((0 : Int64) + (fj 0))), .second, .val (.int (1 : Int32))]) rfl ?_
    show Steps p.tables e below (T1.setTop (mkF m 24 #[.val (.ref ra), .val (.int (0 : Int32)), .val (.long ((0 : Int64) + (fj 0))), .second, .val (.int (1 : Int32))] [])) _
    refine XS.goto X1.here hx rfl (pc0 := 24) (pc' := 5) rfl (hb hby d4_24) (by decide) (by decide) ?_
    show Steps p.tables e below (T1.setTop (mkF m 5 #[.val (.ref ra), .val (.int (0 : Int32)), .val (.long ((0 : Int64) + (fj 0))), .second, .val (.int (1 : Int32))] [])) _
    refine XS.iload X1.here hx rfl (hb hby d4_5) rfl ?_
    show Steps p.tables e below (T1.setTop (mkF m 7 #[.val (.ref ra), .val (.int (0 : Int32)), .val (.long ((0 : Int64) + (fj 0))), .second, .val (.int (1 : Int32))] [(.int (1 : Int32))])) _
    refine XS.iloadN X1.here hx rfl (hb hby d4_7) rfl ?_
    show Steps p.tables e below (T1.setTop (mkF m 8 #[.val (.ref ra), .val (.int (0 : Int32)), .val (.long ((0 : Int64) + (fj 0))), .second, .val (.int (1 : Int32))] [(.int (0 : Int32)), (.int (1 : Int32))])) _
    refine XS.icmpYes X1.here hx rfl (pc0 := 8) (pc' := 27) rfl (hb hby d4_8) rfl (tlt (by decide : ((0 : Int32) < (1 : Int32)))).2.2.1 (by decide) (by decide) ?_
    show Steps p.tables e below (T1.setTop (mkF m 27 #[.val (.ref ra), .val (.int (0 : Int32)), .val (.long ((0 : Int64) + (fj 0))), .second, .val (.int (1 : Int32))] [])) _
    refine XS.lloadN X1.here hx rfl (hb hby d4_27) rfl ?_
    show Steps p.tables e below (T1.setTop (mkF m 28 #[.val (.ref ra), .val (.int (0 : Int32)), .val (.long ((0 : Int64) + (fj 0))), .second, .val (.int (1 : Int32))] [(.long ((0 : Int64) + (fj 0)))])) _
    exact retOut X1 hx Bd.returns rfl (Or.inr (Or.inl ⟨rfl, rfl, _, rfl⟩)) (hb hby d4_28) hr
  · show Q4k0 Z ra rj fj h0 n0 _ T1.heap _
    rw [e1]
    exact ⟨rfl, N0, rfl⟩
theorem ef_4k1 (m : MethodId) (ra : Addr) : entryFrame m #[(.ref ra), (.int (1 : Int32))] 5 = mkF m 0 #[.val (.ref ra), .val (.int (1 : Int32)), .unset, .unset, .unset] [] := by first | (simp [entryFrame, mkF, argsToLocals, Value.category]; done) | rfl
def Q4k1 (Z : State) (ra : Addr) (rj : Addr) (fj : Nat → Int64) (h0 : Heap) (n0 : Nat) (v : Option Value) (h : Heap) (L : List Loc) : Prop := v = some (.long (((0 : Int64) + (fj 0)) + (fj 1))) ∧ Fr n0 L ∧ h = h0
set_option maxRecDepth 65536 in
set_option maxHeartbeats 40000000 in
theorem rm4k1 (l : Launch) (Z : State) (a0 : Array Value) (hw : ∀ d ∈ tables_1, d.before a0 Z = true) (ws : List Jvm.Cond) (ra : Addr) (rj : Addr) (fj : Nat → Int64) (h0 : Heap) (n0 : Nat) (Z0 : n0 ≤ h0.size) (F_buckets_ra : Fld Z h0 ra "com/example/hikyaku/hikyaku/store/Histogram$Counts" "buckets" "[J" (.ref rj)) (A_rj : AJ Z h0 rj .long 4 fj) :
    MetFree l (⟨"com/example/hikyaku/hikyaku/store/Histogram$Counts", "atMost", "(I)J"⟩ : MethodName) (head1 (Jvm.Cond.code (⟨"com/example/hikyaku/hikyaku/store/Histogram$Counts", "atMost", "(I)J"⟩ : MethodName) prog_81_method_2_code 5 (some .long) :: ws) ({ frames := 0, cells := 0, slots := 0, locals := 0 } : Room)) (fun a U => a = #[(.ref ra), (.int (1 : Int32))] ∧ Z.Warmed39 U.vm ∧ U.heap = h0) (fun _ _ _ _ _ => True) (fun _ U o U' => ∃ v L, o = .returned v ∧ Q4k1 Z ra rj fj h0 n0 v U'.heap L ∧ FrameEnd U o U' L ({ frames := 0, cells := 0, slots := 0, locals := 0 } : Room).cells ({ frames := 0, cells := 0, slots := 0, locals := 0 } : Room).slots) := by
  refine MetFree.of_bodySF (plainFor_of_name pn_com_example_hikyaku_hikyaku_store_Histogram_Counts) hisR ?_
  intro p e s m args below meth c s₁ Bd hml0 hP hK
  obtain ⟨rfl, hZ, hh⟩ := hP
  have hx := Bd.exec
  have hby := Bd.bytes
  have hml : c.maxLocals = 5 := hml0
  have hown : s.vm.findClass "com/example/hikyaku/hikyaku/store/Histogram$Counts" = some m.cls := findClass_of_methodNamed Bd.named
  have hnm := (name_of_methodNamed Bd.named Bd.method).1
  have X0 : Stand p l e ({ frames := 0, cells := 0, slots := 0, locals := 0 } : Room) s m #[(.ref ra), (.int (1 : Int32))] below meth c s₁ [] 0 0 := Stand.of_body Bd
  have e0 : s₁.heap = h0 := by rw [← hh, Bd.state]; rfl
  have N0 := Fr.nil n0
  have K0 : Keep h0 h0 [] := Keep.refl h0 _
  have pre0 : ∀ t, Steps p.tables e below (s₁.setTop (mkF m 0 #[.val (.ref ra), .val (.int (1 : Int32)), .unset, .unset, .unset] [])) t → Steps p.tables e below (s₁.setTop (entryFrame m #[(.ref ra), (.int (1 : Int32))] 5)) t := fun t k => castTop (ef_4k1 m ra) k
  obtain ⟨T1, X1, e1, st1⟩ := getF X0 hx hZ hown (host := "") (Or.inl (hw _ (List.mem_of_getElem? (i := 21) rfl))) Via.refl e0 F_buckets_ra (g := (mkF m 13 #[.val (.ref ra), .val (.int (1 : Int32)), .val (.long (0 : Int64)), .second, .val (.int (0 : Int32))] [(.ref ra), (.long (0 : Int64))])) rfl rfl (hb hby d4_13)
  obtain ⟨cl2, Arcl2, hincl2, hatcl2⟩ := AF.at A_rj (j := (0 : Int32)) 0 (by decide) (by decide)
  obtain ⟨T3, X3, e3, st3⟩ := getF X1 hx hZ hown (host := "") (Or.inl (hw _ (List.mem_of_getElem? (i := 21) rfl))) Via.refl e1 F_buckets_ra (g := (mkF m 13 #[.val (.ref ra), .val (.int (1 : Int32)), .val (.long ((0 : Int64) + (fj 0))), .second, .val (.int (1 : Int32))] [(.ref ra), (.long ((0 : Int64) + (fj 0)))])) rfl rfl (hb hby d4_13)
  obtain ⟨cl4, Arcl4, hincl4, hatcl4⟩ := AF.at A_rj (j := (1 : Int32)) 1 (by decide) (by decide)
  obtain ⟨fs, hr, hrun, hended, hW, hsame⟩ := X3.leave (v := some (.long (((0 : Int64) + (fj 0)) + (fj 1)))) (fun h => by rw [Bd.returns] at h; cases h)
  refine ⟨_, _, pre0 _ ?_, hrun, hended, _, _, rfl, ?_, ⟨_, rfl⟩, hW, hsame.mono (by decide) (by decide)⟩
  · show Steps p.tables e below (s₁.setTop (mkF m 0 #[.val (.ref ra), .val (.int (1 : Int32)), .unset, .unset, .unset] [])) _
    refine XS.lconst X0.here hx rfl (hb hby d4_0) ?_
    show Steps p.tables e below (s₁.setTop (mkF m 1 #[.val (.ref ra), .val (.int (1 : Int32)), .unset, .unset, .unset] [(.long (0 : Int64))])) _
    refine XS.lstoreN X0.here hx rfl (hb hby d4_1) rfl (l' := #[.val (.ref ra), .val (.int (1 : Int32)), .val (.long (0 : Int64)), .second, .unset]) rfl ?_
    show Steps p.tables e below (s₁.setTop (mkF m 2 #[.val (.ref ra), .val (.int (1 : Int32)), .val (.long (0 : Int64)), .second, .unset] [])) _
    refine XS.iconst X0.here hx rfl (hb hby d4_2) ?_
    show Steps p.tables e below (s₁.setTop (mkF m 3 #[.val (.ref ra), .val (.int (1 : Int32)), .val (.long (0 : Int64)), .second, .unset] [(.int (0 : Int32))])) _
    refine XS.istore X0.here hx rfl (hb hby d4_3) rfl (l' := #[.val (.ref ra), .val (.int (1 : Int32)), .val (.long (0 : Int64)), .second, .val (.int (0 : Int32))]) rfl ?_
    show Steps p.tables e below (s₁.setTop (mkF m 5 #[.val (.ref ra), .val (.int (1 : Int32)), .val (.long (0 : Int64)), .second, .val (.int (0 : Int32))] [])) _
    refine XS.iload X0.here hx rfl (hb hby d4_5) rfl ?_
    show Steps p.tables e below (s₁.setTop (mkF m 7 #[.val (.ref ra), .val (.int (1 : Int32)), .val (.long (0 : Int64)), .second, .val (.int (0 : Int32))] [(.int (0 : Int32))])) _
    refine XS.iloadN X0.here hx rfl (hb hby d4_7) rfl ?_
    show Steps p.tables e below (s₁.setTop (mkF m 8 #[.val (.ref ra), .val (.int (1 : Int32)), .val (.long (0 : Int64)), .second, .val (.int (0 : Int32))] [(.int (1 : Int32)), (.int (0 : Int32))])) _
    refine XS.icmpNo X0.here hx rfl (hb hby d4_8) rfl (flt (by decide : ¬ ((1 : Int32) < (0 : Int32)))).2.2.1 ?_
    show Steps p.tables e below (s₁.setTop (mkF m 11 #[.val (.ref ra), .val (.int (1 : Int32)), .val (.long (0 : Int64)), .second, .val (.int (0 : Int32))] [])) _
    refine XS.lloadN X0.here hx rfl (hb hby d4_11) rfl ?_
    show Steps p.tables e below (s₁.setTop (mkF m 12 #[.val (.ref ra), .val (.int (1 : Int32)), .val (.long (0 : Int64)), .second, .val (.int (0 : Int32))] [(.long (0 : Int64))])) _
    refine XS.aloadN X0.here hx rfl (hb hby d4_12) rfl rfl ?_
    show Steps p.tables e below (s₁.setTop (mkF m 13 #[.val (.ref ra), .val (.int (1 : Int32)), .val (.long (0 : Int64)), .second, .val (.int (0 : Int32))] [(.ref ra), (.long (0 : Int64))])) _
    refine st1 _ ?_
    show Steps p.tables e below (T1.setTop (mkF m 16 #[.val (.ref ra), .val (.int (1 : Int32)), .val (.long (0 : Int64)), .second, .val (.int (0 : Int32))] [(.ref rj), (.long (0 : Int64))])) _
    refine XS.iload X1.here hx rfl (hb hby d4_16) rfl ?_
    show Steps p.tables e below (T1.setTop (mkF m 18 #[.val (.ref ra), .val (.int (1 : Int32)), .val (.long (0 : Int64)), .second, .val (.int (0 : Int32))] [(.int (0 : Int32)), (.ref rj), (.long (0 : Int64))])) _
    refine X1.laload hx (j := (0 : Int32)) (v := (.long (fj 0))) (by rw [e1]; exact Arcl2.1) (State.isArrayOf_alike hZ.alike Arcl2.2.1) Arcl2.2.2 hincl2 hatcl2 (g := (mkF m 18 #[.val (.ref ra), .val (.int (1 : Int32)), .val (.long (0 : Int64)), .second, .val (.int (0 : Int32))] [(.int (0 : Int32)), (.ref rj), (.long (0 : Int64))])) rfl rfl (hb hby d4_18) _ ?_
    show Steps p.tables e below (T1.setTop (mkF m 19 #[.val (.ref ra), .val (.int (1 : Int32)), .val (.long (0 : Int64)), .second, .val (.int (0 : Int32))] [(.long (fj 0)), (.long (0 : Int64))])) _
    refine XS.ladd X1.here hx rfl (hb hby d4_19) rfl ?_
    show Steps p.tables e below (T1.setTop (mkF m 20 #[.val (.ref ra), .val (.int (1 : Int32)), .val (.long (0 : Int64)), .second, .val (.int (0 : Int32))] [(.long ((0 : Int64) + (fj 0)))])) _
    refine XS.lstoreN X1.here hx rfl (hb hby d4_20) rfl (l' := #[.val (.ref ra), .val (.int (1 : Int32)), .val (.long ((0 : Int64) + (fj 0))), .second, .val (.int (0 : Int32))]) rfl ?_
    show Steps p.tables e below (T1.setTop (mkF m 21 #[.val (.ref ra), .val (.int (1 : Int32)), .val (.long ((0 : Int64) + (fj 0))), .second, .val (.int (0 : Int32))] [])) _
    refine XS.iinc X1.here hx rfl (hb hby d4_21) rfl (l' := #[.val (.ref ra), .val (.int (1 : Int32)), .val (.long ((0 : Int64) + (fj 0))), .second, .val (.int (1 : Int32))]) rfl ?_
    show Steps p.tables e below (T1.setTop (mkF m 24 #[.val (.ref ra), .val (.int (1 : Int32)), .val (.long ((0 : Int64) + (fj 0))), .second, .val (.int (1 : Int32))] [])) _
    refine XS.goto X1.here hx rfl (pc0 := 24) (pc' := 5) rfl (hb hby d4_24) (by decide) (by decide) ?_
    show Steps p.tables e below (T1.setTop (mkF m 5 #[.val (.ref ra), .val (.int (1 : Int32)), .val (.long ((0 : Int64) + (fj 0))), .second, .val (.int (1 : Int32))] [])) _
    refine XS.iload X1.here hx rfl (hb hby d4_5) rfl ?_
    show Steps p.tables e below (T1.setTop (mkF m 7 #[.val (.ref ra), .val (.int (1 : Int32)), .val (.long ((0 : Int64) + (fj 0))), .second, .val (.int (1 : Int32))] [(.int (1 : Int32))])) _
    refine XS.iloadN X1.here hx rfl (hb hby d4_7) rfl ?_
    show Steps p.tables e below (T1.setTop (mkF m 8 #[.val (.ref ra), .val (.int (1 : Int32)), .val (.long ((0 : Int64) + (fj 0))), .second, .val (.int (1 : Int32))] [(.int (1 : Int32)), (.int (1 : Int32))])) _
    refine XS.icmpNo X1.here hx rfl (hb hby d4_8) rfl (flt (by decide : ¬ ((1 : Int32) < (1 : Int32)))).2.2.1 ?_
    show Steps p.tables e below (T1.setTop (mkF m 11 #[.val (.ref ra), .val (.int (1 : Int32)), .val (.long ((0 : Int64) + (fj 0))), .second, .val (.int (1 : Int32))] [])) _
    refine XS.lloadN X1.here hx rfl (hb hby d4_11) rfl ?_
    show Steps p.tables e below (T1.setTop (mkF m 12 #[.val (.ref ra), .val (.int (1 : Int32)), .val (.long ((0 : Int64) + (fj 0))), .second, .val (.int (1 : Int32))] [(.long ((0 : Int64) + (fj 0)))])) _
    refine XS.aloadN X1.here hx rfl (hb hby d4_12) rfl rfl ?_
    show Steps p.tables e below (T1.setTop (mkF m 13 #[.val (.ref ra), .val (.int (1 : Int32)), .val (.long ((0 : Int64) + (fj 0))), .second, .val (.int (1 : Int32))] [(.ref ra), (.long ((0 : Int64) + (fj 0)))])) _
    refine st3 _ ?_
    show Steps p.tables e below (T3.setTop (mkF m 16 #[.val (.ref ra), .val (.int (1 : Int32)), .val (.long ((0 : Int64) + (fj 0))), .second, .val (.int (1 : Int32))] [(.ref rj), (.long ((0 : Int64) + (fj 0)))])) _
    refine XS.iload X3.here hx rfl (hb hby d4_16) rfl ?_
    show Steps p.tables e below (T3.setTop (mkF m 18 #[.val (.ref ra), .val (.int (1 : Int32)), .val (.long ((0 : Int64) + (fj 0))), .second, .val (.int (1 : Int32))] [(.int (1 : Int32)), (.ref rj), (.long ((0 : Int64) + (fj 0)))])) _
    refine X3.laload hx (j := (1 : Int32)) (v := (.long (fj 1))) (by rw [e3]; exact Arcl4.1) (State.isArrayOf_alike hZ.alike Arcl4.2.1) Arcl4.2.2 hincl4 hatcl4 (g := (mkF m 18 #[.val (.ref ra), .val (.int (1 : Int32)), .val (.long ((0 : Int64) + (fj 0))), .second, .val (.int (1 : Int32))] [(.int (1 : Int32)), (.ref rj), (.long ((0 : Int64) + (fj 0)))])) rfl rfl (hb hby d4_18) _ ?_
    show Steps p.tables e below (T3.setTop (mkF m 19 #[.val (.ref ra), .val (.int (1 : Int32)), .val (.long ((0 : Int64) + (fj 0))), .second, .val (.int (1 : Int32))] [(.long (fj 1)), (.long ((0 : Int64) + (fj 0)))])) _
    refine XS.ladd X3.here hx rfl (hb hby d4_19) rfl ?_
    show Steps p.tables e below (T3.setTop (mkF m 20 #[.val (.ref ra), .val (.int (1 : Int32)), .val (.long ((0 : Int64) + (fj 0))), .second, .val (.int (1 : Int32))] [(.long (((0 : Int64) + (fj 0)) + (fj 1)))])) _
    refine XS.lstoreN X3.here hx rfl (hb hby d4_20) rfl (l' := #[.val (.ref ra), .val (.int (1 : Int32)), .val (.long (((0 : Int64) + (fj 0)) + (fj 1))), .second, .val (.int (1 : Int32))]) rfl ?_
    show Steps p.tables e below (T3.setTop (mkF m 21 #[.val (.ref ra), .val (.int (1 : Int32)), .val (.long (((0 : Int64) + (fj 0)) + (fj 1))), .second, .val (.int (1 : Int32))] [])) _
    refine XS.iinc X3.here hx rfl (hb hby d4_21) rfl (l' := #[.val (.ref ra), .val (.int (1 : Int32)), .val (.long (((0 : Int64) + (fj 0)) + (fj 1))), .second, .val (.int (2 : Int32))]) rfl ?_
    show Steps p.tables e below (T3.setTop (mkF m 24 #[.val (.ref ra), .val (.int (1 : Int32)), .val (.long (((0 : Int64) + (fj 0)) + (fj 1))), .second, .val (.int (2 : Int32))] [])) _
    refine XS.goto X3.here hx rfl (pc0 := 24) (pc' := 5) rfl (hb hby d4_24) (by decide) (by decide) ?_
    show Steps p.tables e below (T3.setTop (mkF m 5 #[.val (.ref ra), .val (.int (1 : Int32)), .val (.long (((0 : Int64) + (fj 0)) + (fj 1))), .second, .val (.int (2 : Int32))] [])) _
    refine XS.iload X3.here hx rfl (hb hby d4_5) rfl ?_
    show Steps p.tables e below (T3.setTop (mkF m 7 #[.val (.ref ra), .val (.int (1 : Int32)), .val (.long (((0 : Int64) + (fj 0)) + (fj 1))), .second, .val (.int (2 : Int32))] [(.int (2 : Int32))])) _
    refine XS.iloadN X3.here hx rfl (hb hby d4_7) rfl ?_
    show Steps p.tables e below (T3.setTop (mkF m 8 #[.val (.ref ra), .val (.int (1 : Int32)), .val (.long (((0 : Int64) + (fj 0)) + (fj 1))), .second, .val (.int (2 : Int32))] [(.int (1 : Int32)), (.int (2 : Int32))])) _
    refine XS.icmpYes X3.here hx rfl (pc0 := 8) (pc' := 27) rfl (hb hby d4_8) rfl (tlt (by decide : ((1 : Int32) < (2 : Int32)))).2.2.1 (by decide) (by decide) ?_
    show Steps p.tables e below (T3.setTop (mkF m 27 #[.val (.ref ra), .val (.int (1 : Int32)), .val (.long (((0 : Int64) + (fj 0)) + (fj 1))), .second, .val (.int (2 : Int32))] [])) _
    refine XS.lloadN X3.here hx rfl (hb hby d4_27) rfl ?_
    show Steps p.tables e below (T3.setTop (mkF m 28 #[.val (.ref ra), .val (.int (1 : Int32)), .val (.long (((0 : Int64) + (fj 0)) + (fj 1))), .second, .val (.int (2 : Int32))] [(.long (((0 : Int64) + (fj 0)) + (fj 1)))])) _
    exact retOut X3 hx Bd.returns rfl (Or.inr (Or.inl ⟨rfl, rfl, _, rfl⟩)) (hb hby d4_28) hr
  · show Q4k1 Z ra rj fj h0 n0 _ T3.heap _
    rw [e3]
    exact ⟨rfl, N0, rfl⟩
theorem ef_4k2 (m : MethodId) (ra : Addr) : entryFrame m #[(.ref ra), (.int (2 : Int32))] 5 = mkF m 0 #[.val (.ref ra), .val (.int (2 : Int32)), .unset, .unset, .unset] [] := by first | (simp [entryFrame, mkF, argsToLocals, Value.category]; done) | rfl
def Q4k2 (Z : State) (ra : Addr) (rj : Addr) (fj : Nat → Int64) (h0 : Heap) (n0 : Nat) (v : Option Value) (h : Heap) (L : List Loc) : Prop := v = some (.long ((((0 : Int64) + (fj 0)) + (fj 1)) + (fj 2))) ∧ Fr n0 L ∧ h = h0
set_option maxRecDepth 65536 in
set_option maxHeartbeats 40000000 in
theorem rm4k2 (l : Launch) (Z : State) (a0 : Array Value) (hw : ∀ d ∈ tables_1, d.before a0 Z = true) (ws : List Jvm.Cond) (ra : Addr) (rj : Addr) (fj : Nat → Int64) (h0 : Heap) (n0 : Nat) (Z0 : n0 ≤ h0.size) (F_buckets_ra : Fld Z h0 ra "com/example/hikyaku/hikyaku/store/Histogram$Counts" "buckets" "[J" (.ref rj)) (A_rj : AJ Z h0 rj .long 4 fj) :
    MetFree l (⟨"com/example/hikyaku/hikyaku/store/Histogram$Counts", "atMost", "(I)J"⟩ : MethodName) (head1 (Jvm.Cond.code (⟨"com/example/hikyaku/hikyaku/store/Histogram$Counts", "atMost", "(I)J"⟩ : MethodName) prog_81_method_2_code 5 (some .long) :: ws) ({ frames := 0, cells := 0, slots := 0, locals := 0 } : Room)) (fun a U => a = #[(.ref ra), (.int (2 : Int32))] ∧ Z.Warmed39 U.vm ∧ U.heap = h0) (fun _ _ _ _ _ => True) (fun _ U o U' => ∃ v L, o = .returned v ∧ Q4k2 Z ra rj fj h0 n0 v U'.heap L ∧ FrameEnd U o U' L ({ frames := 0, cells := 0, slots := 0, locals := 0 } : Room).cells ({ frames := 0, cells := 0, slots := 0, locals := 0 } : Room).slots) := by
  refine MetFree.of_bodySF (plainFor_of_name pn_com_example_hikyaku_hikyaku_store_Histogram_Counts) hisR ?_
  intro p e s m args below meth c s₁ Bd hml0 hP hK
  obtain ⟨rfl, hZ, hh⟩ := hP
  have hx := Bd.exec
  have hby := Bd.bytes
  have hml : c.maxLocals = 5 := hml0
  have hown : s.vm.findClass "com/example/hikyaku/hikyaku/store/Histogram$Counts" = some m.cls := findClass_of_methodNamed Bd.named
  have hnm := (name_of_methodNamed Bd.named Bd.method).1
  have X0 : Stand p l e ({ frames := 0, cells := 0, slots := 0, locals := 0 } : Room) s m #[(.ref ra), (.int (2 : Int32))] below meth c s₁ [] 0 0 := Stand.of_body Bd
  have e0 : s₁.heap = h0 := by rw [← hh, Bd.state]; rfl
  have N0 := Fr.nil n0
  have K0 : Keep h0 h0 [] := Keep.refl h0 _
  have pre0 : ∀ t, Steps p.tables e below (s₁.setTop (mkF m 0 #[.val (.ref ra), .val (.int (2 : Int32)), .unset, .unset, .unset] [])) t → Steps p.tables e below (s₁.setTop (entryFrame m #[(.ref ra), (.int (2 : Int32))] 5)) t := fun t k => castTop (ef_4k2 m ra) k
  obtain ⟨T1, X1, e1, st1⟩ := getF X0 hx hZ hown (host := "") (Or.inl (hw _ (List.mem_of_getElem? (i := 21) rfl))) Via.refl e0 F_buckets_ra (g := (mkF m 13 #[.val (.ref ra), .val (.int (2 : Int32)), .val (.long (0 : Int64)), .second, .val (.int (0 : Int32))] [(.ref ra), (.long (0 : Int64))])) rfl rfl (hb hby d4_13)
  obtain ⟨cl2, Arcl2, hincl2, hatcl2⟩ := AF.at A_rj (j := (0 : Int32)) 0 (by decide) (by decide)
  obtain ⟨T3, X3, e3, st3⟩ := getF X1 hx hZ hown (host := "") (Or.inl (hw _ (List.mem_of_getElem? (i := 21) rfl))) Via.refl e1 F_buckets_ra (g := (mkF m 13 #[.val (.ref ra), .val (.int (2 : Int32)), .val (.long ((0 : Int64) + (fj 0))), .second, .val (.int (1 : Int32))] [(.ref ra), (.long ((0 : Int64) + (fj 0)))])) rfl rfl (hb hby d4_13)
  obtain ⟨cl4, Arcl4, hincl4, hatcl4⟩ := AF.at A_rj (j := (1 : Int32)) 1 (by decide) (by decide)
  obtain ⟨T5, X5, e5, st5⟩ := getF X3 hx hZ hown (host := "") (Or.inl (hw _ (List.mem_of_getElem? (i := 21) rfl))) Via.refl e3 F_buckets_ra (g := (mkF m 13 #[.val (.ref ra), .val (.int (2 : Int32)), .val (.long (((0 : Int64) + (fj 0)) + (fj 1))), .second, .val (.int (2 : Int32))] [(.ref ra), (.long (((0 : Int64) + (fj 0)) + (fj 1)))])) rfl rfl (hb hby d4_13)
  obtain ⟨cl6, Arcl6, hincl6, hatcl6⟩ := AF.at A_rj (j := (2 : Int32)) 2 (by decide) (by decide)
  obtain ⟨fs, hr, hrun, hended, hW, hsame⟩ := X5.leave (v := some (.long ((((0 : Int64) + (fj 0)) + (fj 1)) + (fj 2)))) (fun h => by rw [Bd.returns] at h; cases h)
  refine ⟨_, _, pre0 _ ?_, hrun, hended, _, _, rfl, ?_, ⟨_, rfl⟩, hW, hsame.mono (by decide) (by decide)⟩
  · show Steps p.tables e below (s₁.setTop (mkF m 0 #[.val (.ref ra), .val (.int (2 : Int32)), .unset, .unset, .unset] [])) _
    refine XS.lconst X0.here hx rfl (hb hby d4_0) ?_
    show Steps p.tables e below (s₁.setTop (mkF m 1 #[.val (.ref ra), .val (.int (2 : Int32)), .unset, .unset, .unset] [(.long (0 : Int64))])) _
    refine XS.lstoreN X0.here hx rfl (hb hby d4_1) rfl (l' := #[.val (.ref ra), .val (.int (2 : Int32)), .val (.long (0 : Int64)), .second, .unset]) rfl ?_
    show Steps p.tables e below (s₁.setTop (mkF m 2 #[.val (.ref ra), .val (.int (2 : Int32)), .val (.long (0 : Int64)), .second, .unset] [])) _
    refine XS.iconst X0.here hx rfl (hb hby d4_2) ?_
    show Steps p.tables e below (s₁.setTop (mkF m 3 #[.val (.ref ra), .val (.int (2 : Int32)), .val (.long (0 : Int64)), .second, .unset] [(.int (0 : Int32))])) _
    refine XS.istore X0.here hx rfl (hb hby d4_3) rfl (l' := #[.val (.ref ra), .val (.int (2 : Int32)), .val (.long (0 : Int64)), .second, .val (.int (0 : Int32))]) rfl ?_
    show Steps p.tables e below (s₁.setTop (mkF m 5 #[.val (.ref ra), .val (.int (2 : Int32)), .val (.long (0 : Int64)), .second, .val (.int (0 : Int32))] [])) _
    refine XS.iload X0.here hx rfl (hb hby d4_5) rfl ?_
    show Steps p.tables e below (s₁.setTop (mkF m 7 #[.val (.ref ra), .val (.int (2 : Int32)), .val (.long (0 : Int64)), .second, .val (.int (0 : Int32))] [(.int (0 : Int32))])) _
    refine XS.iloadN X0.here hx rfl (hb hby d4_7) rfl ?_
    show Steps p.tables e below (s₁.setTop (mkF m 8 #[.val (.ref ra), .val (.int (2 : Int32)), .val (.long (0 : Int64)), .second, .val (.int (0 : Int32))] [(.int (2 : Int32)), (.int (0 : Int32))])) _
    refine XS.icmpNo X0.here hx rfl (hb hby d4_8) rfl (flt (by decide : ¬ ((2 : Int32) < (0 : Int32)))).2.2.1 ?_
    show Steps p.tables e below (s₁.setTop (mkF m 11 #[.val (.ref ra), .val (.int (2 : Int32)), .val (.long (0 : Int64)), .second, .val (.int (0 : Int32))] [])) _
    refine XS.lloadN X0.here hx rfl (hb hby d4_11) rfl ?_
    show Steps p.tables e below (s₁.setTop (mkF m 12 #[.val (.ref ra), .val (.int (2 : Int32)), .val (.long (0 : Int64)), .second, .val (.int (0 : Int32))] [(.long (0 : Int64))])) _
    refine XS.aloadN X0.here hx rfl (hb hby d4_12) rfl rfl ?_
    show Steps p.tables e below (s₁.setTop (mkF m 13 #[.val (.ref ra), .val (.int (2 : Int32)), .val (.long (0 : Int64)), .second, .val (.int (0 : Int32))] [(.ref ra), (.long (0 : Int64))])) _
    refine st1 _ ?_
    show Steps p.tables e below (T1.setTop (mkF m 16 #[.val (.ref ra), .val (.int (2 : Int32)), .val (.long (0 : Int64)), .second, .val (.int (0 : Int32))] [(.ref rj), (.long (0 : Int64))])) _
    refine XS.iload X1.here hx rfl (hb hby d4_16) rfl ?_
    show Steps p.tables e below (T1.setTop (mkF m 18 #[.val (.ref ra), .val (.int (2 : Int32)), .val (.long (0 : Int64)), .second, .val (.int (0 : Int32))] [(.int (0 : Int32)), (.ref rj), (.long (0 : Int64))])) _
    refine X1.laload hx (j := (0 : Int32)) (v := (.long (fj 0))) (by rw [e1]; exact Arcl2.1) (State.isArrayOf_alike hZ.alike Arcl2.2.1) Arcl2.2.2 hincl2 hatcl2 (g := (mkF m 18 #[.val (.ref ra), .val (.int (2 : Int32)), .val (.long (0 : Int64)), .second, .val (.int (0 : Int32))] [(.int (0 : Int32)), (.ref rj), (.long (0 : Int64))])) rfl rfl (hb hby d4_18) _ ?_
    show Steps p.tables e below (T1.setTop (mkF m 19 #[.val (.ref ra), .val (.int (2 : Int32)), .val (.long (0 : Int64)), .second, .val (.int (0 : Int32))] [(.long (fj 0)), (.long (0 : Int64))])) _
    refine XS.ladd X1.here hx rfl (hb hby d4_19) rfl ?_
    show Steps p.tables e below (T1.setTop (mkF m 20 #[.val (.ref ra), .val (.int (2 : Int32)), .val (.long (0 : Int64)), .second, .val (.int (0 : Int32))] [(.long ((0 : Int64) + (fj 0)))])) _
    refine XS.lstoreN X1.here hx rfl (hb hby d4_20) rfl (l' := #[.val (.ref ra), .val (.int (2 : Int32)), .val (.long ((0 : Int64) + (fj 0))), .second, .val (.int (0 : Int32))]) rfl ?_
    show Steps p.tables e below (T1.setTop (mkF m 21 #[.val (.ref ra), .val (.int (2 : Int32)), .val (.long ((0 : Int64) + (fj 0))), .second, .val (.int (0 : Int32))] [])) _
    refine XS.iinc X1.here hx rfl (hb hby d4_21) rfl (l' := #[.val (.ref ra), .val (.int (2 : Int32)), .val (.long ((0 : Int64) + (fj 0))), .second, .val (.int (1 : Int32))]) rfl ?_
    show Steps p.tables e below (T1.setTop (mkF m 24 #[.val (.ref ra), .val (.int (2 : Int32)), .val (.long ((0 : Int64) + (fj 0))), .second, .val (.int (1 : Int32))] [])) _
    refine XS.goto X1.here hx rfl (pc0 := 24) (pc' := 5) rfl (hb hby d4_24) (by decide) (by decide) ?_
    show Steps p.tables e below (T1.setTop (mkF m 5 #[.val (.ref ra), .val (.int (2 : Int32)), .val (.long ((0 : Int64) + (fj 0))), .second, .val (.int (1 : Int32))] [])) _
    refine XS.iload X1.here hx rfl (hb hby d4_5) rfl ?_
    show Steps p.tables e below (T1.setTop (mkF m 7 #[.val (.ref ra), .val (.int (2 : Int32)), .val (.long ((0 : Int64) + (fj 0))), .second, .val (.int (1 : Int32))] [(.int (1 : Int32))])) _
    refine XS.iloadN X1.here hx rfl (hb hby d4_7) rfl ?_
    show Steps p.tables e below (T1.setTop (mkF m 8 #[.val (.ref ra), .val (.int (2 : Int32)), .val (.long ((0 : Int64) + (fj 0))), .second, .val (.int (1 : Int32))] [(.int (2 : Int32)), (.int (1 : Int32))])) _
    refine XS.icmpNo X1.here hx rfl (hb hby d4_8) rfl (flt (by decide : ¬ ((2 : Int32) < (1 : Int32)))).2.2.1 ?_
    show Steps p.tables e below (T1.setTop (mkF m 11 #[.val (.ref ra), .val (.int (2 : Int32)), .val (.long ((0 : Int64) + (fj 0))), .second, .val (.int (1 : Int32))] [])) _
    refine XS.lloadN X1.here hx rfl (hb hby d4_11) rfl ?_
    show Steps p.tables e below (T1.setTop (mkF m 12 #[.val (.ref ra), .val (.int (2 : Int32)), .val (.long ((0 : Int64) + (fj 0))), .second, .val (.int (1 : Int32))] [(.long ((0 : Int64) + (fj 0)))])) _
    refine XS.aloadN X1.here hx rfl (hb hby d4_12) rfl rfl ?_
    show Steps p.tables e below (T1.setTop (mkF m 13 #[.val (.ref ra), .val (.int (2 : Int32)), .val (.long ((0 : Int64) + (fj 0))), .second, .val (.int (1 : Int32))] [(.ref ra), (.long ((0 : Int64) + (fj 0)))])) _
    refine st3 _ ?_
    show Steps p.tables e below (T3.setTop (mkF m 16 #[.val (.ref ra), .val (.int (2 : Int32)), .val (.long ((0 : Int64) + (fj 0))), .second, .val (.int (1 : Int32))] [(.ref rj), (.long ((0 : Int64) + (fj 0)))])) _
    refine XS.iload X3.here hx rfl (hb hby d4_16) rfl ?_
    show Steps p.tables e below (T3.setTop (mkF m 18 #[.val (.ref ra), .val (.int (2 : Int32)), .val (.long ((0 : Int64) + (fj 0))), .second, .val (.int (1 : Int32))] [(.int (1 : Int32)), (.ref rj), (.long ((0 : Int64) + (fj 0)))])) _
    refine X3.laload hx (j := (1 : Int32)) (v := (.long (fj 1))) (by rw [e3]; exact Arcl4.1) (State.isArrayOf_alike hZ.alike Arcl4.2.1) Arcl4.2.2 hincl4 hatcl4 (g := (mkF m 18 #[.val (.ref ra), .val (.int (2 : Int32)), .val (.long ((0 : Int64) + (fj 0))), .second, .val (.int (1 : Int32))] [(.int (1 : Int32)), (.ref rj), (.long ((0 : Int64) + (fj 0)))])) rfl rfl (hb hby d4_18) _ ?_
    show Steps p.tables e below (T3.setTop (mkF m 19 #[.val (.ref ra), .val (.int (2 : Int32)), .val (.long ((0 : Int64) + (fj 0))), .second, .val (.int (1 : Int32))] [(.long (fj 1)), (.long ((0 : Int64) + (fj 0)))])) _
    refine XS.ladd X3.here hx rfl (hb hby d4_19) rfl ?_
    show Steps p.tables e below (T3.setTop (mkF m 20 #[.val (.ref ra), .val (.int (2 : Int32)), .val (.long ((0 : Int64) + (fj 0))), .second, .val (.int (1 : Int32))] [(.long (((0 : Int64) + (fj 0)) + (fj 1)))])) _
    refine XS.lstoreN X3.here hx rfl (hb hby d4_20) rfl (l' := #[.val (.ref ra), .val (.int (2 : Int32)), .val (.long (((0 : Int64) + (fj 0)) + (fj 1))), .second, .val (.int (1 : Int32))]) rfl ?_
    show Steps p.tables e below (T3.setTop (mkF m 21 #[.val (.ref ra), .val (.int (2 : Int32)), .val (.long (((0 : Int64) + (fj 0)) + (fj 1))), .second, .val (.int (1 : Int32))] [])) _
    refine XS.iinc X3.here hx rfl (hb hby d4_21) rfl (l' := #[.val (.ref ra), .val (.int (2 : Int32)), .val (.long (((0 : Int64) + (fj 0)) + (fj 1))), .second, .val (.int (2 : Int32))]) rfl ?_
    show Steps p.tables e below (T3.setTop (mkF m 24 #[.val (.ref ra), .val (.int (2 : Int32)), .val (.long (((0 : Int64) + (fj 0)) + (fj 1))), .second, .val (.int (2 : Int32))] [])) _
    refine XS.goto X3.here hx rfl (pc0 := 24) (pc' := 5) rfl (hb hby d4_24) (by decide) (by decide) ?_
    show Steps p.tables e below (T3.setTop (mkF m 5 #[.val (.ref ra), .val (.int (2 : Int32)), .val (.long (((0 : Int64) + (fj 0)) + (fj 1))), .second, .val (.int (2 : Int32))] [])) _
    refine XS.iload X3.here hx rfl (hb hby d4_5) rfl ?_
    show Steps p.tables e below (T3.setTop (mkF m 7 #[.val (.ref ra), .val (.int (2 : Int32)), .val (.long (((0 : Int64) + (fj 0)) + (fj 1))), .second, .val (.int (2 : Int32))] [(.int (2 : Int32))])) _
    refine XS.iloadN X3.here hx rfl (hb hby d4_7) rfl ?_
    show Steps p.tables e below (T3.setTop (mkF m 8 #[.val (.ref ra), .val (.int (2 : Int32)), .val (.long (((0 : Int64) + (fj 0)) + (fj 1))), .second, .val (.int (2 : Int32))] [(.int (2 : Int32)), (.int (2 : Int32))])) _
    refine XS.icmpNo X3.here hx rfl (hb hby d4_8) rfl (flt (by decide : ¬ ((2 : Int32) < (2 : Int32)))).2.2.1 ?_
    show Steps p.tables e below (T3.setTop (mkF m 11 #[.val (.ref ra), .val (.int (2 : Int32)), .val (.long (((0 : Int64) + (fj 0)) + (fj 1))), .second, .val (.int (2 : Int32))] [])) _
    refine XS.lloadN X3.here hx rfl (hb hby d4_11) rfl ?_
    show Steps p.tables e below (T3.setTop (mkF m 12 #[.val (.ref ra), .val (.int (2 : Int32)), .val (.long (((0 : Int64) + (fj 0)) + (fj 1))), .second, .val (.int (2 : Int32))] [(.long (((0 : Int64) + (fj 0)) + (fj 1)))])) _
    refine XS.aloadN X3.here hx rfl (hb hby d4_12) rfl rfl ?_
    show Steps p.tables e below (T3.setTop (mkF m 13 #[.val (.ref ra), .val (.int (2 : Int32)), .val (.long (((0 : Int64) + (fj 0)) + (fj 1))), .second, .val (.int (2 : Int32))] [(.ref ra), (.long (((0 : Int64) + (fj 0)) + (fj 1)))])) _
    refine st5 _ ?_
    show Steps p.tables e below (T5.setTop (mkF m 16 #[.val (.ref ra), .val (.int (2 : Int32)), .val (.long (((0 : Int64) + (fj 0)) + (fj 1))), .second, .val (.int (2 : Int32))] [(.ref rj), (.long (((0 : Int64) + (fj 0)) + (fj 1)))])) _
    refine XS.iload X5.here hx rfl (hb hby d4_16) rfl ?_
    show Steps p.tables e below (T5.setTop (mkF m 18 #[.val (.ref ra), .val (.int (2 : Int32)), .val (.long (((0 : Int64) + (fj 0)) + (fj 1))), .second, .val (.int (2 : Int32))] [(.int (2 : Int32)), (.ref rj), (.long (((0 : Int64) + (fj 0)) + (fj 1)))])) _
    refine X5.laload hx (j := (2 : Int32)) (v := (.long (fj 2))) (by rw [e5]; exact Arcl6.1) (State.isArrayOf_alike hZ.alike Arcl6.2.1) Arcl6.2.2 hincl6 hatcl6 (g := (mkF m 18 #[.val (.ref ra), .val (.int (2 : Int32)), .val (.long (((0 : Int64) + (fj 0)) + (fj 1))), .second, .val (.int (2 : Int32))] [(.int (2 : Int32)), (.ref rj), (.long (((0 : Int64) + (fj 0)) + (fj 1)))])) rfl rfl (hb hby d4_18) _ ?_
    show Steps p.tables e below (T5.setTop (mkF m 19 #[.val (.ref ra), .val (.int (2 : Int32)), .val (.long (((0 : Int64) + (fj 0)) + (fj 1))), .second, .val (.int (2 : Int32))] [(.long (fj 2)), (.long (((0 : Int64) + (fj 0)) + (fj 1)))])) _
    refine XS.ladd X5.here hx rfl (hb hby d4_19) rfl ?_
    show Steps p.tables e below (T5.setTop (mkF m 20 #[.val (.ref ra), .val (.int (2 : Int32)), .val (.long (((0 : Int64) + (fj 0)) + (fj 1))), .second, .val (.int (2 : Int32))] [(.long ((((0 : Int64) + (fj 0)) + (fj 1)) + (fj 2)))])) _
    refine XS.lstoreN X5.here hx rfl (hb hby d4_20) rfl (l' := #[.val (.ref ra), .val (.int (2 : Int32)), .val (.long ((((0 : Int64) + (fj 0)) + (fj 1)) + (fj 2))), .second, .val (.int (2 : Int32))]) rfl ?_
    show Steps p.tables e below (T5.setTop (mkF m 21 #[.val (.ref ra), .val (.int (2 : Int32)), .val (.long ((((0 : Int64) + (fj 0)) + (fj 1)) + (fj 2))), .second, .val (.int (2 : Int32))] [])) _
    refine XS.iinc X5.here hx rfl (hb hby d4_21) rfl (l' := #[.val (.ref ra), .val (.int (2 : Int32)), .val (.long ((((0 : Int64) + (fj 0)) + (fj 1)) + (fj 2))), .second, .val (.int (3 : Int32))]) rfl ?_
    show Steps p.tables e below (T5.setTop (mkF m 24 #[.val (.ref ra), .val (.int (2 : Int32)), .val (.long ((((0 : Int64) + (fj 0)) + (fj 1)) + (fj 2))), .second, .val (.int (3 : Int32))] [])) _
    refine XS.goto X5.here hx rfl (pc0 := 24) (pc' := 5) rfl (hb hby d4_24) (by decide) (by decide) ?_
    show Steps p.tables e below (T5.setTop (mkF m 5 #[.val (.ref ra), .val (.int (2 : Int32)), .val (.long ((((0 : Int64) + (fj 0)) + (fj 1)) + (fj 2))), .second, .val (.int (3 : Int32))] [])) _
    refine XS.iload X5.here hx rfl (hb hby d4_5) rfl ?_
    show Steps p.tables e below (T5.setTop (mkF m 7 #[.val (.ref ra), .val (.int (2 : Int32)), .val (.long ((((0 : Int64) + (fj 0)) + (fj 1)) + (fj 2))), .second, .val (.int (3 : Int32))] [(.int (3 : Int32))])) _
    refine XS.iloadN X5.here hx rfl (hb hby d4_7) rfl ?_
    show Steps p.tables e below (T5.setTop (mkF m 8 #[.val (.ref ra), .val (.int (2 : Int32)), .val (.long ((((0 : Int64) + (fj 0)) + (fj 1)) + (fj 2))), .second, .val (.int (3 : Int32))] [(.int (2 : Int32)), (.int (3 : Int32))])) _
    refine XS.icmpYes X5.here hx rfl (pc0 := 8) (pc' := 27) rfl (hb hby d4_8) rfl (tlt (by decide : ((2 : Int32) < (3 : Int32)))).2.2.1 (by decide) (by decide) ?_
    show Steps p.tables e below (T5.setTop (mkF m 27 #[.val (.ref ra), .val (.int (2 : Int32)), .val (.long ((((0 : Int64) + (fj 0)) + (fj 1)) + (fj 2))), .second, .val (.int (3 : Int32))] [])) _
    refine XS.lloadN X5.here hx rfl (hb hby d4_27) rfl ?_
    show Steps p.tables e below (T5.setTop (mkF m 28 #[.val (.ref ra), .val (.int (2 : Int32)), .val (.long ((((0 : Int64) + (fj 0)) + (fj 1)) + (fj 2))), .second, .val (.int (3 : Int32))] [(.long ((((0 : Int64) + (fj 0)) + (fj 1)) + (fj 2)))])) _
    exact retOut X5 hx Bd.returns rfl (Or.inr (Or.inl ⟨rfl, rfl, _, rfl⟩)) (hb hby d4_28) hr
  · show Q4k2 Z ra rj fj h0 n0 _ T5.heap _
    rw [e5]
    exact ⟨rfl, N0, rfl⟩
theorem ef_4k3 (m : MethodId) (ra : Addr) : entryFrame m #[(.ref ra), (.int (3 : Int32))] 5 = mkF m 0 #[.val (.ref ra), .val (.int (3 : Int32)), .unset, .unset, .unset] [] := by first | (simp [entryFrame, mkF, argsToLocals, Value.category]; done) | rfl
def Q4k3 (Z : State) (ra : Addr) (rj : Addr) (fj : Nat → Int64) (h0 : Heap) (n0 : Nat) (v : Option Value) (h : Heap) (L : List Loc) : Prop := v = some (.long (((((0 : Int64) + (fj 0)) + (fj 1)) + (fj 2)) + (fj 3))) ∧ Fr n0 L ∧ h = h0
set_option maxRecDepth 65536 in
set_option maxHeartbeats 40000000 in
theorem rm4k3 (l : Launch) (Z : State) (a0 : Array Value) (hw : ∀ d ∈ tables_1, d.before a0 Z = true) (ws : List Jvm.Cond) (ra : Addr) (rj : Addr) (fj : Nat → Int64) (h0 : Heap) (n0 : Nat) (Z0 : n0 ≤ h0.size) (F_buckets_ra : Fld Z h0 ra "com/example/hikyaku/hikyaku/store/Histogram$Counts" "buckets" "[J" (.ref rj)) (A_rj : AJ Z h0 rj .long 4 fj) :
    MetFree l (⟨"com/example/hikyaku/hikyaku/store/Histogram$Counts", "atMost", "(I)J"⟩ : MethodName) (head1 (Jvm.Cond.code (⟨"com/example/hikyaku/hikyaku/store/Histogram$Counts", "atMost", "(I)J"⟩ : MethodName) prog_81_method_2_code 5 (some .long) :: ws) ({ frames := 0, cells := 0, slots := 0, locals := 0 } : Room)) (fun a U => a = #[(.ref ra), (.int (3 : Int32))] ∧ Z.Warmed39 U.vm ∧ U.heap = h0) (fun _ _ _ _ _ => True) (fun _ U o U' => ∃ v L, o = .returned v ∧ Q4k3 Z ra rj fj h0 n0 v U'.heap L ∧ FrameEnd U o U' L ({ frames := 0, cells := 0, slots := 0, locals := 0 } : Room).cells ({ frames := 0, cells := 0, slots := 0, locals := 0 } : Room).slots) := by
  refine MetFree.of_bodySF (plainFor_of_name pn_com_example_hikyaku_hikyaku_store_Histogram_Counts) hisR ?_
  intro p e s m args below meth c s₁ Bd hml0 hP hK
  obtain ⟨rfl, hZ, hh⟩ := hP
  have hx := Bd.exec
  have hby := Bd.bytes
  have hml : c.maxLocals = 5 := hml0
  have hown : s.vm.findClass "com/example/hikyaku/hikyaku/store/Histogram$Counts" = some m.cls := findClass_of_methodNamed Bd.named
  have hnm := (name_of_methodNamed Bd.named Bd.method).1
  have X0 : Stand p l e ({ frames := 0, cells := 0, slots := 0, locals := 0 } : Room) s m #[(.ref ra), (.int (3 : Int32))] below meth c s₁ [] 0 0 := Stand.of_body Bd
  have e0 : s₁.heap = h0 := by rw [← hh, Bd.state]; rfl
  have N0 := Fr.nil n0
  have K0 : Keep h0 h0 [] := Keep.refl h0 _
  have pre0 : ∀ t, Steps p.tables e below (s₁.setTop (mkF m 0 #[.val (.ref ra), .val (.int (3 : Int32)), .unset, .unset, .unset] [])) t → Steps p.tables e below (s₁.setTop (entryFrame m #[(.ref ra), (.int (3 : Int32))] 5)) t := fun t k => castTop (ef_4k3 m ra) k
  obtain ⟨T1, X1, e1, st1⟩ := getF X0 hx hZ hown (host := "") (Or.inl (hw _ (List.mem_of_getElem? (i := 21) rfl))) Via.refl e0 F_buckets_ra (g := (mkF m 13 #[.val (.ref ra), .val (.int (3 : Int32)), .val (.long (0 : Int64)), .second, .val (.int (0 : Int32))] [(.ref ra), (.long (0 : Int64))])) rfl rfl (hb hby d4_13)
  obtain ⟨cl2, Arcl2, hincl2, hatcl2⟩ := AF.at A_rj (j := (0 : Int32)) 0 (by decide) (by decide)
  obtain ⟨T3, X3, e3, st3⟩ := getF X1 hx hZ hown (host := "") (Or.inl (hw _ (List.mem_of_getElem? (i := 21) rfl))) Via.refl e1 F_buckets_ra (g := (mkF m 13 #[.val (.ref ra), .val (.int (3 : Int32)), .val (.long ((0 : Int64) + (fj 0))), .second, .val (.int (1 : Int32))] [(.ref ra), (.long ((0 : Int64) + (fj 0)))])) rfl rfl (hb hby d4_13)
  obtain ⟨cl4, Arcl4, hincl4, hatcl4⟩ := AF.at A_rj (j := (1 : Int32)) 1 (by decide) (by decide)
  obtain ⟨T5, X5, e5, st5⟩ := getF X3 hx hZ hown (host := "") (Or.inl (hw _ (List.mem_of_getElem? (i := 21) rfl))) Via.refl e3 F_buckets_ra (g := (mkF m 13 #[.val (.ref ra), .val (.int (3 : Int32)), .val (.long (((0 : Int64) + (fj 0)) + (fj 1))), .second, .val (.int (2 : Int32))] [(.ref ra), (.long (((0 : Int64) + (fj 0)) + (fj 1)))])) rfl rfl (hb hby d4_13)
  obtain ⟨cl6, Arcl6, hincl6, hatcl6⟩ := AF.at A_rj (j := (2 : Int32)) 2 (by decide) (by decide)
  obtain ⟨T7, X7, e7, st7⟩ := getF X5 hx hZ hown (host := "") (Or.inl (hw _ (List.mem_of_getElem? (i := 21) rfl))) Via.refl e5 F_buckets_ra (g := (mkF m 13 #[.val (.ref ra), .val (.int (3 : Int32)), .val (.long ((((0 : Int64) + (fj 0)) + (fj 1)) + (fj 2))), .second, .val (.int (3 : Int32))] [(.ref ra), (.long ((((0 : Int64) + (fj 0)) + (fj 1)) + (fj 2)))])) rfl rfl (hb hby d4_13)
  obtain ⟨cl8, Arcl8, hincl8, hatcl8⟩ := AF.at A_rj (j := (3 : Int32)) 3 (by decide) (by decide)
  obtain ⟨fs, hr, hrun, hended, hW, hsame⟩ := X7.leave (v := some (.long (((((0 : Int64) + (fj 0)) + (fj 1)) + (fj 2)) + (fj 3)))) (fun h => by rw [Bd.returns] at h; cases h)
  refine ⟨_, _, pre0 _ ?_, hrun, hended, _, _, rfl, ?_, ⟨_, rfl⟩, hW, hsame.mono (by decide) (by decide)⟩
  · show Steps p.tables e below (s₁.setTop (mkF m 0 #[.val (.ref ra), .val (.int (3 : Int32)), .unset, .unset, .unset] [])) _
    refine XS.lconst X0.here hx rfl (hb hby d4_0) ?_
    show Steps p.tables e below (s₁.setTop (mkF m 1 #[.val (.ref ra), .val (.int (3 : Int32)), .unset, .unset, .unset] [(.long (0 : Int64))])) _
    refine XS.lstoreN X0.here hx rfl (hb hby d4_1) rfl (l' := #[.val (.ref ra), .val (.int (3 : Int32)), .val (.long (0 : Int64)), .second, .unset]) rfl ?_
    show Steps p.tables e below (s₁.setTop (mkF m 2 #[.val (.ref ra), .val (.int (3 : Int32)), .val (.long (0 : Int64)), .second, .unset] [])) _
    refine XS.iconst X0.here hx rfl (hb hby d4_2) ?_
    show Steps p.tables e below (s₁.setTop (mkF m 3 #[.val (.ref ra), .val (.int (3 : Int32)), .val (.long (0 : Int64)), .second, .unset] [(.int (0 : Int32))])) _
    refine XS.istore X0.here hx rfl (hb hby d4_3) rfl (l' := #[.val (.ref ra), .val (.int (3 : Int32)), .val (.long (0 : Int64)), .second, .val (.int (0 : Int32))]) rfl ?_
    show Steps p.tables e below (s₁.setTop (mkF m 5 #[.val (.ref ra), .val (.int (3 : Int32)), .val (.long (0 : Int64)), .second, .val (.int (0 : Int32))] [])) _
    refine XS.iload X0.here hx rfl (hb hby d4_5) rfl ?_
    show Steps p.tables e below (s₁.setTop (mkF m 7 #[.val (.ref ra), .val (.int (3 : Int32)), .val (.long (0 : Int64)), .second, .val (.int (0 : Int32))] [(.int (0 : Int32))])) _
    refine XS.iloadN X0.here hx rfl (hb hby d4_7) rfl ?_
    show Steps p.tables e below (s₁.setTop (mkF m 8 #[.val (.ref ra), .val (.int (3 : Int32)), .val (.long (0 : Int64)), .second, .val (.int (0 : Int32))] [(.int (3 : Int32)), (.int (0 : Int32))])) _
    refine XS.icmpNo X0.here hx rfl (hb hby d4_8) rfl (flt (by decide : ¬ ((3 : Int32) < (0 : Int32)))).2.2.1 ?_
    show Steps p.tables e below (s₁.setTop (mkF m 11 #[.val (.ref ra), .val (.int (3 : Int32)), .val (.long (0 : Int64)), .second, .val (.int (0 : Int32))] [])) _
    refine XS.lloadN X0.here hx rfl (hb hby d4_11) rfl ?_
    show Steps p.tables e below (s₁.setTop (mkF m 12 #[.val (.ref ra), .val (.int (3 : Int32)), .val (.long (0 : Int64)), .second, .val (.int (0 : Int32))] [(.long (0 : Int64))])) _
    refine XS.aloadN X0.here hx rfl (hb hby d4_12) rfl rfl ?_
    show Steps p.tables e below (s₁.setTop (mkF m 13 #[.val (.ref ra), .val (.int (3 : Int32)), .val (.long (0 : Int64)), .second, .val (.int (0 : Int32))] [(.ref ra), (.long (0 : Int64))])) _
    refine st1 _ ?_
    show Steps p.tables e below (T1.setTop (mkF m 16 #[.val (.ref ra), .val (.int (3 : Int32)), .val (.long (0 : Int64)), .second, .val (.int (0 : Int32))] [(.ref rj), (.long (0 : Int64))])) _
    refine XS.iload X1.here hx rfl (hb hby d4_16) rfl ?_
    show Steps p.tables e below (T1.setTop (mkF m 18 #[.val (.ref ra), .val (.int (3 : Int32)), .val (.long (0 : Int64)), .second, .val (.int (0 : Int32))] [(.int (0 : Int32)), (.ref rj), (.long (0 : Int64))])) _
    refine X1.laload hx (j := (0 : Int32)) (v := (.long (fj 0))) (by rw [e1]; exact Arcl2.1) (State.isArrayOf_alike hZ.alike Arcl2.2.1) Arcl2.2.2 hincl2 hatcl2 (g := (mkF m 18 #[.val (.ref ra), .val (.int (3 : Int32)), .val (.long (0 : Int64)), .second, .val (.int (0 : Int32))] [(.int (0 : Int32)), (.ref rj), (.long (0 : Int64))])) rfl rfl (hb hby d4_18) _ ?_
    show Steps p.tables e below (T1.setTop (mkF m 19 #[.val (.ref ra), .val (.int (3 : Int32)), .val (.long (0 : Int64)), .second, .val (.int (0 : Int32))] [(.long (fj 0)), (.long (0 : Int64))])) _
    refine XS.ladd X1.here hx rfl (hb hby d4_19) rfl ?_
    show Steps p.tables e below (T1.setTop (mkF m 20 #[.val (.ref ra), .val (.int (3 : Int32)), .val (.long (0 : Int64)), .second, .val (.int (0 : Int32))] [(.long ((0 : Int64) + (fj 0)))])) _
    refine XS.lstoreN X1.here hx rfl (hb hby d4_20) rfl (l' := #[.val (.ref ra), .val (.int (3 : Int32)), .val (.long ((0 : Int64) + (fj 0))), .second, .val (.int (0 : Int32))]) rfl ?_
    show Steps p.tables e below (T1.setTop (mkF m 21 #[.val (.ref ra), .val (.int (3 : Int32)), .val (.long ((0 : Int64) + (fj 0))), .second, .val (.int (0 : Int32))] [])) _
    refine XS.iinc X1.here hx rfl (hb hby d4_21) rfl (l' := #[.val (.ref ra), .val (.int (3 : Int32)), .val (.long ((0 : Int64) + (fj 0))), .second, .val (.int (1 : Int32))]) rfl ?_
    show Steps p.tables e below (T1.setTop (mkF m 24 #[.val (.ref ra), .val (.int (3 : Int32)), .val (.long ((0 : Int64) + (fj 0))), .second, .val (.int (1 : Int32))] [])) _
    refine XS.goto X1.here hx rfl (pc0 := 24) (pc' := 5) rfl (hb hby d4_24) (by decide) (by decide) ?_
    show Steps p.tables e below (T1.setTop (mkF m 5 #[.val (.ref ra), .val (.int (3 : Int32)), .val (.long ((0 : Int64) + (fj 0))), .second, .val (.int (1 : Int32))] [])) _
    refine XS.iload X1.here hx rfl (hb hby d4_5) rfl ?_
    show Steps p.tables e below (T1.setTop (mkF m 7 #[.val (.ref ra), .val (.int (3 : Int32)), .val (.long ((0 : Int64) + (fj 0))), .second, .val (.int (1 : Int32))] [(.int (1 : Int32))])) _
    refine XS.iloadN X1.here hx rfl (hb hby d4_7) rfl ?_
    show Steps p.tables e below (T1.setTop (mkF m 8 #[.val (.ref ra), .val (.int (3 : Int32)), .val (.long ((0 : Int64) + (fj 0))), .second, .val (.int (1 : Int32))] [(.int (3 : Int32)), (.int (1 : Int32))])) _
    refine XS.icmpNo X1.here hx rfl (hb hby d4_8) rfl (flt (by decide : ¬ ((3 : Int32) < (1 : Int32)))).2.2.1 ?_
    show Steps p.tables e below (T1.setTop (mkF m 11 #[.val (.ref ra), .val (.int (3 : Int32)), .val (.long ((0 : Int64) + (fj 0))), .second, .val (.int (1 : Int32))] [])) _
    refine XS.lloadN X1.here hx rfl (hb hby d4_11) rfl ?_
    show Steps p.tables e below (T1.setTop (mkF m 12 #[.val (.ref ra), .val (.int (3 : Int32)), .val (.long ((0 : Int64) + (fj 0))), .second, .val (.int (1 : Int32))] [(.long ((0 : Int64) + (fj 0)))])) _
    refine XS.aloadN X1.here hx rfl (hb hby d4_12) rfl rfl ?_
    show Steps p.tables e below (T1.setTop (mkF m 13 #[.val (.ref ra), .val (.int (3 : Int32)), .val (.long ((0 : Int64) + (fj 0))), .second, .val (.int (1 : Int32))] [(.ref ra), (.long ((0 : Int64) + (fj 0)))])) _
    refine st3 _ ?_
    show Steps p.tables e below (T3.setTop (mkF m 16 #[.val (.ref ra), .val (.int (3 : Int32)), .val (.long ((0 : Int64) + (fj 0))), .second, .val (.int (1 : Int32))] [(.ref rj), (.long ((0 : Int64) + (fj 0)))])) _
    refine XS.iload X3.here hx rfl (hb hby d4_16) rfl ?_
    show Steps p.tables e below (T3.setTop (mkF m 18 #[.val (.ref ra), .val (.int (3 : Int32)), .val (.long ((0 : Int64) + (fj 0))), .second, .val (.int (1 : Int32))] [(.int (1 : Int32)), (.ref rj), (.long ((0 : Int64) + (fj 0)))])) _
    refine X3.laload hx (j := (1 : Int32)) (v := (.long (fj 1))) (by rw [e3]; exact Arcl4.1) (State.isArrayOf_alike hZ.alike Arcl4.2.1) Arcl4.2.2 hincl4 hatcl4 (g := (mkF m 18 #[.val (.ref ra), .val (.int (3 : Int32)), .val (.long ((0 : Int64) + (fj 0))), .second, .val (.int (1 : Int32))] [(.int (1 : Int32)), (.ref rj), (.long ((0 : Int64) + (fj 0)))])) rfl rfl (hb hby d4_18) _ ?_
    show Steps p.tables e below (T3.setTop (mkF m 19 #[.val (.ref ra), .val (.int (3 : Int32)), .val (.long ((0 : Int64) + (fj 0))), .second, .val (.int (1 : Int32))] [(.long (fj 1)), (.long ((0 : Int64) + (fj 0)))])) _
    refine XS.ladd X3.here hx rfl (hb hby d4_19) rfl ?_
    show Steps p.tables e below (T3.setTop (mkF m 20 #[.val (.ref ra), .val (.int (3 : Int32)), .val (.long ((0 : Int64) + (fj 0))), .second, .val (.int (1 : Int32))] [(.long (((0 : Int64) + (fj 0)) + (fj 1)))])) _
    refine XS.lstoreN X3.here hx rfl (hb hby d4_20) rfl (l' := #[.val (.ref ra), .val (.int (3 : Int32)), .val (.long (((0 : Int64) + (fj 0)) + (fj 1))), .second, .val (.int (1 : Int32))]) rfl ?_
    show Steps p.tables e below (T3.setTop (mkF m 21 #[.val (.ref ra), .val (.int (3 : Int32)), .val (.long (((0 : Int64) + (fj 0)) + (fj 1))), .second, .val (.int (1 : Int32))] [])) _
    refine XS.iinc X3.here hx rfl (hb hby d4_21) rfl (l' := #[.val (.ref ra), .val (.int (3 : Int32)), .val (.long (((0 : Int64) + (fj 0)) + (fj 1))), .second, .val (.int (2 : Int32))]) rfl ?_
    show Steps p.tables e below (T3.setTop (mkF m 24 #[.val (.ref ra), .val (.int (3 : Int32)), .val (.long (((0 : Int64) + (fj 0)) + (fj 1))), .second, .val (.int (2 : Int32))] [])) _
    refine XS.goto X3.here hx rfl (pc0 := 24) (pc' := 5) rfl (hb hby d4_24) (by decide) (by decide) ?_
    show Steps p.tables e below (T3.setTop (mkF m 5 #[.val (.ref ra), .val (.int (3 : Int32)), .val (.long (((0 : Int64) + (fj 0)) + (fj 1))), .second, .val (.int (2 : Int32))] [])) _
    refine XS.iload X3.here hx rfl (hb hby d4_5) rfl ?_
    show Steps p.tables e below (T3.setTop (mkF m 7 #[.val (.ref ra), .val (.int (3 : Int32)), .val (.long (((0 : Int64) + (fj 0)) + (fj 1))), .second, .val (.int (2 : Int32))] [(.int (2 : Int32))])) _
    refine XS.iloadN X3.here hx rfl (hb hby d4_7) rfl ?_
    show Steps p.tables e below (T3.setTop (mkF m 8 #[.val (.ref ra), .val (.int (3 : Int32)), .val (.long (((0 : Int64) + (fj 0)) + (fj 1))), .second, .val (.int (2 : Int32))] [(.int (3 : Int32)), (.int (2 : Int32))])) _
    refine XS.icmpNo X3.here hx rfl (hb hby d4_8) rfl (flt (by decide : ¬ ((3 : Int32) < (2 : Int32)))).2.2.1 ?_
    show Steps p.tables e below (T3.setTop (mkF m 11 #[.val (.ref ra), .val (.int (3 : Int32)), .val (.long (((0 : Int64) + (fj 0)) + (fj 1))), .second, .val (.int (2 : Int32))] [])) _
    refine XS.lloadN X3.here hx rfl (hb hby d4_11) rfl ?_
    show Steps p.tables e below (T3.setTop (mkF m 12 #[.val (.ref ra), .val (.int (3 : Int32)), .val (.long (((0 : Int64) + (fj 0)) + (fj 1))), .second, .val (.int (2 : Int32))] [(.long (((0 : Int64) + (fj 0)) + (fj 1)))])) _
    refine XS.aloadN X3.here hx rfl (hb hby d4_12) rfl rfl ?_
    show Steps p.tables e below (T3.setTop (mkF m 13 #[.val (.ref ra), .val (.int (3 : Int32)), .val (.long (((0 : Int64) + (fj 0)) + (fj 1))), .second, .val (.int (2 : Int32))] [(.ref ra), (.long (((0 : Int64) + (fj 0)) + (fj 1)))])) _
    refine st5 _ ?_
    show Steps p.tables e below (T5.setTop (mkF m 16 #[.val (.ref ra), .val (.int (3 : Int32)), .val (.long (((0 : Int64) + (fj 0)) + (fj 1))), .second, .val (.int (2 : Int32))] [(.ref rj), (.long (((0 : Int64) + (fj 0)) + (fj 1)))])) _
    refine XS.iload X5.here hx rfl (hb hby d4_16) rfl ?_
    show Steps p.tables e below (T5.setTop (mkF m 18 #[.val (.ref ra), .val (.int (3 : Int32)), .val (.long (((0 : Int64) + (fj 0)) + (fj 1))), .second, .val (.int (2 : Int32))] [(.int (2 : Int32)), (.ref rj), (.long (((0 : Int64) + (fj 0)) + (fj 1)))])) _
    refine X5.laload hx (j := (2 : Int32)) (v := (.long (fj 2))) (by rw [e5]; exact Arcl6.1) (State.isArrayOf_alike hZ.alike Arcl6.2.1) Arcl6.2.2 hincl6 hatcl6 (g := (mkF m 18 #[.val (.ref ra), .val (.int (3 : Int32)), .val (.long (((0 : Int64) + (fj 0)) + (fj 1))), .second, .val (.int (2 : Int32))] [(.int (2 : Int32)), (.ref rj), (.long (((0 : Int64) + (fj 0)) + (fj 1)))])) rfl rfl (hb hby d4_18) _ ?_
    show Steps p.tables e below (T5.setTop (mkF m 19 #[.val (.ref ra), .val (.int (3 : Int32)), .val (.long (((0 : Int64) + (fj 0)) + (fj 1))), .second, .val (.int (2 : Int32))] [(.long (fj 2)), (.long (((0 : Int64) + (fj 0)) + (fj 1)))])) _
    refine XS.ladd X5.here hx rfl (hb hby d4_19) rfl ?_
    show Steps p.tables e below (T5.setTop (mkF m 20 #[.val (.ref ra), .val (.int (3 : Int32)), .val (.long (((0 : Int64) + (fj 0)) + (fj 1))), .second, .val (.int (2 : Int32))] [(.long ((((0 : Int64) + (fj 0)) + (fj 1)) + (fj 2)))])) _
    refine XS.lstoreN X5.here hx rfl (hb hby d4_20) rfl (l' := #[.val (.ref ra), .val (.int (3 : Int32)), .val (.long ((((0 : Int64) + (fj 0)) + (fj 1)) + (fj 2))), .second, .val (.int (2 : Int32))]) rfl ?_
    show Steps p.tables e below (T5.setTop (mkF m 21 #[.val (.ref ra), .val (.int (3 : Int32)), .val (.long ((((0 : Int64) + (fj 0)) + (fj 1)) + (fj 2))), .second, .val (.int (2 : Int32))] [])) _
    refine XS.iinc X5.here hx rfl (hb hby d4_21) rfl (l' := #[.val (.ref ra), .val (.int (3 : Int32)), .val (.long ((((0 : Int64) + (fj 0)) + (fj 1)) + (fj 2))), .second, .val (.int (3 : Int32))]) rfl ?_
    show Steps p.tables e below (T5.setTop (mkF m 24 #[.val (.ref ra), .val (.int (3 : Int32)), .val (.long ((((0 : Int64) + (fj 0)) + (fj 1)) + (fj 2))), .second, .val (.int (3 : Int32))] [])) _
    refine XS.goto X5.here hx rfl (pc0 := 24) (pc' := 5) rfl (hb hby d4_24) (by decide) (by decide) ?_
    show Steps p.tables e below (T5.setTop (mkF m 5 #[.val (.ref ra), .val (.int (3 : Int32)), .val (.long ((((0 : Int64) + (fj 0)) + (fj 1)) + (fj 2))), .second, .val (.int (3 : Int32))] [])) _
    refine XS.iload X5.here hx rfl (hb hby d4_5) rfl ?_
    show Steps p.tables e below (T5.setTop (mkF m 7 #[.val (.ref ra), .val (.int (3 : Int32)), .val (.long ((((0 : Int64) + (fj 0)) + (fj 1)) + (fj 2))), .second, .val (.int (3 : Int32))] [(.int (3 : Int32))])) _
    refine XS.iloadN X5.here hx rfl (hb hby d4_7) rfl ?_
    show Steps p.tables e below (T5.setTop (mkF m 8 #[.val (.ref ra), .val (.int (3 : Int32)), .val (.long ((((0 : Int64) + (fj 0)) + (fj 1)) + (fj 2))), .second, .val (.int (3 : Int32))] [(.int (3 : Int32)), (.int (3 : Int32))])) _
    refine XS.icmpNo X5.here hx rfl (hb hby d4_8) rfl (flt (by decide : ¬ ((3 : Int32) < (3 : Int32)))).2.2.1 ?_
    show Steps p.tables e below (T5.setTop (mkF m 11 #[.val (.ref ra), .val (.int (3 : Int32)), .val (.long ((((0 : Int64) + (fj 0)) + (fj 1)) + (fj 2))), .second, .val (.int (3 : Int32))] [])) _
    refine XS.lloadN X5.here hx rfl (hb hby d4_11) rfl ?_
    show Steps p.tables e below (T5.setTop (mkF m 12 #[.val (.ref ra), .val (.int (3 : Int32)), .val (.long ((((0 : Int64) + (fj 0)) + (fj 1)) + (fj 2))), .second, .val (.int (3 : Int32))] [(.long ((((0 : Int64) + (fj 0)) + (fj 1)) + (fj 2)))])) _
    refine XS.aloadN X5.here hx rfl (hb hby d4_12) rfl rfl ?_
    show Steps p.tables e below (T5.setTop (mkF m 13 #[.val (.ref ra), .val (.int (3 : Int32)), .val (.long ((((0 : Int64) + (fj 0)) + (fj 1)) + (fj 2))), .second, .val (.int (3 : Int32))] [(.ref ra), (.long ((((0 : Int64) + (fj 0)) + (fj 1)) + (fj 2)))])) _
    refine st7 _ ?_
    show Steps p.tables e below (T7.setTop (mkF m 16 #[.val (.ref ra), .val (.int (3 : Int32)), .val (.long ((((0 : Int64) + (fj 0)) + (fj 1)) + (fj 2))), .second, .val (.int (3 : Int32))] [(.ref rj), (.long ((((0 : Int64) + (fj 0)) + (fj 1)) + (fj 2)))])) _
    refine XS.iload X7.here hx rfl (hb hby d4_16) rfl ?_
    show Steps p.tables e below (T7.setTop (mkF m 18 #[.val (.ref ra), .val (.int (3 : Int32)), .val (.long ((((0 : Int64) + (fj 0)) + (fj 1)) + (fj 2))), .second, .val (.int (3 : Int32))] [(.int (3 : Int32)), (.ref rj), (.long ((((0 : Int64) + (fj 0)) + (fj 1)) + (fj 2)))])) _
    refine X7.laload hx (j := (3 : Int32)) (v := (.long (fj 3))) (by rw [e7]; exact Arcl8.1) (State.isArrayOf_alike hZ.alike Arcl8.2.1) Arcl8.2.2 hincl8 hatcl8 (g := (mkF m 18 #[.val (.ref ra), .val (.int (3 : Int32)), .val (.long ((((0 : Int64) + (fj 0)) + (fj 1)) + (fj 2))), .second, .val (.int (3 : Int32))] [(.int (3 : Int32)), (.ref rj), (.long ((((0 : Int64) + (fj 0)) + (fj 1)) + (fj 2)))])) rfl rfl (hb hby d4_18) _ ?_
    show Steps p.tables e below (T7.setTop (mkF m 19 #[.val (.ref ra), .val (.int (3 : Int32)), .val (.long ((((0 : Int64) + (fj 0)) + (fj 1)) + (fj 2))), .second, .val (.int (3 : Int32))] [(.long (fj 3)), (.long ((((0 : Int64) + (fj 0)) + (fj 1)) + (fj 2)))])) _
    refine XS.ladd X7.here hx rfl (hb hby d4_19) rfl ?_
    show Steps p.tables e below (T7.setTop (mkF m 20 #[.val (.ref ra), .val (.int (3 : Int32)), .val (.long ((((0 : Int64) + (fj 0)) + (fj 1)) + (fj 2))), .second, .val (.int (3 : Int32))] [(.long (((((0 : Int64) + (fj 0)) + (fj 1)) + (fj 2)) + (fj 3)))])) _
    refine XS.lstoreN X7.here hx rfl (hb hby d4_20) rfl (l' := #[.val (.ref ra), .val (.int (3 : Int32)), .val (.long (((((0 : Int64) + (fj 0)) + (fj 1)) + (fj 2)) + (fj 3))), .second, .val (.int (3 : Int32))]) rfl ?_
    show Steps p.tables e below (T7.setTop (mkF m 21 #[.val (.ref ra), .val (.int (3 : Int32)), .val (.long (((((0 : Int64) + (fj 0)) + (fj 1)) + (fj 2)) + (fj 3))), .second, .val (.int (3 : Int32))] [])) _
    refine XS.iinc X7.here hx rfl (hb hby d4_21) rfl (l' := #[.val (.ref ra), .val (.int (3 : Int32)), .val (.long (((((0 : Int64) + (fj 0)) + (fj 1)) + (fj 2)) + (fj 3))), .second, .val (.int (4 : Int32))]) rfl ?_
    show Steps p.tables e below (T7.setTop (mkF m 24 #[.val (.ref ra), .val (.int (3 : Int32)), .val (.long (((((0 : Int64) + (fj 0)) + (fj 1)) + (fj 2)) + (fj 3))), .second, .val (.int (4 : Int32))] [])) _
    refine XS.goto X7.here hx rfl (pc0 := 24) (pc' := 5) rfl (hb hby d4_24) (by decide) (by decide) ?_
    show Steps p.tables e below (T7.setTop (mkF m 5 #[.val (.ref ra), .val (.int (3 : Int32)), .val (.long (((((0 : Int64) + (fj 0)) + (fj 1)) + (fj 2)) + (fj 3))), .second, .val (.int (4 : Int32))] [])) _
    refine XS.iload X7.here hx rfl (hb hby d4_5) rfl ?_
    show Steps p.tables e below (T7.setTop (mkF m 7 #[.val (.ref ra), .val (.int (3 : Int32)), .val (.long (((((0 : Int64) + (fj 0)) + (fj 1)) + (fj 2)) + (fj 3))), .second, .val (.int (4 : Int32))] [(.int (4 : Int32))])) _
    refine XS.iloadN X7.here hx rfl (hb hby d4_7) rfl ?_
    show Steps p.tables e below (T7.setTop (mkF m 8 #[.val (.ref ra), .val (.int (3 : Int32)), .val (.long (((((0 : Int64) + (fj 0)) + (fj 1)) + (fj 2)) + (fj 3))), .second, .val (.int (4 : Int32))] [(.int (3 : Int32)), (.int (4 : Int32))])) _
    refine XS.icmpYes X7.here hx rfl (pc0 := 8) (pc' := 27) rfl (hb hby d4_8) rfl (tlt (by decide : ((3 : Int32) < (4 : Int32)))).2.2.1 (by decide) (by decide) ?_
    show Steps p.tables e below (T7.setTop (mkF m 27 #[.val (.ref ra), .val (.int (3 : Int32)), .val (.long (((((0 : Int64) + (fj 0)) + (fj 1)) + (fj 2)) + (fj 3))), .second, .val (.int (4 : Int32))] [])) _
    refine XS.lloadN X7.here hx rfl (hb hby d4_27) rfl ?_
    show Steps p.tables e below (T7.setTop (mkF m 28 #[.val (.ref ra), .val (.int (3 : Int32)), .val (.long (((((0 : Int64) + (fj 0)) + (fj 1)) + (fj 2)) + (fj 3))), .second, .val (.int (4 : Int32))] [(.long (((((0 : Int64) + (fj 0)) + (fj 1)) + (fj 2)) + (fj 3)))])) _
    exact retOut X7 hx Bd.returns rfl (Or.inr (Or.inl ⟨rfl, rfl, _, rfl⟩)) (hb hby d4_28) hr
  · show Q4k3 Z ra rj fj h0 n0 _ T7.heap _
    rw [e7]
    exact ⟨rfl, N0, rfl⟩
theorem ef_0 (m : MethodId) (ca : Int64) (cb : Int64) (cc : Int64) (cd : Int64) (se : Int32) : entryFrame m #[(.long ca), (.long cb), (.long cc), (.long cd), (.int se)] maxLocals = mkF m 0 #[.val (.long ca), .second, .val (.long cb), .second, .val (.long cc), .second, .val (.long cd), .second, .val (.int se), .unset, .unset, .unset, .unset, .unset, .unset, .unset, .unset] [] := by first | (simp [entryFrame, mkF, argsToLocals, Value.category, maxLocals]; done) | rfl
theorem pd_1 : parseMethodDescriptor "([D[JD)V" = some ⟨[(.array .double), (.array .long), .double], none⟩ := by decide +kernel
theorem pd_2 : parseMethodDescriptor "(I)J" = some ⟨[.int], some .long⟩ := by decide +kernel
theorem pn_com_example_hikyaku_hikyaku_store_CountsAtMostPinLaw : plainName "com/example/hikyaku/hikyaku/store/CountsAtMostPinLaw" = true := by first | (simp [plainName, overriddenIn]; done) | decide +kernel
theorem own_k (se : Int32) : ((se &&& (2147483647 : Int32)) % (4 : Int32)) = (0 : Int32) ∨ ((se &&& (2147483647 : Int32)) % (4 : Int32)) = (1 : Int32) ∨ ((se &&& (2147483647 : Int32)) % (4 : Int32)) = (2 : Int32) ∨ ((se &&& (2147483647 : Int32)) % (4 : Int32)) = (3 : Int32) := by
  have : (2147483647 : Int32).toInt = 2147483647 := rfl
  have := c_and se (2147483647 : Int32) (by decide)
  have : (4 : Int32).toInt = 4 := rfl
  first | have : ((se &&& (2147483647 : Int32)) % (4 : Int32)).toInt = (se &&& (2147483647 : Int32)).toInt % 4 := (c_irem (se &&& (2147483647 : Int32)) (4 : Int32) 4 rfl).1 (by omega) | have := c_irem (se &&& (2147483647 : Int32)) (4 : Int32) 4 rfl
  have := rng32 ((se &&& (2147483647 : Int32)) % (4 : Int32))
  have : (0 : Int32).toInt = 0 := rfl
  have : (1 : Int32).toInt = 1 := rfl
  have : (2 : Int32).toInt = 2 := rfl
  have : (3 : Int32).toInt = 3 := rfl
  simp only [← Int32.toInt_inj]
  omega
theorem own_f0 (ca cb cc cd : Int64) : ((0 : Int64) + ((up (up (up (up zJ 0 ca) 1 cb) 2 cc) 3 cd) 0)) = ca := by
  show ((0 : Int64) + ca) = _
  rw [Int64.zero_add]
theorem own_f1 (ca cb cc cd : Int64) : (((0 : Int64) + ((up (up (up (up zJ 0 ca) 1 cb) 2 cc) 3 cd) 0)) + ((up (up (up (up zJ 0 ca) 1 cb) 2 cc) 3 cd) 1)) = (ca + cb) := by
  show (((0 : Int64) + ca) + cb) = _
  rw [Int64.zero_add]
theorem own_f2 (ca cb cc cd : Int64) : ((((0 : Int64) + ((up (up (up (up zJ 0 ca) 1 cb) 2 cc) 3 cd) 0)) + ((up (up (up (up zJ 0 ca) 1 cb) 2 cc) 3 cd) 1)) + ((up (up (up (up zJ 0 ca) 1 cb) 2 cc) 3 cd) 2)) = ((ca + cb) + cc) := by
  show ((((0 : Int64) + ca) + cb) + cc) = _
  rw [Int64.zero_add]
theorem own_f3 (ca cb cc cd : Int64) : (((((0 : Int64) + ((up (up (up (up zJ 0 ca) 1 cb) 2 cc) 3 cd) 0)) + ((up (up (up (up zJ 0 ca) 1 cb) 2 cc) 3 cd) 1)) + ((up (up (up (up zJ 0 ca) 1 cb) 2 cc) 3 cd) 2)) + ((up (up (up (up zJ 0 ca) 1 cb) 2 cc) 3 cd) 3)) = (((ca + cb) + cc) + cd) := by
  show (((((0 : Int64) + ca) + cb) + cc) + cd) = _
  rw [Int64.zero_add]
def Q0 (Z : State) (ca : Int64) (cb : Int64) (cc : Int64) (cd : Int64) (se : Int32) (h0 : Heap) (n0 : Nat) (v : Option Value) (h : Heap) (L : List Loc) : Prop := v = some (.int (1 : Int32)) ∧ Fr n0 L
set_option maxRecDepth 65536 in
set_option maxHeartbeats 40000000 in
theorem rm0 (l : Launch) (Z : State) (a0 : Array Value) (hw : ∀ d ∈ tables_1, d.before a0 Z = true) (ws : List Jvm.Cond) (ca : Int64) (cb : Int64) (cc : Int64) (cd : Int64) (se : Int32) (h0 : Heap) (n0 : Nat) (Z0 : n0 ≤ h0.size) :
    MetFree l x (head1 (Jvm.Cond.code x code maxLocals ret :: ws) room_1) (fun a U => a = #[(.long ca), (.long cb), (.long cc), (.long cd), (.int se)] ∧ Z.Warmed39 U.vm ∧ U.heap = h0) (fun _ _ _ _ _ => True) (fun _ U o U' => ∃ v L, o = .returned v ∧ Q0 Z ca cb cc cd se h0 n0 v U'.heap L ∧ FrameEnd U o U' L room_1.cells room_1.slots) := by
  refine MetFree.of_bodySF (plainFor_of_name pn_com_example_hikyaku_hikyaku_store_CountsAtMostPinLaw) hisR ?_
  intro p e s m args below meth c s₁ Bd hml0 hP hK
  obtain ⟨rfl, hZ, hh⟩ := hP
  have hx := Bd.exec
  have hby := Bd.bytes
  have hml : c.maxLocals = 17 := hml0
  have hown : s.vm.findClass "com/example/hikyaku/hikyaku/store/CountsAtMostPinLaw" = some m.cls := findClass_of_methodNamed Bd.named
  have hnm := (name_of_methodNamed Bd.named Bd.method).1
  have X0 : Stand p l e room_1 s m #[(.long ca), (.long cb), (.long cc), (.long cd), (.int se)] below meth c s₁ [] 0 0 := Stand.of_body Bd
  have e0 : s₁.heap = h0 := by rw [← hh, Bd.state]; rfl
  have N0 := Fr.nil n0
  have K0 : Keep h0 h0 [] := Keep.refl h0 _
  have pre0 : ∀ t, Steps p.tables e below (s₁.setTop (mkF m 0 #[.val (.long ca), .second, .val (.long cb), .second, .val (.long cc), .second, .val (.long cd), .second, .val (.int se), .unset, .unset, .unset, .unset, .unset, .unset, .unset, .unset] [])) t → Steps p.tables e below (s₁.setTop (entryFrame m #[(.long ca), (.long cb), (.long cc), (.long cd), (.int se)] maxLocals)) t := fun t k => castTop (ef_0 m ca cb cc cd se) k
  obtain ⟨T1, h1, k1, X1, e1, E1, A1, st1⟩ := newP X0 hx hZ (hw _ (List.mem_of_getElem? (i := 1) rfl)) e0 (g := (mkF m 10 #[.val (.long ca), .second, .val (.long cb), .second, .val (.long cc), .second, .val (.long cd), .second, .val (.int se), .val (.int ((se &&& (2147483647 : Int32)) % (4 : Int32))), .unset, .unset, .unset, .unset, .unset, .unset, .unset] [(.int (3 : Int32))])) rfl (hb hby at_10) rfl (by decide) (cap := 3) (by decide) (by decide) (by decide) (by decide)
  obtain ⟨b1, g1⟩ : ∃ z, z = h0.size := ⟨_, rfl⟩
  rw [← g1] at A1 st1
  have gg1 : n0 ≤ b1 := Nat.le_trans Z0 (Nat.le_of_eq g1.symm)
  have Z1 : n0 ≤ h1.size := Nat.le_trans Z0 E1.1
  have f2 : AD Z h1 b1 .double 3 (fun _ => (0 : UInt64)) := AF.new A1 (by decide)
  obtain ⟨cl3, Arcl3, hincl3, -⟩ := AF.at f2 (j := (0 : Int32)) 0 (by decide) (by decide)
  obtain ⟨T4, h4, X4, e4, W4, st4⟩ := own_stD X1 hx hZ e1 Arcl3 (j := (0 : Int32)) hincl3 (g := (mkF m 18 #[.val (.long ca), .second, .val (.long cb), .second, .val (.long cc), .second, .val (.long cd), .second, .val (.int se), .val (.int ((se &&& (2147483647 : Int32)) % (4 : Int32))), .val (.ref b1), .unset, .unset, .unset, .unset, .unset, .unset] [(.double FP.dconst1), (.int (0 : Int32)), (.ref b1)])) rfl rfl (hb hby at_18)
  have N4 := Fr.snoc X4 N0 gg1
  have Z4 : n0 ≤ h4.size := Nat.le_trans Z1 (Keep.of_wr W4).1
  have f5 : AD Z h4 b1 .double 3 (up (fun _ => (0 : UInt64)) 0 FP.dconst1) := AF.setD f2 W4 0 (by decide)
  obtain ⟨cl6, Arcl6, hincl6, -⟩ := AF.at f5 (j := (1 : Int32)) 1 (by decide) (by decide)
  obtain ⟨T7, h7, X7, e7, W7, st7⟩ := own_stD X4 hx hZ e4 Arcl6 (j := (1 : Int32)) hincl6 (g := (mkF m 25 #[.val (.long ca), .second, .val (.long cb), .second, .val (.long cc), .second, .val (.long cd), .second, .val (.int se), .val (.int ((se &&& (2147483647 : Int32)) % (4 : Int32))), .val (.ref b1), .unset, .unset, .unset, .unset, .unset, .unset] [(.double (4611686018427387904 : UInt64)), (.int (1 : Int32)), (.ref b1)])) rfl rfl (hb hby at_25)
  have N7 := Fr.snoc X7 N4 gg1
  have Z7 : n0 ≤ h7.size := Nat.le_trans Z4 (Keep.of_wr W7).1
  have f8 : AD Z h7 b1 .double 3 (up (up (fun _ => (0 : UInt64)) 0 FP.dconst1) 1 (4611686018427387904 : UInt64)) := AF.setD f5 W7 1 (by decide)
  obtain ⟨cl9, Arcl9, hincl9, -⟩ := AF.at f8 (j := (2 : Int32)) 2 (by decide) (by decide)
  obtain ⟨T10, h10, X10, e10, W10, st10⟩ := own_stD X7 hx hZ e7 Arcl9 (j := (2 : Int32)) hincl9 (g := (mkF m 32 #[.val (.long ca), .second, .val (.long cb), .second, .val (.long cc), .second, .val (.long cd), .second, .val (.int se), .val (.int ((se &&& (2147483647 : Int32)) % (4 : Int32))), .val (.ref b1), .unset, .unset, .unset, .unset, .unset, .unset] [(.double (4613937818241073152 : UInt64)), (.int (2 : Int32)), (.ref b1)])) rfl rfl (hb hby at_32)
  have N10 := Fr.snoc X10 N7 gg1
  have Z10 : n0 ≤ h10.size := Nat.le_trans Z7 (Keep.of_wr W10).1
  have f11 : AD Z h10 b1 .double 3 (up (up (up (fun _ => (0 : UInt64)) 0 FP.dconst1) 1 (4611686018427387904 : UInt64)) 2 (4613937818241073152 : UInt64)) := AF.setD f8 W10 2 (by decide)
  obtain ⟨T12, h12, k12, X12, e12, E12, A12, st12⟩ := newP X10 hx hZ (hw _ (List.mem_of_getElem? (i := 4) rfl)) e10 (g := (mkF m 34 #[.val (.long ca), .second, .val (.long cb), .second, .val (.long cc), .second, .val (.long cd), .second, .val (.int se), .val (.int ((se &&& (2147483647 : Int32)) % (4 : Int32))), .val (.ref b1), .unset, .unset, .unset, .unset, .unset, .unset] [(.int (4 : Int32))])) rfl (hb hby at_34) rfl (by decide) (cap := 4) (by decide) (by decide) (by decide) (by decide)
  obtain ⟨b12, g12⟩ : ∃ z, z = h10.size := ⟨_, rfl⟩
  rw [← g12] at A12 st12
  have ne13 : b1 ≠ b12 := Nat.ne_of_lt (Nat.lt_of_lt_of_le f11.lt (Nat.le_of_eq g12.symm))
  have gg12 : n0 ≤ b12 := Nat.le_trans Z10 (Nat.le_of_eq g12.symm)
  have f14 : AD Z h12 b1 .double 3 (up (up (up (fun _ => (0 : UInt64)) 0 FP.dconst1) 1 (4611686018427387904 : UInt64)) 2 (4613937818241073152 : UInt64)) := f11.ext E12
  have Z12 : n0 ≤ h12.size := Nat.le_trans Z10 E12.1
  have f15 : AJ Z h12 b12 .long 4 zJ := AF.new A12 (by decide)
  obtain ⟨cl16, Arcl16, hincl16, -⟩ := AF.at f15 (j := (0 : Int32)) 0 (by decide) (by decide)
  obtain ⟨T17, h17, X17, e17, W17, st17⟩ := stJ X12 hx hZ e12 Arcl16 (j := (0 : Int32)) hincl16 (g := (mkF m 42 #[.val (.long ca), .second, .val (.long cb), .second, .val (.long cc), .second, .val (.long cd), .second, .val (.int se), .val (.int ((se &&& (2147483647 : Int32)) % (4 : Int32))), .val (.ref b1), .val (.ref b12), .unset, .unset, .unset, .unset, .unset] [(.long ca), (.int (0 : Int32)), (.ref b12)])) rfl rfl (hb hby at_42)
  have N17 := Fr.snoc X17 N10 gg12
  have Z17 : n0 ≤ h17.size := Nat.le_trans Z12 (Keep.of_wr W17).1
  have f18 : AJ Z h17 b12 .long 4 (up zJ 0 ca) := AF.setJ f15 W17 0 (by decide)
  have f19 : AD Z h17 b1 .double 3 (up (up (up (fun _ => (0 : UInt64)) 0 FP.dconst1) 1 (4611686018427387904 : UInt64)) 2 (4613937818241073152 : UInt64)) := f14.other W17 ne13
  obtain ⟨cl20, Arcl20, hincl20, -⟩ := AF.at f18 (j := (1 : Int32)) 1 (by decide) (by decide)
  obtain ⟨T21, h21, X21, e21, W21, st21⟩ := stJ X17 hx hZ e17 Arcl20 (j := (1 : Int32)) hincl20 (g := (mkF m 47 #[.val (.long ca), .second, .val (.long cb), .second, .val (.long cc), .second, .val (.long cd), .second, .val (.int se), .val (.int ((se &&& (2147483647 : Int32)) % (4 : Int32))), .val (.ref b1), .val (.ref b12), .unset, .unset, .unset, .unset, .unset] [(.long cb), (.int (1 : Int32)), (.ref b12)])) rfl rfl (hb hby at_47)
  have N21 := Fr.snoc X21 N17 gg12
  have Z21 : n0 ≤ h21.size := Nat.le_trans Z17 (Keep.of_wr W21).1
  have f22 : AJ Z h21 b12 .long 4 (up (up zJ 0 ca) 1 cb) := AF.setJ f18 W21 1 (by decide)
  have f23 : AD Z h21 b1 .double 3 (up (up (up (fun _ => (0 : UInt64)) 0 FP.dconst1) 1 (4611686018427387904 : UInt64)) 2 (4613937818241073152 : UInt64)) := f19.other W21 ne13
  obtain ⟨cl24, Arcl24, hincl24, -⟩ := AF.at f22 (j := (2 : Int32)) 2 (by decide) (by decide)
  obtain ⟨T25, h25, X25, e25, W25, st25⟩ := stJ X21 hx hZ e21 Arcl24 (j := (2 : Int32)) hincl24 (g := (mkF m 53 #[.val (.long ca), .second, .val (.long cb), .second, .val (.long cc), .second, .val (.long cd), .second, .val (.int se), .val (.int ((se &&& (2147483647 : Int32)) % (4 : Int32))), .val (.ref b1), .val (.ref b12), .unset, .unset, .unset, .unset, .unset] [(.long cc), (.int (2 : Int32)), (.ref b12)])) rfl rfl (hb hby at_53)
  have N25 := Fr.snoc X25 N21 gg12
  have Z25 : n0 ≤ h25.size := Nat.le_trans Z21 (Keep.of_wr W25).1
  have f26 : AJ Z h25 b12 .long 4 (up (up (up zJ 0 ca) 1 cb) 2 cc) := AF.setJ f22 W25 2 (by decide)
  have f27 : AD Z h25 b1 .double 3 (up (up (up (fun _ => (0 : UInt64)) 0 FP.dconst1) 1 (4611686018427387904 : UInt64)) 2 (4613937818241073152 : UInt64)) := f23.other W25 ne13
  obtain ⟨cl28, Arcl28, hincl28, -⟩ := AF.at f26 (j := (3 : Int32)) 3 (by decide) (by decide)
  obtain ⟨T29, h29, X29, e29, W29, st29⟩ := stJ X25 hx hZ e25 Arcl28 (j := (3 : Int32)) hincl28 (g := (mkF m 59 #[.val (.long ca), .second, .val (.long cb), .second, .val (.long cc), .second, .val (.long cd), .second, .val (.int se), .val (.int ((se &&& (2147483647 : Int32)) % (4 : Int32))), .val (.ref b1), .val (.ref b12), .unset, .unset, .unset, .unset, .unset] [(.long cd), (.int (3 : Int32)), (.ref b12)])) rfl rfl (hb hby at_59)
  have N29 := Fr.snoc X29 N25 gg12
  have Z29 : n0 ≤ h29.size := Nat.le_trans Z25 (Keep.of_wr W29).1
  have f30 : AJ Z h29 b12 .long 4 (up (up (up (up zJ 0 ca) 1 cb) 2 cc) 3 cd) := AF.setJ f26 W29 3 (by decide)
  have f31 : AD Z h29 b1 .double 3 (up (up (up (fun _ => (0 : UInt64)) 0 FP.dconst1) 1 (4611686018427387904 : UInt64)) 2 (4613937818241073152 : UInt64)) := f27.other W29 ne13
  obtain ⟨T32, h32, X32, e32, E32, A32, D32, -, st32⟩ := newO X29 hx hZ hown (hw _ (List.mem_of_getElem? (i := 5) rfl)) (hw _ (List.mem_of_getElem? (i := 6) rfl)) (hw _ (List.mem_of_getElem? (i := 7) rfl)) e29 (g := (mkF m 60 #[.val (.long ca), .second, .val (.long cb), .second, .val (.long cc), .second, .val (.long cd), .second, .val (.int se), .val (.int ((se &&& (2147483647 : Int32)) % (4 : Int32))), .val (.ref b1), .val (.ref b12), .unset, .unset, .unset, .unset, .unset] [])) rfl (hb hby at_60) (by decide) (by decide)
  obtain ⟨b32, g32⟩ : ∃ z, z = h29.size := ⟨_, rfl⟩
  rw [← g32] at A32 D32 st32
  have ne33 : b1 ≠ b32 := Nat.ne_of_lt (Nat.lt_of_lt_of_le f31.lt (Nat.le_of_eq g32.symm))
  have ne34 : b12 ≠ b32 := Nat.ne_of_lt (Nat.lt_of_lt_of_le f30.lt (Nat.le_of_eq g32.symm))
  have gg32 : n0 ≤ b32 := Nat.le_trans Z29 (Nat.le_of_eq g32.symm)
  have f35 : AD Z h32 b1 .double 3 (up (up (up (fun _ => (0 : UInt64)) 0 FP.dconst1) 1 (4611686018427387904 : UInt64)) 2 (4613937818241073152 : UInt64)) := f31.ext E32
  have f36 : AJ Z h32 b12 .long 4 (up (up (up (up zJ 0 ca) 1 cb) 2 cc) 3 cd) := f30.ext E32
  have Z32 : n0 ≤ h32.size := Nat.le_trans Z29 E32.1
  have f37 : Fld Z h32 b32 "com/example/hikyaku/hikyaku/store/Histogram$Counts" "boundsSeconds" "[D" .null := D32 (Or.inr (hw _ (List.mem_of_getElem? (i := 20) rfl))) (ty := (.array .double)) (by decide)
  have f38 : Fld Z h32 b32 "com/example/hikyaku/hikyaku/store/Histogram$Counts" "buckets" "[J" .null := D32 (Or.inr (hw _ (List.mem_of_getElem? (i := 22) rfl))) (ty := (.array .long)) (by decide)
  have f39 : Fld Z h32 b32 "com/example/hikyaku/hikyaku/store/Histogram$Counts" "sumSeconds" "D" (.double (0 : UInt64)) := D32 (Or.inr (hw _ (List.mem_of_getElem? (i := 24) rfl))) (ty := .double) (by decide)
  obtain ⟨_, _, ⟨T40, L40, k40, n40⟩, -, X40, ⟨Lc40, hQ40, l40, y40, z40⟩, st40⟩ := X32.specialBack hx (y := (⟨"com/example/hikyaku/hikyaku/store/Histogram$Counts", "<init>", "([D[JD)V"⟩ : MethodName)) rfl hown (mvT hZ (hw _ (List.mem_of_getElem? (i := 8) rfl))) (mvT hZ (hw _ (List.mem_of_getElem? (i := 9) rfl))) (mvT hZ (hw _ (List.mem_of_getElem? (i := 10) rfl))) (by decide) (backOf (W := 1) (rm1 l Z a0 hw [] b32 b1 b12 FP.dconst0 h32 n0 Z32 A32 f37 f38 f39 gg32) hZ (hw _ (List.mem_of_getElem? (i := 10) rfl)) (hw _ (List.mem_of_getElem? (i := 7) rfl)) (by decide) (by decide)) (g := (mkF m 69 #[.val (.long ca), .second, .val (.long cb), .second, .val (.long cc), .second, .val (.long cd), .second, .val (.int se), .val (.int ((se &&& (2147483647 : Int32)) % (4 : Int32))), .val (.ref b1), .val (.ref b12), .unset, .unset, .unset, .unset, .unset] [(.double FP.dconst0), (.ref b12), (.ref b1), (.ref b32), (.ref b32)])) rfl (by rw [hml]; rfl) (Steps.refl _) (a := b32) (argsL := [(.ref b1), (.ref b12), (.double FP.dconst0)]) (rest := [(.ref b32)]) (lenOf pd_1 rfl) rfl (by show 2 * 0 + _ ≤ _; exact Nat.le_of_eq rfl) (hb hby at_69) (fun _ _ => ⟨rfl, e32, (by decide : 3 + 0 ≤ _), (by decide : 10 + 0 ≤ _)⟩)
  dsimp only [Pt.U, Pt.locs, Pt.cells, Pt.slots] at X40 l40 y40 z40 st40 hQ40
  subst l40 y40 z40
  obtain ⟨rfl, N40q, K40c, f41, f42, f43⟩ := hQ40
  have N40 := Fr.app N29 N40q
  have f44 : AD Z T40.heap b1 .double 3 (up (up (up (fun _ => (0 : UInt64)) 0 FP.dconst1) 1 (4611686018427387904 : UInt64)) 2 (4613937818241073152 : UInt64)) := f35.keep K40c (ninS ne33 nin0)
  have f45 : AJ Z T40.heap b12 .long 4 (up (up (up (up zJ 0 ca) 1 cb) 2 cc) 3 cd) := f36.keep K40c (ninS ne34 nin0)
  have f46 : Exa Z T40.heap b32 "com/example/hikyaku/hikyaku/store/Histogram$Counts" := A32.keep K40c
  have Z40 : n0 ≤ T40.heap.size := Nat.le_trans Z32 K40c.1
  have pre47 : ∀ t, Steps p.tables e below (T40.setTop (mkF m 78 #[.val (.long ca), .second, .val (.long cb), .second, .val (.long cc), .second, .val (.long cd), .second, .val (.int se), .val (.int ((se &&& (2147483647 : Int32)) % (4 : Int32))), .val (.ref b1), .val (.ref b12), .val (.ref b32), .unset, .unset, .unset, .unset] [(.int ((se &&& (2147483647 : Int32)) % (4 : Int32))), (.ref b32)])) t → Steps p.tables e below (s₁.setTop (entryFrame m #[(.long ca), (.long cb), (.long cc), (.long cd), (.int se)] maxLocals)) t := by
    intro t k
    refine pre0 _ ?_
    show Steps p.tables e below (s₁.setTop (mkF m 0 #[.val (.long ca), .second, .val (.long cb), .second, .val (.long cc), .second, .val (.long cd), .second, .val (.int se), .unset, .unset, .unset, .unset, .unset, .unset, .unset, .unset] [])) _
    refine XS.iload X0.here hx rfl (hb hby at_0) rfl ?_
    show Steps p.tables e below (s₁.setTop (mkF m 2 #[.val (.long ca), .second, .val (.long cb), .second, .val (.long cc), .second, .val (.long cd), .second, .val (.int se), .unset, .unset, .unset, .unset, .unset, .unset, .unset, .unset] [(.int se)])) _
    refine X0.ldcInt hx hown (mvT hZ (hw _ (List.mem_of_getElem? (i := 0) rfl))) (g := (mkF m 2 #[.val (.long ca), .second, .val (.long cb), .second, .val (.long cc), .second, .val (.long cd), .second, .val (.int se), .unset, .unset, .unset, .unset, .unset, .unset, .unset, .unset] [(.int se)])) rfl (hb hby at_2) _ ?_
    show Steps p.tables e below (s₁.setTop (mkF m 4 #[.val (.long ca), .second, .val (.long cb), .second, .val (.long cc), .second, .val (.long cd), .second, .val (.int se), .unset, .unset, .unset, .unset, .unset, .unset, .unset, .unset] [(.int (2147483647 : Int32)), (.int se)])) _
    refine XS.iand X0.here hx rfl (hb hby at_4) rfl ?_
    show Steps p.tables e below (s₁.setTop (mkF m 5 #[.val (.long ca), .second, .val (.long cb), .second, .val (.long cc), .second, .val (.long cd), .second, .val (.int se), .unset, .unset, .unset, .unset, .unset, .unset, .unset, .unset] [(.int (se &&& (2147483647 : Int32)))])) _
    refine XS.iconst X0.here hx rfl (hb hby at_5) ?_
    show Steps p.tables e below (s₁.setTop (mkF m 6 #[.val (.long ca), .second, .val (.long cb), .second, .val (.long cc), .second, .val (.long cd), .second, .val (.int se), .unset, .unset, .unset, .unset, .unset, .unset, .unset, .unset] [(.int (4 : Int32)), (.int (se &&& (2147483647 : Int32)))])) _
    refine iremM X0 hx rfl (hb hby at_6) rfl (by decide) ?_
    show Steps p.tables e below (s₁.setTop (mkF m 7 #[.val (.long ca), .second, .val (.long cb), .second, .val (.long cc), .second, .val (.long cd), .second, .val (.int se), .unset, .unset, .unset, .unset, .unset, .unset, .unset, .unset] [(.int ((se &&& (2147483647 : Int32)) % (4 : Int32)))])) _
    refine XS.istore X0.here hx rfl (hb hby at_7) rfl (l' := #[.val (.long ca), .second, .val (.long cb), .second, .val (.long cc), .second, .val (.long cd), .second, .val (.int se), .val (.int ((se &&& (2147483647 : Int32)) % (4 : Int32))), .unset, .unset, .unset, .unset, .unset, .unset, .unset]) rfl ?_
    show Steps p.tables e below (s₁.setTop (mkF m 9 #[.val (.long ca), .second, .val (.long cb), .second, .val (.long cc), .second, .val (.long cd), .second, .val (.int se), .val (.int ((se &&& (2147483647 : Int32)) % (4 : Int32))), .unset, .unset, .unset, .unset, .unset, .unset, .unset] [])) _
    refine XS.iconst X0.here hx rfl (hb hby at_9) ?_
    show Steps p.tables e below (s₁.setTop (mkF m 10 #[.val (.long ca), .second, .val (.long cb), .second, .val (.long cc), .second, .val (.long cd), .second, .val (.int se), .val (.int ((se &&& (2147483647 : Int32)) % (4 : Int32))), .unset, .unset, .unset, .unset, .unset, .unset, .unset] [(.int (3 : Int32))])) _
    refine st1 _ ?_
    show Steps p.tables e below (T1.setTop (mkF m 12 #[.val (.long ca), .second, .val (.long cb), .second, .val (.long cc), .second, .val (.long cd), .second, .val (.int se), .val (.int ((se &&& (2147483647 : Int32)) % (4 : Int32))), .unset, .unset, .unset, .unset, .unset, .unset, .unset] [(.ref b1)])) _
    refine XS.astore X1.here hx rfl (hb hby at_12) rfl rfl (l' := #[.val (.long ca), .second, .val (.long cb), .second, .val (.long cc), .second, .val (.long cd), .second, .val (.int se), .val (.int ((se &&& (2147483647 : Int32)) % (4 : Int32))), .val (.ref b1), .unset, .unset, .unset, .unset, .unset, .unset]) rfl ?_
    show Steps p.tables e below (T1.setTop (mkF m 14 #[.val (.long ca), .second, .val (.long cb), .second, .val (.long cc), .second, .val (.long cd), .second, .val (.int se), .val (.int ((se &&& (2147483647 : Int32)) % (4 : Int32))), .val (.ref b1), .unset, .unset, .unset, .unset, .unset, .unset] [])) _
    refine XS.aload X1.here hx rfl (hb hby at_14) rfl rfl ?_
    show Steps p.tables e below (T1.setTop (mkF m 16 #[.val (.long ca), .second, .val (.long cb), .second, .val (.long cc), .second, .val (.long cd), .second, .val (.int se), .val (.int ((se &&& (2147483647 : Int32)) % (4 : Int32))), .val (.ref b1), .unset, .unset, .unset, .unset, .unset, .unset] [(.ref b1)])) _
    refine XS.iconst X1.here hx rfl (hb hby at_16) ?_
    show Steps p.tables e below (T1.setTop (mkF m 17 #[.val (.long ca), .second, .val (.long cb), .second, .val (.long cc), .second, .val (.long cd), .second, .val (.int se), .val (.int ((se &&& (2147483647 : Int32)) % (4 : Int32))), .val (.ref b1), .unset, .unset, .unset, .unset, .unset, .unset] [(.int (0 : Int32)), (.ref b1)])) _
    refine XS.dconst1 X1.here hx rfl (hb hby at_17) (v := FP.dconst1) rfl ?_
    show Steps p.tables e below (T1.setTop (mkF m 18 #[.val (.long ca), .second, .val (.long cb), .second, .val (.long cc), .second, .val (.long cd), .second, .val (.int se), .val (.int ((se &&& (2147483647 : Int32)) % (4 : Int32))), .val (.ref b1), .unset, .unset, .unset, .unset, .unset, .unset] [(.double FP.dconst1), (.int (0 : Int32)), (.ref b1)])) _
    refine st4 _ ?_
    show Steps p.tables e below (T4.setTop (mkF m 19 #[.val (.long ca), .second, .val (.long cb), .second, .val (.long cc), .second, .val (.long cd), .second, .val (.int se), .val (.int ((se &&& (2147483647 : Int32)) % (4 : Int32))), .val (.ref b1), .unset, .unset, .unset, .unset, .unset, .unset] [])) _
    refine XS.aload X4.here hx rfl (hb hby at_19) rfl rfl ?_
    show Steps p.tables e below (T4.setTop (mkF m 21 #[.val (.long ca), .second, .val (.long cb), .second, .val (.long cc), .second, .val (.long cd), .second, .val (.int se), .val (.int ((se &&& (2147483647 : Int32)) % (4 : Int32))), .val (.ref b1), .unset, .unset, .unset, .unset, .unset, .unset] [(.ref b1)])) _
    refine XS.iconst X4.here hx rfl (hb hby at_21) ?_
    show Steps p.tables e below (T4.setTop (mkF m 22 #[.val (.long ca), .second, .val (.long cb), .second, .val (.long cc), .second, .val (.long cd), .second, .val (.int se), .val (.int ((se &&& (2147483647 : Int32)) % (4 : Int32))), .val (.ref b1), .unset, .unset, .unset, .unset, .unset, .unset] [(.int (1 : Int32)), (.ref b1)])) _
    refine X4.ldc2DoubleC hx hown (mvT hZ (hw _ (List.mem_of_getElem? (i := 2) rfl))) (g := (mkF m 22 #[.val (.long ca), .second, .val (.long cb), .second, .val (.long cc), .second, .val (.long cd), .second, .val (.int se), .val (.int ((se &&& (2147483647 : Int32)) % (4 : Int32))), .val (.ref b1), .unset, .unset, .unset, .unset, .unset, .unset] [(.int (1 : Int32)), (.ref b1)])) rfl (hb hby at_22) _ ?_
    show Steps p.tables e below (T4.setTop (mkF m 25 #[.val (.long ca), .second, .val (.long cb), .second, .val (.long cc), .second, .val (.long cd), .second, .val (.int se), .val (.int ((se &&& (2147483647 : Int32)) % (4 : Int32))), .val (.ref b1), .unset, .unset, .unset, .unset, .unset, .unset] [(.double (4611686018427387904 : UInt64)), (.int (1 : Int32)), (.ref b1)])) _
    refine st7 _ ?_
    show Steps p.tables e below (T7.setTop (mkF m 26 #[.val (.long ca), .second, .val (.long cb), .second, .val (.long cc), .second, .val (.long cd), .second, .val (.int se), .val (.int ((se &&& (2147483647 : Int32)) % (4 : Int32))), .val (.ref b1), .unset, .unset, .unset, .unset, .unset, .unset] [])) _
    refine XS.aload X7.here hx rfl (hb hby at_26) rfl rfl ?_
    show Steps p.tables e below (T7.setTop (mkF m 28 #[.val (.long ca), .second, .val (.long cb), .second, .val (.long cc), .second, .val (.long cd), .second, .val (.int se), .val (.int ((se &&& (2147483647 : Int32)) % (4 : Int32))), .val (.ref b1), .unset, .unset, .unset, .unset, .unset, .unset] [(.ref b1)])) _
    refine XS.iconst X7.here hx rfl (hb hby at_28) ?_
    show Steps p.tables e below (T7.setTop (mkF m 29 #[.val (.long ca), .second, .val (.long cb), .second, .val (.long cc), .second, .val (.long cd), .second, .val (.int se), .val (.int ((se &&& (2147483647 : Int32)) % (4 : Int32))), .val (.ref b1), .unset, .unset, .unset, .unset, .unset, .unset] [(.int (2 : Int32)), (.ref b1)])) _
    refine X7.ldc2DoubleC hx hown (mvT hZ (hw _ (List.mem_of_getElem? (i := 3) rfl))) (g := (mkF m 29 #[.val (.long ca), .second, .val (.long cb), .second, .val (.long cc), .second, .val (.long cd), .second, .val (.int se), .val (.int ((se &&& (2147483647 : Int32)) % (4 : Int32))), .val (.ref b1), .unset, .unset, .unset, .unset, .unset, .unset] [(.int (2 : Int32)), (.ref b1)])) rfl (hb hby at_29) _ ?_
    show Steps p.tables e below (T7.setTop (mkF m 32 #[.val (.long ca), .second, .val (.long cb), .second, .val (.long cc), .second, .val (.long cd), .second, .val (.int se), .val (.int ((se &&& (2147483647 : Int32)) % (4 : Int32))), .val (.ref b1), .unset, .unset, .unset, .unset, .unset, .unset] [(.double (4613937818241073152 : UInt64)), (.int (2 : Int32)), (.ref b1)])) _
    refine st10 _ ?_
    show Steps p.tables e below (T10.setTop (mkF m 33 #[.val (.long ca), .second, .val (.long cb), .second, .val (.long cc), .second, .val (.long cd), .second, .val (.int se), .val (.int ((se &&& (2147483647 : Int32)) % (4 : Int32))), .val (.ref b1), .unset, .unset, .unset, .unset, .unset, .unset] [])) _
    refine XS.iconst X10.here hx rfl (hb hby at_33) ?_
    show Steps p.tables e below (T10.setTop (mkF m 34 #[.val (.long ca), .second, .val (.long cb), .second, .val (.long cc), .second, .val (.long cd), .second, .val (.int se), .val (.int ((se &&& (2147483647 : Int32)) % (4 : Int32))), .val (.ref b1), .unset, .unset, .unset, .unset, .unset, .unset] [(.int (4 : Int32))])) _
    refine st12 _ ?_
    show Steps p.tables e below (T12.setTop (mkF m 36 #[.val (.long ca), .second, .val (.long cb), .second, .val (.long cc), .second, .val (.long cd), .second, .val (.int se), .val (.int ((se &&& (2147483647 : Int32)) % (4 : Int32))), .val (.ref b1), .unset, .unset, .unset, .unset, .unset, .unset] [(.ref b12)])) _
    refine XS.astore X12.here hx rfl (hb hby at_36) rfl rfl (l' := #[.val (.long ca), .second, .val (.long cb), .second, .val (.long cc), .second, .val (.long cd), .second, .val (.int se), .val (.int ((se &&& (2147483647 : Int32)) % (4 : Int32))), .val (.ref b1), .val (.ref b12), .unset, .unset, .unset, .unset, .unset]) rfl ?_
    show Steps p.tables e below (T12.setTop (mkF m 38 #[.val (.long ca), .second, .val (.long cb), .second, .val (.long cc), .second, .val (.long cd), .second, .val (.int se), .val (.int ((se &&& (2147483647 : Int32)) % (4 : Int32))), .val (.ref b1), .val (.ref b12), .unset, .unset, .unset, .unset, .unset] [])) _
    refine XS.aload X12.here hx rfl (hb hby at_38) rfl rfl ?_
    show Steps p.tables e below (T12.setTop (mkF m 40 #[.val (.long ca), .second, .val (.long cb), .second, .val (.long cc), .second, .val (.long cd), .second, .val (.int se), .val (.int ((se &&& (2147483647 : Int32)) % (4 : Int32))), .val (.ref b1), .val (.ref b12), .unset, .unset, .unset, .unset, .unset] [(.ref b12)])) _
    refine XS.iconst X12.here hx rfl (hb hby at_40) ?_
    show Steps p.tables e below (T12.setTop (mkF m 41 #[.val (.long ca), .second, .val (.long cb), .second, .val (.long cc), .second, .val (.long cd), .second, .val (.int se), .val (.int ((se &&& (2147483647 : Int32)) % (4 : Int32))), .val (.ref b1), .val (.ref b12), .unset, .unset, .unset, .unset, .unset] [(.int (0 : Int32)), (.ref b12)])) _
    refine XS.lloadN X12.here hx rfl (hb hby at_41) rfl ?_
    show Steps p.tables e below (T12.setTop (mkF m 42 #[.val (.long ca), .second, .val (.long cb), .second, .val (.long cc), .second, .val (.long cd), .second, .val (.int se), .val (.int ((se &&& (2147483647 : Int32)) % (4 : Int32))), .val (.ref b1), .val (.ref b12), .unset, .unset, .unset, .unset, .unset] [(.long ca), (.int (0 : Int32)), (.ref b12)])) _
    refine st17 _ ?_
    show Steps p.tables e below (T17.setTop (mkF m 43 #[.val (.long ca), .second, .val (.long cb), .second, .val (.long cc), .second, .val (.long cd), .second, .val (.int se), .val (.int ((se &&& (2147483647 : Int32)) % (4 : Int32))), .val (.ref b1), .val (.ref b12), .unset, .unset, .unset, .unset, .unset] [])) _
    refine XS.aload X17.here hx rfl (hb hby at_43) rfl rfl ?_
    show Steps p.tables e below (T17.setTop (mkF m 45 #[.val (.long ca), .second, .val (.long cb), .second, .val (.long cc), .second, .val (.long cd), .second, .val (.int se), .val (.int ((se &&& (2147483647 : Int32)) % (4 : Int32))), .val (.ref b1), .val (.ref b12), .unset, .unset, .unset, .unset, .unset] [(.ref b12)])) _
    refine XS.iconst X17.here hx rfl (hb hby at_45) ?_
    show Steps p.tables e below (T17.setTop (mkF m 46 #[.val (.long ca), .second, .val (.long cb), .second, .val (.long cc), .second, .val (.long cd), .second, .val (.int se), .val (.int ((se &&& (2147483647 : Int32)) % (4 : Int32))), .val (.ref b1), .val (.ref b12), .unset, .unset, .unset, .unset, .unset] [(.int (1 : Int32)), (.ref b12)])) _
    refine XS.lloadN X17.here hx rfl (hb hby at_46) rfl ?_
    show Steps p.tables e below (T17.setTop (mkF m 47 #[.val (.long ca), .second, .val (.long cb), .second, .val (.long cc), .second, .val (.long cd), .second, .val (.int se), .val (.int ((se &&& (2147483647 : Int32)) % (4 : Int32))), .val (.ref b1), .val (.ref b12), .unset, .unset, .unset, .unset, .unset] [(.long cb), (.int (1 : Int32)), (.ref b12)])) _
    refine st21 _ ?_
    show Steps p.tables e below (T21.setTop (mkF m 48 #[.val (.long ca), .second, .val (.long cb), .second, .val (.long cc), .second, .val (.long cd), .second, .val (.int se), .val (.int ((se &&& (2147483647 : Int32)) % (4 : Int32))), .val (.ref b1), .val (.ref b12), .unset, .unset, .unset, .unset, .unset] [])) _
    refine XS.aload X21.here hx rfl (hb hby at_48) rfl rfl ?_
    show Steps p.tables e below (T21.setTop (mkF m 50 #[.val (.long ca), .second, .val (.long cb), .second, .val (.long cc), .second, .val (.long cd), .second, .val (.int se), .val (.int ((se &&& (2147483647 : Int32)) % (4 : Int32))), .val (.ref b1), .val (.ref b12), .unset, .unset, .unset, .unset, .unset] [(.ref b12)])) _
    refine XS.iconst X21.here hx rfl (hb hby at_50) ?_
    show Steps p.tables e below (T21.setTop (mkF m 51 #[.val (.long ca), .second, .val (.long cb), .second, .val (.long cc), .second, .val (.long cd), .second, .val (.int se), .val (.int ((se &&& (2147483647 : Int32)) % (4 : Int32))), .val (.ref b1), .val (.ref b12), .unset, .unset, .unset, .unset, .unset] [(.int (2 : Int32)), (.ref b12)])) _
    refine XS.lload X21.here hx rfl (hb hby at_51) rfl ?_
    show Steps p.tables e below (T21.setTop (mkF m 53 #[.val (.long ca), .second, .val (.long cb), .second, .val (.long cc), .second, .val (.long cd), .second, .val (.int se), .val (.int ((se &&& (2147483647 : Int32)) % (4 : Int32))), .val (.ref b1), .val (.ref b12), .unset, .unset, .unset, .unset, .unset] [(.long cc), (.int (2 : Int32)), (.ref b12)])) _
    refine st25 _ ?_
    show Steps p.tables e below (T25.setTop (mkF m 54 #[.val (.long ca), .second, .val (.long cb), .second, .val (.long cc), .second, .val (.long cd), .second, .val (.int se), .val (.int ((se &&& (2147483647 : Int32)) % (4 : Int32))), .val (.ref b1), .val (.ref b12), .unset, .unset, .unset, .unset, .unset] [])) _
    refine XS.aload X25.here hx rfl (hb hby at_54) rfl rfl ?_
    show Steps p.tables e below (T25.setTop (mkF m 56 #[.val (.long ca), .second, .val (.long cb), .second, .val (.long cc), .second, .val (.long cd), .second, .val (.int se), .val (.int ((se &&& (2147483647 : Int32)) % (4 : Int32))), .val (.ref b1), .val (.ref b12), .unset, .unset, .unset, .unset, .unset] [(.ref b12)])) _
    refine XS.iconst X25.here hx rfl (hb hby at_56) ?_
    show Steps p.tables e below (T25.setTop (mkF m 57 #[.val (.long ca), .second, .val (.long cb), .second, .val (.long cc), .second, .val (.long cd), .second, .val (.int se), .val (.int ((se &&& (2147483647 : Int32)) % (4 : Int32))), .val (.ref b1), .val (.ref b12), .unset, .unset, .unset, .unset, .unset] [(.int (3 : Int32)), (.ref b12)])) _
    refine XS.lload X25.here hx rfl (hb hby at_57) rfl ?_
    show Steps p.tables e below (T25.setTop (mkF m 59 #[.val (.long ca), .second, .val (.long cb), .second, .val (.long cc), .second, .val (.long cd), .second, .val (.int se), .val (.int ((se &&& (2147483647 : Int32)) % (4 : Int32))), .val (.ref b1), .val (.ref b12), .unset, .unset, .unset, .unset, .unset] [(.long cd), (.int (3 : Int32)), (.ref b12)])) _
    refine st29 _ ?_
    show Steps p.tables e below (T29.setTop (mkF m 60 #[.val (.long ca), .second, .val (.long cb), .second, .val (.long cc), .second, .val (.long cd), .second, .val (.int se), .val (.int ((se &&& (2147483647 : Int32)) % (4 : Int32))), .val (.ref b1), .val (.ref b12), .unset, .unset, .unset, .unset, .unset] [])) _
    refine st32 _ ?_
    show Steps p.tables e below (T32.setTop (mkF m 63 #[.val (.long ca), .second, .val (.long cb), .second, .val (.long cc), .second, .val (.long cd), .second, .val (.int se), .val (.int ((se &&& (2147483647 : Int32)) % (4 : Int32))), .val (.ref b1), .val (.ref b12), .unset, .unset, .unset, .unset, .unset] [(.ref b32)])) _
    refine XS.dup X32.here hx rfl (hb hby at_63) rfl rfl ?_
    show Steps p.tables e below (T32.setTop (mkF m 64 #[.val (.long ca), .second, .val (.long cb), .second, .val (.long cc), .second, .val (.long cd), .second, .val (.int se), .val (.int ((se &&& (2147483647 : Int32)) % (4 : Int32))), .val (.ref b1), .val (.ref b12), .unset, .unset, .unset, .unset, .unset] [(.ref b32), (.ref b32)])) _
    refine XS.aload X32.here hx rfl (hb hby at_64) rfl rfl ?_
    show Steps p.tables e below (T32.setTop (mkF m 66 #[.val (.long ca), .second, .val (.long cb), .second, .val (.long cc), .second, .val (.long cd), .second, .val (.int se), .val (.int ((se &&& (2147483647 : Int32)) % (4 : Int32))), .val (.ref b1), .val (.ref b12), .unset, .unset, .unset, .unset, .unset] [(.ref b1), (.ref b32), (.ref b32)])) _
    refine XS.aload X32.here hx rfl (hb hby at_66) rfl rfl ?_
    show Steps p.tables e below (T32.setTop (mkF m 68 #[.val (.long ca), .second, .val (.long cb), .second, .val (.long cc), .second, .val (.long cd), .second, .val (.int se), .val (.int ((se &&& (2147483647 : Int32)) % (4 : Int32))), .val (.ref b1), .val (.ref b12), .unset, .unset, .unset, .unset, .unset] [(.ref b12), (.ref b1), (.ref b32), (.ref b32)])) _
    refine XS.dconst0 X32.here hx rfl (hb hby at_68) (v := FP.dconst0) rfl ?_
    show Steps p.tables e below (T32.setTop (mkF m 69 #[.val (.long ca), .second, .val (.long cb), .second, .val (.long cc), .second, .val (.long cd), .second, .val (.int se), .val (.int ((se &&& (2147483647 : Int32)) % (4 : Int32))), .val (.ref b1), .val (.ref b12), .unset, .unset, .unset, .unset, .unset] [(.double FP.dconst0), (.ref b12), (.ref b1), (.ref b32), (.ref b32)])) _
    refine st40.trans ?_
    show Steps p.tables e below (T40.setTop (mkF m 72 #[.val (.long ca), .second, .val (.long cb), .second, .val (.long cc), .second, .val (.long cd), .second, .val (.int se), .val (.int ((se &&& (2147483647 : Int32)) % (4 : Int32))), .val (.ref b1), .val (.ref b12), .unset, .unset, .unset, .unset, .unset] [(.ref b32)])) _
    refine XS.astore X40.here hx rfl (hb hby at_72) rfl rfl (l' := #[.val (.long ca), .second, .val (.long cb), .second, .val (.long cc), .second, .val (.long cd), .second, .val (.int se), .val (.int ((se &&& (2147483647 : Int32)) % (4 : Int32))), .val (.ref b1), .val (.ref b12), .val (.ref b32), .unset, .unset, .unset, .unset]) rfl ?_
    show Steps p.tables e below (T40.setTop (mkF m 74 #[.val (.long ca), .second, .val (.long cb), .second, .val (.long cc), .second, .val (.long cd), .second, .val (.int se), .val (.int ((se &&& (2147483647 : Int32)) % (4 : Int32))), .val (.ref b1), .val (.ref b12), .val (.ref b32), .unset, .unset, .unset, .unset] [])) _
    refine XS.aload X40.here hx rfl (hb hby at_74) rfl rfl ?_
    show Steps p.tables e below (T40.setTop (mkF m 76 #[.val (.long ca), .second, .val (.long cb), .second, .val (.long cc), .second, .val (.long cd), .second, .val (.int se), .val (.int ((se &&& (2147483647 : Int32)) % (4 : Int32))), .val (.ref b1), .val (.ref b12), .val (.ref b32), .unset, .unset, .unset, .unset] [(.ref b32)])) _
    refine XS.iload X40.here hx rfl (hb hby at_76) rfl ?_
    exact k
  rcases own_k se with hk48 | hk48 | hk48 | hk48
  · have pre49 : ∀ t, Steps p.tables e below (T40.setTop (mkF m 78 #[.val (.long ca), .second, .val (.long cb), .second, .val (.long cc), .second, .val (.long cd), .second, .val (.int se), .val (.int (0 : Int32)), .val (.ref b1), .val (.ref b12), .val (.ref b32), .unset, .unset, .unset, .unset] [(.int (0 : Int32)), (.ref b32)])) t → Steps p.tables e below (s₁.setTop (entryFrame m #[(.long ca), (.long cb), (.long cc), (.long cd), (.int se)] maxLocals)) t := by
      intro t k
      refine pre47 _ ?_
      rw [hk48]
      exact k
    obtain ⟨cq50, kq50, q50a, q50b, q50c⟩ := isOf hZ rfl f46
    obtain ⟨_, _, ⟨T50, L50, k50, n50⟩, -, X50, ⟨Lc50, hQ50, l50, y50, z50⟩, st50⟩ := X40.virtualBack hx (y := (⟨"com/example/hikyaku/hikyaku/store/Histogram$Counts", "atMost", "(I)J"⟩ : MethodName)) (z := (⟨"com/example/hikyaku/hikyaku/store/Histogram$Counts", "atMost", "(I)J"⟩ : MethodName)) hown (mvT hZ (hw _ (List.mem_of_getElem? (i := 25) rfl))) (mvT hZ (hw _ (List.mem_of_getElem? (i := 26) rfl))) (notFace_of_selects (args := #[]) (mvT hZ (hw _ (List.mem_of_getElem? (i := 28) rfl)))) (mvT hZ (hw _ (List.mem_of_getElem? (i := 28) rfl))) (mvT hZ (hw _ (List.mem_of_getElem? (i := 27) rfl))) (by decide) (backOf (W := 0) (rm4k0 l Z a0 hw [] b32 b12 (up (up (up (up zJ 0 ca) 1 cb) 2 cc) 3 cd) T40.heap n0 Z40 f42 f45) hZ (hw _ (List.mem_of_getElem? (i := 29) rfl)) (hw _ (List.mem_of_getElem? (i := 7) rfl)) (by decide) (by decide)) q50a q50c (g := (mkF m 78 #[.val (.long ca), .second, .val (.long cb), .second, .val (.long cc), .second, .val (.long cd), .second, .val (.int se), .val (.int (0 : Int32)), .val (.ref b1), .val (.ref b12), .val (.ref b32), .unset, .unset, .unset, .unset] [(.int (0 : Int32)), (.ref b32)])) rfl (by rw [hml]; rfl) (Steps.refl _) (argsL := [(.int (0 : Int32))]) (rest := []) (lenOf pd_2 rfl) rfl (by show 2 * 0 + _ ≤ _; exact Nat.le_of_eq rfl) (hb hby at_78) (fun _ _ => ⟨rfl, rfl, (by decide : 3 + 0 ≤ _), (by decide : 10 + 0 ≤ _)⟩)
    dsimp only [Pt.U, Pt.locs, Pt.cells, Pt.slots] at X50 l50 y50 z50 st50 hQ50
    subst l50 y50 z50
    obtain ⟨rfl, N50q, e50⟩ := hQ50
    have N50 := Fr.app N40 N50q
    obtain ⟨fs, hr, hrun, hended, hW, hsame⟩ := X50.leave (v := some (.int (1 : Int32))) (fun h => by rw [Bd.returns] at h; cases h)
    refine ⟨_, _, pre49 _ ?_, hrun, hended, _, _, rfl, ?_, ⟨_, rfl⟩, hW, hsame.mono (by decide) (by decide)⟩
    · show Steps p.tables e below (T40.setTop (mkF m 78 #[.val (.long ca), .second, .val (.long cb), .second, .val (.long cc), .second, .val (.long cd), .second, .val (.int se), .val (.int (0 : Int32)), .val (.ref b1), .val (.ref b12), .val (.ref b32), .unset, .unset, .unset, .unset] [(.int (0 : Int32)), (.ref b32)])) _
      refine st50.trans ?_
      show Steps p.tables e below (T50.setTop (mkF m 81 #[.val (.long ca), .second, .val (.long cb), .second, .val (.long cc), .second, .val (.long cd), .second, .val (.int se), .val (.int (0 : Int32)), .val (.ref b1), .val (.ref b12), .val (.ref b32), .unset, .unset, .unset, .unset] [(.long ((0 : Int64) + ((up (up (up (up zJ 0 ca) 1 cb) 2 cc) 3 cd) 0)))])) _
      refine XS.lstore X50.here hx rfl (hb hby at_81) rfl (l' := #[.val (.long ca), .second, .val (.long cb), .second, .val (.long cc), .second, .val (.long cd), .second, .val (.int se), .val (.int (0 : Int32)), .val (.ref b1), .val (.ref b12), .val (.ref b32), .val (.long ((0 : Int64) + ((up (up (up (up zJ 0 ca) 1 cb) 2 cc) 3 cd) 0))), .second, .unset, .unset]) rfl ?_
      show Steps p.tables e below (T50.setTop (mkF m 83 #[.val (.long ca), .second, .val (.long cb), .second, .val (.long cc), .second, .val (.long cd), .second, .val (.int se), .val (.int (0 : Int32)), .val (.ref b1), .val (.ref b12), .val (.ref b32), .val (.long ((0 : Int64) + ((up (up (up (up zJ 0 ca) 1 cb) 2 cc) 3 cd) 0))), .second, .unset, .unset] [])) _
      refine XS.lloadN X50.here hx rfl (hb hby at_83) rfl ?_
      show Steps p.tables e below (T50.setTop (mkF m 84 #[.val (.long ca), .second, .val (.long cb), .second, .val (.long cc), .second, .val (.long cd), .second, .val (.int se), .val (.int (0 : Int32)), .val (.ref b1), .val (.ref b12), .val (.ref b32), .val (.long ((0 : Int64) + ((up (up (up (up zJ 0 ca) 1 cb) 2 cc) 3 cd) 0))), .second, .unset, .unset] [(.long ca)])) _
      refine XS.lstore X50.here hx rfl (hb hby at_84) rfl (l' := #[.val (.long ca), .second, .val (.long cb), .second, .val (.long cc), .second, .val (.long cd), .second, .val (.int se), .val (.int (0 : Int32)), .val (.ref b1), .val (.ref b12), .val (.ref b32), .val (.long ((0 : Int64) + ((up (up (up (up zJ 0 ca) 1 cb) 2 cc) 3 cd) 0))), .second, .val (.long ca), .second]) rfl ?_
      show Steps p.tables e below (T50.setTop (mkF m 86 #[.val (.long ca), .second, .val (.long cb), .second, .val (.long cc), .second, .val (.long cd), .second, .val (.int se), .val (.int (0 : Int32)), .val (.ref b1), .val (.ref b12), .val (.ref b32), .val (.long ((0 : Int64) + ((up (up (up (up zJ 0 ca) 1 cb) 2 cc) 3 cd) 0))), .second, .val (.long ca), .second] [])) _
      refine XS.iload X50.here hx rfl (hb hby at_86) rfl ?_
      show Steps p.tables e below (T50.setTop (mkF m 88 #[.val (.long ca), .second, .val (.long cb), .second, .val (.long cc), .second, .val (.long cd), .second, .val (.int se), .val (.int (0 : Int32)), .val (.ref b1), .val (.ref b12), .val (.ref b32), .val (.long ((0 : Int64) + ((up (up (up (up zJ 0 ca) 1 cb) 2 cc) 3 cd) 0))), .second, .val (.long ca), .second] [(.int (0 : Int32))])) _
      refine XS.iconst X50.here hx rfl (hb hby at_88) ?_
      show Steps p.tables e below (T50.setTop (mkF m 89 #[.val (.long ca), .second, .val (.long cb), .second, .val (.long cc), .second, .val (.long cd), .second, .val (.int se), .val (.int (0 : Int32)), .val (.ref b1), .val (.ref b12), .val (.ref b32), .val (.long ((0 : Int64) + ((up (up (up (up zJ 0 ca) 1 cb) 2 cc) 3 cd) 0))), .second, .val (.long ca), .second] [(.int (1 : Int32)), (.int (0 : Int32))])) _
      refine XS.icmpYes X50.here hx rfl (pc0 := 89) (pc' := 98) rfl (hb hby at_89) rfl (tlt (by decide : ((0 : Int32) < (1 : Int32)))).1 (by decide) (by decide) ?_
      show Steps p.tables e below (T50.setTop (mkF m 98 #[.val (.long ca), .second, .val (.long cb), .second, .val (.long cc), .second, .val (.long cd), .second, .val (.int se), .val (.int (0 : Int32)), .val (.ref b1), .val (.ref b12), .val (.ref b32), .val (.long ((0 : Int64) + ((up (up (up (up zJ 0 ca) 1 cb) 2 cc) 3 cd) 0))), .second, .val (.long ca), .second] [])) _
      refine XS.iload X50.here hx rfl (hb hby at_98) rfl ?_
      show Steps p.tables e below (T50.setTop (mkF m 100 #[.val (.long ca), .second, .val (.long cb), .second, .val (.long cc), .second, .val (.long cd), .second, .val (.int se), .val (.int (0 : Int32)), .val (.ref b1), .val (.ref b12), .val (.ref b32), .val (.long ((0 : Int64) + ((up (up (up (up zJ 0 ca) 1 cb) 2 cc) 3 cd) 0))), .second, .val (.long ca), .second] [(.int (0 : Int32))])) _
      refine XS.iconst X50.here hx rfl (hb hby at_100) ?_
      show Steps p.tables e below (T50.setTop (mkF m 101 #[.val (.long ca), .second, .val (.long cb), .second, .val (.long cc), .second, .val (.long cd), .second, .val (.int se), .val (.int (0 : Int32)), .val (.ref b1), .val (.ref b12), .val (.ref b32), .val (.long ((0 : Int64) + ((up (up (up (up zJ 0 ca) 1 cb) 2 cc) 3 cd) 0))), .second, .val (.long ca), .second] [(.int (2 : Int32)), (.int (0 : Int32))])) _
      refine XS.icmpYes X50.here hx rfl (pc0 := 101) (pc' := 111) rfl (hb hby at_101) rfl (tlt (by decide : ((0 : Int32) < (2 : Int32)))).1 (by decide) (by decide) ?_
      show Steps p.tables e below (T50.setTop (mkF m 111 #[.val (.long ca), .second, .val (.long cb), .second, .val (.long cc), .second, .val (.long cd), .second, .val (.int se), .val (.int (0 : Int32)), .val (.ref b1), .val (.ref b12), .val (.ref b32), .val (.long ((0 : Int64) + ((up (up (up (up zJ 0 ca) 1 cb) 2 cc) 3 cd) 0))), .second, .val (.long ca), .second] [])) _
      refine XS.iload X50.here hx rfl (hb hby at_111) rfl ?_
      show Steps p.tables e below (T50.setTop (mkF m 113 #[.val (.long ca), .second, .val (.long cb), .second, .val (.long cc), .second, .val (.long cd), .second, .val (.int se), .val (.int (0 : Int32)), .val (.ref b1), .val (.ref b12), .val (.ref b32), .val (.long ((0 : Int64) + ((up (up (up (up zJ 0 ca) 1 cb) 2 cc) 3 cd) 0))), .second, .val (.long ca), .second] [(.int (0 : Int32))])) _
      refine XS.iconst X50.here hx rfl (hb hby at_113) ?_
      show Steps p.tables e below (T50.setTop (mkF m 114 #[.val (.long ca), .second, .val (.long cb), .second, .val (.long cc), .second, .val (.long cd), .second, .val (.int se), .val (.int (0 : Int32)), .val (.ref b1), .val (.ref b12), .val (.ref b32), .val (.long ((0 : Int64) + ((up (up (up (up zJ 0 ca) 1 cb) 2 cc) 3 cd) 0))), .second, .val (.long ca), .second] [(.int (3 : Int32)), (.int (0 : Int32))])) _
      refine XS.icmpYes X50.here hx rfl (pc0 := 114) (pc' := 124) rfl (hb hby at_114) rfl (tlt (by decide : ((0 : Int32) < (3 : Int32)))).1 (by decide) (by decide) ?_
      show Steps p.tables e below (T50.setTop (mkF m 124 #[.val (.long ca), .second, .val (.long cb), .second, .val (.long cc), .second, .val (.long cd), .second, .val (.int se), .val (.int (0 : Int32)), .val (.ref b1), .val (.ref b12), .val (.ref b32), .val (.long ((0 : Int64) + ((up (up (up (up zJ 0 ca) 1 cb) 2 cc) 3 cd) 0))), .second, .val (.long ca), .second] [])) _
      refine XS.lload X50.here hx rfl (hb hby at_124) rfl ?_
      show Steps p.tables e below (T50.setTop (mkF m 126 #[.val (.long ca), .second, .val (.long cb), .second, .val (.long cc), .second, .val (.long cd), .second, .val (.int se), .val (.int (0 : Int32)), .val (.ref b1), .val (.ref b12), .val (.ref b32), .val (.long ((0 : Int64) + ((up (up (up (up zJ 0 ca) 1 cb) 2 cc) 3 cd) 0))), .second, .val (.long ca), .second] [(.long ((0 : Int64) + ((up (up (up (up zJ 0 ca) 1 cb) 2 cc) 3 cd) 0)))])) _
      refine XS.lload X50.here hx rfl (hb hby at_126) rfl ?_
      show Steps p.tables e below (T50.setTop (mkF m 128 #[.val (.long ca), .second, .val (.long cb), .second, .val (.long cc), .second, .val (.long cd), .second, .val (.int se), .val (.int (0 : Int32)), .val (.ref b1), .val (.ref b12), .val (.ref b32), .val (.long ((0 : Int64) + ((up (up (up (up zJ 0 ca) 1 cb) 2 cc) 3 cd) 0))), .second, .val (.long ca), .second] [(.long ca), (.long ((0 : Int64) + ((up (up (up (up zJ 0 ca) 1 cb) 2 cc) 3 cd) 0)))])) _
      refine XS.lcmp X50.here hx rfl (hb hby at_128) rfl ?_
      show Steps p.tables e below (T50.setTop (mkF m 129 #[.val (.long ca), .second, .val (.long cb), .second, .val (.long cc), .second, .val (.long cd), .second, .val (.int se), .val (.int (0 : Int32)), .val (.ref b1), .val (.ref b12), .val (.ref b32), .val (.long ((0 : Int64) + ((up (up (up (up zJ 0 ca) 1 cb) 2 cc) 3 cd) 0))), .second, .val (.long ca), .second] [(.int (lcmpW ((0 : Int64) + ((up (up (up (up zJ 0 ca) 1 cb) 2 cc) 3 cd) 0)) ca))])) _
      refine XS.ifNo X50.here hx rfl (hb hby at_129) rfl (own_teqL (own_f0 ca cb cc cd : (((0 : Int64) + ((up (up (up (up zJ 0 ca) 1 cb) 2 cc) 3 cd) 0)) = ca))).2 ?_
      show Steps p.tables e below (T50.setTop (mkF m 132 #[.val (.long ca), .second, .val (.long cb), .second, .val (.long cc), .second, .val (.long cd), .second, .val (.int se), .val (.int (0 : Int32)), .val (.ref b1), .val (.ref b12), .val (.ref b32), .val (.long ((0 : Int64) + ((up (up (up (up zJ 0 ca) 1 cb) 2 cc) 3 cd) 0))), .second, .val (.long ca), .second] [])) _
      refine XS.iconst X50.here hx rfl (hb hby at_132) ?_
      show Steps p.tables e below (T50.setTop (mkF m 133 #[.val (.long ca), .second, .val (.long cb), .second, .val (.long cc), .second, .val (.long cd), .second, .val (.int se), .val (.int (0 : Int32)), .val (.ref b1), .val (.ref b12), .val (.ref b32), .val (.long ((0 : Int64) + ((up (up (up (up zJ 0 ca) 1 cb) 2 cc) 3 cd) 0))), .second, .val (.long ca), .second] [(.int (1 : Int32))])) _
      refine XS.goto X50.here hx rfl (pc0 := 133) (pc' := 137) rfl (hb hby at_133) (by decide) (by decide) ?_
      show Steps p.tables e below (T50.setTop (mkF m 137 #[.val (.long ca), .second, .val (.long cb), .second, .val (.long cc), .second, .val (.long cd), .second, .val (.int se), .val (.int (0 : Int32)), .val (.ref b1), .val (.ref b12), .val (.ref b32), .val (.long ((0 : Int64) + ((up (up (up (up zJ 0 ca) 1 cb) 2 cc) 3 cd) 0))), .second, .val (.long ca), .second] [(.int (1 : Int32))])) _
      exact retN X50 hx (t := .boolean) Bd.returns (by simp) (hb hby at_137) hr
    · show Q0 Z ca cb cc cd se h0 n0 _ T50.heap _
      rw [e50]
      exact ⟨rfl, N50⟩
  · have pre51 : ∀ t, Steps p.tables e below (T40.setTop (mkF m 78 #[.val (.long ca), .second, .val (.long cb), .second, .val (.long cc), .second, .val (.long cd), .second, .val (.int se), .val (.int (1 : Int32)), .val (.ref b1), .val (.ref b12), .val (.ref b32), .unset, .unset, .unset, .unset] [(.int (1 : Int32)), (.ref b32)])) t → Steps p.tables e below (s₁.setTop (entryFrame m #[(.long ca), (.long cb), (.long cc), (.long cd), (.int se)] maxLocals)) t := by
      intro t k
      refine pre47 _ ?_
      rw [hk48]
      exact k
    obtain ⟨cq52, kq52, q52a, q52b, q52c⟩ := isOf hZ rfl f46
    obtain ⟨_, _, ⟨T52, L52, k52, n52⟩, -, X52, ⟨Lc52, hQ52, l52, y52, z52⟩, st52⟩ := X40.virtualBack hx (y := (⟨"com/example/hikyaku/hikyaku/store/Histogram$Counts", "atMost", "(I)J"⟩ : MethodName)) (z := (⟨"com/example/hikyaku/hikyaku/store/Histogram$Counts", "atMost", "(I)J"⟩ : MethodName)) hown (mvT hZ (hw _ (List.mem_of_getElem? (i := 25) rfl))) (mvT hZ (hw _ (List.mem_of_getElem? (i := 26) rfl))) (notFace_of_selects (args := #[]) (mvT hZ (hw _ (List.mem_of_getElem? (i := 28) rfl)))) (mvT hZ (hw _ (List.mem_of_getElem? (i := 28) rfl))) (mvT hZ (hw _ (List.mem_of_getElem? (i := 27) rfl))) (by decide) (backOf (W := 0) (rm4k1 l Z a0 hw [] b32 b12 (up (up (up (up zJ 0 ca) 1 cb) 2 cc) 3 cd) T40.heap n0 Z40 f42 f45) hZ (hw _ (List.mem_of_getElem? (i := 29) rfl)) (hw _ (List.mem_of_getElem? (i := 7) rfl)) (by decide) (by decide)) q52a q52c (g := (mkF m 78 #[.val (.long ca), .second, .val (.long cb), .second, .val (.long cc), .second, .val (.long cd), .second, .val (.int se), .val (.int (1 : Int32)), .val (.ref b1), .val (.ref b12), .val (.ref b32), .unset, .unset, .unset, .unset] [(.int (1 : Int32)), (.ref b32)])) rfl (by rw [hml]; rfl) (Steps.refl _) (argsL := [(.int (1 : Int32))]) (rest := []) (lenOf pd_2 rfl) rfl (by show 2 * 0 + _ ≤ _; exact Nat.le_of_eq rfl) (hb hby at_78) (fun _ _ => ⟨rfl, rfl, (by decide : 3 + 0 ≤ _), (by decide : 10 + 0 ≤ _)⟩)
    dsimp only [Pt.U, Pt.locs, Pt.cells, Pt.slots] at X52 l52 y52 z52 st52 hQ52
    subst l52 y52 z52
    obtain ⟨rfl, N52q, e52⟩ := hQ52
    have N52 := Fr.app N40 N52q
    obtain ⟨fs, hr, hrun, hended, hW, hsame⟩ := X52.leave (v := some (.int (1 : Int32))) (fun h => by rw [Bd.returns] at h; cases h)
    refine ⟨_, _, pre51 _ ?_, hrun, hended, _, _, rfl, ?_, ⟨_, rfl⟩, hW, hsame.mono (by decide) (by decide)⟩
    · show Steps p.tables e below (T40.setTop (mkF m 78 #[.val (.long ca), .second, .val (.long cb), .second, .val (.long cc), .second, .val (.long cd), .second, .val (.int se), .val (.int (1 : Int32)), .val (.ref b1), .val (.ref b12), .val (.ref b32), .unset, .unset, .unset, .unset] [(.int (1 : Int32)), (.ref b32)])) _
      refine st52.trans ?_
      show Steps p.tables e below (T52.setTop (mkF m 81 #[.val (.long ca), .second, .val (.long cb), .second, .val (.long cc), .second, .val (.long cd), .second, .val (.int se), .val (.int (1 : Int32)), .val (.ref b1), .val (.ref b12), .val (.ref b32), .unset, .unset, .unset, .unset] [(.long (((0 : Int64) + ((up (up (up (up zJ 0 ca) 1 cb) 2 cc) 3 cd) 0)) + ((up (up (up (up zJ 0 ca) 1 cb) 2 cc) 3 cd) 1)))])) _
      refine XS.lstore X52.here hx rfl (hb hby at_81) rfl (l' := #[.val (.long ca), .second, .val (.long cb), .second, .val (.long cc), .second, .val (.long cd), .second, .val (.int se), .val (.int (1 : Int32)), .val (.ref b1), .val (.ref b12), .val (.ref b32), .val (.long (((0 : Int64) + ((up (up (up (up zJ 0 ca) 1 cb) 2 cc) 3 cd) 0)) + ((up (up (up (up zJ 0 ca) 1 cb) 2 cc) 3 cd) 1))), .second, .unset, .unset]) rfl ?_
      show Steps p.tables e below (T52.setTop (mkF m 83 #[.val (.long ca), .second, .val (.long cb), .second, .val (.long cc), .second, .val (.long cd), .second, .val (.int se), .val (.int (1 : Int32)), .val (.ref b1), .val (.ref b12), .val (.ref b32), .val (.long (((0 : Int64) + ((up (up (up (up zJ 0 ca) 1 cb) 2 cc) 3 cd) 0)) + ((up (up (up (up zJ 0 ca) 1 cb) 2 cc) 3 cd) 1))), .second, .unset, .unset] [])) _
      refine XS.lloadN X52.here hx rfl (hb hby at_83) rfl ?_
      show Steps p.tables e below (T52.setTop (mkF m 84 #[.val (.long ca), .second, .val (.long cb), .second, .val (.long cc), .second, .val (.long cd), .second, .val (.int se), .val (.int (1 : Int32)), .val (.ref b1), .val (.ref b12), .val (.ref b32), .val (.long (((0 : Int64) + ((up (up (up (up zJ 0 ca) 1 cb) 2 cc) 3 cd) 0)) + ((up (up (up (up zJ 0 ca) 1 cb) 2 cc) 3 cd) 1))), .second, .unset, .unset] [(.long ca)])) _
      refine XS.lstore X52.here hx rfl (hb hby at_84) rfl (l' := #[.val (.long ca), .second, .val (.long cb), .second, .val (.long cc), .second, .val (.long cd), .second, .val (.int se), .val (.int (1 : Int32)), .val (.ref b1), .val (.ref b12), .val (.ref b32), .val (.long (((0 : Int64) + ((up (up (up (up zJ 0 ca) 1 cb) 2 cc) 3 cd) 0)) + ((up (up (up (up zJ 0 ca) 1 cb) 2 cc) 3 cd) 1))), .second, .val (.long ca), .second]) rfl ?_
      show Steps p.tables e below (T52.setTop (mkF m 86 #[.val (.long ca), .second, .val (.long cb), .second, .val (.long cc), .second, .val (.long cd), .second, .val (.int se), .val (.int (1 : Int32)), .val (.ref b1), .val (.ref b12), .val (.ref b32), .val (.long (((0 : Int64) + ((up (up (up (up zJ 0 ca) 1 cb) 2 cc) 3 cd) 0)) + ((up (up (up (up zJ 0 ca) 1 cb) 2 cc) 3 cd) 1))), .second, .val (.long ca), .second] [])) _
      refine XS.iload X52.here hx rfl (hb hby at_86) rfl ?_
      show Steps p.tables e below (T52.setTop (mkF m 88 #[.val (.long ca), .second, .val (.long cb), .second, .val (.long cc), .second, .val (.long cd), .second, .val (.int se), .val (.int (1 : Int32)), .val (.ref b1), .val (.ref b12), .val (.ref b32), .val (.long (((0 : Int64) + ((up (up (up (up zJ 0 ca) 1 cb) 2 cc) 3 cd) 0)) + ((up (up (up (up zJ 0 ca) 1 cb) 2 cc) 3 cd) 1))), .second, .val (.long ca), .second] [(.int (1 : Int32))])) _
      refine XS.iconst X52.here hx rfl (hb hby at_88) ?_
      show Steps p.tables e below (T52.setTop (mkF m 89 #[.val (.long ca), .second, .val (.long cb), .second, .val (.long cc), .second, .val (.long cd), .second, .val (.int se), .val (.int (1 : Int32)), .val (.ref b1), .val (.ref b12), .val (.ref b32), .val (.long (((0 : Int64) + ((up (up (up (up zJ 0 ca) 1 cb) 2 cc) 3 cd) 0)) + ((up (up (up (up zJ 0 ca) 1 cb) 2 cc) 3 cd) 1))), .second, .val (.long ca), .second] [(.int (1 : Int32)), (.int (1 : Int32))])) _
      refine XS.icmpNo X52.here hx rfl (hb hby at_89) rfl (flt (by decide : ¬ ((1 : Int32) < (1 : Int32)))).1 ?_
      show Steps p.tables e below (T52.setTop (mkF m 92 #[.val (.long ca), .second, .val (.long cb), .second, .val (.long cc), .second, .val (.long cd), .second, .val (.int se), .val (.int (1 : Int32)), .val (.ref b1), .val (.ref b12), .val (.ref b32), .val (.long (((0 : Int64) + ((up (up (up (up zJ 0 ca) 1 cb) 2 cc) 3 cd) 0)) + ((up (up (up (up zJ 0 ca) 1 cb) 2 cc) 3 cd) 1))), .second, .val (.long ca), .second] [])) _
      refine XS.lload X52.here hx rfl (hb hby at_92) rfl ?_
      show Steps p.tables e below (T52.setTop (mkF m 94 #[.val (.long ca), .second, .val (.long cb), .second, .val (.long cc), .second, .val (.long cd), .second, .val (.int se), .val (.int (1 : Int32)), .val (.ref b1), .val (.ref b12), .val (.ref b32), .val (.long (((0 : Int64) + ((up (up (up (up zJ 0 ca) 1 cb) 2 cc) 3 cd) 0)) + ((up (up (up (up zJ 0 ca) 1 cb) 2 cc) 3 cd) 1))), .second, .val (.long ca), .second] [(.long ca)])) _
      refine XS.lloadN X52.here hx rfl (hb hby at_94) rfl ?_
      show Steps p.tables e below (T52.setTop (mkF m 95 #[.val (.long ca), .second, .val (.long cb), .second, .val (.long cc), .second, .val (.long cd), .second, .val (.int se), .val (.int (1 : Int32)), .val (.ref b1), .val (.ref b12), .val (.ref b32), .val (.long (((0 : Int64) + ((up (up (up (up zJ 0 ca) 1 cb) 2 cc) 3 cd) 0)) + ((up (up (up (up zJ 0 ca) 1 cb) 2 cc) 3 cd) 1))), .second, .val (.long ca), .second] [(.long cb), (.long ca)])) _
      refine XS.ladd X52.here hx rfl (hb hby at_95) rfl ?_
      show Steps p.tables e below (T52.setTop (mkF m 96 #[.val (.long ca), .second, .val (.long cb), .second, .val (.long cc), .second, .val (.long cd), .second, .val (.int se), .val (.int (1 : Int32)), .val (.ref b1), .val (.ref b12), .val (.ref b32), .val (.long (((0 : Int64) + ((up (up (up (up zJ 0 ca) 1 cb) 2 cc) 3 cd) 0)) + ((up (up (up (up zJ 0 ca) 1 cb) 2 cc) 3 cd) 1))), .second, .val (.long ca), .second] [(.long (ca + cb))])) _
      refine XS.lstore X52.here hx rfl (hb hby at_96) rfl (l' := #[.val (.long ca), .second, .val (.long cb), .second, .val (.long cc), .second, .val (.long cd), .second, .val (.int se), .val (.int (1 : Int32)), .val (.ref b1), .val (.ref b12), .val (.ref b32), .val (.long (((0 : Int64) + ((up (up (up (up zJ 0 ca) 1 cb) 2 cc) 3 cd) 0)) + ((up (up (up (up zJ 0 ca) 1 cb) 2 cc) 3 cd) 1))), .second, .val (.long (ca + cb)), .second]) rfl ?_
      show Steps p.tables e below (T52.setTop (mkF m 98 #[.val (.long ca), .second, .val (.long cb), .second, .val (.long cc), .second, .val (.long cd), .second, .val (.int se), .val (.int (1 : Int32)), .val (.ref b1), .val (.ref b12), .val (.ref b32), .val (.long (((0 : Int64) + ((up (up (up (up zJ 0 ca) 1 cb) 2 cc) 3 cd) 0)) + ((up (up (up (up zJ 0 ca) 1 cb) 2 cc) 3 cd) 1))), .second, .val (.long (ca + cb)), .second] [])) _
      refine XS.iload X52.here hx rfl (hb hby at_98) rfl ?_
      show Steps p.tables e below (T52.setTop (mkF m 100 #[.val (.long ca), .second, .val (.long cb), .second, .val (.long cc), .second, .val (.long cd), .second, .val (.int se), .val (.int (1 : Int32)), .val (.ref b1), .val (.ref b12), .val (.ref b32), .val (.long (((0 : Int64) + ((up (up (up (up zJ 0 ca) 1 cb) 2 cc) 3 cd) 0)) + ((up (up (up (up zJ 0 ca) 1 cb) 2 cc) 3 cd) 1))), .second, .val (.long (ca + cb)), .second] [(.int (1 : Int32))])) _
      refine XS.iconst X52.here hx rfl (hb hby at_100) ?_
      show Steps p.tables e below (T52.setTop (mkF m 101 #[.val (.long ca), .second, .val (.long cb), .second, .val (.long cc), .second, .val (.long cd), .second, .val (.int se), .val (.int (1 : Int32)), .val (.ref b1), .val (.ref b12), .val (.ref b32), .val (.long (((0 : Int64) + ((up (up (up (up zJ 0 ca) 1 cb) 2 cc) 3 cd) 0)) + ((up (up (up (up zJ 0 ca) 1 cb) 2 cc) 3 cd) 1))), .second, .val (.long (ca + cb)), .second] [(.int (2 : Int32)), (.int (1 : Int32))])) _
      refine XS.icmpYes X52.here hx rfl (pc0 := 101) (pc' := 111) rfl (hb hby at_101) rfl (tlt (by decide : ((1 : Int32) < (2 : Int32)))).1 (by decide) (by decide) ?_
      show Steps p.tables e below (T52.setTop (mkF m 111 #[.val (.long ca), .second, .val (.long cb), .second, .val (.long cc), .second, .val (.long cd), .second, .val (.int se), .val (.int (1 : Int32)), .val (.ref b1), .val (.ref b12), .val (.ref b32), .val (.long (((0 : Int64) + ((up (up (up (up zJ 0 ca) 1 cb) 2 cc) 3 cd) 0)) + ((up (up (up (up zJ 0 ca) 1 cb) 2 cc) 3 cd) 1))), .second, .val (.long (ca + cb)), .second] [])) _
      refine XS.iload X52.here hx rfl (hb hby at_111) rfl ?_
      show Steps p.tables e below (T52.setTop (mkF m 113 #[.val (.long ca), .second, .val (.long cb), .second, .val (.long cc), .second, .val (.long cd), .second, .val (.int se), .val (.int (1 : Int32)), .val (.ref b1), .val (.ref b12), .val (.ref b32), .val (.long (((0 : Int64) + ((up (up (up (up zJ 0 ca) 1 cb) 2 cc) 3 cd) 0)) + ((up (up (up (up zJ 0 ca) 1 cb) 2 cc) 3 cd) 1))), .second, .val (.long (ca + cb)), .second] [(.int (1 : Int32))])) _
      refine XS.iconst X52.here hx rfl (hb hby at_113) ?_
      show Steps p.tables e below (T52.setTop (mkF m 114 #[.val (.long ca), .second, .val (.long cb), .second, .val (.long cc), .second, .val (.long cd), .second, .val (.int se), .val (.int (1 : Int32)), .val (.ref b1), .val (.ref b12), .val (.ref b32), .val (.long (((0 : Int64) + ((up (up (up (up zJ 0 ca) 1 cb) 2 cc) 3 cd) 0)) + ((up (up (up (up zJ 0 ca) 1 cb) 2 cc) 3 cd) 1))), .second, .val (.long (ca + cb)), .second] [(.int (3 : Int32)), (.int (1 : Int32))])) _
      refine XS.icmpYes X52.here hx rfl (pc0 := 114) (pc' := 124) rfl (hb hby at_114) rfl (tlt (by decide : ((1 : Int32) < (3 : Int32)))).1 (by decide) (by decide) ?_
      show Steps p.tables e below (T52.setTop (mkF m 124 #[.val (.long ca), .second, .val (.long cb), .second, .val (.long cc), .second, .val (.long cd), .second, .val (.int se), .val (.int (1 : Int32)), .val (.ref b1), .val (.ref b12), .val (.ref b32), .val (.long (((0 : Int64) + ((up (up (up (up zJ 0 ca) 1 cb) 2 cc) 3 cd) 0)) + ((up (up (up (up zJ 0 ca) 1 cb) 2 cc) 3 cd) 1))), .second, .val (.long (ca + cb)), .second] [])) _
      refine XS.lload X52.here hx rfl (hb hby at_124) rfl ?_
      show Steps p.tables e below (T52.setTop (mkF m 126 #[.val (.long ca), .second, .val (.long cb), .second, .val (.long cc), .second, .val (.long cd), .second, .val (.int se), .val (.int (1 : Int32)), .val (.ref b1), .val (.ref b12), .val (.ref b32), .val (.long (((0 : Int64) + ((up (up (up (up zJ 0 ca) 1 cb) 2 cc) 3 cd) 0)) + ((up (up (up (up zJ 0 ca) 1 cb) 2 cc) 3 cd) 1))), .second, .val (.long (ca + cb)), .second] [(.long (((0 : Int64) + ((up (up (up (up zJ 0 ca) 1 cb) 2 cc) 3 cd) 0)) + ((up (up (up (up zJ 0 ca) 1 cb) 2 cc) 3 cd) 1)))])) _
      refine XS.lload X52.here hx rfl (hb hby at_126) rfl ?_
      show Steps p.tables e below (T52.setTop (mkF m 128 #[.val (.long ca), .second, .val (.long cb), .second, .val (.long cc), .second, .val (.long cd), .second, .val (.int se), .val (.int (1 : Int32)), .val (.ref b1), .val (.ref b12), .val (.ref b32), .val (.long (((0 : Int64) + ((up (up (up (up zJ 0 ca) 1 cb) 2 cc) 3 cd) 0)) + ((up (up (up (up zJ 0 ca) 1 cb) 2 cc) 3 cd) 1))), .second, .val (.long (ca + cb)), .second] [(.long (ca + cb)), (.long (((0 : Int64) + ((up (up (up (up zJ 0 ca) 1 cb) 2 cc) 3 cd) 0)) + ((up (up (up (up zJ 0 ca) 1 cb) 2 cc) 3 cd) 1)))])) _
      refine XS.lcmp X52.here hx rfl (hb hby at_128) rfl ?_
      show Steps p.tables e below (T52.setTop (mkF m 129 #[.val (.long ca), .second, .val (.long cb), .second, .val (.long cc), .second, .val (.long cd), .second, .val (.int se), .val (.int (1 : Int32)), .val (.ref b1), .val (.ref b12), .val (.ref b32), .val (.long (((0 : Int64) + ((up (up (up (up zJ 0 ca) 1 cb) 2 cc) 3 cd) 0)) + ((up (up (up (up zJ 0 ca) 1 cb) 2 cc) 3 cd) 1))), .second, .val (.long (ca + cb)), .second] [(.int (lcmpW (((0 : Int64) + ((up (up (up (up zJ 0 ca) 1 cb) 2 cc) 3 cd) 0)) + ((up (up (up (up zJ 0 ca) 1 cb) 2 cc) 3 cd) 1)) (ca + cb)))])) _
      refine XS.ifNo X52.here hx rfl (hb hby at_129) rfl (own_teqL (own_f1 ca cb cc cd : ((((0 : Int64) + ((up (up (up (up zJ 0 ca) 1 cb) 2 cc) 3 cd) 0)) + ((up (up (up (up zJ 0 ca) 1 cb) 2 cc) 3 cd) 1)) = (ca + cb)))).2 ?_
      show Steps p.tables e below (T52.setTop (mkF m 132 #[.val (.long ca), .second, .val (.long cb), .second, .val (.long cc), .second, .val (.long cd), .second, .val (.int se), .val (.int (1 : Int32)), .val (.ref b1), .val (.ref b12), .val (.ref b32), .val (.long (((0 : Int64) + ((up (up (up (up zJ 0 ca) 1 cb) 2 cc) 3 cd) 0)) + ((up (up (up (up zJ 0 ca) 1 cb) 2 cc) 3 cd) 1))), .second, .val (.long (ca + cb)), .second] [])) _
      refine XS.iconst X52.here hx rfl (hb hby at_132) ?_
      show Steps p.tables e below (T52.setTop (mkF m 133 #[.val (.long ca), .second, .val (.long cb), .second, .val (.long cc), .second, .val (.long cd), .second, .val (.int se), .val (.int (1 : Int32)), .val (.ref b1), .val (.ref b12), .val (.ref b32), .val (.long (((0 : Int64) + ((up (up (up (up zJ 0 ca) 1 cb) 2 cc) 3 cd) 0)) + ((up (up (up (up zJ 0 ca) 1 cb) 2 cc) 3 cd) 1))), .second, .val (.long (ca + cb)), .second] [(.int (1 : Int32))])) _
      refine XS.goto X52.here hx rfl (pc0 := 133) (pc' := 137) rfl (hb hby at_133) (by decide) (by decide) ?_
      show Steps p.tables e below (T52.setTop (mkF m 137 #[.val (.long ca), .second, .val (.long cb), .second, .val (.long cc), .second, .val (.long cd), .second, .val (.int se), .val (.int (1 : Int32)), .val (.ref b1), .val (.ref b12), .val (.ref b32), .val (.long (((0 : Int64) + ((up (up (up (up zJ 0 ca) 1 cb) 2 cc) 3 cd) 0)) + ((up (up (up (up zJ 0 ca) 1 cb) 2 cc) 3 cd) 1))), .second, .val (.long (ca + cb)), .second] [(.int (1 : Int32))])) _
      exact retN X52 hx (t := .boolean) Bd.returns (by simp) (hb hby at_137) hr
    · show Q0 Z ca cb cc cd se h0 n0 _ T52.heap _
      rw [e52]
      exact ⟨rfl, N52⟩
  · have pre53 : ∀ t, Steps p.tables e below (T40.setTop (mkF m 78 #[.val (.long ca), .second, .val (.long cb), .second, .val (.long cc), .second, .val (.long cd), .second, .val (.int se), .val (.int (2 : Int32)), .val (.ref b1), .val (.ref b12), .val (.ref b32), .unset, .unset, .unset, .unset] [(.int (2 : Int32)), (.ref b32)])) t → Steps p.tables e below (s₁.setTop (entryFrame m #[(.long ca), (.long cb), (.long cc), (.long cd), (.int se)] maxLocals)) t := by
      intro t k
      refine pre47 _ ?_
      rw [hk48]
      exact k
    obtain ⟨cq54, kq54, q54a, q54b, q54c⟩ := isOf hZ rfl f46
    obtain ⟨_, _, ⟨T54, L54, k54, n54⟩, -, X54, ⟨Lc54, hQ54, l54, y54, z54⟩, st54⟩ := X40.virtualBack hx (y := (⟨"com/example/hikyaku/hikyaku/store/Histogram$Counts", "atMost", "(I)J"⟩ : MethodName)) (z := (⟨"com/example/hikyaku/hikyaku/store/Histogram$Counts", "atMost", "(I)J"⟩ : MethodName)) hown (mvT hZ (hw _ (List.mem_of_getElem? (i := 25) rfl))) (mvT hZ (hw _ (List.mem_of_getElem? (i := 26) rfl))) (notFace_of_selects (args := #[]) (mvT hZ (hw _ (List.mem_of_getElem? (i := 28) rfl)))) (mvT hZ (hw _ (List.mem_of_getElem? (i := 28) rfl))) (mvT hZ (hw _ (List.mem_of_getElem? (i := 27) rfl))) (by decide) (backOf (W := 0) (rm4k2 l Z a0 hw [] b32 b12 (up (up (up (up zJ 0 ca) 1 cb) 2 cc) 3 cd) T40.heap n0 Z40 f42 f45) hZ (hw _ (List.mem_of_getElem? (i := 29) rfl)) (hw _ (List.mem_of_getElem? (i := 7) rfl)) (by decide) (by decide)) q54a q54c (g := (mkF m 78 #[.val (.long ca), .second, .val (.long cb), .second, .val (.long cc), .second, .val (.long cd), .second, .val (.int se), .val (.int (2 : Int32)), .val (.ref b1), .val (.ref b12), .val (.ref b32), .unset, .unset, .unset, .unset] [(.int (2 : Int32)), (.ref b32)])) rfl (by rw [hml]; rfl) (Steps.refl _) (argsL := [(.int (2 : Int32))]) (rest := []) (lenOf pd_2 rfl) rfl (by show 2 * 0 + _ ≤ _; exact Nat.le_of_eq rfl) (hb hby at_78) (fun _ _ => ⟨rfl, rfl, (by decide : 3 + 0 ≤ _), (by decide : 10 + 0 ≤ _)⟩)
    dsimp only [Pt.U, Pt.locs, Pt.cells, Pt.slots] at X54 l54 y54 z54 st54 hQ54
    subst l54 y54 z54
    obtain ⟨rfl, N54q, e54⟩ := hQ54
    have N54 := Fr.app N40 N54q
    obtain ⟨fs, hr, hrun, hended, hW, hsame⟩ := X54.leave (v := some (.int (1 : Int32))) (fun h => by rw [Bd.returns] at h; cases h)
    refine ⟨_, _, pre53 _ ?_, hrun, hended, _, _, rfl, ?_, ⟨_, rfl⟩, hW, hsame.mono (by decide) (by decide)⟩
    · show Steps p.tables e below (T40.setTop (mkF m 78 #[.val (.long ca), .second, .val (.long cb), .second, .val (.long cc), .second, .val (.long cd), .second, .val (.int se), .val (.int (2 : Int32)), .val (.ref b1), .val (.ref b12), .val (.ref b32), .unset, .unset, .unset, .unset] [(.int (2 : Int32)), (.ref b32)])) _
      refine st54.trans ?_
      show Steps p.tables e below (T54.setTop (mkF m 81 #[.val (.long ca), .second, .val (.long cb), .second, .val (.long cc), .second, .val (.long cd), .second, .val (.int se), .val (.int (2 : Int32)), .val (.ref b1), .val (.ref b12), .val (.ref b32), .unset, .unset, .unset, .unset] [(.long ((((0 : Int64) + ((up (up (up (up zJ 0 ca) 1 cb) 2 cc) 3 cd) 0)) + ((up (up (up (up zJ 0 ca) 1 cb) 2 cc) 3 cd) 1)) + ((up (up (up (up zJ 0 ca) 1 cb) 2 cc) 3 cd) 2)))])) _
      refine XS.lstore X54.here hx rfl (hb hby at_81) rfl (l' := #[.val (.long ca), .second, .val (.long cb), .second, .val (.long cc), .second, .val (.long cd), .second, .val (.int se), .val (.int (2 : Int32)), .val (.ref b1), .val (.ref b12), .val (.ref b32), .val (.long ((((0 : Int64) + ((up (up (up (up zJ 0 ca) 1 cb) 2 cc) 3 cd) 0)) + ((up (up (up (up zJ 0 ca) 1 cb) 2 cc) 3 cd) 1)) + ((up (up (up (up zJ 0 ca) 1 cb) 2 cc) 3 cd) 2))), .second, .unset, .unset]) rfl ?_
      show Steps p.tables e below (T54.setTop (mkF m 83 #[.val (.long ca), .second, .val (.long cb), .second, .val (.long cc), .second, .val (.long cd), .second, .val (.int se), .val (.int (2 : Int32)), .val (.ref b1), .val (.ref b12), .val (.ref b32), .val (.long ((((0 : Int64) + ((up (up (up (up zJ 0 ca) 1 cb) 2 cc) 3 cd) 0)) + ((up (up (up (up zJ 0 ca) 1 cb) 2 cc) 3 cd) 1)) + ((up (up (up (up zJ 0 ca) 1 cb) 2 cc) 3 cd) 2))), .second, .unset, .unset] [])) _
      refine XS.lloadN X54.here hx rfl (hb hby at_83) rfl ?_
      show Steps p.tables e below (T54.setTop (mkF m 84 #[.val (.long ca), .second, .val (.long cb), .second, .val (.long cc), .second, .val (.long cd), .second, .val (.int se), .val (.int (2 : Int32)), .val (.ref b1), .val (.ref b12), .val (.ref b32), .val (.long ((((0 : Int64) + ((up (up (up (up zJ 0 ca) 1 cb) 2 cc) 3 cd) 0)) + ((up (up (up (up zJ 0 ca) 1 cb) 2 cc) 3 cd) 1)) + ((up (up (up (up zJ 0 ca) 1 cb) 2 cc) 3 cd) 2))), .second, .unset, .unset] [(.long ca)])) _
      refine XS.lstore X54.here hx rfl (hb hby at_84) rfl (l' := #[.val (.long ca), .second, .val (.long cb), .second, .val (.long cc), .second, .val (.long cd), .second, .val (.int se), .val (.int (2 : Int32)), .val (.ref b1), .val (.ref b12), .val (.ref b32), .val (.long ((((0 : Int64) + ((up (up (up (up zJ 0 ca) 1 cb) 2 cc) 3 cd) 0)) + ((up (up (up (up zJ 0 ca) 1 cb) 2 cc) 3 cd) 1)) + ((up (up (up (up zJ 0 ca) 1 cb) 2 cc) 3 cd) 2))), .second, .val (.long ca), .second]) rfl ?_
      show Steps p.tables e below (T54.setTop (mkF m 86 #[.val (.long ca), .second, .val (.long cb), .second, .val (.long cc), .second, .val (.long cd), .second, .val (.int se), .val (.int (2 : Int32)), .val (.ref b1), .val (.ref b12), .val (.ref b32), .val (.long ((((0 : Int64) + ((up (up (up (up zJ 0 ca) 1 cb) 2 cc) 3 cd) 0)) + ((up (up (up (up zJ 0 ca) 1 cb) 2 cc) 3 cd) 1)) + ((up (up (up (up zJ 0 ca) 1 cb) 2 cc) 3 cd) 2))), .second, .val (.long ca), .second] [])) _
      refine XS.iload X54.here hx rfl (hb hby at_86) rfl ?_
      show Steps p.tables e below (T54.setTop (mkF m 88 #[.val (.long ca), .second, .val (.long cb), .second, .val (.long cc), .second, .val (.long cd), .second, .val (.int se), .val (.int (2 : Int32)), .val (.ref b1), .val (.ref b12), .val (.ref b32), .val (.long ((((0 : Int64) + ((up (up (up (up zJ 0 ca) 1 cb) 2 cc) 3 cd) 0)) + ((up (up (up (up zJ 0 ca) 1 cb) 2 cc) 3 cd) 1)) + ((up (up (up (up zJ 0 ca) 1 cb) 2 cc) 3 cd) 2))), .second, .val (.long ca), .second] [(.int (2 : Int32))])) _
      refine XS.iconst X54.here hx rfl (hb hby at_88) ?_
      show Steps p.tables e below (T54.setTop (mkF m 89 #[.val (.long ca), .second, .val (.long cb), .second, .val (.long cc), .second, .val (.long cd), .second, .val (.int se), .val (.int (2 : Int32)), .val (.ref b1), .val (.ref b12), .val (.ref b32), .val (.long ((((0 : Int64) + ((up (up (up (up zJ 0 ca) 1 cb) 2 cc) 3 cd) 0)) + ((up (up (up (up zJ 0 ca) 1 cb) 2 cc) 3 cd) 1)) + ((up (up (up (up zJ 0 ca) 1 cb) 2 cc) 3 cd) 2))), .second, .val (.long ca), .second] [(.int (1 : Int32)), (.int (2 : Int32))])) _
      refine XS.icmpNo X54.here hx rfl (hb hby at_89) rfl (flt (by decide : ¬ ((2 : Int32) < (1 : Int32)))).1 ?_
      show Steps p.tables e below (T54.setTop (mkF m 92 #[.val (.long ca), .second, .val (.long cb), .second, .val (.long cc), .second, .val (.long cd), .second, .val (.int se), .val (.int (2 : Int32)), .val (.ref b1), .val (.ref b12), .val (.ref b32), .val (.long ((((0 : Int64) + ((up (up (up (up zJ 0 ca) 1 cb) 2 cc) 3 cd) 0)) + ((up (up (up (up zJ 0 ca) 1 cb) 2 cc) 3 cd) 1)) + ((up (up (up (up zJ 0 ca) 1 cb) 2 cc) 3 cd) 2))), .second, .val (.long ca), .second] [])) _
      refine XS.lload X54.here hx rfl (hb hby at_92) rfl ?_
      show Steps p.tables e below (T54.setTop (mkF m 94 #[.val (.long ca), .second, .val (.long cb), .second, .val (.long cc), .second, .val (.long cd), .second, .val (.int se), .val (.int (2 : Int32)), .val (.ref b1), .val (.ref b12), .val (.ref b32), .val (.long ((((0 : Int64) + ((up (up (up (up zJ 0 ca) 1 cb) 2 cc) 3 cd) 0)) + ((up (up (up (up zJ 0 ca) 1 cb) 2 cc) 3 cd) 1)) + ((up (up (up (up zJ 0 ca) 1 cb) 2 cc) 3 cd) 2))), .second, .val (.long ca), .second] [(.long ca)])) _
      refine XS.lloadN X54.here hx rfl (hb hby at_94) rfl ?_
      show Steps p.tables e below (T54.setTop (mkF m 95 #[.val (.long ca), .second, .val (.long cb), .second, .val (.long cc), .second, .val (.long cd), .second, .val (.int se), .val (.int (2 : Int32)), .val (.ref b1), .val (.ref b12), .val (.ref b32), .val (.long ((((0 : Int64) + ((up (up (up (up zJ 0 ca) 1 cb) 2 cc) 3 cd) 0)) + ((up (up (up (up zJ 0 ca) 1 cb) 2 cc) 3 cd) 1)) + ((up (up (up (up zJ 0 ca) 1 cb) 2 cc) 3 cd) 2))), .second, .val (.long ca), .second] [(.long cb), (.long ca)])) _
      refine XS.ladd X54.here hx rfl (hb hby at_95) rfl ?_
      show Steps p.tables e below (T54.setTop (mkF m 96 #[.val (.long ca), .second, .val (.long cb), .second, .val (.long cc), .second, .val (.long cd), .second, .val (.int se), .val (.int (2 : Int32)), .val (.ref b1), .val (.ref b12), .val (.ref b32), .val (.long ((((0 : Int64) + ((up (up (up (up zJ 0 ca) 1 cb) 2 cc) 3 cd) 0)) + ((up (up (up (up zJ 0 ca) 1 cb) 2 cc) 3 cd) 1)) + ((up (up (up (up zJ 0 ca) 1 cb) 2 cc) 3 cd) 2))), .second, .val (.long ca), .second] [(.long (ca + cb))])) _
      refine XS.lstore X54.here hx rfl (hb hby at_96) rfl (l' := #[.val (.long ca), .second, .val (.long cb), .second, .val (.long cc), .second, .val (.long cd), .second, .val (.int se), .val (.int (2 : Int32)), .val (.ref b1), .val (.ref b12), .val (.ref b32), .val (.long ((((0 : Int64) + ((up (up (up (up zJ 0 ca) 1 cb) 2 cc) 3 cd) 0)) + ((up (up (up (up zJ 0 ca) 1 cb) 2 cc) 3 cd) 1)) + ((up (up (up (up zJ 0 ca) 1 cb) 2 cc) 3 cd) 2))), .second, .val (.long (ca + cb)), .second]) rfl ?_
      show Steps p.tables e below (T54.setTop (mkF m 98 #[.val (.long ca), .second, .val (.long cb), .second, .val (.long cc), .second, .val (.long cd), .second, .val (.int se), .val (.int (2 : Int32)), .val (.ref b1), .val (.ref b12), .val (.ref b32), .val (.long ((((0 : Int64) + ((up (up (up (up zJ 0 ca) 1 cb) 2 cc) 3 cd) 0)) + ((up (up (up (up zJ 0 ca) 1 cb) 2 cc) 3 cd) 1)) + ((up (up (up (up zJ 0 ca) 1 cb) 2 cc) 3 cd) 2))), .second, .val (.long (ca + cb)), .second] [])) _
      refine XS.iload X54.here hx rfl (hb hby at_98) rfl ?_
      show Steps p.tables e below (T54.setTop (mkF m 100 #[.val (.long ca), .second, .val (.long cb), .second, .val (.long cc), .second, .val (.long cd), .second, .val (.int se), .val (.int (2 : Int32)), .val (.ref b1), .val (.ref b12), .val (.ref b32), .val (.long ((((0 : Int64) + ((up (up (up (up zJ 0 ca) 1 cb) 2 cc) 3 cd) 0)) + ((up (up (up (up zJ 0 ca) 1 cb) 2 cc) 3 cd) 1)) + ((up (up (up (up zJ 0 ca) 1 cb) 2 cc) 3 cd) 2))), .second, .val (.long (ca + cb)), .second] [(.int (2 : Int32))])) _
      refine XS.iconst X54.here hx rfl (hb hby at_100) ?_
      show Steps p.tables e below (T54.setTop (mkF m 101 #[.val (.long ca), .second, .val (.long cb), .second, .val (.long cc), .second, .val (.long cd), .second, .val (.int se), .val (.int (2 : Int32)), .val (.ref b1), .val (.ref b12), .val (.ref b32), .val (.long ((((0 : Int64) + ((up (up (up (up zJ 0 ca) 1 cb) 2 cc) 3 cd) 0)) + ((up (up (up (up zJ 0 ca) 1 cb) 2 cc) 3 cd) 1)) + ((up (up (up (up zJ 0 ca) 1 cb) 2 cc) 3 cd) 2))), .second, .val (.long (ca + cb)), .second] [(.int (2 : Int32)), (.int (2 : Int32))])) _
      refine XS.icmpNo X54.here hx rfl (hb hby at_101) rfl (flt (by decide : ¬ ((2 : Int32) < (2 : Int32)))).1 ?_
      show Steps p.tables e below (T54.setTop (mkF m 104 #[.val (.long ca), .second, .val (.long cb), .second, .val (.long cc), .second, .val (.long cd), .second, .val (.int se), .val (.int (2 : Int32)), .val (.ref b1), .val (.ref b12), .val (.ref b32), .val (.long ((((0 : Int64) + ((up (up (up (up zJ 0 ca) 1 cb) 2 cc) 3 cd) 0)) + ((up (up (up (up zJ 0 ca) 1 cb) 2 cc) 3 cd) 1)) + ((up (up (up (up zJ 0 ca) 1 cb) 2 cc) 3 cd) 2))), .second, .val (.long (ca + cb)), .second] [])) _
      refine XS.lload X54.here hx rfl (hb hby at_104) rfl ?_
      show Steps p.tables e below (T54.setTop (mkF m 106 #[.val (.long ca), .second, .val (.long cb), .second, .val (.long cc), .second, .val (.long cd), .second, .val (.int se), .val (.int (2 : Int32)), .val (.ref b1), .val (.ref b12), .val (.ref b32), .val (.long ((((0 : Int64) + ((up (up (up (up zJ 0 ca) 1 cb) 2 cc) 3 cd) 0)) + ((up (up (up (up zJ 0 ca) 1 cb) 2 cc) 3 cd) 1)) + ((up (up (up (up zJ 0 ca) 1 cb) 2 cc) 3 cd) 2))), .second, .val (.long (ca + cb)), .second] [(.long (ca + cb))])) _
      refine XS.lload X54.here hx rfl (hb hby at_106) rfl ?_
      show Steps p.tables e below (T54.setTop (mkF m 108 #[.val (.long ca), .second, .val (.long cb), .second, .val (.long cc), .second, .val (.long cd), .second, .val (.int se), .val (.int (2 : Int32)), .val (.ref b1), .val (.ref b12), .val (.ref b32), .val (.long ((((0 : Int64) + ((up (up (up (up zJ 0 ca) 1 cb) 2 cc) 3 cd) 0)) + ((up (up (up (up zJ 0 ca) 1 cb) 2 cc) 3 cd) 1)) + ((up (up (up (up zJ 0 ca) 1 cb) 2 cc) 3 cd) 2))), .second, .val (.long (ca + cb)), .second] [(.long cc), (.long (ca + cb))])) _
      refine XS.ladd X54.here hx rfl (hb hby at_108) rfl ?_
      show Steps p.tables e below (T54.setTop (mkF m 109 #[.val (.long ca), .second, .val (.long cb), .second, .val (.long cc), .second, .val (.long cd), .second, .val (.int se), .val (.int (2 : Int32)), .val (.ref b1), .val (.ref b12), .val (.ref b32), .val (.long ((((0 : Int64) + ((up (up (up (up zJ 0 ca) 1 cb) 2 cc) 3 cd) 0)) + ((up (up (up (up zJ 0 ca) 1 cb) 2 cc) 3 cd) 1)) + ((up (up (up (up zJ 0 ca) 1 cb) 2 cc) 3 cd) 2))), .second, .val (.long (ca + cb)), .second] [(.long ((ca + cb) + cc))])) _
      refine XS.lstore X54.here hx rfl (hb hby at_109) rfl (l' := #[.val (.long ca), .second, .val (.long cb), .second, .val (.long cc), .second, .val (.long cd), .second, .val (.int se), .val (.int (2 : Int32)), .val (.ref b1), .val (.ref b12), .val (.ref b32), .val (.long ((((0 : Int64) + ((up (up (up (up zJ 0 ca) 1 cb) 2 cc) 3 cd) 0)) + ((up (up (up (up zJ 0 ca) 1 cb) 2 cc) 3 cd) 1)) + ((up (up (up (up zJ 0 ca) 1 cb) 2 cc) 3 cd) 2))), .second, .val (.long ((ca + cb) + cc)), .second]) rfl ?_
      show Steps p.tables e below (T54.setTop (mkF m 111 #[.val (.long ca), .second, .val (.long cb), .second, .val (.long cc), .second, .val (.long cd), .second, .val (.int se), .val (.int (2 : Int32)), .val (.ref b1), .val (.ref b12), .val (.ref b32), .val (.long ((((0 : Int64) + ((up (up (up (up zJ 0 ca) 1 cb) 2 cc) 3 cd) 0)) + ((up (up (up (up zJ 0 ca) 1 cb) 2 cc) 3 cd) 1)) + ((up (up (up (up zJ 0 ca) 1 cb) 2 cc) 3 cd) 2))), .second, .val (.long ((ca + cb) + cc)), .second] [])) _
      refine XS.iload X54.here hx rfl (hb hby at_111) rfl ?_
      show Steps p.tables e below (T54.setTop (mkF m 113 #[.val (.long ca), .second, .val (.long cb), .second, .val (.long cc), .second, .val (.long cd), .second, .val (.int se), .val (.int (2 : Int32)), .val (.ref b1), .val (.ref b12), .val (.ref b32), .val (.long ((((0 : Int64) + ((up (up (up (up zJ 0 ca) 1 cb) 2 cc) 3 cd) 0)) + ((up (up (up (up zJ 0 ca) 1 cb) 2 cc) 3 cd) 1)) + ((up (up (up (up zJ 0 ca) 1 cb) 2 cc) 3 cd) 2))), .second, .val (.long ((ca + cb) + cc)), .second] [(.int (2 : Int32))])) _
      refine XS.iconst X54.here hx rfl (hb hby at_113) ?_
      show Steps p.tables e below (T54.setTop (mkF m 114 #[.val (.long ca), .second, .val (.long cb), .second, .val (.long cc), .second, .val (.long cd), .second, .val (.int se), .val (.int (2 : Int32)), .val (.ref b1), .val (.ref b12), .val (.ref b32), .val (.long ((((0 : Int64) + ((up (up (up (up zJ 0 ca) 1 cb) 2 cc) 3 cd) 0)) + ((up (up (up (up zJ 0 ca) 1 cb) 2 cc) 3 cd) 1)) + ((up (up (up (up zJ 0 ca) 1 cb) 2 cc) 3 cd) 2))), .second, .val (.long ((ca + cb) + cc)), .second] [(.int (3 : Int32)), (.int (2 : Int32))])) _
      refine XS.icmpYes X54.here hx rfl (pc0 := 114) (pc' := 124) rfl (hb hby at_114) rfl (tlt (by decide : ((2 : Int32) < (3 : Int32)))).1 (by decide) (by decide) ?_
      show Steps p.tables e below (T54.setTop (mkF m 124 #[.val (.long ca), .second, .val (.long cb), .second, .val (.long cc), .second, .val (.long cd), .second, .val (.int se), .val (.int (2 : Int32)), .val (.ref b1), .val (.ref b12), .val (.ref b32), .val (.long ((((0 : Int64) + ((up (up (up (up zJ 0 ca) 1 cb) 2 cc) 3 cd) 0)) + ((up (up (up (up zJ 0 ca) 1 cb) 2 cc) 3 cd) 1)) + ((up (up (up (up zJ 0 ca) 1 cb) 2 cc) 3 cd) 2))), .second, .val (.long ((ca + cb) + cc)), .second] [])) _
      refine XS.lload X54.here hx rfl (hb hby at_124) rfl ?_
      show Steps p.tables e below (T54.setTop (mkF m 126 #[.val (.long ca), .second, .val (.long cb), .second, .val (.long cc), .second, .val (.long cd), .second, .val (.int se), .val (.int (2 : Int32)), .val (.ref b1), .val (.ref b12), .val (.ref b32), .val (.long ((((0 : Int64) + ((up (up (up (up zJ 0 ca) 1 cb) 2 cc) 3 cd) 0)) + ((up (up (up (up zJ 0 ca) 1 cb) 2 cc) 3 cd) 1)) + ((up (up (up (up zJ 0 ca) 1 cb) 2 cc) 3 cd) 2))), .second, .val (.long ((ca + cb) + cc)), .second] [(.long ((((0 : Int64) + ((up (up (up (up zJ 0 ca) 1 cb) 2 cc) 3 cd) 0)) + ((up (up (up (up zJ 0 ca) 1 cb) 2 cc) 3 cd) 1)) + ((up (up (up (up zJ 0 ca) 1 cb) 2 cc) 3 cd) 2)))])) _
      refine XS.lload X54.here hx rfl (hb hby at_126) rfl ?_
      show Steps p.tables e below (T54.setTop (mkF m 128 #[.val (.long ca), .second, .val (.long cb), .second, .val (.long cc), .second, .val (.long cd), .second, .val (.int se), .val (.int (2 : Int32)), .val (.ref b1), .val (.ref b12), .val (.ref b32), .val (.long ((((0 : Int64) + ((up (up (up (up zJ 0 ca) 1 cb) 2 cc) 3 cd) 0)) + ((up (up (up (up zJ 0 ca) 1 cb) 2 cc) 3 cd) 1)) + ((up (up (up (up zJ 0 ca) 1 cb) 2 cc) 3 cd) 2))), .second, .val (.long ((ca + cb) + cc)), .second] [(.long ((ca + cb) + cc)), (.long ((((0 : Int64) + ((up (up (up (up zJ 0 ca) 1 cb) 2 cc) 3 cd) 0)) + ((up (up (up (up zJ 0 ca) 1 cb) 2 cc) 3 cd) 1)) + ((up (up (up (up zJ 0 ca) 1 cb) 2 cc) 3 cd) 2)))])) _
      refine XS.lcmp X54.here hx rfl (hb hby at_128) rfl ?_
      show Steps p.tables e below (T54.setTop (mkF m 129 #[.val (.long ca), .second, .val (.long cb), .second, .val (.long cc), .second, .val (.long cd), .second, .val (.int se), .val (.int (2 : Int32)), .val (.ref b1), .val (.ref b12), .val (.ref b32), .val (.long ((((0 : Int64) + ((up (up (up (up zJ 0 ca) 1 cb) 2 cc) 3 cd) 0)) + ((up (up (up (up zJ 0 ca) 1 cb) 2 cc) 3 cd) 1)) + ((up (up (up (up zJ 0 ca) 1 cb) 2 cc) 3 cd) 2))), .second, .val (.long ((ca + cb) + cc)), .second] [(.int (lcmpW ((((0 : Int64) + ((up (up (up (up zJ 0 ca) 1 cb) 2 cc) 3 cd) 0)) + ((up (up (up (up zJ 0 ca) 1 cb) 2 cc) 3 cd) 1)) + ((up (up (up (up zJ 0 ca) 1 cb) 2 cc) 3 cd) 2)) ((ca + cb) + cc)))])) _
      refine XS.ifNo X54.here hx rfl (hb hby at_129) rfl (own_teqL (own_f2 ca cb cc cd : (((((0 : Int64) + ((up (up (up (up zJ 0 ca) 1 cb) 2 cc) 3 cd) 0)) + ((up (up (up (up zJ 0 ca) 1 cb) 2 cc) 3 cd) 1)) + ((up (up (up (up zJ 0 ca) 1 cb) 2 cc) 3 cd) 2)) = ((ca + cb) + cc)))).2 ?_
      show Steps p.tables e below (T54.setTop (mkF m 132 #[.val (.long ca), .second, .val (.long cb), .second, .val (.long cc), .second, .val (.long cd), .second, .val (.int se), .val (.int (2 : Int32)), .val (.ref b1), .val (.ref b12), .val (.ref b32), .val (.long ((((0 : Int64) + ((up (up (up (up zJ 0 ca) 1 cb) 2 cc) 3 cd) 0)) + ((up (up (up (up zJ 0 ca) 1 cb) 2 cc) 3 cd) 1)) + ((up (up (up (up zJ 0 ca) 1 cb) 2 cc) 3 cd) 2))), .second, .val (.long ((ca + cb) + cc)), .second] [])) _
      refine XS.iconst X54.here hx rfl (hb hby at_132) ?_
      show Steps p.tables e below (T54.setTop (mkF m 133 #[.val (.long ca), .second, .val (.long cb), .second, .val (.long cc), .second, .val (.long cd), .second, .val (.int se), .val (.int (2 : Int32)), .val (.ref b1), .val (.ref b12), .val (.ref b32), .val (.long ((((0 : Int64) + ((up (up (up (up zJ 0 ca) 1 cb) 2 cc) 3 cd) 0)) + ((up (up (up (up zJ 0 ca) 1 cb) 2 cc) 3 cd) 1)) + ((up (up (up (up zJ 0 ca) 1 cb) 2 cc) 3 cd) 2))), .second, .val (.long ((ca + cb) + cc)), .second] [(.int (1 : Int32))])) _
      refine XS.goto X54.here hx rfl (pc0 := 133) (pc' := 137) rfl (hb hby at_133) (by decide) (by decide) ?_
      show Steps p.tables e below (T54.setTop (mkF m 137 #[.val (.long ca), .second, .val (.long cb), .second, .val (.long cc), .second, .val (.long cd), .second, .val (.int se), .val (.int (2 : Int32)), .val (.ref b1), .val (.ref b12), .val (.ref b32), .val (.long ((((0 : Int64) + ((up (up (up (up zJ 0 ca) 1 cb) 2 cc) 3 cd) 0)) + ((up (up (up (up zJ 0 ca) 1 cb) 2 cc) 3 cd) 1)) + ((up (up (up (up zJ 0 ca) 1 cb) 2 cc) 3 cd) 2))), .second, .val (.long ((ca + cb) + cc)), .second] [(.int (1 : Int32))])) _
      exact retN X54 hx (t := .boolean) Bd.returns (by simp) (hb hby at_137) hr
    · show Q0 Z ca cb cc cd se h0 n0 _ T54.heap _
      rw [e54]
      exact ⟨rfl, N54⟩
  · have pre55 : ∀ t, Steps p.tables e below (T40.setTop (mkF m 78 #[.val (.long ca), .second, .val (.long cb), .second, .val (.long cc), .second, .val (.long cd), .second, .val (.int se), .val (.int (3 : Int32)), .val (.ref b1), .val (.ref b12), .val (.ref b32), .unset, .unset, .unset, .unset] [(.int (3 : Int32)), (.ref b32)])) t → Steps p.tables e below (s₁.setTop (entryFrame m #[(.long ca), (.long cb), (.long cc), (.long cd), (.int se)] maxLocals)) t := by
      intro t k
      refine pre47 _ ?_
      rw [hk48]
      exact k
    obtain ⟨cq56, kq56, q56a, q56b, q56c⟩ := isOf hZ rfl f46
    obtain ⟨_, _, ⟨T56, L56, k56, n56⟩, -, X56, ⟨Lc56, hQ56, l56, y56, z56⟩, st56⟩ := X40.virtualBack hx (y := (⟨"com/example/hikyaku/hikyaku/store/Histogram$Counts", "atMost", "(I)J"⟩ : MethodName)) (z := (⟨"com/example/hikyaku/hikyaku/store/Histogram$Counts", "atMost", "(I)J"⟩ : MethodName)) hown (mvT hZ (hw _ (List.mem_of_getElem? (i := 25) rfl))) (mvT hZ (hw _ (List.mem_of_getElem? (i := 26) rfl))) (notFace_of_selects (args := #[]) (mvT hZ (hw _ (List.mem_of_getElem? (i := 28) rfl)))) (mvT hZ (hw _ (List.mem_of_getElem? (i := 28) rfl))) (mvT hZ (hw _ (List.mem_of_getElem? (i := 27) rfl))) (by decide) (backOf (W := 0) (rm4k3 l Z a0 hw [] b32 b12 (up (up (up (up zJ 0 ca) 1 cb) 2 cc) 3 cd) T40.heap n0 Z40 f42 f45) hZ (hw _ (List.mem_of_getElem? (i := 29) rfl)) (hw _ (List.mem_of_getElem? (i := 7) rfl)) (by decide) (by decide)) q56a q56c (g := (mkF m 78 #[.val (.long ca), .second, .val (.long cb), .second, .val (.long cc), .second, .val (.long cd), .second, .val (.int se), .val (.int (3 : Int32)), .val (.ref b1), .val (.ref b12), .val (.ref b32), .unset, .unset, .unset, .unset] [(.int (3 : Int32)), (.ref b32)])) rfl (by rw [hml]; rfl) (Steps.refl _) (argsL := [(.int (3 : Int32))]) (rest := []) (lenOf pd_2 rfl) rfl (by show 2 * 0 + _ ≤ _; exact Nat.le_of_eq rfl) (hb hby at_78) (fun _ _ => ⟨rfl, rfl, (by decide : 3 + 0 ≤ _), (by decide : 10 + 0 ≤ _)⟩)
    dsimp only [Pt.U, Pt.locs, Pt.cells, Pt.slots] at X56 l56 y56 z56 st56 hQ56
    subst l56 y56 z56
    obtain ⟨rfl, N56q, e56⟩ := hQ56
    have N56 := Fr.app N40 N56q
    obtain ⟨fs, hr, hrun, hended, hW, hsame⟩ := X56.leave (v := some (.int (1 : Int32))) (fun h => by rw [Bd.returns] at h; cases h)
    refine ⟨_, _, pre55 _ ?_, hrun, hended, _, _, rfl, ?_, ⟨_, rfl⟩, hW, hsame.mono (by decide) (by decide)⟩
    · show Steps p.tables e below (T40.setTop (mkF m 78 #[.val (.long ca), .second, .val (.long cb), .second, .val (.long cc), .second, .val (.long cd), .second, .val (.int se), .val (.int (3 : Int32)), .val (.ref b1), .val (.ref b12), .val (.ref b32), .unset, .unset, .unset, .unset] [(.int (3 : Int32)), (.ref b32)])) _
      refine st56.trans ?_
      show Steps p.tables e below (T56.setTop (mkF m 81 #[.val (.long ca), .second, .val (.long cb), .second, .val (.long cc), .second, .val (.long cd), .second, .val (.int se), .val (.int (3 : Int32)), .val (.ref b1), .val (.ref b12), .val (.ref b32), .unset, .unset, .unset, .unset] [(.long (((((0 : Int64) + ((up (up (up (up zJ 0 ca) 1 cb) 2 cc) 3 cd) 0)) + ((up (up (up (up zJ 0 ca) 1 cb) 2 cc) 3 cd) 1)) + ((up (up (up (up zJ 0 ca) 1 cb) 2 cc) 3 cd) 2)) + ((up (up (up (up zJ 0 ca) 1 cb) 2 cc) 3 cd) 3)))])) _
      refine XS.lstore X56.here hx rfl (hb hby at_81) rfl (l' := #[.val (.long ca), .second, .val (.long cb), .second, .val (.long cc), .second, .val (.long cd), .second, .val (.int se), .val (.int (3 : Int32)), .val (.ref b1), .val (.ref b12), .val (.ref b32), .val (.long (((((0 : Int64) + ((up (up (up (up zJ 0 ca) 1 cb) 2 cc) 3 cd) 0)) + ((up (up (up (up zJ 0 ca) 1 cb) 2 cc) 3 cd) 1)) + ((up (up (up (up zJ 0 ca) 1 cb) 2 cc) 3 cd) 2)) + ((up (up (up (up zJ 0 ca) 1 cb) 2 cc) 3 cd) 3))), .second, .unset, .unset]) rfl ?_
      show Steps p.tables e below (T56.setTop (mkF m 83 #[.val (.long ca), .second, .val (.long cb), .second, .val (.long cc), .second, .val (.long cd), .second, .val (.int se), .val (.int (3 : Int32)), .val (.ref b1), .val (.ref b12), .val (.ref b32), .val (.long (((((0 : Int64) + ((up (up (up (up zJ 0 ca) 1 cb) 2 cc) 3 cd) 0)) + ((up (up (up (up zJ 0 ca) 1 cb) 2 cc) 3 cd) 1)) + ((up (up (up (up zJ 0 ca) 1 cb) 2 cc) 3 cd) 2)) + ((up (up (up (up zJ 0 ca) 1 cb) 2 cc) 3 cd) 3))), .second, .unset, .unset] [])) _
      refine XS.lloadN X56.here hx rfl (hb hby at_83) rfl ?_
      show Steps p.tables e below (T56.setTop (mkF m 84 #[.val (.long ca), .second, .val (.long cb), .second, .val (.long cc), .second, .val (.long cd), .second, .val (.int se), .val (.int (3 : Int32)), .val (.ref b1), .val (.ref b12), .val (.ref b32), .val (.long (((((0 : Int64) + ((up (up (up (up zJ 0 ca) 1 cb) 2 cc) 3 cd) 0)) + ((up (up (up (up zJ 0 ca) 1 cb) 2 cc) 3 cd) 1)) + ((up (up (up (up zJ 0 ca) 1 cb) 2 cc) 3 cd) 2)) + ((up (up (up (up zJ 0 ca) 1 cb) 2 cc) 3 cd) 3))), .second, .unset, .unset] [(.long ca)])) _
      refine XS.lstore X56.here hx rfl (hb hby at_84) rfl (l' := #[.val (.long ca), .second, .val (.long cb), .second, .val (.long cc), .second, .val (.long cd), .second, .val (.int se), .val (.int (3 : Int32)), .val (.ref b1), .val (.ref b12), .val (.ref b32), .val (.long (((((0 : Int64) + ((up (up (up (up zJ 0 ca) 1 cb) 2 cc) 3 cd) 0)) + ((up (up (up (up zJ 0 ca) 1 cb) 2 cc) 3 cd) 1)) + ((up (up (up (up zJ 0 ca) 1 cb) 2 cc) 3 cd) 2)) + ((up (up (up (up zJ 0 ca) 1 cb) 2 cc) 3 cd) 3))), .second, .val (.long ca), .second]) rfl ?_
      show Steps p.tables e below (T56.setTop (mkF m 86 #[.val (.long ca), .second, .val (.long cb), .second, .val (.long cc), .second, .val (.long cd), .second, .val (.int se), .val (.int (3 : Int32)), .val (.ref b1), .val (.ref b12), .val (.ref b32), .val (.long (((((0 : Int64) + ((up (up (up (up zJ 0 ca) 1 cb) 2 cc) 3 cd) 0)) + ((up (up (up (up zJ 0 ca) 1 cb) 2 cc) 3 cd) 1)) + ((up (up (up (up zJ 0 ca) 1 cb) 2 cc) 3 cd) 2)) + ((up (up (up (up zJ 0 ca) 1 cb) 2 cc) 3 cd) 3))), .second, .val (.long ca), .second] [])) _
      refine XS.iload X56.here hx rfl (hb hby at_86) rfl ?_
      show Steps p.tables e below (T56.setTop (mkF m 88 #[.val (.long ca), .second, .val (.long cb), .second, .val (.long cc), .second, .val (.long cd), .second, .val (.int se), .val (.int (3 : Int32)), .val (.ref b1), .val (.ref b12), .val (.ref b32), .val (.long (((((0 : Int64) + ((up (up (up (up zJ 0 ca) 1 cb) 2 cc) 3 cd) 0)) + ((up (up (up (up zJ 0 ca) 1 cb) 2 cc) 3 cd) 1)) + ((up (up (up (up zJ 0 ca) 1 cb) 2 cc) 3 cd) 2)) + ((up (up (up (up zJ 0 ca) 1 cb) 2 cc) 3 cd) 3))), .second, .val (.long ca), .second] [(.int (3 : Int32))])) _
      refine XS.iconst X56.here hx rfl (hb hby at_88) ?_
      show Steps p.tables e below (T56.setTop (mkF m 89 #[.val (.long ca), .second, .val (.long cb), .second, .val (.long cc), .second, .val (.long cd), .second, .val (.int se), .val (.int (3 : Int32)), .val (.ref b1), .val (.ref b12), .val (.ref b32), .val (.long (((((0 : Int64) + ((up (up (up (up zJ 0 ca) 1 cb) 2 cc) 3 cd) 0)) + ((up (up (up (up zJ 0 ca) 1 cb) 2 cc) 3 cd) 1)) + ((up (up (up (up zJ 0 ca) 1 cb) 2 cc) 3 cd) 2)) + ((up (up (up (up zJ 0 ca) 1 cb) 2 cc) 3 cd) 3))), .second, .val (.long ca), .second] [(.int (1 : Int32)), (.int (3 : Int32))])) _
      refine XS.icmpNo X56.here hx rfl (hb hby at_89) rfl (flt (by decide : ¬ ((3 : Int32) < (1 : Int32)))).1 ?_
      show Steps p.tables e below (T56.setTop (mkF m 92 #[.val (.long ca), .second, .val (.long cb), .second, .val (.long cc), .second, .val (.long cd), .second, .val (.int se), .val (.int (3 : Int32)), .val (.ref b1), .val (.ref b12), .val (.ref b32), .val (.long (((((0 : Int64) + ((up (up (up (up zJ 0 ca) 1 cb) 2 cc) 3 cd) 0)) + ((up (up (up (up zJ 0 ca) 1 cb) 2 cc) 3 cd) 1)) + ((up (up (up (up zJ 0 ca) 1 cb) 2 cc) 3 cd) 2)) + ((up (up (up (up zJ 0 ca) 1 cb) 2 cc) 3 cd) 3))), .second, .val (.long ca), .second] [])) _
      refine XS.lload X56.here hx rfl (hb hby at_92) rfl ?_
      show Steps p.tables e below (T56.setTop (mkF m 94 #[.val (.long ca), .second, .val (.long cb), .second, .val (.long cc), .second, .val (.long cd), .second, .val (.int se), .val (.int (3 : Int32)), .val (.ref b1), .val (.ref b12), .val (.ref b32), .val (.long (((((0 : Int64) + ((up (up (up (up zJ 0 ca) 1 cb) 2 cc) 3 cd) 0)) + ((up (up (up (up zJ 0 ca) 1 cb) 2 cc) 3 cd) 1)) + ((up (up (up (up zJ 0 ca) 1 cb) 2 cc) 3 cd) 2)) + ((up (up (up (up zJ 0 ca) 1 cb) 2 cc) 3 cd) 3))), .second, .val (.long ca), .second] [(.long ca)])) _
      refine XS.lloadN X56.here hx rfl (hb hby at_94) rfl ?_
      show Steps p.tables e below (T56.setTop (mkF m 95 #[.val (.long ca), .second, .val (.long cb), .second, .val (.long cc), .second, .val (.long cd), .second, .val (.int se), .val (.int (3 : Int32)), .val (.ref b1), .val (.ref b12), .val (.ref b32), .val (.long (((((0 : Int64) + ((up (up (up (up zJ 0 ca) 1 cb) 2 cc) 3 cd) 0)) + ((up (up (up (up zJ 0 ca) 1 cb) 2 cc) 3 cd) 1)) + ((up (up (up (up zJ 0 ca) 1 cb) 2 cc) 3 cd) 2)) + ((up (up (up (up zJ 0 ca) 1 cb) 2 cc) 3 cd) 3))), .second, .val (.long ca), .second] [(.long cb), (.long ca)])) _
      refine XS.ladd X56.here hx rfl (hb hby at_95) rfl ?_
      show Steps p.tables e below (T56.setTop (mkF m 96 #[.val (.long ca), .second, .val (.long cb), .second, .val (.long cc), .second, .val (.long cd), .second, .val (.int se), .val (.int (3 : Int32)), .val (.ref b1), .val (.ref b12), .val (.ref b32), .val (.long (((((0 : Int64) + ((up (up (up (up zJ 0 ca) 1 cb) 2 cc) 3 cd) 0)) + ((up (up (up (up zJ 0 ca) 1 cb) 2 cc) 3 cd) 1)) + ((up (up (up (up zJ 0 ca) 1 cb) 2 cc) 3 cd) 2)) + ((up (up (up (up zJ 0 ca) 1 cb) 2 cc) 3 cd) 3))), .second, .val (.long ca), .second] [(.long (ca + cb))])) _
      refine XS.lstore X56.here hx rfl (hb hby at_96) rfl (l' := #[.val (.long ca), .second, .val (.long cb), .second, .val (.long cc), .second, .val (.long cd), .second, .val (.int se), .val (.int (3 : Int32)), .val (.ref b1), .val (.ref b12), .val (.ref b32), .val (.long (((((0 : Int64) + ((up (up (up (up zJ 0 ca) 1 cb) 2 cc) 3 cd) 0)) + ((up (up (up (up zJ 0 ca) 1 cb) 2 cc) 3 cd) 1)) + ((up (up (up (up zJ 0 ca) 1 cb) 2 cc) 3 cd) 2)) + ((up (up (up (up zJ 0 ca) 1 cb) 2 cc) 3 cd) 3))), .second, .val (.long (ca + cb)), .second]) rfl ?_
      show Steps p.tables e below (T56.setTop (mkF m 98 #[.val (.long ca), .second, .val (.long cb), .second, .val (.long cc), .second, .val (.long cd), .second, .val (.int se), .val (.int (3 : Int32)), .val (.ref b1), .val (.ref b12), .val (.ref b32), .val (.long (((((0 : Int64) + ((up (up (up (up zJ 0 ca) 1 cb) 2 cc) 3 cd) 0)) + ((up (up (up (up zJ 0 ca) 1 cb) 2 cc) 3 cd) 1)) + ((up (up (up (up zJ 0 ca) 1 cb) 2 cc) 3 cd) 2)) + ((up (up (up (up zJ 0 ca) 1 cb) 2 cc) 3 cd) 3))), .second, .val (.long (ca + cb)), .second] [])) _
      refine XS.iload X56.here hx rfl (hb hby at_98) rfl ?_
      show Steps p.tables e below (T56.setTop (mkF m 100 #[.val (.long ca), .second, .val (.long cb), .second, .val (.long cc), .second, .val (.long cd), .second, .val (.int se), .val (.int (3 : Int32)), .val (.ref b1), .val (.ref b12), .val (.ref b32), .val (.long (((((0 : Int64) + ((up (up (up (up zJ 0 ca) 1 cb) 2 cc) 3 cd) 0)) + ((up (up (up (up zJ 0 ca) 1 cb) 2 cc) 3 cd) 1)) + ((up (up (up (up zJ 0 ca) 1 cb) 2 cc) 3 cd) 2)) + ((up (up (up (up zJ 0 ca) 1 cb) 2 cc) 3 cd) 3))), .second, .val (.long (ca + cb)), .second] [(.int (3 : Int32))])) _
      refine XS.iconst X56.here hx rfl (hb hby at_100) ?_
      show Steps p.tables e below (T56.setTop (mkF m 101 #[.val (.long ca), .second, .val (.long cb), .second, .val (.long cc), .second, .val (.long cd), .second, .val (.int se), .val (.int (3 : Int32)), .val (.ref b1), .val (.ref b12), .val (.ref b32), .val (.long (((((0 : Int64) + ((up (up (up (up zJ 0 ca) 1 cb) 2 cc) 3 cd) 0)) + ((up (up (up (up zJ 0 ca) 1 cb) 2 cc) 3 cd) 1)) + ((up (up (up (up zJ 0 ca) 1 cb) 2 cc) 3 cd) 2)) + ((up (up (up (up zJ 0 ca) 1 cb) 2 cc) 3 cd) 3))), .second, .val (.long (ca + cb)), .second] [(.int (2 : Int32)), (.int (3 : Int32))])) _
      refine XS.icmpNo X56.here hx rfl (hb hby at_101) rfl (flt (by decide : ¬ ((3 : Int32) < (2 : Int32)))).1 ?_
      show Steps p.tables e below (T56.setTop (mkF m 104 #[.val (.long ca), .second, .val (.long cb), .second, .val (.long cc), .second, .val (.long cd), .second, .val (.int se), .val (.int (3 : Int32)), .val (.ref b1), .val (.ref b12), .val (.ref b32), .val (.long (((((0 : Int64) + ((up (up (up (up zJ 0 ca) 1 cb) 2 cc) 3 cd) 0)) + ((up (up (up (up zJ 0 ca) 1 cb) 2 cc) 3 cd) 1)) + ((up (up (up (up zJ 0 ca) 1 cb) 2 cc) 3 cd) 2)) + ((up (up (up (up zJ 0 ca) 1 cb) 2 cc) 3 cd) 3))), .second, .val (.long (ca + cb)), .second] [])) _
      refine XS.lload X56.here hx rfl (hb hby at_104) rfl ?_
      show Steps p.tables e below (T56.setTop (mkF m 106 #[.val (.long ca), .second, .val (.long cb), .second, .val (.long cc), .second, .val (.long cd), .second, .val (.int se), .val (.int (3 : Int32)), .val (.ref b1), .val (.ref b12), .val (.ref b32), .val (.long (((((0 : Int64) + ((up (up (up (up zJ 0 ca) 1 cb) 2 cc) 3 cd) 0)) + ((up (up (up (up zJ 0 ca) 1 cb) 2 cc) 3 cd) 1)) + ((up (up (up (up zJ 0 ca) 1 cb) 2 cc) 3 cd) 2)) + ((up (up (up (up zJ 0 ca) 1 cb) 2 cc) 3 cd) 3))), .second, .val (.long (ca + cb)), .second] [(.long (ca + cb))])) _
      refine XS.lload X56.here hx rfl (hb hby at_106) rfl ?_
      show Steps p.tables e below (T56.setTop (mkF m 108 #[.val (.long ca), .second, .val (.long cb), .second, .val (.long cc), .second, .val (.long cd), .second, .val (.int se), .val (.int (3 : Int32)), .val (.ref b1), .val (.ref b12), .val (.ref b32), .val (.long (((((0 : Int64) + ((up (up (up (up zJ 0 ca) 1 cb) 2 cc) 3 cd) 0)) + ((up (up (up (up zJ 0 ca) 1 cb) 2 cc) 3 cd) 1)) + ((up (up (up (up zJ 0 ca) 1 cb) 2 cc) 3 cd) 2)) + ((up (up (up (up zJ 0 ca) 1 cb) 2 cc) 3 cd) 3))), .second, .val (.long (ca + cb)), .second] [(.long cc), (.long (ca + cb))])) _
      refine XS.ladd X56.here hx rfl (hb hby at_108) rfl ?_
      show Steps p.tables e below (T56.setTop (mkF m 109 #[.val (.long ca), .second, .val (.long cb), .second, .val (.long cc), .second, .val (.long cd), .second, .val (.int se), .val (.int (3 : Int32)), .val (.ref b1), .val (.ref b12), .val (.ref b32), .val (.long (((((0 : Int64) + ((up (up (up (up zJ 0 ca) 1 cb) 2 cc) 3 cd) 0)) + ((up (up (up (up zJ 0 ca) 1 cb) 2 cc) 3 cd) 1)) + ((up (up (up (up zJ 0 ca) 1 cb) 2 cc) 3 cd) 2)) + ((up (up (up (up zJ 0 ca) 1 cb) 2 cc) 3 cd) 3))), .second, .val (.long (ca + cb)), .second] [(.long ((ca + cb) + cc))])) _
      refine XS.lstore X56.here hx rfl (hb hby at_109) rfl (l' := #[.val (.long ca), .second, .val (.long cb), .second, .val (.long cc), .second, .val (.long cd), .second, .val (.int se), .val (.int (3 : Int32)), .val (.ref b1), .val (.ref b12), .val (.ref b32), .val (.long (((((0 : Int64) + ((up (up (up (up zJ 0 ca) 1 cb) 2 cc) 3 cd) 0)) + ((up (up (up (up zJ 0 ca) 1 cb) 2 cc) 3 cd) 1)) + ((up (up (up (up zJ 0 ca) 1 cb) 2 cc) 3 cd) 2)) + ((up (up (up (up zJ 0 ca) 1 cb) 2 cc) 3 cd) 3))), .second, .val (.long ((ca + cb) + cc)), .second]) rfl ?_
      show Steps p.tables e below (T56.setTop (mkF m 111 #[.val (.long ca), .second, .val (.long cb), .second, .val (.long cc), .second, .val (.long cd), .second, .val (.int se), .val (.int (3 : Int32)), .val (.ref b1), .val (.ref b12), .val (.ref b32), .val (.long (((((0 : Int64) + ((up (up (up (up zJ 0 ca) 1 cb) 2 cc) 3 cd) 0)) + ((up (up (up (up zJ 0 ca) 1 cb) 2 cc) 3 cd) 1)) + ((up (up (up (up zJ 0 ca) 1 cb) 2 cc) 3 cd) 2)) + ((up (up (up (up zJ 0 ca) 1 cb) 2 cc) 3 cd) 3))), .second, .val (.long ((ca + cb) + cc)), .second] [])) _
      refine XS.iload X56.here hx rfl (hb hby at_111) rfl ?_
      show Steps p.tables e below (T56.setTop (mkF m 113 #[.val (.long ca), .second, .val (.long cb), .second, .val (.long cc), .second, .val (.long cd), .second, .val (.int se), .val (.int (3 : Int32)), .val (.ref b1), .val (.ref b12), .val (.ref b32), .val (.long (((((0 : Int64) + ((up (up (up (up zJ 0 ca) 1 cb) 2 cc) 3 cd) 0)) + ((up (up (up (up zJ 0 ca) 1 cb) 2 cc) 3 cd) 1)) + ((up (up (up (up zJ 0 ca) 1 cb) 2 cc) 3 cd) 2)) + ((up (up (up (up zJ 0 ca) 1 cb) 2 cc) 3 cd) 3))), .second, .val (.long ((ca + cb) + cc)), .second] [(.int (3 : Int32))])) _
      refine XS.iconst X56.here hx rfl (hb hby at_113) ?_
      show Steps p.tables e below (T56.setTop (mkF m 114 #[.val (.long ca), .second, .val (.long cb), .second, .val (.long cc), .second, .val (.long cd), .second, .val (.int se), .val (.int (3 : Int32)), .val (.ref b1), .val (.ref b12), .val (.ref b32), .val (.long (((((0 : Int64) + ((up (up (up (up zJ 0 ca) 1 cb) 2 cc) 3 cd) 0)) + ((up (up (up (up zJ 0 ca) 1 cb) 2 cc) 3 cd) 1)) + ((up (up (up (up zJ 0 ca) 1 cb) 2 cc) 3 cd) 2)) + ((up (up (up (up zJ 0 ca) 1 cb) 2 cc) 3 cd) 3))), .second, .val (.long ((ca + cb) + cc)), .second] [(.int (3 : Int32)), (.int (3 : Int32))])) _
      refine XS.icmpNo X56.here hx rfl (hb hby at_114) rfl (flt (by decide : ¬ ((3 : Int32) < (3 : Int32)))).1 ?_
      show Steps p.tables e below (T56.setTop (mkF m 117 #[.val (.long ca), .second, .val (.long cb), .second, .val (.long cc), .second, .val (.long cd), .second, .val (.int se), .val (.int (3 : Int32)), .val (.ref b1), .val (.ref b12), .val (.ref b32), .val (.long (((((0 : Int64) + ((up (up (up (up zJ 0 ca) 1 cb) 2 cc) 3 cd) 0)) + ((up (up (up (up zJ 0 ca) 1 cb) 2 cc) 3 cd) 1)) + ((up (up (up (up zJ 0 ca) 1 cb) 2 cc) 3 cd) 2)) + ((up (up (up (up zJ 0 ca) 1 cb) 2 cc) 3 cd) 3))), .second, .val (.long ((ca + cb) + cc)), .second] [])) _
      refine XS.lload X56.here hx rfl (hb hby at_117) rfl ?_
      show Steps p.tables e below (T56.setTop (mkF m 119 #[.val (.long ca), .second, .val (.long cb), .second, .val (.long cc), .second, .val (.long cd), .second, .val (.int se), .val (.int (3 : Int32)), .val (.ref b1), .val (.ref b12), .val (.ref b32), .val (.long (((((0 : Int64) + ((up (up (up (up zJ 0 ca) 1 cb) 2 cc) 3 cd) 0)) + ((up (up (up (up zJ 0 ca) 1 cb) 2 cc) 3 cd) 1)) + ((up (up (up (up zJ 0 ca) 1 cb) 2 cc) 3 cd) 2)) + ((up (up (up (up zJ 0 ca) 1 cb) 2 cc) 3 cd) 3))), .second, .val (.long ((ca + cb) + cc)), .second] [(.long ((ca + cb) + cc))])) _
      refine XS.lload X56.here hx rfl (hb hby at_119) rfl ?_
      show Steps p.tables e below (T56.setTop (mkF m 121 #[.val (.long ca), .second, .val (.long cb), .second, .val (.long cc), .second, .val (.long cd), .second, .val (.int se), .val (.int (3 : Int32)), .val (.ref b1), .val (.ref b12), .val (.ref b32), .val (.long (((((0 : Int64) + ((up (up (up (up zJ 0 ca) 1 cb) 2 cc) 3 cd) 0)) + ((up (up (up (up zJ 0 ca) 1 cb) 2 cc) 3 cd) 1)) + ((up (up (up (up zJ 0 ca) 1 cb) 2 cc) 3 cd) 2)) + ((up (up (up (up zJ 0 ca) 1 cb) 2 cc) 3 cd) 3))), .second, .val (.long ((ca + cb) + cc)), .second] [(.long cd), (.long ((ca + cb) + cc))])) _
      refine XS.ladd X56.here hx rfl (hb hby at_121) rfl ?_
      show Steps p.tables e below (T56.setTop (mkF m 122 #[.val (.long ca), .second, .val (.long cb), .second, .val (.long cc), .second, .val (.long cd), .second, .val (.int se), .val (.int (3 : Int32)), .val (.ref b1), .val (.ref b12), .val (.ref b32), .val (.long (((((0 : Int64) + ((up (up (up (up zJ 0 ca) 1 cb) 2 cc) 3 cd) 0)) + ((up (up (up (up zJ 0 ca) 1 cb) 2 cc) 3 cd) 1)) + ((up (up (up (up zJ 0 ca) 1 cb) 2 cc) 3 cd) 2)) + ((up (up (up (up zJ 0 ca) 1 cb) 2 cc) 3 cd) 3))), .second, .val (.long ((ca + cb) + cc)), .second] [(.long (((ca + cb) + cc) + cd))])) _
      refine XS.lstore X56.here hx rfl (hb hby at_122) rfl (l' := #[.val (.long ca), .second, .val (.long cb), .second, .val (.long cc), .second, .val (.long cd), .second, .val (.int se), .val (.int (3 : Int32)), .val (.ref b1), .val (.ref b12), .val (.ref b32), .val (.long (((((0 : Int64) + ((up (up (up (up zJ 0 ca) 1 cb) 2 cc) 3 cd) 0)) + ((up (up (up (up zJ 0 ca) 1 cb) 2 cc) 3 cd) 1)) + ((up (up (up (up zJ 0 ca) 1 cb) 2 cc) 3 cd) 2)) + ((up (up (up (up zJ 0 ca) 1 cb) 2 cc) 3 cd) 3))), .second, .val (.long (((ca + cb) + cc) + cd)), .second]) rfl ?_
      show Steps p.tables e below (T56.setTop (mkF m 124 #[.val (.long ca), .second, .val (.long cb), .second, .val (.long cc), .second, .val (.long cd), .second, .val (.int se), .val (.int (3 : Int32)), .val (.ref b1), .val (.ref b12), .val (.ref b32), .val (.long (((((0 : Int64) + ((up (up (up (up zJ 0 ca) 1 cb) 2 cc) 3 cd) 0)) + ((up (up (up (up zJ 0 ca) 1 cb) 2 cc) 3 cd) 1)) + ((up (up (up (up zJ 0 ca) 1 cb) 2 cc) 3 cd) 2)) + ((up (up (up (up zJ 0 ca) 1 cb) 2 cc) 3 cd) 3))), .second, .val (.long (((ca + cb) + cc) + cd)), .second] [])) _
      refine XS.lload X56.here hx rfl (hb hby at_124) rfl ?_
      show Steps p.tables e below (T56.setTop (mkF m 126 #[.val (.long ca), .second, .val (.long cb), .second, .val (.long cc), .second, .val (.long cd), .second, .val (.int se), .val (.int (3 : Int32)), .val (.ref b1), .val (.ref b12), .val (.ref b32), .val (.long (((((0 : Int64) + ((up (up (up (up zJ 0 ca) 1 cb) 2 cc) 3 cd) 0)) + ((up (up (up (up zJ 0 ca) 1 cb) 2 cc) 3 cd) 1)) + ((up (up (up (up zJ 0 ca) 1 cb) 2 cc) 3 cd) 2)) + ((up (up (up (up zJ 0 ca) 1 cb) 2 cc) 3 cd) 3))), .second, .val (.long (((ca + cb) + cc) + cd)), .second] [(.long (((((0 : Int64) + ((up (up (up (up zJ 0 ca) 1 cb) 2 cc) 3 cd) 0)) + ((up (up (up (up zJ 0 ca) 1 cb) 2 cc) 3 cd) 1)) + ((up (up (up (up zJ 0 ca) 1 cb) 2 cc) 3 cd) 2)) + ((up (up (up (up zJ 0 ca) 1 cb) 2 cc) 3 cd) 3)))])) _
      refine XS.lload X56.here hx rfl (hb hby at_126) rfl ?_
      show Steps p.tables e below (T56.setTop (mkF m 128 #[.val (.long ca), .second, .val (.long cb), .second, .val (.long cc), .second, .val (.long cd), .second, .val (.int se), .val (.int (3 : Int32)), .val (.ref b1), .val (.ref b12), .val (.ref b32), .val (.long (((((0 : Int64) + ((up (up (up (up zJ 0 ca) 1 cb) 2 cc) 3 cd) 0)) + ((up (up (up (up zJ 0 ca) 1 cb) 2 cc) 3 cd) 1)) + ((up (up (up (up zJ 0 ca) 1 cb) 2 cc) 3 cd) 2)) + ((up (up (up (up zJ 0 ca) 1 cb) 2 cc) 3 cd) 3))), .second, .val (.long (((ca + cb) + cc) + cd)), .second] [(.long (((ca + cb) + cc) + cd)), (.long (((((0 : Int64) + ((up (up (up (up zJ 0 ca) 1 cb) 2 cc) 3 cd) 0)) + ((up (up (up (up zJ 0 ca) 1 cb) 2 cc) 3 cd) 1)) + ((up (up (up (up zJ 0 ca) 1 cb) 2 cc) 3 cd) 2)) + ((up (up (up (up zJ 0 ca) 1 cb) 2 cc) 3 cd) 3)))])) _
      refine XS.lcmp X56.here hx rfl (hb hby at_128) rfl ?_
      show Steps p.tables e below (T56.setTop (mkF m 129 #[.val (.long ca), .second, .val (.long cb), .second, .val (.long cc), .second, .val (.long cd), .second, .val (.int se), .val (.int (3 : Int32)), .val (.ref b1), .val (.ref b12), .val (.ref b32), .val (.long (((((0 : Int64) + ((up (up (up (up zJ 0 ca) 1 cb) 2 cc) 3 cd) 0)) + ((up (up (up (up zJ 0 ca) 1 cb) 2 cc) 3 cd) 1)) + ((up (up (up (up zJ 0 ca) 1 cb) 2 cc) 3 cd) 2)) + ((up (up (up (up zJ 0 ca) 1 cb) 2 cc) 3 cd) 3))), .second, .val (.long (((ca + cb) + cc) + cd)), .second] [(.int (lcmpW (((((0 : Int64) + ((up (up (up (up zJ 0 ca) 1 cb) 2 cc) 3 cd) 0)) + ((up (up (up (up zJ 0 ca) 1 cb) 2 cc) 3 cd) 1)) + ((up (up (up (up zJ 0 ca) 1 cb) 2 cc) 3 cd) 2)) + ((up (up (up (up zJ 0 ca) 1 cb) 2 cc) 3 cd) 3)) (((ca + cb) + cc) + cd)))])) _
      refine XS.ifNo X56.here hx rfl (hb hby at_129) rfl (own_teqL (own_f3 ca cb cc cd : ((((((0 : Int64) + ((up (up (up (up zJ 0 ca) 1 cb) 2 cc) 3 cd) 0)) + ((up (up (up (up zJ 0 ca) 1 cb) 2 cc) 3 cd) 1)) + ((up (up (up (up zJ 0 ca) 1 cb) 2 cc) 3 cd) 2)) + ((up (up (up (up zJ 0 ca) 1 cb) 2 cc) 3 cd) 3)) = (((ca + cb) + cc) + cd)))).2 ?_
      show Steps p.tables e below (T56.setTop (mkF m 132 #[.val (.long ca), .second, .val (.long cb), .second, .val (.long cc), .second, .val (.long cd), .second, .val (.int se), .val (.int (3 : Int32)), .val (.ref b1), .val (.ref b12), .val (.ref b32), .val (.long (((((0 : Int64) + ((up (up (up (up zJ 0 ca) 1 cb) 2 cc) 3 cd) 0)) + ((up (up (up (up zJ 0 ca) 1 cb) 2 cc) 3 cd) 1)) + ((up (up (up (up zJ 0 ca) 1 cb) 2 cc) 3 cd) 2)) + ((up (up (up (up zJ 0 ca) 1 cb) 2 cc) 3 cd) 3))), .second, .val (.long (((ca + cb) + cc) + cd)), .second] [])) _
      refine XS.iconst X56.here hx rfl (hb hby at_132) ?_
      show Steps p.tables e below (T56.setTop (mkF m 133 #[.val (.long ca), .second, .val (.long cb), .second, .val (.long cc), .second, .val (.long cd), .second, .val (.int se), .val (.int (3 : Int32)), .val (.ref b1), .val (.ref b12), .val (.ref b32), .val (.long (((((0 : Int64) + ((up (up (up (up zJ 0 ca) 1 cb) 2 cc) 3 cd) 0)) + ((up (up (up (up zJ 0 ca) 1 cb) 2 cc) 3 cd) 1)) + ((up (up (up (up zJ 0 ca) 1 cb) 2 cc) 3 cd) 2)) + ((up (up (up (up zJ 0 ca) 1 cb) 2 cc) 3 cd) 3))), .second, .val (.long (((ca + cb) + cc) + cd)), .second] [(.int (1 : Int32))])) _
      refine XS.goto X56.here hx rfl (pc0 := 133) (pc' := 137) rfl (hb hby at_133) (by decide) (by decide) ?_
      show Steps p.tables e below (T56.setTop (mkF m 137 #[.val (.long ca), .second, .val (.long cb), .second, .val (.long cc), .second, .val (.long cd), .second, .val (.int se), .val (.int (3 : Int32)), .val (.ref b1), .val (.ref b12), .val (.ref b32), .val (.long (((((0 : Int64) + ((up (up (up (up zJ 0 ca) 1 cb) 2 cc) 3 cd) 0)) + ((up (up (up (up zJ 0 ca) 1 cb) 2 cc) 3 cd) 1)) + ((up (up (up (up zJ 0 ca) 1 cb) 2 cc) 3 cd) 2)) + ((up (up (up (up zJ 0 ca) 1 cb) 2 cc) 3 cd) 3))), .second, .val (.long (((ca + cb) + cc) + cd)), .second] [(.int (1 : Int32))])) _
      exact retN X56 hx (t := .boolean) Bd.returns (by simp) (hb hby at_137) hr
    · show Q0 Z ca cb cc cd se h0 n0 _ T56.heap _
      rw [e56]
      exact ⟨rfl, N56⟩
set_option maxRecDepth 65536 in
set_option maxHeartbeats 40000000 in
theorem comes_1 {Post : Tables → Env → Array Value → State → Outcome → State → Prop} (hpost : ∀ tb e args s v u, (limb_1_1.after args s (.returned v) u = true ∧ limb_1_2.after args s (.returned v) u = true ∧ True) → FrameEnd s (.returned v) u (Jvm.fieldLocs frame_1_writes args s ++ Jvm.arrayLocs frame_1_arrays args s ++ Jvm.staticLocs frame_1_statics s) 16 128 → Post tb e args s (.returned v) u) :
    ArmFor flags0 classFile x code maxLocals ret World_1 tables_1 room_1 Calls_1 rest_1 Pre_1 Post := by
  intro l hfl _ _ p e ha hc hk s m args below hf hA hF happ hP
  obtain ⟨hcalls, hrest, hpre⟩ := hP
  obtain ⟨-, -, -, hnamed, -, -, -, hat⟩ := (Spec.applies_iff hf).mp happ
  obtain ⟨hg, hn⟩ := and_e (Cond.before_iff.mp (show (Jvm.Cond.and given_1 narrow_1).before args s = true from hpre))
  obtain ⟨gv1, gv2⟩ := and_e hg
  obtain ⟨gv3, gv4⟩ := and_e gv2
  obtain ⟨gv5, gv6⟩ := and_e gv4
  obtain ⟨gv7, gv8⟩ := and_e gv6
  obtain ⟨gv9, gv10⟩ := and_e gv8
  obtain ⟨w0, w1, w2, w3, w4, rfl⟩ : ∃ w0 w1 w2 w3 w4 : Value, args = #[w0, w1, w2, w3, w4] := by
    have hs : args.size = 5 := by simpa [Cond.value, given_1] using gv1
    obtain ⟨L⟩ := args
    match L, hs with
    | [w0, w1, w2, w3, w4], _ => exact ⟨w0, w1, w2, w3, w4, rfl⟩
  have hw := fun d (hd : d ∈ tables_1) => atoms_spec (ws := Jvm.Cond.code x code maxLocals ret :: tables_1) hat d (List.mem_cons_of_mem _ hd)
  have hfit : Fit s := fun {y c} hc i hi => by
    obtain ⟨ha, rfl⟩ := Array.getElem?_eq_some_iff.mp hc
    have q := List.all_eq_true.mp ((Array.all_eq_true_iff_forall_mem.mp hF) _ (Array.getElem_mem ha)) i (List.mem_range.mpr hi)
    simpa [Array.getElem?_eq_getElem hi] using q
  obtain ⟨i0, ei0⟩ := isL_v gv3
  obtain rfl : w0 = (.long i0) := Option.some.inj ei0
  obtain ⟨i1, ei1⟩ := isL_v gv5
  obtain rfl : w1 = (.long i1) := Option.some.inj ei1
  obtain ⟨i2, ei2⟩ := isL_v gv7
  obtain rfl : w2 = (.long i2) := Option.some.inj ei2
  obtain ⟨i3, ei3⟩ := isL_v gv9
  obtain rfl : w3 = (.long i3) := Option.some.inj ei3
  obtain ⟨i4, ei4⟩ := is_v gv10
  obtain rfl : w4 = (.int i4) := Option.some.inj ei4
  obtain ⟨n, o, h1, h2, h3, _, L, rfl, ⟨rfl, N⟩, hq⟩ := rm0 l s _ hw tables_1 i0 i1 i2 i3 i4 s.heap s.heap.size (Nat.le_refl _) p e ha hc hk s m _ below hf ((Spec.applies_iff_loose hf).mp happ).1 ⟨rfl, State.Warmed39.refl s, rfl⟩ trivial
  refine ⟨n, _, h1, h2, h3, hpost _ _ _ _ _ _ ⟨Cond.after_iff.mpr rfl, Cond.after_iff.mpr (eq_i res_at (Term.int_eval (1)) rfl), trivial⟩ ⟨hq.1, hq.2.1, (hq.2.2.sift fun y hy => Or.inr (N y hy)).mono (by decide) (by decide)⟩⟩
theorem main_1_1 : Claimed_1_1 := comes_1 fun _ _ _ _ _ _ h hF => ⟨h.1, hF⟩
theorem main_1_2 : Claimed_1_2 := comes_1 fun _ _ _ _ _ _ h hF => ⟨h.2.1, hF⟩
end Jvm.Pilot.@@N@@
namespace Jvm.Pilot.@@N@@
open Jvm Jvm.ClassFile Sem Op Lib Jvm.Free Jvm.Stand Jvm.Pilot.@@N@@.Jvm.D
/-! MADE BY PROGRAM (witnessworld.py) out of the Statement's table words and the real class files: 14 classes; the members and pool entries that the words name. The judged class is class 1, her method 1. -/
namespace start1
open Jvm.ClassFile
def u (s : String) : CpInfo := .utf8 (stringToUtf16 s)
/-- a pool by its gaps: so many unusable entries, then the entry; so many at the end -/
def gap : Nat → List CpInfo → List CpInfo
  | 0, r => r
  | n + 1, r => .unusable :: gap n r
def poolList (es : List (Nat × CpInfo)) (last : Nat) : List CpInfo := es.foldr (fun e r => gap e.1 (e.2 :: r)) (gap last [])
def pool (es : List (Nat × CpInfo)) (last : Nat) : Array CpInfo := ⟨poolList es last⟩
def fileOf (pool : Array CpInfo) (this : Nat) (attrs : Array Attribute := #[]) (ms : Array MethodInfo := #[]) (fl : Nat := 33) (sup : Nat := 0) (ifs : Array Nat := #[]) (fds : Array FieldInfo := #[]) : ClassFile where
  minorVersion := 0
  majorVersion := 65
  constantPool := pool
  accessFlags := fl
  thisClass := this
  superClass := sup
  interfaces := ifs
  fields := fds
  methods := ms
  attributes := attrs
def plain (name : String) (sup : Option ClassId) : Class where
  name := name
  kind := .ordinary
  loader := none
  accessFlags := 33
  super := sup
  interfaces := #[]
  cf := none
  fields := #[]
  methods := #[]
  instanceTypes := #[]
  staticTypes := #[]
  resolved := #[]
  callSites := []
  init := .initialized
  statics := none
  mirror := none

def pool0 : Array CpInfo := pool [(5, u "<init>"), (0, u "()V"), (1, .class_ 10), (1, u "java/lang/Object")] 113

def k0c0 : Code := { maxStack := 0, maxLocals := 1, code := object_method_1_code, exceptionTable := #[], attributes := #[] }
def k0m0 : Method := { name := "<init>", desc := "()V", sig := { parameters := [], returnType := none }, accessFlags := 1, code := some k0c0 }
/-- java/lang/Object -/
def k0 : Class := { plain "java/lang/Object" none with
  accessFlags := 33
  interfaces := #[]
  cf := some (fileOf pool0 8 #[] #[{ accessFlags := 1, nameIndex := 5, descriptorIndex := 6, attributes := #[] }] 33 0 #[] #[])
  fields := #[]
  methods := #[k0m0]
  instanceTypes := #[]
  staticTypes := #[]
  resolved := Array.replicate 124 none
  statics := none }

def pool1 : Array CpInfo := pool [(2, .class_ 4), (1, u "java/lang/Object"), (0, u "<init>"), (0, u "()V"), (0, .integer 2147483647), (0, .double 4611686018427387904), (1, .double 4613937818241073152), (1, .class_ 13), (0, u "com/example/hikyaku/hikyaku/store/Histogram$Counts"), (0, .methodref 12 15), (0, .nameAndType 5 16), (0, u "([D[JD)V"), (0, .methodref 12 18), (0, .nameAndType 19 20), (0, u "atMost"), (0, u "(I)J"), (0, .class_ 22), (0, u "com/example/hikyaku/hikyaku/store/CountsAtMostPinLaw"), (2, u "law"), (0, u "(JJJJI)Z")] 11

def k1m0 : Method := { name := "<init>", desc := "()V", sig := { parameters := [], returnType := none }, accessFlags := 1, code := none }
def k1c1 : Code := { maxStack := 6, maxLocals := 17, code := code, exceptionTable := #[], attributes := #[] }
def k1m1 : Method := { name := "law", desc := "(JJJJI)Z", sig := { parameters := [.long, .long, .long, .long, .int], returnType := some .boolean }, accessFlags := 9, code := some k1c1 }
/-- com/example/hikyaku/hikyaku/store/CountsAtMostPinLaw -/
def k1 : Class := { plain "com/example/hikyaku/hikyaku/store/CountsAtMostPinLaw" (some 0) with
  accessFlags := 49
  interfaces := #[]
  cf := some (fileOf pool1 21 #[] #[{ accessFlags := 1, nameIndex := 5, descriptorIndex := 6, attributes := #[] }, { accessFlags := 9, nameIndex := 25, descriptorIndex := 26, attributes := #[] }] 49 2 #[] #[])
  fields := #[]
  methods := #[k1m0, k1m1]
  instanceTypes := #[]
  staticTypes := #[]
  resolved := Array.replicate 38 none
  statics := none }

def pool2 : Array CpInfo := pool [(1, .methodref 2 3), (0, .class_ 4), (0, .nameAndType 5 6), (0, u "java/lang/Object"), (0, u "<init>"), (0, u "()V"), (0, .class_ 8), (0, u "java/lang/Record")] 13

def k2c0 : Code := { maxStack := 1, maxLocals := 1, code := jdk_30_method_1_code, exceptionTable := #[], attributes := #[] }
def k2m0 : Method := { name := "<init>", desc := "()V", sig := { parameters := [], returnType := none }, accessFlags := 4, code := some k2c0 }
/-- java/lang/Record -/
def k2 : Class := { plain "java/lang/Record" (some 0) with
  accessFlags := 1057
  interfaces := #[]
  cf := some (fileOf pool2 7 #[] #[{ accessFlags := 4, nameIndex := 5, descriptorIndex := 6, attributes := #[] }] 1057 2 #[] #[])
  fields := #[]
  methods := #[k2m0]
  instanceTypes := #[]
  staticTypes := #[]
  resolved := Array.replicate 22 none
  statics := none }

def pool3 : Array CpInfo := pool [(1, .methodref 2 3), (0, .class_ 4), (0, .nameAndType 5 6), (0, u "java/lang/Record"), (0, u "<init>"), (0, u "()V"), (0, .fieldref 8 9), (0, .class_ 10), (0, .nameAndType 11 12), (0, u "com/example/hikyaku/hikyaku/store/Histogram$Counts"), (0, u "boundsSeconds"), (0, u "[D"), (0, .fieldref 8 14), (0, .nameAndType 15 16), (0, u "buckets"), (0, u "[J"), (0, .fieldref 8 18), (0, .nameAndType 19 20), (0, u "sumSeconds"), (0, u "D"), (2, u "atMost"), (0, u "(I)J"), (12, u "([D[JD)V"), (15, .class_ 54), (0, u "com/example/hikyaku/hikyaku/store/Histogram")] 21

def k3c0 : Code := { maxStack := 3, maxLocals := 5, code := prog_81_method_1_code, exceptionTable := #[], attributes := #[] }
def k3m0 : Method := { name := "<init>", desc := "([D[JD)V", sig := { parameters := [(.array .double), (.array .long), .double], returnType := none }, accessFlags := 1, code := some k3c0 }
def k3c1 : Code := { maxStack := 4, maxLocals := 5, code := prog_81_method_2_code, exceptionTable := #[], attributes := #[] }
def k3m1 : Method := { name := "atMost", desc := "(I)J", sig := { parameters := [.int], returnType := some .long }, accessFlags := 1, code := some k3c1 }
/-- com/example/hikyaku/hikyaku/store/Histogram$Counts -/
def k3 : Class := { plain "com/example/hikyaku/hikyaku/store/Histogram$Counts" (some 2) with
  accessFlags := 49
  interfaces := #[]
  cf := some (fileOf pool3 8 #[.nestHost 53] #[{ accessFlags := 1, nameIndex := 5, descriptorIndex := 37, attributes := #[] }, { accessFlags := 1, nameIndex := 23, descriptorIndex := 24, attributes := #[] }] 49 2 #[] #[{ accessFlags := 18, nameIndex := 11, descriptorIndex := 12, attributes := #[] }, { accessFlags := 18, nameIndex := 15, descriptorIndex := 16, attributes := #[] }, { accessFlags := 18, nameIndex := 19, descriptorIndex := 20, attributes := #[] }])
  fields := #[{ name := "boundsSeconds", type := (.array .double), accessFlags := 18, slot := 0, constantValue := 0 }, { name := "buckets", type := (.array .long), accessFlags := 18, slot := 1, constantValue := 0 }, { name := "sumSeconds", type := .double, accessFlags := 18, slot := 2, constantValue := 0 }]
  methods := #[k3m0, k3m1]
  instanceTypes := #[(.array .double), (.array .long), .double]
  staticTypes := #[]
  resolved := Array.replicate 76 none
  statics := none }

def pool4 : Array CpInfo := pool [(1, u "java/lang/Cloneable"), (0, .class_ 1), (0, u "java/lang/Object"), (0, .class_ 3)] 3

/-- java/lang/Cloneable -/
def k4 : Class := { plain "java/lang/Cloneable" (some 0) with
  accessFlags := 1537
  interfaces := #[]
  cf := some (fileOf pool4 2 #[] #[] 1537 4 #[] #[])
  fields := #[]
  methods := #[]
  instanceTypes := #[]
  staticTypes := #[]
  resolved := Array.replicate 8 none
  statics := none }

def pool5 : Array CpInfo := pool [(1, u "java/io/Serializable"), (0, .class_ 1), (0, u "java/lang/Object"), (0, .class_ 3)] 3

/-- java/io/Serializable -/
def k5 : Class := { plain "java/io/Serializable" (some 0) with
  accessFlags := 1537
  interfaces := #[]
  cf := some (fileOf pool5 2 #[] #[] 1537 4 #[] #[])
  fields := #[]
  methods := #[]
  instanceTypes := #[]
  staticTypes := #[]
  resolved := Array.replicate 8 none
  statics := none }

/-- the primitive byte -/
def k6 : Class := { plain "byte" none with kind := .primitive 'B', accessFlags := 0x411 }
/-- [B -/
def k7 : Class := { plain "[B" (some 0) with kind := .array 6 .byte, interfaces := #[4, 5], accessFlags := 1041 }

/-- the primitive double -/
def k8 : Class := { plain "double" none with kind := .primitive 'D', accessFlags := 0x411 }
/-- [D -/
def k9 : Class := { plain "[D" (some 0) with kind := .array 8 .double, interfaces := #[4, 5], accessFlags := 1041 }

/-- the primitive int -/
def k10 : Class := { plain "int" none with kind := .primitive 'I', accessFlags := 0x411 }
/-- [I -/
def k11 : Class := { plain "[I" (some 0) with kind := .array 10 .int, interfaces := #[4, 5], accessFlags := 1041 }

/-- the primitive long -/
def k12 : Class := { plain "long" none with kind := .primitive 'J', accessFlags := 0x411 }
/-- [J -/
def k13 : Class := { plain "[J" (some 0) with kind := .array 12 .long, interfaces := #[4, 5], accessFlags := 1041 }

def heap : Heap := #[]
def classes : Array Class := #[k0, k1, k2, k3, k4, k5, k6, k7, k8, k9, k10, k11, k12, k13]
def interned : List (Array UInt16 × Addr) := []
def slotsUsed : Nat := 0
def theMethod : MethodId := ⟨1, 1⟩
def args0 : Array Value := #[.long 5, .long 6, .long 7, .long 8, .int 2]
def aboutOver (below : List Frame) : State where
  vm := { classes := classes, interned := interned.toArray }
  heap := heap
  slotsUsed := slotsUsed
  threads := #[{ frames := .invoking theMethod args0 :: below }]
def below0 : List Frame := [.native { method := ⟨0, 0⟩, args := #[] }]
def about1 : State := aboutOver below0
def p0 : Program := .bare "" "" ""
def e0 : Env := launch0.env 0 0 0
theorem w_frames : about1.frames = Frame.invoking theMethod args0 :: below0 := rfl
set_option maxRecDepth 65536 in
theorem w_args : argsFit about1.vm theMethod args0 = true := by decide +kernel
set_option maxRecDepth 65536 in
theorem w_heap : heapFits about1 = true := by decide +kernel
set_option maxRecDepth 65536 in
theorem w_runnable : about1.curStatus? = some .runnable := by decide +kernel
set_option maxRecDepth 65536 in
theorem w_alone : about1.alone = true := by decide +kernel
set_option maxRecDepth 65536 in
theorem w_named : about1.methodNamed? x = some theMethod := by decide +kernel
set_option maxRecDepth 65536 in
theorem w_hears : about1.hears theMethod below0 = true := by decide +kernel
set_option maxRecDepth 65536 in
theorem w_ripe : about1.ripe theMethod args0 below0 = true := by decide +kernel
theorem w_running : about1.status = .running := rfl
set_option maxRecDepth 65536 in
theorem w_room : about1.hasRoom e0.platform room_1 = true :=
  launch0.hasRoom_least _ room_1 (by decide +kernel) (by decide +kernel) (by decide +kernel) (by decide +kernel) (by decide +kernel) (by decide +kernel)
theorem allAtoms_all (ts : List Jvm.Cond) (a : Array Jvm.Value) (st : Jvm.State) : (allAtoms ts).before a st = ts.all (fun c => c.before a st) := by
  induction ts with
  | nil => rfl
  | cons c t ih =>
    show (Jvm.Cond.and c (allAtoms t)).before a st = _
    rw [Jvm.Cond.before_and, ih, List.all_cons]
def words1 : List Jvm.Cond := Jvm.Cond.code x code maxLocals ret :: tables_1
/-- a 'code' word, met by the world's own term for the bytes: nothing is compared byte by byte -/
theorem code_word {y : MethodName} {bytes : ByteArray} {mx : Nat} {rt : Option FieldType} {a : Array Value} {s : State} {m : MethodId} {meth : Method} {c : Code} (h1 : s.methodNamed? y = some m) (h2 : s.vm.method? m = some meth) (h3 : meth.code = some c) (h4 : c.code = bytes)
    (h5 : (c.maxLocals == mx && c.exceptionTable.isEmpty && decide (c.maxStack ≤ mostOperands) && decide (meth.sig.returnType = rt) && !meth.locks && decide (parseMethodDescriptor y.desc = some meth.sig)) = true) : (Jvm.Cond.code y bytes mx rt).before a s = true := by
  simp only [Bool.and_eq_true, beq_iff_eq, Bool.not_eq_true', decide_eq_true_eq] at h5
  obtain ⟨⟨⟨⟨⟨g1, g2⟩, g3⟩, g4⟩, g5⟩, g6⟩ := h5
  simp [Cond.before, Cond.holds, Cond.value, h1, h2, h3, h4, g1, g2, g3, g4, g5, g6]
def isCode : Jvm.Cond → Bool
  | .code _ _ _ _ => true
  | _ => false
theorem all_split {L : List Jvm.Cond} {P : Jvm.Cond → Bool} (h1 : L.all (fun c => isCode c || P c) = true) (h2 : ∀ c ∈ L.filter isCode, P c = true) : L.all P = true := by
  refine List.all_eq_true.mpr fun c hc => ?_
  have h := List.all_eq_true.mp h1 c hc
  rcases Bool.eq_false_or_eq_true (isCode c) with hi | hi
  · exact h2 c (List.mem_filter.mpr ⟨hc, hi⟩)
  · simpa [hi] using h
set_option maxRecDepth 65536 in
theorem w_c0 : (Jvm.Cond.code x code maxLocals ret).before args0 about1 = true := code_word (m := ⟨1, 1⟩) (meth := k1m1) (c := k1c1) (by decide +kernel) rfl rfl rfl (by decide +kernel)
set_option maxRecDepth 65536 in
theorem w_c1 : (Jvm.Cond.code ({ cls := "com/example/hikyaku/hikyaku/store/Histogram$Counts", name := "<init>", desc := "([D[JD)V" } : Jvm.MethodName) prog_81_method_1_code (5 : Nat) (Option.none : Option Jvm.ClassFile.FieldType)).before args0 about1 = true := code_word (m := ⟨3, 0⟩) (meth := k3m0) (c := k3c0) (by decide +kernel) rfl rfl rfl (by decide +kernel)
set_option maxRecDepth 65536 in
theorem w_c2 : (Jvm.Cond.code ({ cls := "java/lang/Record", name := "<init>", desc := "()V" } : Jvm.MethodName) jdk_30_method_1_code (1 : Nat) (Option.none : Option Jvm.ClassFile.FieldType)).before args0 about1 = true := code_word (m := ⟨2, 0⟩) (meth := k2m0) (c := k2c0) (by decide +kernel) rfl rfl rfl (by decide +kernel)
set_option maxRecDepth 65536 in
theorem w_c3 : (Jvm.Cond.code ({ cls := "java/lang/Object", name := "<init>", desc := "()V" } : Jvm.MethodName) object_method_1_code (1 : Nat) (Option.none : Option Jvm.ClassFile.FieldType)).before args0 about1 = true := code_word (m := ⟨0, 0⟩) (meth := k0m0) (c := k0c0) (by decide +kernel) rfl rfl rfl (by decide +kernel)
set_option maxRecDepth 65536 in
theorem w_c4 : (Jvm.Cond.code ({ cls := "com/example/hikyaku/hikyaku/store/Histogram$Counts", name := "atMost", desc := "(I)J" } : Jvm.MethodName) prog_81_method_2_code (5 : Nat) (Option.some Jvm.ClassFile.FieldType.long)).before args0 about1 = true := code_word (m := ⟨3, 1⟩) (meth := k3m1) (c := k3c1) (by decide +kernel) rfl rfl rfl (by decide +kernel)
def codes1 : List Jvm.Cond := [Jvm.Cond.code x code maxLocals ret, Jvm.Cond.code ({ cls := "com/example/hikyaku/hikyaku/store/Histogram$Counts", name := "<init>", desc := "([D[JD)V" } : Jvm.MethodName) prog_81_method_1_code (5 : Nat) (Option.none : Option Jvm.ClassFile.FieldType), Jvm.Cond.code ({ cls := "java/lang/Record", name := "<init>", desc := "()V" } : Jvm.MethodName) jdk_30_method_1_code (1 : Nat) (Option.none : Option Jvm.ClassFile.FieldType), Jvm.Cond.code ({ cls := "java/lang/Object", name := "<init>", desc := "()V" } : Jvm.MethodName) object_method_1_code (1 : Nat) (Option.none : Option Jvm.ClassFile.FieldType), Jvm.Cond.code ({ cls := "com/example/hikyaku/hikyaku/store/Histogram$Counts", name := "atMost", desc := "(I)J" } : Jvm.MethodName) prog_81_method_2_code (5 : Nat) (Option.some Jvm.ClassFile.FieldType.long)]
set_option maxRecDepth 65536 in
theorem codes_eq : words1.filter isCode = codes1 := rfl
theorem w_codes : ∀ c ∈ words1.filter isCode, c.before args0 about1 = true := by
  rw [codes_eq]
  intro c hc
  simp only [codes1, List.mem_cons, List.not_mem_nil, or_false] at hc
  rcases hc with rfl | rfl | rfl | rfl | rfl
  · exact w_c0
  · exact w_c1
  · exact w_c2
  · exact w_c3
  · exact w_c4
set_option maxRecDepth 65536 in
theorem w_t1 : (words1.take 24).all (fun c => isCode c || c.before args0 about1) = true := by decide +kernel
set_option maxRecDepth 65536 in
theorem w_t2 : (words1.drop 24).all (fun c => isCode c || c.before args0 about1) = true := by decide +kernel
theorem w_tables : (allAtoms (Jvm.Cond.code x code maxLocals ret :: tables_1)).before args0 about1 = true := by
  rw [allAtoms_all]
  show words1.all (fun c => c.before args0 about1) = true
  refine all_split ?_ w_codes
  rw [← List.take_append_drop 24 words1, List.all_append, w_t1, w_t2]
  rfl
set_option maxRecDepth 65536 in
theorem w_case : (Jvm.Cond.and given_1 narrow_1).before args0 about1 = true := by decide +kernel
theorem w_applies : (headSpec (Jvm.Cond.code x code maxLocals ret :: tables_1) room_1).applies x e0.platform about1 = true :=
  (Spec.applies_iff w_frames).mpr ⟨w_running, w_runnable, w_alone, w_named, w_hears, w_ripe, w_room, w_tables⟩
theorem atStart : AtStart classFile x code maxLocals ret World_1 tables_1 room_1 Calls_1 rest_1 Pre_1 launch0 p0 e0 about1 theMethod args0 below0 :=
  ⟨lists_1, trivial, launch0.admits_env _ _ _, launch0.least_env, fairChoices_fair.cas, fairChoices_fair.clock, w_frames, w_args, w_heap, w_applies, trivial, trivial, w_case⟩
end start1
theorem witness_1 : WitnessClaimed_1 := ⟨start1.p0, start1.e0, start1.about1, start1.theMethod, start1.args0, start1.below0, start1.atStart⟩
end Jvm.Pilot.@@N@@
