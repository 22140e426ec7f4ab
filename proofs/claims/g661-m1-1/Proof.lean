import JvmDerived
import JvmDerived.Pilot.@@N@@Statement
import JvmDerived.Pilot.@@N@@Code
set_option linter.unusedVariables false
set_option linter.unusedSimpArgs false
namespace Jvm.RoadKit
open Sem ClassFile Op Lib Jvm.Stand Jvm.Free Jvm.LawKit
section New
variable {p : Program} {l : Launch} {e : Env} {R : Room} {s : State} {m : MethodId} {args : Array Value} {below : List Frame} {meth : Method} {c : Code} {T : State} {locs : List Loc} {cells slots : Nat}
theorem retI (X : Stand p l e R s m args below meth c T locs cells slots) (hx : p.tables.exec = Jvm.exec) {pc : Nat} {Ls : Array Slot} {z : Int32} {rest : List Value} (hret : meth.sig.returnType = some .int) (hd : decode c.code pc = .ok (.ireturn, 1)) {fs : List Frame}
    (hl : ∀ (f : JFrame) (acts : List Action), f.method = m → f.locked = none → f.entered = [] → (doReturn e (T.setTop f) acts (some (.int z))).1 = T.setFrames fs) : Steps p.tables e below (T.setTop (mkF m pc Ls (.int z :: rest))) (T.setFrames fs) := by
  have hm' : T.vm.method? m = some meth := X.method'
  have hn : narrow .int (.int z) = .int z := rfl
  show Steps p.tables e below (T.setTop { method := m, pc := pc, locals := Ls, stack := _ :: rest, locked := none }) _
  jvm_step X.here [X.here.top, hx, hd, hm', hret, hn]
  first | (intro acts; rw [hl _ acts rfl rfl rfl]) | rw [hl _ _ rfl rfl rfl]
  exact Steps.refl _
end New
/-! own: a long's comparison, an array by a function -/
theorem own_tltL {x y : Int64} (h : x < y) : ifCond.holds .lt (lcmpW x y) = true ∧ ifCond.holds .ge (lcmpW x y) = false ∧ ifCond.holds .gt (lcmpW y x) = true ∧ ifCond.holds .le (lcmpW y x) = false := by
  have h1 := (lc_lt x y).mpr h
  have h2 := (lc_gt y x).mpr h
  rw [← lcW] at h1 h2
  simp only [if0]
  exact ⟨(tlt h1).1, (tlt h1).2.1, (tlt h2).2.2.1, (tlt h2).2.2.2⟩
theorem own_fltL {x y : Int64} (h : ¬ x < y) : ifCond.holds .lt (lcmpW x y) = false ∧ ifCond.holds .ge (lcmpW x y) = true ∧ ifCond.holds .gt (lcmpW y x) = false ∧ ifCond.holds .le (lcmpW y x) = true := by
  have h1 := mt (lc_lt x y).mp h
  have h2 := mt (lc_gt y x).mp h
  rw [← lcW] at h1 h2
  simp only [if0]
  exact ⟨(flt h1).1, (flt h1).2.1, (flt h2).2.2.1, (flt h2).2.2.2⟩
theorem own_teqL {x y : Int64} (h : x = y) : ifCond.holds .eq (lcmpW x y) = true ∧ ifCond.holds .ne (lcmpW x y) = false := by
  have h1 := (lc_eq x y).mpr h
  rw [← lcW] at h1
  simp only [if0]
  exact teq h1
theorem own_feqL {x y : Int64} (h : ¬ x = y) : ifCond.holds .eq (lcmpW x y) = false ∧ ifCond.holds .ne (lcmpW x y) = true := by
  have h1 := mt (lc_eq x y).mp h
  rw [← lcW] at h1
  simp only [if0]
  exact feq h1
theorem own_nb (x : Int32) : nar .byte (x.toInt8.toInt32) = x.toInt8.toInt32 := by
  show (x.toInt8.toInt32).toInt8.toInt32 = _
  simp
theorem own_sel {args : Array Value} {s : State} {y z : MethodName} (hi : (Cond.instanceMethod y).before args s = true) (hp : (Cond.privateMethod y).before args s = true) (h2 : (Cond.selects y.cls z z).before args s = true) (hc : z.cls = y.cls)
    (hy : y.cls ≠ "java/lang/invoke/MethodHandle" ∧ y.cls ≠ "java/lang/invoke/VarHandle") : (Cond.selects y.cls y y).before args s = true := by
  obtain ⟨mk, meth, hn, hm, -, -⟩ := Cond.instanceMethod_spec hi
  obtain ⟨c, r, m2, -, -, f3, -, k, f4, f5⟩ := Cond.selects_spec h2
  have e1 := findClass_of_methodNamed hn
  have e2 := findClass_of_methodNamed f3
  rw [hc, e1] at e2
  have e3 : m2.cls = mk.cls := (Option.some.inj e2).symm
  have e4 := State.methodFound?_of_named hn hy
  have e5 := selectMethod_private (p := {}) (c := mk.cls) hm (Cond.privateMethod_at hp mk meth hn hm)
  rw [e3] at f4
  simp [Cond.before, Cond.holds, Cond.value, e1, e4, hn, e5, f4, f5]
def AF (Z : State) (h : Heap) (a : Addr) (ty : FieldType) (n : Nat) (g : Nat → Value) : Prop := ∃ c : Cell, Arr Z h a c ty ∧ c.slots.size = n ∧ ∀ j, j < n → c.slots[j]? = some (g j)
abbrev AI (Z : State) (h : Heap) (a : Addr) (ty : FieldType) (n : Nat) (f : Nat → Int32) : Prop := AF Z h a ty n (fun j => .int (f j))
abbrev AJ (Z : State) (h : Heap) (a : Addr) (ty : FieldType) (n : Nat) (f : Nat → Int64) : Prop := AF Z h a ty n (fun j => .long (f j))
abbrev AD (Z : State) (h : Heap) (a : Addr) (ty : FieldType) (n : Nat) (f : Nat → UInt64) : Prop := AF Z h a ty n (fun j => .double (f j))
def up {α : Type} (f : Nat → α) (i : Nat) (v : α) : Nat → α := fun j => if j = i then v else f j
def zI : Nat → Int32 := fun _ => 0
def zJ : Nat → Int64 := fun _ => 0
section Arrs
variable {Z : State} {h h' : Heap} {a b : Addr} {ty : FieldType} {n : Nat} {g g' : Nat → Value}
theorem AF.lt (F : AF Z h a ty n g) : a < h.size := by obtain ⟨c, A, -⟩ := F; exact A.lt
theorem AF.ext (F : AF Z h a ty n g) (E : Ext h h') : AF Z h' a ty n g := by obtain ⟨c, A, r⟩ := F; exact ⟨c, A.ext E, r⟩
theorem AF.other {sl : Nat} {v : Value} (F : AF Z h b ty n g) (W : Wr h h' a sl v) (q : b ≠ a) : AF Z h' b ty n g := by obtain ⟨c, A, r⟩ := F; exact ⟨c, A.other W q, r⟩
theorem AF.keep {ws : List Addr} (F : AF Z h a ty n g) (K : Keep h h' ws) (q : a ∉ ws) : AF Z h' a ty n g := by obtain ⟨c, A, r⟩ := F; exact ⟨c, ⟨K.2.1 a c A.1 q, A.2⟩, r⟩
theorem AF.re (F : AF Z h a ty n g) (q : ∀ j, j < n → g j = g' j) : AF Z h a ty n g' := by obtain ⟨c, A, S, H⟩ := F; exact ⟨c, A, S, fun j hj => by rw [H j hj, q j hj]⟩
theorem AF.at (F : AF Z h a ty n g) {j : Int32} (i : Nat) (hj : j.toInt = i) (hi : i < n) : ∃ c : Cell, Arr Z h a c ty ∧ ¬ (j < 0 ∨ c.slots.size ≤ j.toNatClampNeg) ∧ c.slots[j.toNatClampNeg]? = some (g i) := by
  obtain ⟨c, A, S, H⟩ := F
  have e : j.toNatClampNeg = i := by simp only [Int32.toNatClampNeg, hj]; omega
  refine ⟨c, A, ?_, by rw [e]; exact H i hi⟩
  rw [e, S, Int32.lt_iff_toInt_lt, hj]
  have : (0 : Int32).toInt = 0 := rfl
  omega
theorem AF.len (F : AF Z h a ty n g) : ∃ c : Cell, Arr Z h a c ty ∧ c.slots.size = n := by obtain ⟨c, A, S, -⟩ := F; exact ⟨c, A, S⟩
theorem AF.set {k : Nat} {v : Value} (F : AF Z h a ty n g) (W : Wr h h' a k v) : AF Z h' a ty n (fun j => if j = k then v else g j) := by
  obtain ⟨c, A, S, H⟩ := F
  refine ⟨_, A.same W, by rw [sz_set]; exact S, fun j hj => ?_⟩
  by_cases q : j = k
  · subst q; simp [Cell.setSlot, S, hj]
  · show _ = some (if j = k then v else g j)
    rw [if_neg q]; have := H j hj; simp only [Cell.setSlot] at this ⊢; rw [Array.getElem?_setIfInBounds_ne (Ne.symm q)]; exact this
theorem own_tn {j : Int32} {i : Nat} (hj : j.toInt = i) : j.toNatClampNeg = i := by simp only [Int32.toNatClampNeg, hj]; omega
theorem AF.setI {f : Nat → Int32} {j : Int32} {v : Int32} (F : AI Z h a ty n f) (W : Wr h h' a j.toNatClampNeg (.int v)) (i : Nat) (hj : j.toInt = i) : AI Z h' a ty n (up f i v) := by
  rw [own_tn hj] at W
  exact (AF.set F W).re fun k _ => by by_cases q : k = i <;> simp [up, q]
theorem AF.setJ {f : Nat → Int64} {j : Int32} {v : Int64} (F : AJ Z h a ty n f) (W : Wr h h' a j.toNatClampNeg (.long v)) (i : Nat) (hj : j.toInt = i) : AJ Z h' a ty n (up f i v) := by
  rw [own_tn hj] at W
  exact (AF.set F W).re fun k _ => by by_cases q : k = i <;> simp [up, q]
theorem AF.setD {f : Nat → UInt64} {j : Int32} {v : UInt64} (F : AD Z h a ty n f) (W : Wr h h' a j.toNatClampNeg (.double v)) (i : Nat) (hj : j.toInt = i) : AD Z h' a ty n (up f i v) := by
  rw [own_tn hj] at W
  exact (AF.set F W).re fun k _ => by by_cases q : k = i <;> simp [up, q]
theorem AF.new {k : ClassId} {z : Int32} (A : Arr Z h a (newA k ty z) ty) (hz : z.toInt = n) : AF Z h a ty n (fun _ => defaultValue ty) :=
  ⟨_, A, by rw [sz_new]; exact own_tn hz, fun j hj => by simp [newA, own_tn hz, hj]⟩
end Arrs
end Jvm.RoadKit
namespace Jvm.Pilot.@@N@@
open Jvm Jvm.ClassFile Sem Op Lib Jvm.Free Jvm.Stand Jvm.LawKit Jvm.RoadKit Bundle Jvm.Pilot.@@N@@.Jvm.D
theorem ef_1 (m : MethodId) (tl : Int32) (pl : Int32) : entryFrame m #[(.int tl), (.int pl)] 7 = mkF m 0 #[.val (.int tl), .val (.int pl), .unset, .unset, .unset, .unset, .unset] [] := by first | (simp [entryFrame, mkF, argsToLocals, Value.category]; done) | rfl
theorem d1_0 : decode prog_31_method_14_code 0 = .ok (.ldc2_w 152, 3) := by decide +kernel
theorem d1_3 : decode prog_31_method_14_code 3 = .ok (.iload_n 0, 1) := by decide +kernel
theorem d1_4 : decode prog_31_method_14_code 4 = .ok (.i2l, 1) := by decide +kernel
theorem d1_5 : decode prog_31_method_14_code 5 = .ok (.ladd, 1) := by decide +kernel
theorem d1_6 : decode prog_31_method_14_code 6 = .ok (.ldc2_w 152, 3) := by decide +kernel
theorem d1_9 : decode prog_31_method_14_code 9 = .ok (.ladd, 1) := by decide +kernel
theorem d1_10 : decode prog_31_method_14_code 10 = .ok (.iload_n 1, 1) := by decide +kernel
theorem d1_11 : decode prog_31_method_14_code 11 = .ok (.i2l, 1) := by decide +kernel
theorem d1_12 : decode prog_31_method_14_code 12 = .ok (.ladd, 1) := by decide +kernel
theorem d1_13 : decode prog_31_method_14_code 13 = .ok (.lstore_n 2, 1) := by decide +kernel
theorem d1_14 : decode prog_31_method_14_code 14 = .ok (.iconst 1, 1) := by decide +kernel
theorem d1_15 : decode prog_31_method_14_code 15 = .ok (.istore 4, 2) := by decide +kernel
theorem d1_17 : decode prog_31_method_14_code 17 = .ok (.lload_n 2, 1) := by decide +kernel
theorem d1_18 : decode prog_31_method_14_code 18 = .ok (.bipush 7, 2) := by decide +kernel
theorem d1_20 : decode prog_31_method_14_code 20 = .ok (.lushr, 1) := by decide +kernel
theorem d1_21 : decode prog_31_method_14_code 21 = .ok (.lstore 5, 2) := by decide +kernel
theorem d1_23 : decode prog_31_method_14_code 23 = .ok (.lload 5, 2) := by decide +kernel
theorem d1_25 : decode prog_31_method_14_code 25 = .ok (.lconst 0, 1) := by decide +kernel
theorem d1_26 : decode prog_31_method_14_code 26 = .ok (.lcmp, 1) := by decide +kernel
theorem d1_27 : decode prog_31_method_14_code 27 = .ok (.ifCond .le 16, 3) := by decide +kernel
theorem d1_30 : decode prog_31_method_14_code 30 = .ok (.iinc 4 1, 3) := by decide +kernel
theorem d1_33 : decode prog_31_method_14_code 33 = .ok (.lload 5, 2) := by decide +kernel
theorem d1_35 : decode prog_31_method_14_code 35 = .ok (.bipush 7, 2) := by decide +kernel
theorem d1_37 : decode prog_31_method_14_code 37 = .ok (.lushr, 1) := by decide +kernel
theorem d1_38 : decode prog_31_method_14_code 38 = .ok (.lstore 5, 2) := by decide +kernel
theorem d1_40 : decode prog_31_method_14_code 40 = .ok (.goto (-17), 3) := by decide +kernel
theorem d1_43 : decode prog_31_method_14_code 43 = .ok (.iconst 1, 1) := by decide +kernel
theorem d1_44 : decode prog_31_method_14_code 44 = .ok (.iload 4, 2) := by decide +kernel
theorem d1_46 : decode prog_31_method_14_code 46 = .ok (.iadd, 1) := by decide +kernel
theorem d1_47 : decode prog_31_method_14_code 47 = .ok (.i2l, 1) := by decide +kernel
theorem d1_48 : decode prog_31_method_14_code 48 = .ok (.lload_n 2, 1) := by decide +kernel
theorem d1_49 : decode prog_31_method_14_code 49 = .ok (.ladd, 1) := by decide +kernel
theorem d1_50 : decode prog_31_method_14_code 50 = .ok (.lreturn, 1) := by decide +kernel
def r1_v (tl : Int32) (pl : Int32) : Int64 := (if (0 : Int64) < ((((((2 : Int64) + (tl.toInt64)) + (2 : Int64)) + (pl.toInt64)).toUInt64 >>> ((7 : Int32) &&& 0x3f).toInt64.toUInt64).toInt64) then (if (0 : Int64) < ((((((((2 : Int64) + (tl.toInt64)) + (2 : Int64)) + (pl.toInt64)).toUInt64 >>> ((7 : Int32) &&& 0x3f).toInt64.toUInt64).toInt64).toUInt64 >>> ((7 : Int32) &&& 0x3f).toInt64.toUInt64).toInt64) then (if (0 : Int64) < ((((((((((2 : Int64) + (tl.toInt64)) + (2 : Int64)) + (pl.toInt64)).toUInt64 >>> ((7 : Int32) &&& 0x3f).toInt64.toUInt64).toInt64).toUInt64 >>> ((7 : Int32) &&& 0x3f).toInt64.toUInt64).toInt64).toUInt64 >>> ((7 : Int32) &&& 0x3f).toInt64.toUInt64).toInt64) then (if (0 : Int64) < ((((((((((((2 : Int64) + (tl.toInt64)) + (2 : Int64)) + (pl.toInt64)).toUInt64 >>> ((7 : Int32) &&& 0x3f).toInt64.toUInt64).toInt64).toUInt64 >>> ((7 : Int32) &&& 0x3f).toInt64.toUInt64).toInt64).toUInt64 >>> ((7 : Int32) &&& 0x3f).toInt64.toUInt64).toInt64).toUInt64 >>> ((7 : Int32) &&& 0x3f).toInt64.toUInt64).toInt64) then ((6 : Int64) + ((((2 : Int64) + (tl.toInt64)) + (2 : Int64)) + (pl.toInt64))) else ((5 : Int64) + ((((2 : Int64) + (tl.toInt64)) + (2 : Int64)) + (pl.toInt64)))) else ((4 : Int64) + ((((2 : Int64) + (tl.toInt64)) + (2 : Int64)) + (pl.toInt64)))) else ((3 : Int64) + ((((2 : Int64) + (tl.toInt64)) + (2 : Int64)) + (pl.toInt64)))) else ((2 : Int64) + ((((2 : Int64) + (tl.toInt64)) + (2 : Int64)) + (pl.toInt64))))
theorem pn_com_example_hikyaku_hikyaku_mqtt_MqttPacket : plainName "com/example/hikyaku/hikyaku/mqtt/MqttPacket" = true := by first | (simp [plainName, overriddenIn]; done) | decide +kernel
def Q1 (Z : State) (tl : Int32) (pl : Int32) (h0 : Heap) (n0 : Nat) (v : Option Value) (h : Heap) (L : List Loc) : Prop := v = some (.long (r1_v tl pl)) ∧ Fr n0 L ∧ h = h0
set_option maxRecDepth 65536 in
set_option maxHeartbeats 40000000 in
theorem rm1 (l : Launch) (Z : State) (a0 : Array Value) (hw : ∀ d ∈ tables_1, d.before a0 Z = true) (ws : List Jvm.Cond) (tl : Int32) (pl : Int32) (h0 : Heap) (n0 : Nat) (Z0 : n0 ≤ h0.size) (hc27 : ¬ ((0 : Int64) < ((((((((((((((2 : Int64) + (tl.toInt64)) + (2 : Int64)) + (pl.toInt64)).toUInt64 >>> ((7 : Int32) &&& 0x3f).toInt64.toUInt64).toInt64).toUInt64 >>> ((7 : Int32) &&& 0x3f).toInt64.toUInt64).toInt64).toUInt64 >>> ((7 : Int32) &&& 0x3f).toInt64.toUInt64).toInt64).toUInt64 >>> ((7 : Int32) &&& 0x3f).toInt64.toUInt64).toInt64).toUInt64 >>> ((7 : Int32) &&& 0x3f).toInt64.toUInt64).toInt64))) :
    MetFree l (⟨"com/example/hikyaku/hikyaku/mqtt/MqttPacket", "publishBytes", "(II)J"⟩ : MethodName) (head1 (Jvm.Cond.code (⟨"com/example/hikyaku/hikyaku/mqtt/MqttPacket", "publishBytes", "(II)J"⟩ : MethodName) prog_31_method_14_code 7 (some .long) :: ws) ({ frames := 0, cells := 0, slots := 0, locals := 0 } : Room)) (fun a U => a = #[(.int tl), (.int pl)] ∧ Z.Warmed39 U.vm ∧ U.heap = h0) (fun _ _ _ _ _ => True) (fun _ U o U' => ∃ v L, o = .returned v ∧ Q1 Z tl pl h0 n0 v U'.heap L ∧ FrameEnd U o U' L ({ frames := 0, cells := 0, slots := 0, locals := 0 } : Room).cells ({ frames := 0, cells := 0, slots := 0, locals := 0 } : Room).slots) := by
  refine MetFree.of_bodySF (plainFor_of_name pn_com_example_hikyaku_hikyaku_mqtt_MqttPacket) hisR ?_
  intro p e s m args below meth c s₁ Bd hml0 hP hK
  obtain ⟨rfl, hZ, hh⟩ := hP
  have hx := Bd.exec
  have hby := Bd.bytes
  have hml : c.maxLocals = 7 := hml0
  have hown : s.vm.findClass "com/example/hikyaku/hikyaku/mqtt/MqttPacket" = some m.cls := findClass_of_methodNamed Bd.named
  have hnm := (name_of_methodNamed Bd.named Bd.method).1
  have X0 : Stand p l e ({ frames := 0, cells := 0, slots := 0, locals := 0 } : Room) s m #[(.int tl), (.int pl)] below meth c s₁ [] 0 0 := Stand.of_body Bd
  have e0 : s₁.heap = h0 := by rw [← hh, Bd.state]; rfl
  have N0 := Fr.nil n0
  have K0 : Keep h0 h0 [] := Keep.refl h0 _
  have pre0 : ∀ t, Steps p.tables e below (s₁.setTop (mkF m 0 #[.val (.int tl), .val (.int pl), .unset, .unset, .unset, .unset, .unset] [])) t → Steps p.tables e below (s₁.setTop (entryFrame m #[(.int tl), (.int pl)] 7)) t := fun t k => castTop (ef_1 m tl pl) k
  have pre1 : ∀ t, Steps p.tables e below (s₁.setTop (mkF m 27 #[.val (.int tl), .val (.int pl), .val (.long ((((2 : Int64) + (tl.toInt64)) + (2 : Int64)) + (pl.toInt64))), .second, .val (.int (1 : Int32)), .val (.long ((((((2 : Int64) + (tl.toInt64)) + (2 : Int64)) + (pl.toInt64)).toUInt64 >>> ((7 : Int32) &&& 0x3f).toInt64.toUInt64).toInt64)), .second] [(.int (lcmpW ((((((2 : Int64) + (tl.toInt64)) + (2 : Int64)) + (pl.toInt64)).toUInt64 >>> ((7 : Int32) &&& 0x3f).toInt64.toUInt64).toInt64) (0 : Int64)))])) t → Steps p.tables e below (s₁.setTop (entryFrame m #[(.int tl), (.int pl)] 7)) t := by
    intro t k
    refine pre0 _ ?_
    show Steps p.tables e below (s₁.setTop (mkF m 0 #[.val (.int tl), .val (.int pl), .unset, .unset, .unset, .unset, .unset] [])) _
    refine X0.ldc2Long hx hown (mvT hZ (hw _ (List.mem_of_getElem? (i := 8) rfl))) (g := (mkF m 0 #[.val (.int tl), .val (.int pl), .unset, .unset, .unset, .unset, .unset] [])) rfl (hb hby d1_0) _ ?_
    show Steps p.tables e below (s₁.setTop (mkF m 3 #[.val (.int tl), .val (.int pl), .unset, .unset, .unset, .unset, .unset] [(.long (2 : Int64))])) _
    refine XS.iloadN X0.here hx rfl (hb hby d1_3) rfl ?_
    show Steps p.tables e below (s₁.setTop (mkF m 4 #[.val (.int tl), .val (.int pl), .unset, .unset, .unset, .unset, .unset] [(.int tl), (.long (2 : Int64))])) _
    refine XS.i2l X0.here hx rfl (hb hby d1_4) rfl ?_
    show Steps p.tables e below (s₁.setTop (mkF m 5 #[.val (.int tl), .val (.int pl), .unset, .unset, .unset, .unset, .unset] [(.long (tl.toInt64)), (.long (2 : Int64))])) _
    refine XS.ladd X0.here hx rfl (hb hby d1_5) rfl ?_
    show Steps p.tables e below (s₁.setTop (mkF m 6 #[.val (.int tl), .val (.int pl), .unset, .unset, .unset, .unset, .unset] [(.long ((2 : Int64) + (tl.toInt64)))])) _
    refine X0.ldc2Long hx hown (mvT hZ (hw _ (List.mem_of_getElem? (i := 8) rfl))) (g := (mkF m 6 #[.val (.int tl), .val (.int pl), .unset, .unset, .unset, .unset, .unset] [(.long ((2 : Int64) + (tl.toInt64)))])) rfl (hb hby d1_6) _ ?_
    show Steps p.tables e below (s₁.setTop (mkF m 9 #[.val (.int tl), .val (.int pl), .unset, .unset, .unset, .unset, .unset] [(.long (2 : Int64)), (.long ((2 : Int64) + (tl.toInt64)))])) _
    refine XS.ladd X0.here hx rfl (hb hby d1_9) rfl ?_
    show Steps p.tables e below (s₁.setTop (mkF m 10 #[.val (.int tl), .val (.int pl), .unset, .unset, .unset, .unset, .unset] [(.long (((2 : Int64) + (tl.toInt64)) + (2 : Int64)))])) _
    refine XS.iloadN X0.here hx rfl (hb hby d1_10) rfl ?_
    show Steps p.tables e below (s₁.setTop (mkF m 11 #[.val (.int tl), .val (.int pl), .unset, .unset, .unset, .unset, .unset] [(.int pl), (.long (((2 : Int64) + (tl.toInt64)) + (2 : Int64)))])) _
    refine XS.i2l X0.here hx rfl (hb hby d1_11) rfl ?_
    show Steps p.tables e below (s₁.setTop (mkF m 12 #[.val (.int tl), .val (.int pl), .unset, .unset, .unset, .unset, .unset] [(.long (pl.toInt64)), (.long (((2 : Int64) + (tl.toInt64)) + (2 : Int64)))])) _
    refine XS.ladd X0.here hx rfl (hb hby d1_12) rfl ?_
    show Steps p.tables e below (s₁.setTop (mkF m 13 #[.val (.int tl), .val (.int pl), .unset, .unset, .unset, .unset, .unset] [(.long ((((2 : Int64) + (tl.toInt64)) + (2 : Int64)) + (pl.toInt64)))])) _
    refine XS.lstoreN X0.here hx rfl (hb hby d1_13) rfl (l' := #[.val (.int tl), .val (.int pl), .val (.long ((((2 : Int64) + (tl.toInt64)) + (2 : Int64)) + (pl.toInt64))), .second, .unset, .unset, .unset]) rfl ?_
    show Steps p.tables e below (s₁.setTop (mkF m 14 #[.val (.int tl), .val (.int pl), .val (.long ((((2 : Int64) + (tl.toInt64)) + (2 : Int64)) + (pl.toInt64))), .second, .unset, .unset, .unset] [])) _
    refine XS.iconst X0.here hx rfl (hb hby d1_14) ?_
    show Steps p.tables e below (s₁.setTop (mkF m 15 #[.val (.int tl), .val (.int pl), .val (.long ((((2 : Int64) + (tl.toInt64)) + (2 : Int64)) + (pl.toInt64))), .second, .unset, .unset, .unset] [(.int (1 : Int32))])) _
    refine XS.istore X0.here hx rfl (hb hby d1_15) rfl (l' := #[.val (.int tl), .val (.int pl), .val (.long ((((2 : Int64) + (tl.toInt64)) + (2 : Int64)) + (pl.toInt64))), .second, .val (.int (1 : Int32)), .unset, .unset]) rfl ?_
    show Steps p.tables e below (s₁.setTop (mkF m 17 #[.val (.int tl), .val (.int pl), .val (.long ((((2 : Int64) + (tl.toInt64)) + (2 : Int64)) + (pl.toInt64))), .second, .val (.int (1 : Int32)), .unset, .unset] [])) _
    refine XS.lloadN X0.here hx rfl (hb hby d1_17) rfl ?_
    show Steps p.tables e below (s₁.setTop (mkF m 18 #[.val (.int tl), .val (.int pl), .val (.long ((((2 : Int64) + (tl.toInt64)) + (2 : Int64)) + (pl.toInt64))), .second, .val (.int (1 : Int32)), .unset, .unset] [(.long ((((2 : Int64) + (tl.toInt64)) + (2 : Int64)) + (pl.toInt64)))])) _
    refine XS.bipush X0.here hx rfl (hb hby d1_18) ?_
    show Steps p.tables e below (s₁.setTop (mkF m 20 #[.val (.int tl), .val (.int pl), .val (.long ((((2 : Int64) + (tl.toInt64)) + (2 : Int64)) + (pl.toInt64))), .second, .val (.int (1 : Int32)), .unset, .unset] [(.int (7 : Int32)), (.long ((((2 : Int64) + (tl.toInt64)) + (2 : Int64)) + (pl.toInt64)))])) _
    refine XS.lushr X0.here hx rfl (hb hby d1_20) rfl ?_
    show Steps p.tables e below (s₁.setTop (mkF m 21 #[.val (.int tl), .val (.int pl), .val (.long ((((2 : Int64) + (tl.toInt64)) + (2 : Int64)) + (pl.toInt64))), .second, .val (.int (1 : Int32)), .unset, .unset] [(.long ((((((2 : Int64) + (tl.toInt64)) + (2 : Int64)) + (pl.toInt64)).toUInt64 >>> ((7 : Int32) &&& 0x3f).toInt64.toUInt64).toInt64))])) _
    refine XS.lstore X0.here hx rfl (hb hby d1_21) rfl (l' := #[.val (.int tl), .val (.int pl), .val (.long ((((2 : Int64) + (tl.toInt64)) + (2 : Int64)) + (pl.toInt64))), .second, .val (.int (1 : Int32)), .val (.long ((((((2 : Int64) + (tl.toInt64)) + (2 : Int64)) + (pl.toInt64)).toUInt64 >>> ((7 : Int32) &&& 0x3f).toInt64.toUInt64).toInt64)), .second]) rfl ?_
    show Steps p.tables e below (s₁.setTop (mkF m 23 #[.val (.int tl), .val (.int pl), .val (.long ((((2 : Int64) + (tl.toInt64)) + (2 : Int64)) + (pl.toInt64))), .second, .val (.int (1 : Int32)), .val (.long ((((((2 : Int64) + (tl.toInt64)) + (2 : Int64)) + (pl.toInt64)).toUInt64 >>> ((7 : Int32) &&& 0x3f).toInt64.toUInt64).toInt64)), .second] [])) _
    refine XS.lload X0.here hx rfl (hb hby d1_23) rfl ?_
    show Steps p.tables e below (s₁.setTop (mkF m 25 #[.val (.int tl), .val (.int pl), .val (.long ((((2 : Int64) + (tl.toInt64)) + (2 : Int64)) + (pl.toInt64))), .second, .val (.int (1 : Int32)), .val (.long ((((((2 : Int64) + (tl.toInt64)) + (2 : Int64)) + (pl.toInt64)).toUInt64 >>> ((7 : Int32) &&& 0x3f).toInt64.toUInt64).toInt64)), .second] [(.long ((((((2 : Int64) + (tl.toInt64)) + (2 : Int64)) + (pl.toInt64)).toUInt64 >>> ((7 : Int32) &&& 0x3f).toInt64.toUInt64).toInt64))])) _
    refine XS.lconst X0.here hx rfl (hb hby d1_25) ?_
    show Steps p.tables e below (s₁.setTop (mkF m 26 #[.val (.int tl), .val (.int pl), .val (.long ((((2 : Int64) + (tl.toInt64)) + (2 : Int64)) + (pl.toInt64))), .second, .val (.int (1 : Int32)), .val (.long ((((((2 : Int64) + (tl.toInt64)) + (2 : Int64)) + (pl.toInt64)).toUInt64 >>> ((7 : Int32) &&& 0x3f).toInt64.toUInt64).toInt64)), .second] [(.long (0 : Int64)), (.long ((((((2 : Int64) + (tl.toInt64)) + (2 : Int64)) + (pl.toInt64)).toUInt64 >>> ((7 : Int32) &&& 0x3f).toInt64.toUInt64).toInt64))])) _
    refine XS.lcmp X0.here hx rfl (hb hby d1_26) rfl ?_
    exact k
  by_cases hk2 : (0 : Int64) < ((((((2 : Int64) + (tl.toInt64)) + (2 : Int64)) + (pl.toInt64)).toUInt64 >>> ((7 : Int32) &&& 0x3f).toInt64.toUInt64).toInt64)
  · have pre3 : ∀ t, Steps p.tables e below (s₁.setTop (mkF m 27 #[.val (.int tl), .val (.int pl), .val (.long ((((2 : Int64) + (tl.toInt64)) + (2 : Int64)) + (pl.toInt64))), .second, .val (.int (2 : Int32)), .val (.long ((((((((2 : Int64) + (tl.toInt64)) + (2 : Int64)) + (pl.toInt64)).toUInt64 >>> ((7 : Int32) &&& 0x3f).toInt64.toUInt64).toInt64).toUInt64 >>> ((7 : Int32) &&& 0x3f).toInt64.toUInt64).toInt64)), .second] [(.int (lcmpW ((((((((2 : Int64) + (tl.toInt64)) + (2 : Int64)) + (pl.toInt64)).toUInt64 >>> ((7 : Int32) &&& 0x3f).toInt64.toUInt64).toInt64).toUInt64 >>> ((7 : Int32) &&& 0x3f).toInt64.toUInt64).toInt64) (0 : Int64)))])) t → Steps p.tables e below (s₁.setTop (entryFrame m #[(.int tl), (.int pl)] 7)) t := by
      intro t k
      refine pre1 _ ?_
      show Steps p.tables e below (s₁.setTop (mkF m 27 #[.val (.int tl), .val (.int pl), .val (.long ((((2 : Int64) + (tl.toInt64)) + (2 : Int64)) + (pl.toInt64))), .second, .val (.int (1 : Int32)), .val (.long ((((((2 : Int64) + (tl.toInt64)) + (2 : Int64)) + (pl.toInt64)).toUInt64 >>> ((7 : Int32) &&& 0x3f).toInt64.toUInt64).toInt64)), .second] [(.int (lcmpW ((((((2 : Int64) + (tl.toInt64)) + (2 : Int64)) + (pl.toInt64)).toUInt64 >>> ((7 : Int32) &&& 0x3f).toInt64.toUInt64).toInt64) (0 : Int64)))])) _
      refine XS.ifNo X0.here hx rfl (hb hby d1_27) rfl (own_tltL hk2).2.2.2 ?_
      show Steps p.tables e below (s₁.setTop (mkF m 30 #[.val (.int tl), .val (.int pl), .val (.long ((((2 : Int64) + (tl.toInt64)) + (2 : Int64)) + (pl.toInt64))), .second, .val (.int (1 : Int32)), .val (.long ((((((2 : Int64) + (tl.toInt64)) + (2 : Int64)) + (pl.toInt64)).toUInt64 >>> ((7 : Int32) &&& 0x3f).toInt64.toUInt64).toInt64)), .second] [])) _
      refine XS.iinc X0.here hx rfl (hb hby d1_30) rfl (l' := #[.val (.int tl), .val (.int pl), .val (.long ((((2 : Int64) + (tl.toInt64)) + (2 : Int64)) + (pl.toInt64))), .second, .val (.int (2 : Int32)), .val (.long ((((((2 : Int64) + (tl.toInt64)) + (2 : Int64)) + (pl.toInt64)).toUInt64 >>> ((7 : Int32) &&& 0x3f).toInt64.toUInt64).toInt64)), .second]) rfl ?_
      show Steps p.tables e below (s₁.setTop (mkF m 33 #[.val (.int tl), .val (.int pl), .val (.long ((((2 : Int64) + (tl.toInt64)) + (2 : Int64)) + (pl.toInt64))), .second, .val (.int (2 : Int32)), .val (.long ((((((2 : Int64) + (tl.toInt64)) + (2 : Int64)) + (pl.toInt64)).toUInt64 >>> ((7 : Int32) &&& 0x3f).toInt64.toUInt64).toInt64)), .second] [])) _
      refine XS.lload X0.here hx rfl (hb hby d1_33) rfl ?_
      show Steps p.tables e below (s₁.setTop (mkF m 35 #[.val (.int tl), .val (.int pl), .val (.long ((((2 : Int64) + (tl.toInt64)) + (2 : Int64)) + (pl.toInt64))), .second, .val (.int (2 : Int32)), .val (.long ((((((2 : Int64) + (tl.toInt64)) + (2 : Int64)) + (pl.toInt64)).toUInt64 >>> ((7 : Int32) &&& 0x3f).toInt64.toUInt64).toInt64)), .second] [(.long ((((((2 : Int64) + (tl.toInt64)) + (2 : Int64)) + (pl.toInt64)).toUInt64 >>> ((7 : Int32) &&& 0x3f).toInt64.toUInt64).toInt64))])) _
      refine XS.bipush X0.here hx rfl (hb hby d1_35) ?_
      show Steps p.tables e below (s₁.setTop (mkF m 37 #[.val (.int tl), .val (.int pl), .val (.long ((((2 : Int64) + (tl.toInt64)) + (2 : Int64)) + (pl.toInt64))), .second, .val (.int (2 : Int32)), .val (.long ((((((2 : Int64) + (tl.toInt64)) + (2 : Int64)) + (pl.toInt64)).toUInt64 >>> ((7 : Int32) &&& 0x3f).toInt64.toUInt64).toInt64)), .second] [(.int (7 : Int32)), (.long ((((((2 : Int64) + (tl.toInt64)) + (2 : Int64)) + (pl.toInt64)).toUInt64 >>> ((7 : Int32) &&& 0x3f).toInt64.toUInt64).toInt64))])) _
      refine XS.lushr X0.here hx rfl (hb hby d1_37) rfl ?_
      show Steps p.tables e below (s₁.setTop (mkF m 38 #[.val (.int tl), .val (.int pl), .val (.long ((((2 : Int64) + (tl.toInt64)) + (2 : Int64)) + (pl.toInt64))), .second, .val (.int (2 : Int32)), .val (.long ((((((2 : Int64) + (tl.toInt64)) + (2 : Int64)) + (pl.toInt64)).toUInt64 >>> ((7 : Int32) &&& 0x3f).toInt64.toUInt64).toInt64)), .second] [(.long ((((((((2 : Int64) + (tl.toInt64)) + (2 : Int64)) + (pl.toInt64)).toUInt64 >>> ((7 : Int32) &&& 0x3f).toInt64.toUInt64).toInt64).toUInt64 >>> ((7 : Int32) &&& 0x3f).toInt64.toUInt64).toInt64))])) _
      refine XS.lstore X0.here hx rfl (hb hby d1_38) rfl (l' := #[.val (.int tl), .val (.int pl), .val (.long ((((2 : Int64) + (tl.toInt64)) + (2 : Int64)) + (pl.toInt64))), .second, .val (.int (2 : Int32)), .val (.long ((((((((2 : Int64) + (tl.toInt64)) + (2 : Int64)) + (pl.toInt64)).toUInt64 >>> ((7 : Int32) &&& 0x3f).toInt64.toUInt64).toInt64).toUInt64 >>> ((7 : Int32) &&& 0x3f).toInt64.toUInt64).toInt64)), .second]) rfl ?_
      show Steps p.tables e below (s₁.setTop (mkF m 40 #[.val (.int tl), .val (.int pl), .val (.long ((((2 : Int64) + (tl.toInt64)) + (2 : Int64)) + (pl.toInt64))), .second, .val (.int (2 : Int32)), .val (.long ((((((((2 : Int64) + (tl.toInt64)) + (2 : Int64)) + (pl.toInt64)).toUInt64 >>> ((7 : Int32) &&& 0x3f).toInt64.toUInt64).toInt64).toUInt64 >>> ((7 : Int32) &&& 0x3f).toInt64.toUInt64).toInt64)), .second] [])) _
      refine XS.goto X0.here hx rfl (pc0 := 40) (pc' := 23) rfl (hb hby d1_40) (by decide) (by decide) ?_
      show Steps p.tables e below (s₁.setTop (mkF m 23 #[.val (.int tl), .val (.int pl), .val (.long ((((2 : Int64) + (tl.toInt64)) + (2 : Int64)) + (pl.toInt64))), .second, .val (.int (2 : Int32)), .val (.long ((((((((2 : Int64) + (tl.toInt64)) + (2 : Int64)) + (pl.toInt64)).toUInt64 >>> ((7 : Int32) &&& 0x3f).toInt64.toUInt64).toInt64).toUInt64 >>> ((7 : Int32) &&& 0x3f).toInt64.toUInt64).toInt64)), .second] [])) _
      refine XS.lload X0.here hx rfl (hb hby d1_23) rfl ?_
      show Steps p.tables e below (s₁.setTop (mkF m 25 #[.val (.int tl), .val (.int pl), .val (.long ((((2 : Int64) + (tl.toInt64)) + (2 : Int64)) + (pl.toInt64))), .second, .val (.int (2 : Int32)), .val (.long ((((((((2 : Int64) + (tl.toInt64)) + (2 : Int64)) + (pl.toInt64)).toUInt64 >>> ((7 : Int32) &&& 0x3f).toInt64.toUInt64).toInt64).toUInt64 >>> ((7 : Int32) &&& 0x3f).toInt64.toUInt64).toInt64)), .second] [(.long ((((((((2 : Int64) + (tl.toInt64)) + (2 : Int64)) + (pl.toInt64)).toUInt64 >>> ((7 : Int32) &&& 0x3f).toInt64.toUInt64).toInt64).toUInt64 >>> ((7 : Int32) &&& 0x3f).toInt64.toUInt64).toInt64))])) _
      refine XS.lconst X0.here hx rfl (hb hby d1_25) ?_
      show Steps p.tables e below (s₁.setTop (mkF m 26 #[.val (.int tl), .val (.int pl), .val (.long ((((2 : Int64) + (tl.toInt64)) + (2 : Int64)) + (pl.toInt64))), .second, .val (.int (2 : Int32)), .val (.long ((((((((2 : Int64) + (tl.toInt64)) + (2 : Int64)) + (pl.toInt64)).toUInt64 >>> ((7 : Int32) &&& 0x3f).toInt64.toUInt64).toInt64).toUInt64 >>> ((7 : Int32) &&& 0x3f).toInt64.toUInt64).toInt64)), .second] [(.long (0 : Int64)), (.long ((((((((2 : Int64) + (tl.toInt64)) + (2 : Int64)) + (pl.toInt64)).toUInt64 >>> ((7 : Int32) &&& 0x3f).toInt64.toUInt64).toInt64).toUInt64 >>> ((7 : Int32) &&& 0x3f).toInt64.toUInt64).toInt64))])) _
      refine XS.lcmp X0.here hx rfl (hb hby d1_26) rfl ?_
      exact k
    by_cases hk4 : (0 : Int64) < ((((((((2 : Int64) + (tl.toInt64)) + (2 : Int64)) + (pl.toInt64)).toUInt64 >>> ((7 : Int32) &&& 0x3f).toInt64.toUInt64).toInt64).toUInt64 >>> ((7 : Int32) &&& 0x3f).toInt64.toUInt64).toInt64)
    · have pre5 : ∀ t, Steps p.tables e below (s₁.setTop (mkF m 27 #[.val (.int tl), .val (.int pl), .val (.long ((((2 : Int64) + (tl.toInt64)) + (2 : Int64)) + (pl.toInt64))), .second, .val (.int (3 : Int32)), .val (.long ((((((((((2 : Int64) + (tl.toInt64)) + (2 : Int64)) + (pl.toInt64)).toUInt64 >>> ((7 : Int32) &&& 0x3f).toInt64.toUInt64).toInt64).toUInt64 >>> ((7 : Int32) &&& 0x3f).toInt64.toUInt64).toInt64).toUInt64 >>> ((7 : Int32) &&& 0x3f).toInt64.toUInt64).toInt64)), .second] [(.int (lcmpW ((((((((((2 : Int64) + (tl.toInt64)) + (2 : Int64)) + (pl.toInt64)).toUInt64 >>> ((7 : Int32) &&& 0x3f).toInt64.toUInt64).toInt64).toUInt64 >>> ((7 : Int32) &&& 0x3f).toInt64.toUInt64).toInt64).toUInt64 >>> ((7 : Int32) &&& 0x3f).toInt64.toUInt64).toInt64) (0 : Int64)))])) t → Steps p.tables e below (s₁.setTop (entryFrame m #[(.int tl), (.int pl)] 7)) t := by
        intro t k
        refine pre3 _ ?_
        show Steps p.tables e below (s₁.setTop (mkF m 27 #[.val (.int tl), .val (.int pl), .val (.long ((((2 : Int64) + (tl.toInt64)) + (2 : Int64)) + (pl.toInt64))), .second, .val (.int (2 : Int32)), .val (.long ((((((((2 : Int64) + (tl.toInt64)) + (2 : Int64)) + (pl.toInt64)).toUInt64 >>> ((7 : Int32) &&& 0x3f).toInt64.toUInt64).toInt64).toUInt64 >>> ((7 : Int32) &&& 0x3f).toInt64.toUInt64).toInt64)), .second] [(.int (lcmpW ((((((((2 : Int64) + (tl.toInt64)) + (2 : Int64)) + (pl.toInt64)).toUInt64 >>> ((7 : Int32) &&& 0x3f).toInt64.toUInt64).toInt64).toUInt64 >>> ((7 : Int32) &&& 0x3f).toInt64.toUInt64).toInt64) (0 : Int64)))])) _
        refine XS.ifNo X0.here hx rfl (hb hby d1_27) rfl (own_tltL hk4).2.2.2 ?_
        show Steps p.tables e below (s₁.setTop (mkF m 30 #[.val (.int tl), .val (.int pl), .val (.long ((((2 : Int64) + (tl.toInt64)) + (2 : Int64)) + (pl.toInt64))), .second, .val (.int (2 : Int32)), .val (.long ((((((((2 : Int64) + (tl.toInt64)) + (2 : Int64)) + (pl.toInt64)).toUInt64 >>> ((7 : Int32) &&& 0x3f).toInt64.toUInt64).toInt64).toUInt64 >>> ((7 : Int32) &&& 0x3f).toInt64.toUInt64).toInt64)), .second] [])) _
        refine XS.iinc X0.here hx rfl (hb hby d1_30) rfl (l' := #[.val (.int tl), .val (.int pl), .val (.long ((((2 : Int64) + (tl.toInt64)) + (2 : Int64)) + (pl.toInt64))), .second, .val (.int (3 : Int32)), .val (.long ((((((((2 : Int64) + (tl.toInt64)) + (2 : Int64)) + (pl.toInt64)).toUInt64 >>> ((7 : Int32) &&& 0x3f).toInt64.toUInt64).toInt64).toUInt64 >>> ((7 : Int32) &&& 0x3f).toInt64.toUInt64).toInt64)), .second]) rfl ?_
        show Steps p.tables e below (s₁.setTop (mkF m 33 #[.val (.int tl), .val (.int pl), .val (.long ((((2 : Int64) + (tl.toInt64)) + (2 : Int64)) + (pl.toInt64))), .second, .val (.int (3 : Int32)), .val (.long ((((((((2 : Int64) + (tl.toInt64)) + (2 : Int64)) + (pl.toInt64)).toUInt64 >>> ((7 : Int32) &&& 0x3f).toInt64.toUInt64).toInt64).toUInt64 >>> ((7 : Int32) &&& 0x3f).toInt64.toUInt64).toInt64)), .second] [])) _
        refine XS.lload X0.here hx rfl (hb hby d1_33) rfl ?_
        show Steps p.tables e below (s₁.setTop (mkF m 35 #[.val (.int tl), .val (.int pl), .val (.long ((((2 : Int64) + (tl.toInt64)) + (2 : Int64)) + (pl.toInt64))), .second, .val (.int (3 : Int32)), .val (.long ((((((((2 : Int64) + (tl.toInt64)) + (2 : Int64)) + (pl.toInt64)).toUInt64 >>> ((7 : Int32) &&& 0x3f).toInt64.toUInt64).toInt64).toUInt64 >>> ((7 : Int32) &&& 0x3f).toInt64.toUInt64).toInt64)), .second] [(.long ((((((((2 : Int64) + (tl.toInt64)) + (2 : Int64)) + (pl.toInt64)).toUInt64 >>> ((7 : Int32) &&& 0x3f).toInt64.toUInt64).toInt64).toUInt64 >>> ((7 : Int32) &&& 0x3f).toInt64.toUInt64).toInt64))])) _
        refine XS.bipush X0.here hx rfl (hb hby d1_35) ?_
        show Steps p.tables e below (s₁.setTop (mkF m 37 #[.val (.int tl), .val (.int pl), .val (.long ((((2 : Int64) + (tl.toInt64)) + (2 : Int64)) + (pl.toInt64))), .second, .val (.int (3 : Int32)), .val (.long ((((((((2 : Int64) + (tl.toInt64)) + (2 : Int64)) + (pl.toInt64)).toUInt64 >>> ((7 : Int32) &&& 0x3f).toInt64.toUInt64).toInt64).toUInt64 >>> ((7 : Int32) &&& 0x3f).toInt64.toUInt64).toInt64)), .second] [(.int (7 : Int32)), (.long ((((((((2 : Int64) + (tl.toInt64)) + (2 : Int64)) + (pl.toInt64)).toUInt64 >>> ((7 : Int32) &&& 0x3f).toInt64.toUInt64).toInt64).toUInt64 >>> ((7 : Int32) &&& 0x3f).toInt64.toUInt64).toInt64))])) _
        refine XS.lushr X0.here hx rfl (hb hby d1_37) rfl ?_
        show Steps p.tables e below (s₁.setTop (mkF m 38 #[.val (.int tl), .val (.int pl), .val (.long ((((2 : Int64) + (tl.toInt64)) + (2 : Int64)) + (pl.toInt64))), .second, .val (.int (3 : Int32)), .val (.long ((((((((2 : Int64) + (tl.toInt64)) + (2 : Int64)) + (pl.toInt64)).toUInt64 >>> ((7 : Int32) &&& 0x3f).toInt64.toUInt64).toInt64).toUInt64 >>> ((7 : Int32) &&& 0x3f).toInt64.toUInt64).toInt64)), .second] [(.long ((((((((((2 : Int64) + (tl.toInt64)) + (2 : Int64)) + (pl.toInt64)).toUInt64 >>> ((7 : Int32) &&& 0x3f).toInt64.toUInt64).toInt64).toUInt64 >>> ((7 : Int32) &&& 0x3f).toInt64.toUInt64).toInt64).toUInt64 >>> ((7 : Int32) &&& 0x3f).toInt64.toUInt64).toInt64))])) _
        refine XS.lstore X0.here hx rfl (hb hby d1_38) rfl (l' := #[.val (.int tl), .val (.int pl), .val (.long ((((2 : Int64) + (tl.toInt64)) + (2 : Int64)) + (pl.toInt64))), .second, .val (.int (3 : Int32)), .val (.long ((((((((((2 : Int64) + (tl.toInt64)) + (2 : Int64)) + (pl.toInt64)).toUInt64 >>> ((7 : Int32) &&& 0x3f).toInt64.toUInt64).toInt64).toUInt64 >>> ((7 : Int32) &&& 0x3f).toInt64.toUInt64).toInt64).toUInt64 >>> ((7 : Int32) &&& 0x3f).toInt64.toUInt64).toInt64)), .second]) rfl ?_
        show Steps p.tables e below (s₁.setTop (mkF m 40 #[.val (.int tl), .val (.int pl), .val (.long ((((2 : Int64) + (tl.toInt64)) + (2 : Int64)) + (pl.toInt64))), .second, .val (.int (3 : Int32)), .val (.long ((((((((((2 : Int64) + (tl.toInt64)) + (2 : Int64)) + (pl.toInt64)).toUInt64 >>> ((7 : Int32) &&& 0x3f).toInt64.toUInt64).toInt64).toUInt64 >>> ((7 : Int32) &&& 0x3f).toInt64.toUInt64).toInt64).toUInt64 >>> ((7 : Int32) &&& 0x3f).toInt64.toUInt64).toInt64)), .second] [])) _
        refine XS.goto X0.here hx rfl (pc0 := 40) (pc' := 23) rfl (hb hby d1_40) (by decide) (by decide) ?_
        show Steps p.tables e below (s₁.setTop (mkF m 23 #[.val (.int tl), .val (.int pl), .val (.long ((((2 : Int64) + (tl.toInt64)) + (2 : Int64)) + (pl.toInt64))), .second, .val (.int (3 : Int32)), .val (.long ((((((((((2 : Int64) + (tl.toInt64)) + (2 : Int64)) + (pl.toInt64)).toUInt64 >>> ((7 : Int32) &&& 0x3f).toInt64.toUInt64).toInt64).toUInt64 >>> ((7 : Int32) &&& 0x3f).toInt64.toUInt64).toInt64).toUInt64 >>> ((7 : Int32) &&& 0x3f).toInt64.toUInt64).toInt64)), .second] [])) _
        refine XS.lload X0.here hx rfl (hb hby d1_23) rfl ?_
        show Steps p.tables e below (s₁.setTop (mkF m 25 #[.val (.int tl), .val (.int pl), .val (.long ((((2 : Int64) + (tl.toInt64)) + (2 : Int64)) + (pl.toInt64))), .second, .val (.int (3 : Int32)), .val (.long ((((((((((2 : Int64) + (tl.toInt64)) + (2 : Int64)) + (pl.toInt64)).toUInt64 >>> ((7 : Int32) &&& 0x3f).toInt64.toUInt64).toInt64).toUInt64 >>> ((7 : Int32) &&& 0x3f).toInt64.toUInt64).toInt64).toUInt64 >>> ((7 : Int32) &&& 0x3f).toInt64.toUInt64).toInt64)), .second] [(.long ((((((((((2 : Int64) + (tl.toInt64)) + (2 : Int64)) + (pl.toInt64)).toUInt64 >>> ((7 : Int32) &&& 0x3f).toInt64.toUInt64).toInt64).toUInt64 >>> ((7 : Int32) &&& 0x3f).toInt64.toUInt64).toInt64).toUInt64 >>> ((7 : Int32) &&& 0x3f).toInt64.toUInt64).toInt64))])) _
        refine XS.lconst X0.here hx rfl (hb hby d1_25) ?_
        show Steps p.tables e below (s₁.setTop (mkF m 26 #[.val (.int tl), .val (.int pl), .val (.long ((((2 : Int64) + (tl.toInt64)) + (2 : Int64)) + (pl.toInt64))), .second, .val (.int (3 : Int32)), .val (.long ((((((((((2 : Int64) + (tl.toInt64)) + (2 : Int64)) + (pl.toInt64)).toUInt64 >>> ((7 : Int32) &&& 0x3f).toInt64.toUInt64).toInt64).toUInt64 >>> ((7 : Int32) &&& 0x3f).toInt64.toUInt64).toInt64).toUInt64 >>> ((7 : Int32) &&& 0x3f).toInt64.toUInt64).toInt64)), .second] [(.long (0 : Int64)), (.long ((((((((((2 : Int64) + (tl.toInt64)) + (2 : Int64)) + (pl.toInt64)).toUInt64 >>> ((7 : Int32) &&& 0x3f).toInt64.toUInt64).toInt64).toUInt64 >>> ((7 : Int32) &&& 0x3f).toInt64.toUInt64).toInt64).toUInt64 >>> ((7 : Int32) &&& 0x3f).toInt64.toUInt64).toInt64))])) _
        refine XS.lcmp X0.here hx rfl (hb hby d1_26) rfl ?_
        exact k
      by_cases hk6 : (0 : Int64) < ((((((((((2 : Int64) + (tl.toInt64)) + (2 : Int64)) + (pl.toInt64)).toUInt64 >>> ((7 : Int32) &&& 0x3f).toInt64.toUInt64).toInt64).toUInt64 >>> ((7 : Int32) &&& 0x3f).toInt64.toUInt64).toInt64).toUInt64 >>> ((7 : Int32) &&& 0x3f).toInt64.toUInt64).toInt64)
      · have pre7 : ∀ t, Steps p.tables e below (s₁.setTop (mkF m 27 #[.val (.int tl), .val (.int pl), .val (.long ((((2 : Int64) + (tl.toInt64)) + (2 : Int64)) + (pl.toInt64))), .second, .val (.int (4 : Int32)), .val (.long ((((((((((((2 : Int64) + (tl.toInt64)) + (2 : Int64)) + (pl.toInt64)).toUInt64 >>> ((7 : Int32) &&& 0x3f).toInt64.toUInt64).toInt64).toUInt64 >>> ((7 : Int32) &&& 0x3f).toInt64.toUInt64).toInt64).toUInt64 >>> ((7 : Int32) &&& 0x3f).toInt64.toUInt64).toInt64).toUInt64 >>> ((7 : Int32) &&& 0x3f).toInt64.toUInt64).toInt64)), .second] [(.int (lcmpW ((((((((((((2 : Int64) + (tl.toInt64)) + (2 : Int64)) + (pl.toInt64)).toUInt64 >>> ((7 : Int32) &&& 0x3f).toInt64.toUInt64).toInt64).toUInt64 >>> ((7 : Int32) &&& 0x3f).toInt64.toUInt64).toInt64).toUInt64 >>> ((7 : Int32) &&& 0x3f).toInt64.toUInt64).toInt64).toUInt64 >>> ((7 : Int32) &&& 0x3f).toInt64.toUInt64).toInt64) (0 : Int64)))])) t → Steps p.tables e below (s₁.setTop (entryFrame m #[(.int tl), (.int pl)] 7)) t := by
          intro t k
          refine pre5 _ ?_
          show Steps p.tables e below (s₁.setTop (mkF m 27 #[.val (.int tl), .val (.int pl), .val (.long ((((2 : Int64) + (tl.toInt64)) + (2 : Int64)) + (pl.toInt64))), .second, .val (.int (3 : Int32)), .val (.long ((((((((((2 : Int64) + (tl.toInt64)) + (2 : Int64)) + (pl.toInt64)).toUInt64 >>> ((7 : Int32) &&& 0x3f).toInt64.toUInt64).toInt64).toUInt64 >>> ((7 : Int32) &&& 0x3f).toInt64.toUInt64).toInt64).toUInt64 >>> ((7 : Int32) &&& 0x3f).toInt64.toUInt64).toInt64)), .second] [(.int (lcmpW ((((((((((2 : Int64) + (tl.toInt64)) + (2 : Int64)) + (pl.toInt64)).toUInt64 >>> ((7 : Int32) &&& 0x3f).toInt64.toUInt64).toInt64).toUInt64 >>> ((7 : Int32) &&& 0x3f).toInt64.toUInt64).toInt64).toUInt64 >>> ((7 : Int32) &&& 0x3f).toInt64.toUInt64).toInt64) (0 : Int64)))])) _
          refine XS.ifNo X0.here hx rfl (hb hby d1_27) rfl (own_tltL hk6).2.2.2 ?_
          show Steps p.tables e below (s₁.setTop (mkF m 30 #[.val (.int tl), .val (.int pl), .val (.long ((((2 : Int64) + (tl.toInt64)) + (2 : Int64)) + (pl.toInt64))), .second, .val (.int (3 : Int32)), .val (.long ((((((((((2 : Int64) + (tl.toInt64)) + (2 : Int64)) + (pl.toInt64)).toUInt64 >>> ((7 : Int32) &&& 0x3f).toInt64.toUInt64).toInt64).toUInt64 >>> ((7 : Int32) &&& 0x3f).toInt64.toUInt64).toInt64).toUInt64 >>> ((7 : Int32) &&& 0x3f).toInt64.toUInt64).toInt64)), .second] [])) _
          refine XS.iinc X0.here hx rfl (hb hby d1_30) rfl (l' := #[.val (.int tl), .val (.int pl), .val (.long ((((2 : Int64) + (tl.toInt64)) + (2 : Int64)) + (pl.toInt64))), .second, .val (.int (4 : Int32)), .val (.long ((((((((((2 : Int64) + (tl.toInt64)) + (2 : Int64)) + (pl.toInt64)).toUInt64 >>> ((7 : Int32) &&& 0x3f).toInt64.toUInt64).toInt64).toUInt64 >>> ((7 : Int32) &&& 0x3f).toInt64.toUInt64).toInt64).toUInt64 >>> ((7 : Int32) &&& 0x3f).toInt64.toUInt64).toInt64)), .second]) rfl ?_
          show Steps p.tables e below (s₁.setTop (mkF m 33 #[.val (.int tl), .val (.int pl), .val (.long ((((2 : Int64) + (tl.toInt64)) + (2 : Int64)) + (pl.toInt64))), .second, .val (.int (4 : Int32)), .val (.long ((((((((((2 : Int64) + (tl.toInt64)) + (2 : Int64)) + (pl.toInt64)).toUInt64 >>> ((7 : Int32) &&& 0x3f).toInt64.toUInt64).toInt64).toUInt64 >>> ((7 : Int32) &&& 0x3f).toInt64.toUInt64).toInt64).toUInt64 >>> ((7 : Int32) &&& 0x3f).toInt64.toUInt64).toInt64)), .second] [])) _
          refine XS.lload X0.here hx rfl (hb hby d1_33) rfl ?_
          show Steps p.tables e below (s₁.setTop (mkF m 35 #[.val (.int tl), .val (.int pl), .val (.long ((((2 : Int64) + (tl.toInt64)) + (2 : Int64)) + (pl.toInt64))), .second, .val (.int (4 : Int32)), .val (.long ((((((((((2 : Int64) + (tl.toInt64)) + (2 : Int64)) + (pl.toInt64)).toUInt64 >>> ((7 : Int32) &&& 0x3f).toInt64.toUInt64).toInt64).toUInt64 >>> ((7 : Int32) &&& 0x3f).toInt64.toUInt64).toInt64).toUInt64 >>> ((7 : Int32) &&& 0x3f).toInt64.toUInt64).toInt64)), .second] [(.long ((((((((((2 : Int64) + (tl.toInt64)) + (2 : Int64)) + (pl.toInt64)).toUInt64 >>> ((7 : Int32) &&& 0x3f).toInt64.toUInt64).toInt64).toUInt64 >>> ((7 : Int32) &&& 0x3f).toInt64.toUInt64).toInt64).toUInt64 >>> ((7 : Int32) &&& 0x3f).toInt64.toUInt64).toInt64))])) _
          refine XS.bipush X0.here hx rfl (hb hby d1_35) ?_
          show Steps p.tables e below (s₁.setTop (mkF m 37 #[.val (.int tl), .val (.int pl), .val (.long ((((2 : Int64) + (tl.toInt64)) + (2 : Int64)) + (pl.toInt64))), .second, .val (.int (4 : Int32)), .val (.long ((((((((((2 : Int64) + (tl.toInt64)) + (2 : Int64)) + (pl.toInt64)).toUInt64 >>> ((7 : Int32) &&& 0x3f).toInt64.toUInt64).toInt64).toUInt64 >>> ((7 : Int32) &&& 0x3f).toInt64.toUInt64).toInt64).toUInt64 >>> ((7 : Int32) &&& 0x3f).toInt64.toUInt64).toInt64)), .second] [(.int (7 : Int32)), (.long ((((((((((2 : Int64) + (tl.toInt64)) + (2 : Int64)) + (pl.toInt64)).toUInt64 >>> ((7 : Int32) &&& 0x3f).toInt64.toUInt64).toInt64).toUInt64 >>> ((7 : Int32) &&& 0x3f).toInt64.toUInt64).toInt64).toUInt64 >>> ((7 : Int32) &&& 0x3f).toInt64.toUInt64).toInt64))])) _
          refine XS.lushr X0.here hx rfl (hb hby d1_37) rfl ?_
          show Steps p.tables e below (s₁.setTop (mkF m 38 #[.val (.int tl), .val (.int pl), .val (.long ((((2 : Int64) + (tl.toInt64)) + (2 : Int64)) + (pl.toInt64))), .second, .val (.int (4 : Int32)), .val (.long ((((((((((2 : Int64) + (tl.toInt64)) + (2 : Int64)) + (pl.toInt64)).toUInt64 >>> ((7 : Int32) &&& 0x3f).toInt64.toUInt64).toInt64).toUInt64 >>> ((7 : Int32) &&& 0x3f).toInt64.toUInt64).toInt64).toUInt64 >>> ((7 : Int32) &&& 0x3f).toInt64.toUInt64).toInt64)), .second] [(.long ((((((((((((2 : Int64) + (tl.toInt64)) + (2 : Int64)) + (pl.toInt64)).toUInt64 >>> ((7 : Int32) &&& 0x3f).toInt64.toUInt64).toInt64).toUInt64 >>> ((7 : Int32) &&& 0x3f).toInt64.toUInt64).toInt64).toUInt64 >>> ((7 : Int32) &&& 0x3f).toInt64.toUInt64).toInt64).toUInt64 >>> ((7 : Int32) &&& 0x3f).toInt64.toUInt64).toInt64))])) _
          refine XS.lstore X0.here hx rfl (hb hby d1_38) rfl (l' := #[.val (.int tl), .val (.int pl), .val (.long ((((2 : Int64) + (tl.toInt64)) + (2 : Int64)) + (pl.toInt64))), .second, .val (.int (4 : Int32)), .val (.long ((((((((((((2 : Int64) + (tl.toInt64)) + (2 : Int64)) + (pl.toInt64)).toUInt64 >>> ((7 : Int32) &&& 0x3f).toInt64.toUInt64).toInt64).toUInt64 >>> ((7 : Int32) &&& 0x3f).toInt64.toUInt64).toInt64).toUInt64 >>> ((7 : Int32) &&& 0x3f).toInt64.toUInt64).toInt64).toUInt64 >>> ((7 : Int32) &&& 0x3f).toInt64.toUInt64).toInt64)), .second]) rfl ?_
          show Steps p.tables e below (s₁.setTop (mkF m 40 #[.val (.int tl), .val (.int pl), .val (.long ((((2 : Int64) + (tl.toInt64)) + (2 : Int64)) + (pl.toInt64))), .second, .val (.int (4 : Int32)), .val (.long ((((((((((((2 : Int64) + (tl.toInt64)) + (2 : Int64)) + (pl.toInt64)).toUInt64 >>> ((7 : Int32) &&& 0x3f).toInt64.toUInt64).toInt64).toUInt64 >>> ((7 : Int32) &&& 0x3f).toInt64.toUInt64).toInt64).toUInt64 >>> ((7 : Int32) &&& 0x3f).toInt64.toUInt64).toInt64).toUInt64 >>> ((7 : Int32) &&& 0x3f).toInt64.toUInt64).toInt64)), .second] [])) _
          refine XS.goto X0.here hx rfl (pc0 := 40) (pc' := 23) rfl (hb hby d1_40) (by decide) (by decide) ?_
          show Steps p.tables e below (s₁.setTop (mkF m 23 #[.val (.int tl), .val (.int pl), .val (.long ((((2 : Int64) + (tl.toInt64)) + (2 : Int64)) + (pl.toInt64))), .second, .val (.int (4 : Int32)), .val (.long ((((((((((((2 : Int64) + (tl.toInt64)) + (2 : Int64)) + (pl.toInt64)).toUInt64 >>> ((7 : Int32) &&& 0x3f).toInt64.toUInt64).toInt64).toUInt64 >>> ((7 : Int32) &&& 0x3f).toInt64.toUInt64).toInt64).toUInt64 >>> ((7 : Int32) &&& 0x3f).toInt64.toUInt64).toInt64).toUInt64 >>> ((7 : Int32) &&& 0x3f).toInt64.toUInt64).toInt64)), .second] [])) _
          refine XS.lload X0.here hx rfl (hb hby d1_23) rfl ?_
          show Steps p.tables e below (s₁.setTop (mkF m 25 #[.val (.int tl), .val (.int pl), .val (.long ((((2 : Int64) + (tl.toInt64)) + (2 : Int64)) + (pl.toInt64))), .second, .val (.int (4 : Int32)), .val (.long ((((((((((((2 : Int64) + (tl.toInt64)) + (2 : Int64)) + (pl.toInt64)).toUInt64 >>> ((7 : Int32) &&& 0x3f).toInt64.toUInt64).toInt64).toUInt64 >>> ((7 : Int32) &&& 0x3f).toInt64.toUInt64).toInt64).toUInt64 >>> ((7 : Int32) &&& 0x3f).toInt64.toUInt64).toInt64).toUInt64 >>> ((7 : Int32) &&& 0x3f).toInt64.toUInt64).toInt64)), .second] [(.long ((((((((((((2 : Int64) + (tl.toInt64)) + (2 : Int64)) + (pl.toInt64)).toUInt64 >>> ((7 : Int32) &&& 0x3f).toInt64.toUInt64).toInt64).toUInt64 >>> ((7 : Int32) &&& 0x3f).toInt64.toUInt64).toInt64).toUInt64 >>> ((7 : Int32) &&& 0x3f).toInt64.toUInt64).toInt64).toUInt64 >>> ((7 : Int32) &&& 0x3f).toInt64.toUInt64).toInt64))])) _
          refine XS.lconst X0.here hx rfl (hb hby d1_25) ?_
          show Steps p.tables e below (s₁.setTop (mkF m 26 #[.val (.int tl), .val (.int pl), .val (.long ((((2 : Int64) + (tl.toInt64)) + (2 : Int64)) + (pl.toInt64))), .second, .val (.int (4 : Int32)), .val (.long ((((((((((((2 : Int64) + (tl.toInt64)) + (2 : Int64)) + (pl.toInt64)).toUInt64 >>> ((7 : Int32) &&& 0x3f).toInt64.toUInt64).toInt64).toUInt64 >>> ((7 : Int32) &&& 0x3f).toInt64.toUInt64).toInt64).toUInt64 >>> ((7 : Int32) &&& 0x3f).toInt64.toUInt64).toInt64).toUInt64 >>> ((7 : Int32) &&& 0x3f).toInt64.toUInt64).toInt64)), .second] [(.long (0 : Int64)), (.long ((((((((((((2 : Int64) + (tl.toInt64)) + (2 : Int64)) + (pl.toInt64)).toUInt64 >>> ((7 : Int32) &&& 0x3f).toInt64.toUInt64).toInt64).toUInt64 >>> ((7 : Int32) &&& 0x3f).toInt64.toUInt64).toInt64).toUInt64 >>> ((7 : Int32) &&& 0x3f).toInt64.toUInt64).toInt64).toUInt64 >>> ((7 : Int32) &&& 0x3f).toInt64.toUInt64).toInt64))])) _
          refine XS.lcmp X0.here hx rfl (hb hby d1_26) rfl ?_
          exact k
        by_cases hk8 : (0 : Int64) < ((((((((((((2 : Int64) + (tl.toInt64)) + (2 : Int64)) + (pl.toInt64)).toUInt64 >>> ((7 : Int32) &&& 0x3f).toInt64.toUInt64).toInt64).toUInt64 >>> ((7 : Int32) &&& 0x3f).toInt64.toUInt64).toInt64).toUInt64 >>> ((7 : Int32) &&& 0x3f).toInt64.toUInt64).toInt64).toUInt64 >>> ((7 : Int32) &&& 0x3f).toInt64.toUInt64).toInt64)
        · obtain ⟨fs, hr, hrun, hended, hW, hsame⟩ := X0.leave (v := some (.long ((6 : Int64) + ((((2 : Int64) + (tl.toInt64)) + (2 : Int64)) + (pl.toInt64))))) (fun h => by rw [Bd.returns] at h; cases h)
          refine ⟨_, _, pre7 _ ?_, hrun, hended, _, _, rfl, ?_, ⟨_, rfl⟩, hW, hsame.mono (by decide) (by decide)⟩
          · show Steps p.tables e below (s₁.setTop (mkF m 27 #[.val (.int tl), .val (.int pl), .val (.long ((((2 : Int64) + (tl.toInt64)) + (2 : Int64)) + (pl.toInt64))), .second, .val (.int (4 : Int32)), .val (.long ((((((((((((2 : Int64) + (tl.toInt64)) + (2 : Int64)) + (pl.toInt64)).toUInt64 >>> ((7 : Int32) &&& 0x3f).toInt64.toUInt64).toInt64).toUInt64 >>> ((7 : Int32) &&& 0x3f).toInt64.toUInt64).toInt64).toUInt64 >>> ((7 : Int32) &&& 0x3f).toInt64.toUInt64).toInt64).toUInt64 >>> ((7 : Int32) &&& 0x3f).toInt64.toUInt64).toInt64)), .second] [(.int (lcmpW ((((((((((((2 : Int64) + (tl.toInt64)) + (2 : Int64)) + (pl.toInt64)).toUInt64 >>> ((7 : Int32) &&& 0x3f).toInt64.toUInt64).toInt64).toUInt64 >>> ((7 : Int32) &&& 0x3f).toInt64.toUInt64).toInt64).toUInt64 >>> ((7 : Int32) &&& 0x3f).toInt64.toUInt64).toInt64).toUInt64 >>> ((7 : Int32) &&& 0x3f).toInt64.toUInt64).toInt64) (0 : Int64)))])) _
            refine XS.ifNo X0.here hx rfl (hb hby d1_27) rfl (own_tltL hk8).2.2.2 ?_
            show Steps p.tables e below (s₁.setTop (mkF m 30 #[.val (.int tl), .val (.int pl), .val (.long ((((2 : Int64) + (tl.toInt64)) + (2 : Int64)) + (pl.toInt64))), .second, .val (.int (4 : Int32)), .val (.long ((((((((((((2 : Int64) + (tl.toInt64)) + (2 : Int64)) + (pl.toInt64)).toUInt64 >>> ((7 : Int32) &&& 0x3f).toInt64.toUInt64).toInt64).toUInt64 >>> ((7 : Int32) &&& 0x3f).toInt64.toUInt64).toInt64).toUInt64 >>> ((7 : Int32) &&& 0x3f).toInt64.toUInt64).toInt64).toUInt64 >>> ((7 : Int32) &&& 0x3f).toInt64.toUInt64).toInt64)), .second] [])) _
            refine XS.iinc X0.here hx rfl (hb hby d1_30) rfl (l' := #[.val (.int tl), .val (.int pl), .val (.long ((((2 : Int64) + (tl.toInt64)) + (2 : Int64)) + (pl.toInt64))), .second, .val (.int (5 : Int32)), .val (.long ((((((((((((2 : Int64) + (tl.toInt64)) + (2 : Int64)) + (pl.toInt64)).toUInt64 >>> ((7 : Int32) &&& 0x3f).toInt64.toUInt64).toInt64).toUInt64 >>> ((7 : Int32) &&& 0x3f).toInt64.toUInt64).toInt64).toUInt64 >>> ((7 : Int32) &&& 0x3f).toInt64.toUInt64).toInt64).toUInt64 >>> ((7 : Int32) &&& 0x3f).toInt64.toUInt64).toInt64)), .second]) rfl ?_
            show Steps p.tables e below (s₁.setTop (mkF m 33 #[.val (.int tl), .val (.int pl), .val (.long ((((2 : Int64) + (tl.toInt64)) + (2 : Int64)) + (pl.toInt64))), .second, .val (.int (5 : Int32)), .val (.long ((((((((((((2 : Int64) + (tl.toInt64)) + (2 : Int64)) + (pl.toInt64)).toUInt64 >>> ((7 : Int32) &&& 0x3f).toInt64.toUInt64).toInt64).toUInt64 >>> ((7 : Int32) &&& 0x3f).toInt64.toUInt64).toInt64).toUInt64 >>> ((7 : Int32) &&& 0x3f).toInt64.toUInt64).toInt64).toUInt64 >>> ((7 : Int32) &&& 0x3f).toInt64.toUInt64).toInt64)), .second] [])) _
            refine XS.lload X0.here hx rfl (hb hby d1_33) rfl ?_
            show Steps p.tables e below (s₁.setTop (mkF m 35 #[.val (.int tl), .val (.int pl), .val (.long ((((2 : Int64) + (tl.toInt64)) + (2 : Int64)) + (pl.toInt64))), .second, .val (.int (5 : Int32)), .val (.long ((((((((((((2 : Int64) + (tl.toInt64)) + (2 : Int64)) + (pl.toInt64)).toUInt64 >>> ((7 : Int32) &&& 0x3f).toInt64.toUInt64).toInt64).toUInt64 >>> ((7 : Int32) &&& 0x3f).toInt64.toUInt64).toInt64).toUInt64 >>> ((7 : Int32) &&& 0x3f).toInt64.toUInt64).toInt64).toUInt64 >>> ((7 : Int32) &&& 0x3f).toInt64.toUInt64).toInt64)), .second] [(.long ((((((((((((2 : Int64) + (tl.toInt64)) + (2 : Int64)) + (pl.toInt64)).toUInt64 >>> ((7 : Int32) &&& 0x3f).toInt64.toUInt64).toInt64).toUInt64 >>> ((7 : Int32) &&& 0x3f).toInt64.toUInt64).toInt64).toUInt64 >>> ((7 : Int32) &&& 0x3f).toInt64.toUInt64).toInt64).toUInt64 >>> ((7 : Int32) &&& 0x3f).toInt64.toUInt64).toInt64))])) _
            refine XS.bipush X0.here hx rfl (hb hby d1_35) ?_
            show Steps p.tables e below (s₁.setTop (mkF m 37 #[.val (.int tl), .val (.int pl), .val (.long ((((2 : Int64) + (tl.toInt64)) + (2 : Int64)) + (pl.toInt64))), .second, .val (.int (5 : Int32)), .val (.long ((((((((((((2 : Int64) + (tl.toInt64)) + (2 : Int64)) + (pl.toInt64)).toUInt64 >>> ((7 : Int32) &&& 0x3f).toInt64.toUInt64).toInt64).toUInt64 >>> ((7 : Int32) &&& 0x3f).toInt64.toUInt64).toInt64).toUInt64 >>> ((7 : Int32) &&& 0x3f).toInt64.toUInt64).toInt64).toUInt64 >>> ((7 : Int32) &&& 0x3f).toInt64.toUInt64).toInt64)), .second] [(.int (7 : Int32)), (.long ((((((((((((2 : Int64) + (tl.toInt64)) + (2 : Int64)) + (pl.toInt64)).toUInt64 >>> ((7 : Int32) &&& 0x3f).toInt64.toUInt64).toInt64).toUInt64 >>> ((7 : Int32) &&& 0x3f).toInt64.toUInt64).toInt64).toUInt64 >>> ((7 : Int32) &&& 0x3f).toInt64.toUInt64).toInt64).toUInt64 >>> ((7 : Int32) &&& 0x3f).toInt64.toUInt64).toInt64))])) _
            refine XS.lushr X0.here hx rfl (hb hby d1_37) rfl ?_
            show Steps p.tables e below (s₁.setTop (mkF m 38 #[.val (.int tl), .val (.int pl), .val (.long ((((2 : Int64) + (tl.toInt64)) + (2 : Int64)) + (pl.toInt64))), .second, .val (.int (5 : Int32)), .val (.long ((((((((((((2 : Int64) + (tl.toInt64)) + (2 : Int64)) + (pl.toInt64)).toUInt64 >>> ((7 : Int32) &&& 0x3f).toInt64.toUInt64).toInt64).toUInt64 >>> ((7 : Int32) &&& 0x3f).toInt64.toUInt64).toInt64).toUInt64 >>> ((7 : Int32) &&& 0x3f).toInt64.toUInt64).toInt64).toUInt64 >>> ((7 : Int32) &&& 0x3f).toInt64.toUInt64).toInt64)), .second] [(.long ((((((((((((((2 : Int64) + (tl.toInt64)) + (2 : Int64)) + (pl.toInt64)).toUInt64 >>> ((7 : Int32) &&& 0x3f).toInt64.toUInt64).toInt64).toUInt64 >>> ((7 : Int32) &&& 0x3f).toInt64.toUInt64).toInt64).toUInt64 >>> ((7 : Int32) &&& 0x3f).toInt64.toUInt64).toInt64).toUInt64 >>> ((7 : Int32) &&& 0x3f).toInt64.toUInt64).toInt64).toUInt64 >>> ((7 : Int32) &&& 0x3f).toInt64.toUInt64).toInt64))])) _
            refine XS.lstore X0.here hx rfl (hb hby d1_38) rfl (l' := #[.val (.int tl), .val (.int pl), .val (.long ((((2 : Int64) + (tl.toInt64)) + (2 : Int64)) + (pl.toInt64))), .second, .val (.int (5 : Int32)), .val (.long ((((((((((((((2 : Int64) + (tl.toInt64)) + (2 : Int64)) + (pl.toInt64)).toUInt64 >>> ((7 : Int32) &&& 0x3f).toInt64.toUInt64).toInt64).toUInt64 >>> ((7 : Int32) &&& 0x3f).toInt64.toUInt64).toInt64).toUInt64 >>> ((7 : Int32) &&& 0x3f).toInt64.toUInt64).toInt64).toUInt64 >>> ((7 : Int32) &&& 0x3f).toInt64.toUInt64).toInt64).toUInt64 >>> ((7 : Int32) &&& 0x3f).toInt64.toUInt64).toInt64)), .second]) rfl ?_
            show Steps p.tables e below (s₁.setTop (mkF m 40 #[.val (.int tl), .val (.int pl), .val (.long ((((2 : Int64) + (tl.toInt64)) + (2 : Int64)) + (pl.toInt64))), .second, .val (.int (5 : Int32)), .val (.long ((((((((((((((2 : Int64) + (tl.toInt64)) + (2 : Int64)) + (pl.toInt64)).toUInt64 >>> ((7 : Int32) &&& 0x3f).toInt64.toUInt64).toInt64).toUInt64 >>> ((7 : Int32) &&& 0x3f).toInt64.toUInt64).toInt64).toUInt64 >>> ((7 : Int32) &&& 0x3f).toInt64.toUInt64).toInt64).toUInt64 >>> ((7 : Int32) &&& 0x3f).toInt64.toUInt64).toInt64).toUInt64 >>> ((7 : Int32) &&& 0x3f).toInt64.toUInt64).toInt64)), .second] [])) _
            refine XS.goto X0.here hx rfl (pc0 := 40) (pc' := 23) rfl (hb hby d1_40) (by decide) (by decide) ?_
            show Steps p.tables e below (s₁.setTop (mkF m 23 #[.val (.int tl), .val (.int pl), .val (.long ((((2 : Int64) + (tl.toInt64)) + (2 : Int64)) + (pl.toInt64))), .second, .val (.int (5 : Int32)), .val (.long ((((((((((((((2 : Int64) + (tl.toInt64)) + (2 : Int64)) + (pl.toInt64)).toUInt64 >>> ((7 : Int32) &&& 0x3f).toInt64.toUInt64).toInt64).toUInt64 >>> ((7 : Int32) &&& 0x3f).toInt64.toUInt64).toInt64).toUInt64 >>> ((7 : Int32) &&& 0x3f).toInt64.toUInt64).toInt64).toUInt64 >>> ((7 : Int32) &&& 0x3f).toInt64.toUInt64).toInt64).toUInt64 >>> ((7 : Int32) &&& 0x3f).toInt64.toUInt64).toInt64)), .second] [])) _
            refine XS.lload X0.here hx rfl (hb hby d1_23) rfl ?_
            show Steps p.tables e below (s₁.setTop (mkF m 25 #[.val (.int tl), .val (.int pl), .val (.long ((((2 : Int64) + (tl.toInt64)) + (2 : Int64)) + (pl.toInt64))), .second, .val (.int (5 : Int32)), .val (.long ((((((((((((((2 : Int64) + (tl.toInt64)) + (2 : Int64)) + (pl.toInt64)).toUInt64 >>> ((7 : Int32) &&& 0x3f).toInt64.toUInt64).toInt64).toUInt64 >>> ((7 : Int32) &&& 0x3f).toInt64.toUInt64).toInt64).toUInt64 >>> ((7 : Int32) &&& 0x3f).toInt64.toUInt64).toInt64).toUInt64 >>> ((7 : Int32) &&& 0x3f).toInt64.toUInt64).toInt64).toUInt64 >>> ((7 : Int32) &&& 0x3f).toInt64.toUInt64).toInt64)), .second] [(.long ((((((((((((((2 : Int64) + (tl.toInt64)) + (2 : Int64)) + (pl.toInt64)).toUInt64 >>> ((7 : Int32) &&& 0x3f).toInt64.toUInt64).toInt64).toUInt64 >>> ((7 : Int32) &&& 0x3f).toInt64.toUInt64).toInt64).toUInt64 >>> ((7 : Int32) &&& 0x3f).toInt64.toUInt64).toInt64).toUInt64 >>> ((7 : Int32) &&& 0x3f).toInt64.toUInt64).toInt64).toUInt64 >>> ((7 : Int32) &&& 0x3f).toInt64.toUInt64).toInt64))])) _
            refine XS.lconst X0.here hx rfl (hb hby d1_25) ?_
            show Steps p.tables e below (s₁.setTop (mkF m 26 #[.val (.int tl), .val (.int pl), .val (.long ((((2 : Int64) + (tl.toInt64)) + (2 : Int64)) + (pl.toInt64))), .second, .val (.int (5 : Int32)), .val (.long ((((((((((((((2 : Int64) + (tl.toInt64)) + (2 : Int64)) + (pl.toInt64)).toUInt64 >>> ((7 : Int32) &&& 0x3f).toInt64.toUInt64).toInt64).toUInt64 >>> ((7 : Int32) &&& 0x3f).toInt64.toUInt64).toInt64).toUInt64 >>> ((7 : Int32) &&& 0x3f).toInt64.toUInt64).toInt64).toUInt64 >>> ((7 : Int32) &&& 0x3f).toInt64.toUInt64).toInt64).toUInt64 >>> ((7 : Int32) &&& 0x3f).toInt64.toUInt64).toInt64)), .second] [(.long (0 : Int64)), (.long ((((((((((((((2 : Int64) + (tl.toInt64)) + (2 : Int64)) + (pl.toInt64)).toUInt64 >>> ((7 : Int32) &&& 0x3f).toInt64.toUInt64).toInt64).toUInt64 >>> ((7 : Int32) &&& 0x3f).toInt64.toUInt64).toInt64).toUInt64 >>> ((7 : Int32) &&& 0x3f).toInt64.toUInt64).toInt64).toUInt64 >>> ((7 : Int32) &&& 0x3f).toInt64.toUInt64).toInt64).toUInt64 >>> ((7 : Int32) &&& 0x3f).toInt64.toUInt64).toInt64))])) _
            refine XS.lcmp X0.here hx rfl (hb hby d1_26) rfl ?_
            show Steps p.tables e below (s₁.setTop (mkF m 27 #[.val (.int tl), .val (.int pl), .val (.long ((((2 : Int64) + (tl.toInt64)) + (2 : Int64)) + (pl.toInt64))), .second, .val (.int (5 : Int32)), .val (.long ((((((((((((((2 : Int64) + (tl.toInt64)) + (2 : Int64)) + (pl.toInt64)).toUInt64 >>> ((7 : Int32) &&& 0x3f).toInt64.toUInt64).toInt64).toUInt64 >>> ((7 : Int32) &&& 0x3f).toInt64.toUInt64).toInt64).toUInt64 >>> ((7 : Int32) &&& 0x3f).toInt64.toUInt64).toInt64).toUInt64 >>> ((7 : Int32) &&& 0x3f).toInt64.toUInt64).toInt64).toUInt64 >>> ((7 : Int32) &&& 0x3f).toInt64.toUInt64).toInt64)), .second] [(.int (lcmpW ((((((((((((((2 : Int64) + (tl.toInt64)) + (2 : Int64)) + (pl.toInt64)).toUInt64 >>> ((7 : Int32) &&& 0x3f).toInt64.toUInt64).toInt64).toUInt64 >>> ((7 : Int32) &&& 0x3f).toInt64.toUInt64).toInt64).toUInt64 >>> ((7 : Int32) &&& 0x3f).toInt64.toUInt64).toInt64).toUInt64 >>> ((7 : Int32) &&& 0x3f).toInt64.toUInt64).toInt64).toUInt64 >>> ((7 : Int32) &&& 0x3f).toInt64.toUInt64).toInt64) (0 : Int64)))])) _
            refine XS.ifYes X0.here hx rfl (pc0 := 27) (pc' := 43) rfl (hb hby d1_27) rfl (own_fltL hc27).2.2.2 (by decide) (by decide) ?_
            show Steps p.tables e below (s₁.setTop (mkF m 43 #[.val (.int tl), .val (.int pl), .val (.long ((((2 : Int64) + (tl.toInt64)) + (2 : Int64)) + (pl.toInt64))), .second, .val (.int (5 : Int32)), .val (.long ((((((((((((((2 : Int64) + (tl.toInt64)) + (2 : Int64)) + (pl.toInt64)).toUInt64 >>> ((7 : Int32) &&& 0x3f).toInt64.toUInt64).toInt64).toUInt64 >>> ((7 : Int32) &&& 0x3f).toInt64.toUInt64).toInt64).toUInt64 >>> ((7 : Int32) &&& 0x3f).toInt64.toUInt64).toInt64).toUInt64 >>> ((7 : Int32) &&& 0x3f).toInt64.toUInt64).toInt64).toUInt64 >>> ((7 : Int32) &&& 0x3f).toInt64.toUInt64).toInt64)), .second] [])) _
            refine XS.iconst X0.here hx rfl (hb hby d1_43) ?_
            show Steps p.tables e below (s₁.setTop (mkF m 44 #[.val (.int tl), .val (.int pl), .val (.long ((((2 : Int64) + (tl.toInt64)) + (2 : Int64)) + (pl.toInt64))), .second, .val (.int (5 : Int32)), .val (.long ((((((((((((((2 : Int64) + (tl.toInt64)) + (2 : Int64)) + (pl.toInt64)).toUInt64 >>> ((7 : Int32) &&& 0x3f).toInt64.toUInt64).toInt64).toUInt64 >>> ((7 : Int32) &&& 0x3f).toInt64.toUInt64).toInt64).toUInt64 >>> ((7 : Int32) &&& 0x3f).toInt64.toUInt64).toInt64).toUInt64 >>> ((7 : Int32) &&& 0x3f).toInt64.toUInt64).toInt64).toUInt64 >>> ((7 : Int32) &&& 0x3f).toInt64.toUInt64).toInt64)), .second] [(.int (1 : Int32))])) _
            refine XS.iload X0.here hx rfl (hb hby d1_44) rfl ?_
            show Steps p.tables e below (s₁.setTop (mkF m 46 #[.val (.int tl), .val (.int pl), .val (.long ((((2 : Int64) + (tl.toInt64)) + (2 : Int64)) + (pl.toInt64))), .second, .val (.int (5 : Int32)), .val (.long ((((((((((((((2 : Int64) + (tl.toInt64)) + (2 : Int64)) + (pl.toInt64)).toUInt64 >>> ((7 : Int32) &&& 0x3f).toInt64.toUInt64).toInt64).toUInt64 >>> ((7 : Int32) &&& 0x3f).toInt64.toUInt64).toInt64).toUInt64 >>> ((7 : Int32) &&& 0x3f).toInt64.toUInt64).toInt64).toUInt64 >>> ((7 : Int32) &&& 0x3f).toInt64.toUInt64).toInt64).toUInt64 >>> ((7 : Int32) &&& 0x3f).toInt64.toUInt64).toInt64)), .second] [(.int (5 : Int32)), (.int (1 : Int32))])) _
            refine XS.iadd X0.here hx rfl (hb hby d1_46) rfl ?_
            show Steps p.tables e below (s₁.setTop (mkF m 47 #[.val (.int tl), .val (.int pl), .val (.long ((((2 : Int64) + (tl.toInt64)) + (2 : Int64)) + (pl.toInt64))), .second, .val (.int (5 : Int32)), .val (.long ((((((((((((((2 : Int64) + (tl.toInt64)) + (2 : Int64)) + (pl.toInt64)).toUInt64 >>> ((7 : Int32) &&& 0x3f).toInt64.toUInt64).toInt64).toUInt64 >>> ((7 : Int32) &&& 0x3f).toInt64.toUInt64).toInt64).toUInt64 >>> ((7 : Int32) &&& 0x3f).toInt64.toUInt64).toInt64).toUInt64 >>> ((7 : Int32) &&& 0x3f).toInt64.toUInt64).toInt64).toUInt64 >>> ((7 : Int32) &&& 0x3f).toInt64.toUInt64).toInt64)), .second] [(.int (6 : Int32))])) _
            refine XS.i2l X0.here hx rfl (hb hby d1_47) rfl ?_
            show Steps p.tables e below (s₁.setTop (mkF m 48 #[.val (.int tl), .val (.int pl), .val (.long ((((2 : Int64) + (tl.toInt64)) + (2 : Int64)) + (pl.toInt64))), .second, .val (.int (5 : Int32)), .val (.long ((((((((((((((2 : Int64) + (tl.toInt64)) + (2 : Int64)) + (pl.toInt64)).toUInt64 >>> ((7 : Int32) &&& 0x3f).toInt64.toUInt64).toInt64).toUInt64 >>> ((7 : Int32) &&& 0x3f).toInt64.toUInt64).toInt64).toUInt64 >>> ((7 : Int32) &&& 0x3f).toInt64.toUInt64).toInt64).toUInt64 >>> ((7 : Int32) &&& 0x3f).toInt64.toUInt64).toInt64).toUInt64 >>> ((7 : Int32) &&& 0x3f).toInt64.toUInt64).toInt64)), .second] [(.long (6 : Int64))])) _
            refine XS.lloadN X0.here hx rfl (hb hby d1_48) rfl ?_
            show Steps p.tables e below (s₁.setTop (mkF m 49 #[.val (.int tl), .val (.int pl), .val (.long ((((2 : Int64) + (tl.toInt64)) + (2 : Int64)) + (pl.toInt64))), .second, .val (.int (5 : Int32)), .val (.long ((((((((((((((2 : Int64) + (tl.toInt64)) + (2 : Int64)) + (pl.toInt64)).toUInt64 >>> ((7 : Int32) &&& 0x3f).toInt64.toUInt64).toInt64).toUInt64 >>> ((7 : Int32) &&& 0x3f).toInt64.toUInt64).toInt64).toUInt64 >>> ((7 : Int32) &&& 0x3f).toInt64.toUInt64).toInt64).toUInt64 >>> ((7 : Int32) &&& 0x3f).toInt64.toUInt64).toInt64).toUInt64 >>> ((7 : Int32) &&& 0x3f).toInt64.toUInt64).toInt64)), .second] [(.long ((((2 : Int64) + (tl.toInt64)) + (2 : Int64)) + (pl.toInt64))), (.long (6 : Int64))])) _
            refine XS.ladd X0.here hx rfl (hb hby d1_49) rfl ?_
            show Steps p.tables e below (s₁.setTop (mkF m 50 #[.val (.int tl), .val (.int pl), .val (.long ((((2 : Int64) + (tl.toInt64)) + (2 : Int64)) + (pl.toInt64))), .second, .val (.int (5 : Int32)), .val (.long ((((((((((((((2 : Int64) + (tl.toInt64)) + (2 : Int64)) + (pl.toInt64)).toUInt64 >>> ((7 : Int32) &&& 0x3f).toInt64.toUInt64).toInt64).toUInt64 >>> ((7 : Int32) &&& 0x3f).toInt64.toUInt64).toInt64).toUInt64 >>> ((7 : Int32) &&& 0x3f).toInt64.toUInt64).toInt64).toUInt64 >>> ((7 : Int32) &&& 0x3f).toInt64.toUInt64).toInt64).toUInt64 >>> ((7 : Int32) &&& 0x3f).toInt64.toUInt64).toInt64)), .second] [(.long ((6 : Int64) + ((((2 : Int64) + (tl.toInt64)) + (2 : Int64)) + (pl.toInt64))))])) _
            exact retOut X0 hx Bd.returns rfl (Or.inr (Or.inl ⟨rfl, rfl, _, rfl⟩)) (hb hby d1_50) hr
          · show Q1 Z tl pl h0 n0 _ s₁.heap _
            rw [e0]
            have ev9 : (r1_v tl pl) = ((6 : Int64) + ((((2 : Int64) + (tl.toInt64)) + (2 : Int64)) + (pl.toInt64))) := by unfold r1_v; rw [if_pos hk2, if_pos hk4, if_pos hk6, if_pos hk8]
            exact ⟨(congrArg (fun z => some (Value.long z)) ev9.symm), N0, rfl⟩
        · obtain ⟨fs, hr, hrun, hended, hW, hsame⟩ := X0.leave (v := some (.long ((5 : Int64) + ((((2 : Int64) + (tl.toInt64)) + (2 : Int64)) + (pl.toInt64))))) (fun h => by rw [Bd.returns] at h; cases h)
          refine ⟨_, _, pre7 _ ?_, hrun, hended, _, _, rfl, ?_, ⟨_, rfl⟩, hW, hsame.mono (by decide) (by decide)⟩
          · show Steps p.tables e below (s₁.setTop (mkF m 27 #[.val (.int tl), .val (.int pl), .val (.long ((((2 : Int64) + (tl.toInt64)) + (2 : Int64)) + (pl.toInt64))), .second, .val (.int (4 : Int32)), .val (.long ((((((((((((2 : Int64) + (tl.toInt64)) + (2 : Int64)) + (pl.toInt64)).toUInt64 >>> ((7 : Int32) &&& 0x3f).toInt64.toUInt64).toInt64).toUInt64 >>> ((7 : Int32) &&& 0x3f).toInt64.toUInt64).toInt64).toUInt64 >>> ((7 : Int32) &&& 0x3f).toInt64.toUInt64).toInt64).toUInt64 >>> ((7 : Int32) &&& 0x3f).toInt64.toUInt64).toInt64)), .second] [(.int (lcmpW ((((((((((((2 : Int64) + (tl.toInt64)) + (2 : Int64)) + (pl.toInt64)).toUInt64 >>> ((7 : Int32) &&& 0x3f).toInt64.toUInt64).toInt64).toUInt64 >>> ((7 : Int32) &&& 0x3f).toInt64.toUInt64).toInt64).toUInt64 >>> ((7 : Int32) &&& 0x3f).toInt64.toUInt64).toInt64).toUInt64 >>> ((7 : Int32) &&& 0x3f).toInt64.toUInt64).toInt64) (0 : Int64)))])) _
            refine XS.ifYes X0.here hx rfl (pc0 := 27) (pc' := 43) rfl (hb hby d1_27) rfl (own_fltL hk8).2.2.2 (by decide) (by decide) ?_
            show Steps p.tables e below (s₁.setTop (mkF m 43 #[.val (.int tl), .val (.int pl), .val (.long ((((2 : Int64) + (tl.toInt64)) + (2 : Int64)) + (pl.toInt64))), .second, .val (.int (4 : Int32)), .val (.long ((((((((((((2 : Int64) + (tl.toInt64)) + (2 : Int64)) + (pl.toInt64)).toUInt64 >>> ((7 : Int32) &&& 0x3f).toInt64.toUInt64).toInt64).toUInt64 >>> ((7 : Int32) &&& 0x3f).toInt64.toUInt64).toInt64).toUInt64 >>> ((7 : Int32) &&& 0x3f).toInt64.toUInt64).toInt64).toUInt64 >>> ((7 : Int32) &&& 0x3f).toInt64.toUInt64).toInt64)), .second] [])) _
            refine XS.iconst X0.here hx rfl (hb hby d1_43) ?_
            show Steps p.tables e below (s₁.setTop (mkF m 44 #[.val (.int tl), .val (.int pl), .val (.long ((((2 : Int64) + (tl.toInt64)) + (2 : Int64)) + (pl.toInt64))), .second, .val (.int (4 : Int32)), .val (.long ((((((((((((2 : Int64) + (tl.toInt64)) + (2 : Int64)) + (pl.toInt64)).toUInt64 >>> ((7 : Int32) &&& 0x3f).toInt64.toUInt64).toInt64).toUInt64 >>> ((7 : Int32) &&& 0x3f).toInt64.toUInt64).toInt64).toUInt64 >>> ((7 : Int32) &&& 0x3f).toInt64.toUInt64).toInt64).toUInt64 >>> ((7 : Int32) &&& 0x3f).toInt64.toUInt64).toInt64)), .second] [(.int (1 : Int32))])) _
            refine XS.iload X0.here hx rfl (hb hby d1_44) rfl ?_
            show Steps p.tables e below (s₁.setTop (mkF m 46 #[.val (.int tl), .val (.int pl), .val (.long ((((2 : Int64) + (tl.toInt64)) + (2 : Int64)) + (pl.toInt64))), .second, .val (.int (4 : Int32)), .val (.long ((((((((((((2 : Int64) + (tl.toInt64)) + (2 : Int64)) + (pl.toInt64)).toUInt64 >>> ((7 : Int32) &&& 0x3f).toInt64.toUInt64).toInt64).toUInt64 >>> ((7 : Int32) &&& 0x3f).toInt64.toUInt64).toInt64).toUInt64 >>> ((7 : Int32) &&& 0x3f).toInt64.toUInt64).toInt64).toUInt64 >>> ((7 : Int32) &&& 0x3f).toInt64.toUInt64).toInt64)), .second] [(.int (4 : Int32)), (.int (1 : Int32))])) _
            refine XS.iadd X0.here hx rfl (hb hby d1_46) rfl ?_
            show Steps p.tables e below (s₁.setTop (mkF m 47 #[.val (.int tl), .val (.int pl), .val (.long ((((2 : Int64) + (tl.toInt64)) + (2 : Int64)) + (pl.toInt64))), .second, .val (.int (4 : Int32)), .val (.long ((((((((((((2 : Int64) + (tl.toInt64)) + (2 : Int64)) + (pl.toInt64)).toUInt64 >>> ((7 : Int32) &&& 0x3f).toInt64.toUInt64).toInt64).toUInt64 >>> ((7 : Int32) &&& 0x3f).toInt64.toUInt64).toInt64).toUInt64 >>> ((7 : Int32) &&& 0x3f).toInt64.toUInt64).toInt64).toUInt64 >>> ((7 : Int32) &&& 0x3f).toInt64.toUInt64).toInt64)), .second] [(.int (5 : Int32))])) _
            refine XS.i2l X0.here hx rfl (hb hby d1_47) rfl ?_
            show Steps p.tables e below (s₁.setTop (mkF m 48 #[.val (.int tl), .val (.int pl), .val (.long ((((2 : Int64) + (tl.toInt64)) + (2 : Int64)) + (pl.toInt64))), .second, .val (.int (4 : Int32)), .val (.long ((((((((((((2 : Int64) + (tl.toInt64)) + (2 : Int64)) + (pl.toInt64)).toUInt64 >>> ((7 : Int32) &&& 0x3f).toInt64.toUInt64).toInt64).toUInt64 >>> ((7 : Int32) &&& 0x3f).toInt64.toUInt64).toInt64).toUInt64 >>> ((7 : Int32) &&& 0x3f).toInt64.toUInt64).toInt64).toUInt64 >>> ((7 : Int32) &&& 0x3f).toInt64.toUInt64).toInt64)), .second] [(.long (5 : Int64))])) _
            refine XS.lloadN X0.here hx rfl (hb hby d1_48) rfl ?_
            show Steps p.tables e below (s₁.setTop (mkF m 49 #[.val (.int tl), .val (.int pl), .val (.long ((((2 : Int64) + (tl.toInt64)) + (2 : Int64)) + (pl.toInt64))), .second, .val (.int (4 : Int32)), .val (.long ((((((((((((2 : Int64) + (tl.toInt64)) + (2 : Int64)) + (pl.toInt64)).toUInt64 >>> ((7 : Int32) &&& 0x3f).toInt64.toUInt64).toInt64).toUInt64 >>> ((7 : Int32) &&& 0x3f).toInt64.toUInt64).toInt64).toUInt64 >>> ((7 : Int32) &&& 0x3f).toInt64.toUInt64).toInt64).toUInt64 >>> ((7 : Int32) &&& 0x3f).toInt64.toUInt64).toInt64)), .second] [(.long ((((2 : Int64) + (tl.toInt64)) + (2 : Int64)) + (pl.toInt64))), (.long (5 : Int64))])) _
            refine XS.ladd X0.here hx rfl (hb hby d1_49) rfl ?_
            show Steps p.tables e below (s₁.setTop (mkF m 50 #[.val (.int tl), .val (.int pl), .val (.long ((((2 : Int64) + (tl.toInt64)) + (2 : Int64)) + (pl.toInt64))), .second, .val (.int (4 : Int32)), .val (.long ((((((((((((2 : Int64) + (tl.toInt64)) + (2 : Int64)) + (pl.toInt64)).toUInt64 >>> ((7 : Int32) &&& 0x3f).toInt64.toUInt64).toInt64).toUInt64 >>> ((7 : Int32) &&& 0x3f).toInt64.toUInt64).toInt64).toUInt64 >>> ((7 : Int32) &&& 0x3f).toInt64.toUInt64).toInt64).toUInt64 >>> ((7 : Int32) &&& 0x3f).toInt64.toUInt64).toInt64)), .second] [(.long ((5 : Int64) + ((((2 : Int64) + (tl.toInt64)) + (2 : Int64)) + (pl.toInt64))))])) _
            exact retOut X0 hx Bd.returns rfl (Or.inr (Or.inl ⟨rfl, rfl, _, rfl⟩)) (hb hby d1_50) hr
          · show Q1 Z tl pl h0 n0 _ s₁.heap _
            rw [e0]
            have ev10 : (r1_v tl pl) = ((5 : Int64) + ((((2 : Int64) + (tl.toInt64)) + (2 : Int64)) + (pl.toInt64))) := by unfold r1_v; rw [if_pos hk2, if_pos hk4, if_pos hk6, if_neg hk8]
            exact ⟨(congrArg (fun z => some (Value.long z)) ev10.symm), N0, rfl⟩
      · obtain ⟨fs, hr, hrun, hended, hW, hsame⟩ := X0.leave (v := some (.long ((4 : Int64) + ((((2 : Int64) + (tl.toInt64)) + (2 : Int64)) + (pl.toInt64))))) (fun h => by rw [Bd.returns] at h; cases h)
        refine ⟨_, _, pre5 _ ?_, hrun, hended, _, _, rfl, ?_, ⟨_, rfl⟩, hW, hsame.mono (by decide) (by decide)⟩
        · show Steps p.tables e below (s₁.setTop (mkF m 27 #[.val (.int tl), .val (.int pl), .val (.long ((((2 : Int64) + (tl.toInt64)) + (2 : Int64)) + (pl.toInt64))), .second, .val (.int (3 : Int32)), .val (.long ((((((((((2 : Int64) + (tl.toInt64)) + (2 : Int64)) + (pl.toInt64)).toUInt64 >>> ((7 : Int32) &&& 0x3f).toInt64.toUInt64).toInt64).toUInt64 >>> ((7 : Int32) &&& 0x3f).toInt64.toUInt64).toInt64).toUInt64 >>> ((7 : Int32) &&& 0x3f).toInt64.toUInt64).toInt64)), .second] [(.int (lcmpW ((((((((((2 : Int64) + (tl.toInt64)) + (2 : Int64)) + (pl.toInt64)).toUInt64 >>> ((7 : Int32) &&& 0x3f).toInt64.toUInt64).toInt64).toUInt64 >>> ((7 : Int32) &&& 0x3f).toInt64.toUInt64).toInt64).toUInt64 >>> ((7 : Int32) &&& 0x3f).toInt64.toUInt64).toInt64) (0 : Int64)))])) _
          refine XS.ifYes X0.here hx rfl (pc0 := 27) (pc' := 43) rfl (hb hby d1_27) rfl (own_fltL hk6).2.2.2 (by decide) (by decide) ?_
          show Steps p.tables e below (s₁.setTop (mkF m 43 #[.val (.int tl), .val (.int pl), .val (.long ((((2 : Int64) + (tl.toInt64)) + (2 : Int64)) + (pl.toInt64))), .second, .val (.int (3 : Int32)), .val (.long ((((((((((2 : Int64) + (tl.toInt64)) + (2 : Int64)) + (pl.toInt64)).toUInt64 >>> ((7 : Int32) &&& 0x3f).toInt64.toUInt64).toInt64).toUInt64 >>> ((7 : Int32) &&& 0x3f).toInt64.toUInt64).toInt64).toUInt64 >>> ((7 : Int32) &&& 0x3f).toInt64.toUInt64).toInt64)), .second] [])) _
          refine XS.iconst X0.here hx rfl (hb hby d1_43) ?_
          show Steps p.tables e below (s₁.setTop (mkF m 44 #[.val (.int tl), .val (.int pl), .val (.long ((((2 : Int64) + (tl.toInt64)) + (2 : Int64)) + (pl.toInt64))), .second, .val (.int (3 : Int32)), .val (.long ((((((((((2 : Int64) + (tl.toInt64)) + (2 : Int64)) + (pl.toInt64)).toUInt64 >>> ((7 : Int32) &&& 0x3f).toInt64.toUInt64).toInt64).toUInt64 >>> ((7 : Int32) &&& 0x3f).toInt64.toUInt64).toInt64).toUInt64 >>> ((7 : Int32) &&& 0x3f).toInt64.toUInt64).toInt64)), .second] [(.int (1 : Int32))])) _
          refine XS.iload X0.here hx rfl (hb hby d1_44) rfl ?_
          show Steps p.tables e below (s₁.setTop (mkF m 46 #[.val (.int tl), .val (.int pl), .val (.long ((((2 : Int64) + (tl.toInt64)) + (2 : Int64)) + (pl.toInt64))), .second, .val (.int (3 : Int32)), .val (.long ((((((((((2 : Int64) + (tl.toInt64)) + (2 : Int64)) + (pl.toInt64)).toUInt64 >>> ((7 : Int32) &&& 0x3f).toInt64.toUInt64).toInt64).toUInt64 >>> ((7 : Int32) &&& 0x3f).toInt64.toUInt64).toInt64).toUInt64 >>> ((7 : Int32) &&& 0x3f).toInt64.toUInt64).toInt64)), .second] [(.int (3 : Int32)), (.int (1 : Int32))])) _
          refine XS.iadd X0.here hx rfl (hb hby d1_46) rfl ?_
          show Steps p.tables e below (s₁.setTop (mkF m 47 #[.val (.int tl), .val (.int pl), .val (.long ((((2 : Int64) + (tl.toInt64)) + (2 : Int64)) + (pl.toInt64))), .second, .val (.int (3 : Int32)), .val (.long ((((((((((2 : Int64) + (tl.toInt64)) + (2 : Int64)) + (pl.toInt64)).toUInt64 >>> ((7 : Int32) &&& 0x3f).toInt64.toUInt64).toInt64).toUInt64 >>> ((7 : Int32) &&& 0x3f).toInt64.toUInt64).toInt64).toUInt64 >>> ((7 : Int32) &&& 0x3f).toInt64.toUInt64).toInt64)), .second] [(.int (4 : Int32))])) _
          refine XS.i2l X0.here hx rfl (hb hby d1_47) rfl ?_
          show Steps p.tables e below (s₁.setTop (mkF m 48 #[.val (.int tl), .val (.int pl), .val (.long ((((2 : Int64) + (tl.toInt64)) + (2 : Int64)) + (pl.toInt64))), .second, .val (.int (3 : Int32)), .val (.long ((((((((((2 : Int64) + (tl.toInt64)) + (2 : Int64)) + (pl.toInt64)).toUInt64 >>> ((7 : Int32) &&& 0x3f).toInt64.toUInt64).toInt64).toUInt64 >>> ((7 : Int32) &&& 0x3f).toInt64.toUInt64).toInt64).toUInt64 >>> ((7 : Int32) &&& 0x3f).toInt64.toUInt64).toInt64)), .second] [(.long (4 : Int64))])) _
          refine XS.lloadN X0.here hx rfl (hb hby d1_48) rfl ?_
          show Steps p.tables e below (s₁.setTop (mkF m 49 #[.val (.int tl), .val (.int pl), .val (.long ((((2 : Int64) + (tl.toInt64)) + (2 : Int64)) + (pl.toInt64))), .second, .val (.int (3 : Int32)), .val (.long ((((((((((2 : Int64) + (tl.toInt64)) + (2 : Int64)) + (pl.toInt64)).toUInt64 >>> ((7 : Int32) &&& 0x3f).toInt64.toUInt64).toInt64).toUInt64 >>> ((7 : Int32) &&& 0x3f).toInt64.toUInt64).toInt64).toUInt64 >>> ((7 : Int32) &&& 0x3f).toInt64.toUInt64).toInt64)), .second] [(.long ((((2 : Int64) + (tl.toInt64)) + (2 : Int64)) + (pl.toInt64))), (.long (4 : Int64))])) _
          refine XS.ladd X0.here hx rfl (hb hby d1_49) rfl ?_
          show Steps p.tables e below (s₁.setTop (mkF m 50 #[.val (.int tl), .val (.int pl), .val (.long ((((2 : Int64) + (tl.toInt64)) + (2 : Int64)) + (pl.toInt64))), .second, .val (.int (3 : Int32)), .val (.long ((((((((((2 : Int64) + (tl.toInt64)) + (2 : Int64)) + (pl.toInt64)).toUInt64 >>> ((7 : Int32) &&& 0x3f).toInt64.toUInt64).toInt64).toUInt64 >>> ((7 : Int32) &&& 0x3f).toInt64.toUInt64).toInt64).toUInt64 >>> ((7 : Int32) &&& 0x3f).toInt64.toUInt64).toInt64)), .second] [(.long ((4 : Int64) + ((((2 : Int64) + (tl.toInt64)) + (2 : Int64)) + (pl.toInt64))))])) _
          exact retOut X0 hx Bd.returns rfl (Or.inr (Or.inl ⟨rfl, rfl, _, rfl⟩)) (hb hby d1_50) hr
        · show Q1 Z tl pl h0 n0 _ s₁.heap _
          rw [e0]
          have ev11 : (r1_v tl pl) = ((4 : Int64) + ((((2 : Int64) + (tl.toInt64)) + (2 : Int64)) + (pl.toInt64))) := by unfold r1_v; rw [if_pos hk2, if_pos hk4, if_neg hk6]
          exact ⟨(congrArg (fun z => some (Value.long z)) ev11.symm), N0, rfl⟩
    · obtain ⟨fs, hr, hrun, hended, hW, hsame⟩ := X0.leave (v := some (.long ((3 : Int64) + ((((2 : Int64) + (tl.toInt64)) + (2 : Int64)) + (pl.toInt64))))) (fun h => by rw [Bd.returns] at h; cases h)
      refine ⟨_, _, pre3 _ ?_, hrun, hended, _, _, rfl, ?_, ⟨_, rfl⟩, hW, hsame.mono (by decide) (by decide)⟩
      · show Steps p.tables e below (s₁.setTop (mkF m 27 #[.val (.int tl), .val (.int pl), .val (.long ((((2 : Int64) + (tl.toInt64)) + (2 : Int64)) + (pl.toInt64))), .second, .val (.int (2 : Int32)), .val (.long ((((((((2 : Int64) + (tl.toInt64)) + (2 : Int64)) + (pl.toInt64)).toUInt64 >>> ((7 : Int32) &&& 0x3f).toInt64.toUInt64).toInt64).toUInt64 >>> ((7 : Int32) &&& 0x3f).toInt64.toUInt64).toInt64)), .second] [(.int (lcmpW ((((((((2 : Int64) + (tl.toInt64)) + (2 : Int64)) + (pl.toInt64)).toUInt64 >>> ((7 : Int32) &&& 0x3f).toInt64.toUInt64).toInt64).toUInt64 >>> ((7 : Int32) &&& 0x3f).toInt64.toUInt64).toInt64) (0 : Int64)))])) _
        refine XS.ifYes X0.here hx rfl (pc0 := 27) (pc' := 43) rfl (hb hby d1_27) rfl (own_fltL hk4).2.2.2 (by decide) (by decide) ?_
        show Steps p.tables e below (s₁.setTop (mkF m 43 #[.val (.int tl), .val (.int pl), .val (.long ((((2 : Int64) + (tl.toInt64)) + (2 : Int64)) + (pl.toInt64))), .second, .val (.int (2 : Int32)), .val (.long ((((((((2 : Int64) + (tl.toInt64)) + (2 : Int64)) + (pl.toInt64)).toUInt64 >>> ((7 : Int32) &&& 0x3f).toInt64.toUInt64).toInt64).toUInt64 >>> ((7 : Int32) &&& 0x3f).toInt64.toUInt64).toInt64)), .second] [])) _
        refine XS.iconst X0.here hx rfl (hb hby d1_43) ?_
        show Steps p.tables e below (s₁.setTop (mkF m 44 #[.val (.int tl), .val (.int pl), .val (.long ((((2 : Int64) + (tl.toInt64)) + (2 : Int64)) + (pl.toInt64))), .second, .val (.int (2 : Int32)), .val (.long ((((((((2 : Int64) + (tl.toInt64)) + (2 : Int64)) + (pl.toInt64)).toUInt64 >>> ((7 : Int32) &&& 0x3f).toInt64.toUInt64).toInt64).toUInt64 >>> ((7 : Int32) &&& 0x3f).toInt64.toUInt64).toInt64)), .second] [(.int (1 : Int32))])) _
        refine XS.iload X0.here hx rfl (hb hby d1_44) rfl ?_
        show Steps p.tables e below (s₁.setTop (mkF m 46 #[.val (.int tl), .val (.int pl), .val (.long ((((2 : Int64) + (tl.toInt64)) + (2 : Int64)) + (pl.toInt64))), .second, .val (.int (2 : Int32)), .val (.long ((((((((2 : Int64) + (tl.toInt64)) + (2 : Int64)) + (pl.toInt64)).toUInt64 >>> ((7 : Int32) &&& 0x3f).toInt64.toUInt64).toInt64).toUInt64 >>> ((7 : Int32) &&& 0x3f).toInt64.toUInt64).toInt64)), .second] [(.int (2 : Int32)), (.int (1 : Int32))])) _
        refine XS.iadd X0.here hx rfl (hb hby d1_46) rfl ?_
        show Steps p.tables e below (s₁.setTop (mkF m 47 #[.val (.int tl), .val (.int pl), .val (.long ((((2 : Int64) + (tl.toInt64)) + (2 : Int64)) + (pl.toInt64))), .second, .val (.int (2 : Int32)), .val (.long ((((((((2 : Int64) + (tl.toInt64)) + (2 : Int64)) + (pl.toInt64)).toUInt64 >>> ((7 : Int32) &&& 0x3f).toInt64.toUInt64).toInt64).toUInt64 >>> ((7 : Int32) &&& 0x3f).toInt64.toUInt64).toInt64)), .second] [(.int (3 : Int32))])) _
        refine XS.i2l X0.here hx rfl (hb hby d1_47) rfl ?_
        show Steps p.tables e below (s₁.setTop (mkF m 48 #[.val (.int tl), .val (.int pl), .val (.long ((((2 : Int64) + (tl.toInt64)) + (2 : Int64)) + (pl.toInt64))), .second, .val (.int (2 : Int32)), .val (.long ((((((((2 : Int64) + (tl.toInt64)) + (2 : Int64)) + (pl.toInt64)).toUInt64 >>> ((7 : Int32) &&& 0x3f).toInt64.toUInt64).toInt64).toUInt64 >>> ((7 : Int32) &&& 0x3f).toInt64.toUInt64).toInt64)), .second] [(.long (3 : Int64))])) _
        refine XS.lloadN X0.here hx rfl (hb hby d1_48) rfl ?_
        show Steps p.tables e below (s₁.setTop (mkF m 49 #[.val (.int tl), .val (.int pl), .val (.long ((((2 : Int64) + (tl.toInt64)) + (2 : Int64)) + (pl.toInt64))), .second, .val (.int (2 : Int32)), .val (.long ((((((((2 : Int64) + (tl.toInt64)) + (2 : Int64)) + (pl.toInt64)).toUInt64 >>> ((7 : Int32) &&& 0x3f).toInt64.toUInt64).toInt64).toUInt64 >>> ((7 : Int32) &&& 0x3f).toInt64.toUInt64).toInt64)), .second] [(.long ((((2 : Int64) + (tl.toInt64)) + (2 : Int64)) + (pl.toInt64))), (.long (3 : Int64))])) _
        refine XS.ladd X0.here hx rfl (hb hby d1_49) rfl ?_
        show Steps p.tables e below (s₁.setTop (mkF m 50 #[.val (.int tl), .val (.int pl), .val (.long ((((2 : Int64) + (tl.toInt64)) + (2 : Int64)) + (pl.toInt64))), .second, .val (.int (2 : Int32)), .val (.long ((((((((2 : Int64) + (tl.toInt64)) + (2 : Int64)) + (pl.toInt64)).toUInt64 >>> ((7 : Int32) &&& 0x3f).toInt64.toUInt64).toInt64).toUInt64 >>> ((7 : Int32) &&& 0x3f).toInt64.toUInt64).toInt64)), .second] [(.long ((3 : Int64) + ((((2 : Int64) + (tl.toInt64)) + (2 : Int64)) + (pl.toInt64))))])) _
        exact retOut X0 hx Bd.returns rfl (Or.inr (Or.inl ⟨rfl, rfl, _, rfl⟩)) (hb hby d1_50) hr
      · show Q1 Z tl pl h0 n0 _ s₁.heap _
        rw [e0]
        have ev12 : (r1_v tl pl) = ((3 : Int64) + ((((2 : Int64) + (tl.toInt64)) + (2 : Int64)) + (pl.toInt64))) := by unfold r1_v; rw [if_pos hk2, if_neg hk4]
        exact ⟨(congrArg (fun z => some (Value.long z)) ev12.symm), N0, rfl⟩
  · obtain ⟨fs, hr, hrun, hended, hW, hsame⟩ := X0.leave (v := some (.long ((2 : Int64) + ((((2 : Int64) + (tl.toInt64)) + (2 : Int64)) + (pl.toInt64))))) (fun h => by rw [Bd.returns] at h; cases h)
    refine ⟨_, _, pre1 _ ?_, hrun, hended, _, _, rfl, ?_, ⟨_, rfl⟩, hW, hsame.mono (by decide) (by decide)⟩
    · show Steps p.tables e below (s₁.setTop (mkF m 27 #[.val (.int tl), .val (.int pl), .val (.long ((((2 : Int64) + (tl.toInt64)) + (2 : Int64)) + (pl.toInt64))), .second, .val (.int (1 : Int32)), .val (.long ((((((2 : Int64) + (tl.toInt64)) + (2 : Int64)) + (pl.toInt64)).toUInt64 >>> ((7 : Int32) &&& 0x3f).toInt64.toUInt64).toInt64)), .second] [(.int (lcmpW ((((((2 : Int64) + (tl.toInt64)) + (2 : Int64)) + (pl.toInt64)).toUInt64 >>> ((7 : Int32) &&& 0x3f).toInt64.toUInt64).toInt64) (0 : Int64)))])) _
      refine XS.ifYes X0.here hx rfl (pc0 := 27) (pc' := 43) rfl (hb hby d1_27) rfl (own_fltL hk2).2.2.2 (by decide) (by decide) ?_
      show Steps p.tables e below (s₁.setTop (mkF m 43 #[.val (.int tl), .val (.int pl), .val (.long ((((2 : Int64) + (tl.toInt64)) + (2 : Int64)) + (pl.toInt64))), .second, .val (.int (1 : Int32)), .val (.long ((((((2 : Int64) + (tl.toInt64)) + (2 : Int64)) + (pl.toInt64)).toUInt64 >>> ((7 : Int32) &&& 0x3f).toInt64.toUInt64).toInt64)), .second] [])) _
      refine XS.iconst X0.here hx rfl (hb hby d1_43) ?_
      show Steps p.tables e below (s₁.setTop (mkF m 44 #[.val (.int tl), .val (.int pl), .val (.long ((((2 : Int64) + (tl.toInt64)) + (2 : Int64)) + (pl.toInt64))), .second, .val (.int (1 : Int32)), .val (.long ((((((2 : Int64) + (tl.toInt64)) + (2 : Int64)) + (pl.toInt64)).toUInt64 >>> ((7 : Int32) &&& 0x3f).toInt64.toUInt64).toInt64)), .second] [(.int (1 : Int32))])) _
      refine XS.iload X0.here hx rfl (hb hby d1_44) rfl ?_
      show Steps p.tables e below (s₁.setTop (mkF m 46 #[.val (.int tl), .val (.int pl), .val (.long ((((2 : Int64) + (tl.toInt64)) + (2 : Int64)) + (pl.toInt64))), .second, .val (.int (1 : Int32)), .val (.long ((((((2 : Int64) + (tl.toInt64)) + (2 : Int64)) + (pl.toInt64)).toUInt64 >>> ((7 : Int32) &&& 0x3f).toInt64.toUInt64).toInt64)), .second] [(.int (1 : Int32)), (.int (1 : Int32))])) _
      refine XS.iadd X0.here hx rfl (hb hby d1_46) rfl ?_
      show Steps p.tables e below (s₁.setTop (mkF m 47 #[.val (.int tl), .val (.int pl), .val (.long ((((2 : Int64) + (tl.toInt64)) + (2 : Int64)) + (pl.toInt64))), .second, .val (.int (1 : Int32)), .val (.long ((((((2 : Int64) + (tl.toInt64)) + (2 : Int64)) + (pl.toInt64)).toUInt64 >>> ((7 : Int32) &&& 0x3f).toInt64.toUInt64).toInt64)), .second] [(.int (2 : Int32))])) _
      refine XS.i2l X0.here hx rfl (hb hby d1_47) rfl ?_
      show Steps p.tables e below (s₁.setTop (mkF m 48 #[.val (.int tl), .val (.int pl), .val (.long ((((2 : Int64) + (tl.toInt64)) + (2 : Int64)) + (pl.toInt64))), .second, .val (.int (1 : Int32)), .val (.long ((((((2 : Int64) + (tl.toInt64)) + (2 : Int64)) + (pl.toInt64)).toUInt64 >>> ((7 : Int32) &&& 0x3f).toInt64.toUInt64).toInt64)), .second] [(.long (2 : Int64))])) _
      refine XS.lloadN X0.here hx rfl (hb hby d1_48) rfl ?_
      show Steps p.tables e below (s₁.setTop (mkF m 49 #[.val (.int tl), .val (.int pl), .val (.long ((((2 : Int64) + (tl.toInt64)) + (2 : Int64)) + (pl.toInt64))), .second, .val (.int (1 : Int32)), .val (.long ((((((2 : Int64) + (tl.toInt64)) + (2 : Int64)) + (pl.toInt64)).toUInt64 >>> ((7 : Int32) &&& 0x3f).toInt64.toUInt64).toInt64)), .second] [(.long ((((2 : Int64) + (tl.toInt64)) + (2 : Int64)) + (pl.toInt64))), (.long (2 : Int64))])) _
      refine XS.ladd X0.here hx rfl (hb hby d1_49) rfl ?_
      show Steps p.tables e below (s₁.setTop (mkF m 50 #[.val (.int tl), .val (.int pl), .val (.long ((((2 : Int64) + (tl.toInt64)) + (2 : Int64)) + (pl.toInt64))), .second, .val (.int (1 : Int32)), .val (.long ((((((2 : Int64) + (tl.toInt64)) + (2 : Int64)) + (pl.toInt64)).toUInt64 >>> ((7 : Int32) &&& 0x3f).toInt64.toUInt64).toInt64)), .second] [(.long ((2 : Int64) + ((((2 : Int64) + (tl.toInt64)) + (2 : Int64)) + (pl.toInt64))))])) _
      exact retOut X0 hx Bd.returns rfl (Or.inr (Or.inl ⟨rfl, rfl, _, rfl⟩)) (hb hby d1_50) hr
    · show Q1 Z tl pl h0 n0 _ s₁.heap _
      rw [e0]
      have ev13 : (r1_v tl pl) = ((2 : Int64) + ((((2 : Int64) + (tl.toInt64)) + (2 : Int64)) + (pl.toInt64))) := by unfold r1_v; rw [if_neg hk2]
      exact ⟨(congrArg (fun z => some (Value.long z)) ev13.symm), N0, rfl⟩
theorem ef_0 (m : MethodId) (tp : Int32) (py : Int32) : entryFrame m #[(.int tp), (.int py)] maxLocals = mkF m 0 #[.val (.int tp), .val (.int py), .unset, .unset, .unset, .unset, .unset, .unset, .unset] [] := by first | (simp [entryFrame, mkF, argsToLocals, Value.category, maxLocals]; done) | rfl
theorem pd_0 : parseMethodDescriptor "(II)J" = some ⟨[.int, .int], some .long⟩ := by decide +kernel
def j0_21_l6 (tp : Int32) (py : Int32) : Int32 := (if (((4 : Int64) + ((tp &&& (65535 : Int32)).toInt64)) + ((py &&& (2147483647 : Int32)).toInt64)) < (128 : Int64) then (1 : Int32) else (if (((4 : Int64) + ((tp &&& (65535 : Int32)).toInt64)) + ((py &&& (2147483647 : Int32)).toInt64)) < (16384 : Int64) then (2 : Int32) else (if (((4 : Int64) + ((tp &&& (65535 : Int32)).toInt64)) + ((py &&& (2147483647 : Int32)).toInt64)) < (2097152 : Int64) then (3 : Int32) else (if (((4 : Int64) + ((tp &&& (65535 : Int32)).toInt64)) + ((py &&& (2147483647 : Int32)).toInt64)) < (268435456 : Int64) then (4 : Int32) else (5 : Int32)))))
theorem pn_com_example_hikyaku_hikyaku_mqtt_MqttPacketPublishBytesPinLaw : plainName "com/example/hikyaku/hikyaku/mqtt/MqttPacketPublishBytesPinLaw" = true := by first | (simp [plainName, overriddenIn]; done) | decide +kernel
theorem own_p (tp py : Int32) : ¬ ((0 : Int64) < ((((((((((((((2 : Int64) + ((tp &&& (65535 : Int32)).toInt64)) + (2 : Int64)) + ((py &&& (2147483647 : Int32)).toInt64)).toUInt64 >>> ((7 : Int32) &&& 0x3f).toInt64.toUInt64).toInt64).toUInt64 >>> ((7 : Int32) &&& 0x3f).toInt64.toUInt64).toInt64).toUInt64 >>> ((7 : Int32) &&& 0x3f).toInt64.toUInt64).toInt64).toUInt64 >>> ((7 : Int32) &&& 0x3f).toInt64.toUInt64).toInt64).toUInt64 >>> ((7 : Int32) &&& 0x3f).toInt64.toUInt64).toInt64)) := by
  have : (2 : Int64).toInt = 2 := rfl
  have : (65535 : Int32).toInt = 65535 := rfl
  have := c_and tp (65535 : Int32) (by decide)
  have := c_i2l (tp &&& (65535 : Int32))
  first | have : ((2 : Int64) + ((tp &&& (65535 : Int32)).toInt64)).toInt = 2 + ((tp &&& (65535 : Int32)).toInt64).toInt := (by have := c_ladd (2 : Int64) ((tp &&& (65535 : Int32)).toInt64); have := rng64 ((2 : Int64) + ((tp &&& (65535 : Int32)).toInt64)); omega) | (have := c_ladd (2 : Int64) ((tp &&& (65535 : Int32)).toInt64); have := rng64 ((2 : Int64) + ((tp &&& (65535 : Int32)).toInt64)))
  first | have : (((2 : Int64) + ((tp &&& (65535 : Int32)).toInt64)) + (2 : Int64)).toInt = ((2 : Int64) + ((tp &&& (65535 : Int32)).toInt64)).toInt + 2 := (by have := c_ladd ((2 : Int64) + ((tp &&& (65535 : Int32)).toInt64)) (2 : Int64); have := rng64 (((2 : Int64) + ((tp &&& (65535 : Int32)).toInt64)) + (2 : Int64)); omega) | (have := c_ladd ((2 : Int64) + ((tp &&& (65535 : Int32)).toInt64)) (2 : Int64); have := rng64 (((2 : Int64) + ((tp &&& (65535 : Int32)).toInt64)) + (2 : Int64)))
  have : (2147483647 : Int32).toInt = 2147483647 := rfl
  have := c_and py (2147483647 : Int32) (by decide)
  have := c_i2l (py &&& (2147483647 : Int32))
  first | have : ((((2 : Int64) + ((tp &&& (65535 : Int32)).toInt64)) + (2 : Int64)) + ((py &&& (2147483647 : Int32)).toInt64)).toInt = (((2 : Int64) + ((tp &&& (65535 : Int32)).toInt64)) + (2 : Int64)).toInt + ((py &&& (2147483647 : Int32)).toInt64).toInt := (by have := c_ladd (((2 : Int64) + ((tp &&& (65535 : Int32)).toInt64)) + (2 : Int64)) ((py &&& (2147483647 : Int32)).toInt64); have := rng64 ((((2 : Int64) + ((tp &&& (65535 : Int32)).toInt64)) + (2 : Int64)) + ((py &&& (2147483647 : Int32)).toInt64)); omega) | (have := c_ladd (((2 : Int64) + ((tp &&& (65535 : Int32)).toInt64)) + (2 : Int64)) ((py &&& (2147483647 : Int32)).toInt64); have := rng64 ((((2 : Int64) + ((tp &&& (65535 : Int32)).toInt64)) + (2 : Int64)) + ((py &&& (2147483647 : Int32)).toInt64)))
  have : (7 : Int32).toInt = 7 := rfl
  have := c_lushr ((((2 : Int64) + ((tp &&& (65535 : Int32)).toInt64)) + (2 : Int64)) + ((py &&& (2147483647 : Int32)).toInt64)) (7 : Int32) 7 (by decide) (by decide)
  have := rng64 ((((((2 : Int64) + ((tp &&& (65535 : Int32)).toInt64)) + (2 : Int64)) + ((py &&& (2147483647 : Int32)).toInt64)).toUInt64 >>> ((7 : Int32) &&& 0x3f).toInt64.toUInt64).toInt64)
  have := c_lushr ((((((2 : Int64) + ((tp &&& (65535 : Int32)).toInt64)) + (2 : Int64)) + ((py &&& (2147483647 : Int32)).toInt64)).toUInt64 >>> ((7 : Int32) &&& 0x3f).toInt64.toUInt64).toInt64) (7 : Int32) 7 (by decide) (by decide)
  have := rng64 ((((((((2 : Int64) + ((tp &&& (65535 : Int32)).toInt64)) + (2 : Int64)) + ((py &&& (2147483647 : Int32)).toInt64)).toUInt64 >>> ((7 : Int32) &&& 0x3f).toInt64.toUInt64).toInt64).toUInt64 >>> ((7 : Int32) &&& 0x3f).toInt64.toUInt64).toInt64)
  have := c_lushr ((((((((2 : Int64) + ((tp &&& (65535 : Int32)).toInt64)) + (2 : Int64)) + ((py &&& (2147483647 : Int32)).toInt64)).toUInt64 >>> ((7 : Int32) &&& 0x3f).toInt64.toUInt64).toInt64).toUInt64 >>> ((7 : Int32) &&& 0x3f).toInt64.toUInt64).toInt64) (7 : Int32) 7 (by decide) (by decide)
  have := rng64 ((((((((((2 : Int64) + ((tp &&& (65535 : Int32)).toInt64)) + (2 : Int64)) + ((py &&& (2147483647 : Int32)).toInt64)).toUInt64 >>> ((7 : Int32) &&& 0x3f).toInt64.toUInt64).toInt64).toUInt64 >>> ((7 : Int32) &&& 0x3f).toInt64.toUInt64).toInt64).toUInt64 >>> ((7 : Int32) &&& 0x3f).toInt64.toUInt64).toInt64)
  have := c_lushr ((((((((((2 : Int64) + ((tp &&& (65535 : Int32)).toInt64)) + (2 : Int64)) + ((py &&& (2147483647 : Int32)).toInt64)).toUInt64 >>> ((7 : Int32) &&& 0x3f).toInt64.toUInt64).toInt64).toUInt64 >>> ((7 : Int32) &&& 0x3f).toInt64.toUInt64).toInt64).toUInt64 >>> ((7 : Int32) &&& 0x3f).toInt64.toUInt64).toInt64) (7 : Int32) 7 (by decide) (by decide)
  have := rng64 ((((((((((((2 : Int64) + ((tp &&& (65535 : Int32)).toInt64)) + (2 : Int64)) + ((py &&& (2147483647 : Int32)).toInt64)).toUInt64 >>> ((7 : Int32) &&& 0x3f).toInt64.toUInt64).toInt64).toUInt64 >>> ((7 : Int32) &&& 0x3f).toInt64.toUInt64).toInt64).toUInt64 >>> ((7 : Int32) &&& 0x3f).toInt64.toUInt64).toInt64).toUInt64 >>> ((7 : Int32) &&& 0x3f).toInt64.toUInt64).toInt64)
  have := c_lushr ((((((((((((2 : Int64) + ((tp &&& (65535 : Int32)).toInt64)) + (2 : Int64)) + ((py &&& (2147483647 : Int32)).toInt64)).toUInt64 >>> ((7 : Int32) &&& 0x3f).toInt64.toUInt64).toInt64).toUInt64 >>> ((7 : Int32) &&& 0x3f).toInt64.toUInt64).toInt64).toUInt64 >>> ((7 : Int32) &&& 0x3f).toInt64.toUInt64).toInt64).toUInt64 >>> ((7 : Int32) &&& 0x3f).toInt64.toUInt64).toInt64) (7 : Int32) 7 (by decide) (by decide)
  have := rng64 ((((((((((((((2 : Int64) + ((tp &&& (65535 : Int32)).toInt64)) + (2 : Int64)) + ((py &&& (2147483647 : Int32)).toInt64)).toUInt64 >>> ((7 : Int32) &&& 0x3f).toInt64.toUInt64).toInt64).toUInt64 >>> ((7 : Int32) &&& 0x3f).toInt64.toUInt64).toInt64).toUInt64 >>> ((7 : Int32) &&& 0x3f).toInt64.toUInt64).toInt64).toUInt64 >>> ((7 : Int32) &&& 0x3f).toInt64.toUInt64).toInt64).toUInt64 >>> ((7 : Int32) &&& 0x3f).toInt64.toUInt64).toInt64)
  have : (0 : Int64).toInt = 0 := rfl
  rw [Int64.lt_iff_toInt_lt]
  omega
theorem own_e (tp py : Int32) : ((((2 : Int64) + ((tp &&& (65535 : Int32)).toInt64)) + (2 : Int64)) + ((py &&& (2147483647 : Int32)).toInt64)) = (((4 : Int64) + ((tp &&& (65535 : Int32)).toInt64)) + ((py &&& (2147483647 : Int32)).toInt64)) ∧ 4 ≤ (((4 : Int64) + ((tp &&& (65535 : Int32)).toInt64)) + ((py &&& (2147483647 : Int32)).toInt64)).toInt ∧ (((4 : Int64) + ((tp &&& (65535 : Int32)).toInt64)) + ((py &&& (2147483647 : Int32)).toInt64)).toInt ≤ 2147549186 := by
  have : (2 : Int64).toInt = 2 := rfl
  have : (65535 : Int32).toInt = 65535 := rfl
  have := c_and tp (65535 : Int32) (by decide)
  have := c_i2l (tp &&& (65535 : Int32))
  first | have : ((2 : Int64) + ((tp &&& (65535 : Int32)).toInt64)).toInt = 2 + ((tp &&& (65535 : Int32)).toInt64).toInt := (by have := c_ladd (2 : Int64) ((tp &&& (65535 : Int32)).toInt64); have := rng64 ((2 : Int64) + ((tp &&& (65535 : Int32)).toInt64)); omega) | (have := c_ladd (2 : Int64) ((tp &&& (65535 : Int32)).toInt64); have := rng64 ((2 : Int64) + ((tp &&& (65535 : Int32)).toInt64)))
  first | have : (((2 : Int64) + ((tp &&& (65535 : Int32)).toInt64)) + (2 : Int64)).toInt = ((2 : Int64) + ((tp &&& (65535 : Int32)).toInt64)).toInt + 2 := (by have := c_ladd ((2 : Int64) + ((tp &&& (65535 : Int32)).toInt64)) (2 : Int64); have := rng64 (((2 : Int64) + ((tp &&& (65535 : Int32)).toInt64)) + (2 : Int64)); omega) | (have := c_ladd ((2 : Int64) + ((tp &&& (65535 : Int32)).toInt64)) (2 : Int64); have := rng64 (((2 : Int64) + ((tp &&& (65535 : Int32)).toInt64)) + (2 : Int64)))
  have : (2147483647 : Int32).toInt = 2147483647 := rfl
  have := c_and py (2147483647 : Int32) (by decide)
  have := c_i2l (py &&& (2147483647 : Int32))
  first | have : ((((2 : Int64) + ((tp &&& (65535 : Int32)).toInt64)) + (2 : Int64)) + ((py &&& (2147483647 : Int32)).toInt64)).toInt = (((2 : Int64) + ((tp &&& (65535 : Int32)).toInt64)) + (2 : Int64)).toInt + ((py &&& (2147483647 : Int32)).toInt64).toInt := (by have := c_ladd (((2 : Int64) + ((tp &&& (65535 : Int32)).toInt64)) + (2 : Int64)) ((py &&& (2147483647 : Int32)).toInt64); have := rng64 ((((2 : Int64) + ((tp &&& (65535 : Int32)).toInt64)) + (2 : Int64)) + ((py &&& (2147483647 : Int32)).toInt64)); omega) | (have := c_ladd (((2 : Int64) + ((tp &&& (65535 : Int32)).toInt64)) + (2 : Int64)) ((py &&& (2147483647 : Int32)).toInt64); have := rng64 ((((2 : Int64) + ((tp &&& (65535 : Int32)).toInt64)) + (2 : Int64)) + ((py &&& (2147483647 : Int32)).toInt64)))
  have : (4 : Int64).toInt = 4 := rfl
  first | have : ((4 : Int64) + ((tp &&& (65535 : Int32)).toInt64)).toInt = 4 + ((tp &&& (65535 : Int32)).toInt64).toInt := (by have := c_ladd (4 : Int64) ((tp &&& (65535 : Int32)).toInt64); have := rng64 ((4 : Int64) + ((tp &&& (65535 : Int32)).toInt64)); omega) | (have := c_ladd (4 : Int64) ((tp &&& (65535 : Int32)).toInt64); have := rng64 ((4 : Int64) + ((tp &&& (65535 : Int32)).toInt64)))
  first | have : (((4 : Int64) + ((tp &&& (65535 : Int32)).toInt64)) + ((py &&& (2147483647 : Int32)).toInt64)).toInt = ((4 : Int64) + ((tp &&& (65535 : Int32)).toInt64)).toInt + ((py &&& (2147483647 : Int32)).toInt64).toInt := (by have := c_ladd ((4 : Int64) + ((tp &&& (65535 : Int32)).toInt64)) ((py &&& (2147483647 : Int32)).toInt64); have := rng64 (((4 : Int64) + ((tp &&& (65535 : Int32)).toInt64)) + ((py &&& (2147483647 : Int32)).toInt64)); omega) | (have := c_ladd ((4 : Int64) + ((tp &&& (65535 : Int32)).toInt64)) ((py &&& (2147483647 : Int32)).toInt64); have := rng64 (((4 : Int64) + ((tp &&& (65535 : Int32)).toInt64)) + ((py &&& (2147483647 : Int32)).toInt64)))
  rw [← Int64.toInt_inj]
  omega
theorem own_fin (tp py : Int32) : (r1_v (tp &&& (65535 : Int32)) (py &&& (2147483647 : Int32))) = (((1 : Int64) + ((j0_21_l6 tp py).toInt64)) + (((4 : Int64) + ((tp &&& (65535 : Int32)).toInt64)) + ((py &&& (2147483647 : Int32)).toInt64))) := by
  obtain ⟨e, h1, h2⟩ := own_e tp py
  unfold r1_v j0_21_l6
  rw [e]
  generalize (((4 : Int64) + ((tp &&& (65535 : Int32)).toInt64)) + ((py &&& (2147483647 : Int32)).toInt64)) = rr at *
  have : (7 : Int32).toInt = 7 := rfl
  have := c_lushr rr (7 : Int32) 7 (by decide) (by decide)
  have := rng64 ((rr.toUInt64 >>> ((7 : Int32) &&& 0x3f).toInt64.toUInt64).toInt64)
  have := c_lushr ((rr.toUInt64 >>> ((7 : Int32) &&& 0x3f).toInt64.toUInt64).toInt64) (7 : Int32) 7 (by decide) (by decide)
  have := rng64 ((((rr.toUInt64 >>> ((7 : Int32) &&& 0x3f).toInt64.toUInt64).toInt64).toUInt64 >>> ((7 : Int32) &&& 0x3f).toInt64.toUInt64).toInt64)
  have := c_lushr ((((rr.toUInt64 >>> ((7 : Int32) &&& 0x3f).toInt64.toUInt64).toInt64).toUInt64 >>> ((7 : Int32) &&& 0x3f).toInt64.toUInt64).toInt64) (7 : Int32) 7 (by decide) (by decide)
  have := rng64 ((((((rr.toUInt64 >>> ((7 : Int32) &&& 0x3f).toInt64.toUInt64).toInt64).toUInt64 >>> ((7 : Int32) &&& 0x3f).toInt64.toUInt64).toInt64).toUInt64 >>> ((7 : Int32) &&& 0x3f).toInt64.toUInt64).toInt64)
  have := c_lushr ((((((rr.toUInt64 >>> ((7 : Int32) &&& 0x3f).toInt64.toUInt64).toInt64).toUInt64 >>> ((7 : Int32) &&& 0x3f).toInt64.toUInt64).toInt64).toUInt64 >>> ((7 : Int32) &&& 0x3f).toInt64.toUInt64).toInt64) (7 : Int32) 7 (by decide) (by decide)
  have := rng64 ((((((((rr.toUInt64 >>> ((7 : Int32) &&& 0x3f).toInt64.toUInt64).toInt64).toUInt64 >>> ((7 : Int32) &&& 0x3f).toInt64.toUInt64).toInt64).toUInt64 >>> ((7 : Int32) &&& 0x3f).toInt64.toUInt64).toInt64).toUInt64 >>> ((7 : Int32) &&& 0x3f).toInt64.toUInt64).toInt64)
  have := c_lushr ((((((((rr.toUInt64 >>> ((7 : Int32) &&& 0x3f).toInt64.toUInt64).toInt64).toUInt64 >>> ((7 : Int32) &&& 0x3f).toInt64.toUInt64).toInt64).toUInt64 >>> ((7 : Int32) &&& 0x3f).toInt64.toUInt64).toInt64).toUInt64 >>> ((7 : Int32) &&& 0x3f).toInt64.toUInt64).toInt64) (7 : Int32) 7 (by decide) (by decide)
  have := rng64 ((((((((((rr.toUInt64 >>> ((7 : Int32) &&& 0x3f).toInt64.toUInt64).toInt64).toUInt64 >>> ((7 : Int32) &&& 0x3f).toInt64.toUInt64).toInt64).toUInt64 >>> ((7 : Int32) &&& 0x3f).toInt64.toUInt64).toInt64).toUInt64 >>> ((7 : Int32) &&& 0x3f).toInt64.toUInt64).toInt64).toUInt64 >>> ((7 : Int32) &&& 0x3f).toInt64.toUInt64).toInt64)
  have : (0 : Int64).toInt = 0 := rfl
  have : (128 : Int64).toInt = 128 := rfl
  have : (16384 : Int64).toInt = 16384 := rfl
  have : (2097152 : Int64).toInt = 2097152 := rfl
  have : (268435456 : Int64).toInt = 268435456 := rfl
  simp only [Int64.lt_iff_toInt_lt] at *
  repeat' split
  all_goals first | rfl | (exfalso; omega)
def Q0 (Z : State) (tp : Int32) (py : Int32) (h0 : Heap) (n0 : Nat) (v : Option Value) (h : Heap) (L : List Loc) : Prop := v = some (.int (1 : Int32)) ∧ Fr n0 L
set_option maxRecDepth 65536 in
set_option maxHeartbeats 40000000 in
theorem rm0 (l : Launch) (Z : State) (a0 : Array Value) (hw : ∀ d ∈ tables_1, d.before a0 Z = true) (ws : List Jvm.Cond) (tp : Int32) (py : Int32) (h0 : Heap) (n0 : Nat) (Z0 : n0 ≤ h0.size) :
    MetFree l x (head1 (Jvm.Cond.code x code maxLocals ret :: ws) room_1) (fun a U => a = #[(.int tp), (.int py)] ∧ Z.Warmed39 U.vm ∧ U.heap = h0) (fun _ _ _ _ _ => True) (fun _ U o U' => ∃ v L, o = .returned v ∧ Q0 Z tp py h0 n0 v U'.heap L ∧ FrameEnd U o U' L room_1.cells room_1.slots) := by
  refine MetFree.of_bodySF (plainFor_of_name pn_com_example_hikyaku_hikyaku_mqtt_MqttPacketPublishBytesPinLaw) hisR ?_
  intro p e s m args below meth c s₁ Bd hml0 hP hK
  obtain ⟨rfl, hZ, hh⟩ := hP
  have hx := Bd.exec
  have hby := Bd.bytes
  have hml : c.maxLocals = 9 := hml0
  have hown : s.vm.findClass "com/example/hikyaku/hikyaku/mqtt/MqttPacketPublishBytesPinLaw" = some m.cls := findClass_of_methodNamed Bd.named
  have hnm := (name_of_methodNamed Bd.named Bd.method).1
  have X0 : Stand p l e room_1 s m #[(.int tp), (.int py)] below meth c s₁ [] 0 0 := Stand.of_body Bd
  have e0 : s₁.heap = h0 := by rw [← hh, Bd.state]; rfl
  have N0 := Fr.nil n0
  have K0 : Keep h0 h0 [] := Keep.refl h0 _
  have pre0 : ∀ t, Steps p.tables e below (s₁.setTop (mkF m 0 #[.val (.int tp), .val (.int py), .unset, .unset, .unset, .unset, .unset, .unset, .unset] [])) t → Steps p.tables e below (s₁.setTop (entryFrame m #[(.int tp), (.int py)] maxLocals)) t := fun t k => castTop (ef_0 m tp py) k
  have pre10 : ∀ t, Steps p.tables e below (s₁.setTop (mkF m 21 #[.val (.int tp), .val (.int py), .val (.int (tp &&& (65535 : Int32))), .val (.int (py &&& (2147483647 : Int32))), .val (.long (((4 : Int64) + ((tp &&& (65535 : Int32)).toInt64)) + ((py &&& (2147483647 : Int32)).toInt64))), .second, .unset, .unset, .unset] [])) t → Steps p.tables e below (s₁.setTop (entryFrame m #[(.int tp), (.int py)] maxLocals)) t := by
    intro t k
    refine pre0 _ ?_
    show Steps p.tables e below (s₁.setTop (mkF m 0 #[.val (.int tp), .val (.int py), .unset, .unset, .unset, .unset, .unset, .unset, .unset] [])) _
    refine XS.iloadN X0.here hx rfl (hb hby at_0) rfl ?_
    show Steps p.tables e below (s₁.setTop (mkF m 1 #[.val (.int tp), .val (.int py), .unset, .unset, .unset, .unset, .unset, .unset, .unset] [(.int tp)])) _
    refine X0.ldcInt hx hown (mvT hZ (hw _ (List.mem_of_getElem? (i := 0) rfl))) (g := (mkF m 1 #[.val (.int tp), .val (.int py), .unset, .unset, .unset, .unset, .unset, .unset, .unset] [(.int tp)])) rfl (hb hby at_1) _ ?_
    show Steps p.tables e below (s₁.setTop (mkF m 3 #[.val (.int tp), .val (.int py), .unset, .unset, .unset, .unset, .unset, .unset, .unset] [(.int (65535 : Int32)), (.int tp)])) _
    refine XS.iand X0.here hx rfl (hb hby at_3) rfl ?_
    show Steps p.tables e below (s₁.setTop (mkF m 4 #[.val (.int tp), .val (.int py), .unset, .unset, .unset, .unset, .unset, .unset, .unset] [(.int (tp &&& (65535 : Int32)))])) _
    refine XS.istoreN X0.here hx rfl (hb hby at_4) rfl (l' := #[.val (.int tp), .val (.int py), .val (.int (tp &&& (65535 : Int32))), .unset, .unset, .unset, .unset, .unset, .unset]) rfl ?_
    show Steps p.tables e below (s₁.setTop (mkF m 5 #[.val (.int tp), .val (.int py), .val (.int (tp &&& (65535 : Int32))), .unset, .unset, .unset, .unset, .unset, .unset] [])) _
    refine XS.iloadN X0.here hx rfl (hb hby at_5) rfl ?_
    show Steps p.tables e below (s₁.setTop (mkF m 6 #[.val (.int tp), .val (.int py), .val (.int (tp &&& (65535 : Int32))), .unset, .unset, .unset, .unset, .unset, .unset] [(.int py)])) _
    refine X0.ldcInt hx hown (mvT hZ (hw _ (List.mem_of_getElem? (i := 1) rfl))) (g := (mkF m 6 #[.val (.int tp), .val (.int py), .val (.int (tp &&& (65535 : Int32))), .unset, .unset, .unset, .unset, .unset, .unset] [(.int py)])) rfl (hb hby at_6) _ ?_
    show Steps p.tables e below (s₁.setTop (mkF m 8 #[.val (.int tp), .val (.int py), .val (.int (tp &&& (65535 : Int32))), .unset, .unset, .unset, .unset, .unset, .unset] [(.int (2147483647 : Int32)), (.int py)])) _
    refine XS.iand X0.here hx rfl (hb hby at_8) rfl ?_
    show Steps p.tables e below (s₁.setTop (mkF m 9 #[.val (.int tp), .val (.int py), .val (.int (tp &&& (65535 : Int32))), .unset, .unset, .unset, .unset, .unset, .unset] [(.int (py &&& (2147483647 : Int32)))])) _
    refine XS.istoreN X0.here hx rfl (hb hby at_9) rfl (l' := #[.val (.int tp), .val (.int py), .val (.int (tp &&& (65535 : Int32))), .val (.int (py &&& (2147483647 : Int32))), .unset, .unset, .unset, .unset, .unset]) rfl ?_
    show Steps p.tables e below (s₁.setTop (mkF m 10 #[.val (.int tp), .val (.int py), .val (.int (tp &&& (65535 : Int32))), .val (.int (py &&& (2147483647 : Int32))), .unset, .unset, .unset, .unset, .unset] [])) _
    refine X0.ldc2Long hx hown (mvT hZ (hw _ (List.mem_of_getElem? (i := 2) rfl))) (g := (mkF m 10 #[.val (.int tp), .val (.int py), .val (.int (tp &&& (65535 : Int32))), .val (.int (py &&& (2147483647 : Int32))), .unset, .unset, .unset, .unset, .unset] [])) rfl (hb hby at_10) _ ?_
    show Steps p.tables e below (s₁.setTop (mkF m 13 #[.val (.int tp), .val (.int py), .val (.int (tp &&& (65535 : Int32))), .val (.int (py &&& (2147483647 : Int32))), .unset, .unset, .unset, .unset, .unset] [(.long (4 : Int64))])) _
    refine XS.iloadN X0.here hx rfl (hb hby at_13) rfl ?_
    show Steps p.tables e below (s₁.setTop (mkF m 14 #[.val (.int tp), .val (.int py), .val (.int (tp &&& (65535 : Int32))), .val (.int (py &&& (2147483647 : Int32))), .unset, .unset, .unset, .unset, .unset] [(.int (tp &&& (65535 : Int32))), (.long (4 : Int64))])) _
    refine XS.i2l X0.here hx rfl (hb hby at_14) rfl ?_
    show Steps p.tables e below (s₁.setTop (mkF m 15 #[.val (.int tp), .val (.int py), .val (.int (tp &&& (65535 : Int32))), .val (.int (py &&& (2147483647 : Int32))), .unset, .unset, .unset, .unset, .unset] [(.long ((tp &&& (65535 : Int32)).toInt64)), (.long (4 : Int64))])) _
    refine XS.ladd X0.here hx rfl (hb hby at_15) rfl ?_
    show Steps p.tables e below (s₁.setTop (mkF m 16 #[.val (.int tp), .val (.int py), .val (.int (tp &&& (65535 : Int32))), .val (.int (py &&& (2147483647 : Int32))), .unset, .unset, .unset, .unset, .unset] [(.long ((4 : Int64) + ((tp &&& (65535 : Int32)).toInt64)))])) _
    refine XS.iloadN X0.here hx rfl (hb hby at_16) rfl ?_
    show Steps p.tables e below (s₁.setTop (mkF m 17 #[.val (.int tp), .val (.int py), .val (.int (tp &&& (65535 : Int32))), .val (.int (py &&& (2147483647 : Int32))), .unset, .unset, .unset, .unset, .unset] [(.int (py &&& (2147483647 : Int32))), (.long ((4 : Int64) + ((tp &&& (65535 : Int32)).toInt64)))])) _
    refine XS.i2l X0.here hx rfl (hb hby at_17) rfl ?_
    show Steps p.tables e below (s₁.setTop (mkF m 18 #[.val (.int tp), .val (.int py), .val (.int (tp &&& (65535 : Int32))), .val (.int (py &&& (2147483647 : Int32))), .unset, .unset, .unset, .unset, .unset] [(.long ((py &&& (2147483647 : Int32)).toInt64)), (.long ((4 : Int64) + ((tp &&& (65535 : Int32)).toInt64)))])) _
    refine XS.ladd X0.here hx rfl (hb hby at_18) rfl ?_
    show Steps p.tables e below (s₁.setTop (mkF m 19 #[.val (.int tp), .val (.int py), .val (.int (tp &&& (65535 : Int32))), .val (.int (py &&& (2147483647 : Int32))), .unset, .unset, .unset, .unset, .unset] [(.long (((4 : Int64) + ((tp &&& (65535 : Int32)).toInt64)) + ((py &&& (2147483647 : Int32)).toInt64)))])) _
    refine XS.lstore X0.here hx rfl (hb hby at_19) rfl (l' := #[.val (.int tp), .val (.int py), .val (.int (tp &&& (65535 : Int32))), .val (.int (py &&& (2147483647 : Int32))), .val (.long (((4 : Int64) + ((tp &&& (65535 : Int32)).toInt64)) + ((py &&& (2147483647 : Int32)).toInt64))), .second, .unset, .unset, .unset]) rfl ?_
    exact k
  have pre11 : ∀ t, Steps p.tables e below (s₁.setTop (mkF m 84 #[.val (.int tp), .val (.int py), .val (.int (tp &&& (65535 : Int32))), .val (.int (py &&& (2147483647 : Int32))), .val (.long (((4 : Int64) + ((tp &&& (65535 : Int32)).toInt64)) + ((py &&& (2147483647 : Int32)).toInt64))), .second, .val (.int (j0_21_l6 tp py)), .unset, .unset] [])) t → Steps p.tables e below (s₁.setTop (entryFrame m #[(.int tp), (.int py)] maxLocals)) t := by
    intro t k
    refine pre10 _ ?_
    show Steps p.tables e below (s₁.setTop (mkF m 21 #[.val (.int tp), .val (.int py), .val (.int (tp &&& (65535 : Int32))), .val (.int (py &&& (2147483647 : Int32))), .val (.long (((4 : Int64) + ((tp &&& (65535 : Int32)).toInt64)) + ((py &&& (2147483647 : Int32)).toInt64))), .second, .unset, .unset, .unset] [])) _
    refine XS.lload X0.here hx rfl (hb hby at_21) rfl ?_
    show Steps p.tables e below (s₁.setTop (mkF m 23 #[.val (.int tp), .val (.int py), .val (.int (tp &&& (65535 : Int32))), .val (.int (py &&& (2147483647 : Int32))), .val (.long (((4 : Int64) + ((tp &&& (65535 : Int32)).toInt64)) + ((py &&& (2147483647 : Int32)).toInt64))), .second, .unset, .unset, .unset] [(.long (((4 : Int64) + ((tp &&& (65535 : Int32)).toInt64)) + ((py &&& (2147483647 : Int32)).toInt64)))])) _
    refine X0.ldc2Long hx hown (mvT hZ (hw _ (List.mem_of_getElem? (i := 3) rfl))) (g := (mkF m 23 #[.val (.int tp), .val (.int py), .val (.int (tp &&& (65535 : Int32))), .val (.int (py &&& (2147483647 : Int32))), .val (.long (((4 : Int64) + ((tp &&& (65535 : Int32)).toInt64)) + ((py &&& (2147483647 : Int32)).toInt64))), .second, .unset, .unset, .unset] [(.long (((4 : Int64) + ((tp &&& (65535 : Int32)).toInt64)) + ((py &&& (2147483647 : Int32)).toInt64)))])) rfl (hb hby at_23) _ ?_
    show Steps p.tables e below (s₁.setTop (mkF m 26 #[.val (.int tp), .val (.int py), .val (.int (tp &&& (65535 : Int32))), .val (.int (py &&& (2147483647 : Int32))), .val (.long (((4 : Int64) + ((tp &&& (65535 : Int32)).toInt64)) + ((py &&& (2147483647 : Int32)).toInt64))), .second, .unset, .unset, .unset] [(.long (128 : Int64)), (.long (((4 : Int64) + ((tp &&& (65535 : Int32)).toInt64)) + ((py &&& (2147483647 : Int32)).toInt64)))])) _
    refine XS.lcmp X0.here hx rfl (hb hby at_26) rfl ?_
    by_cases hk1 : (((4 : Int64) + ((tp &&& (65535 : Int32)).toInt64)) + ((py &&& (2147483647 : Int32)).toInt64)) < (128 : Int64)
    · show Steps p.tables e below (s₁.setTop (mkF m 27 #[.val (.int tp), .val (.int py), .val (.int (tp &&& (65535 : Int32))), .val (.int (py &&& (2147483647 : Int32))), .val (.long (((4 : Int64) + ((tp &&& (65535 : Int32)).toInt64)) + ((py &&& (2147483647 : Int32)).toInt64))), .second, .unset, .unset, .unset] [(.int (lcmpW (((4 : Int64) + ((tp &&& (65535 : Int32)).toInt64)) + ((py &&& (2147483647 : Int32)).toInt64)) (128 : Int64)))])) _
      refine XS.ifNo X0.here hx rfl (hb hby at_27) rfl (own_tltL hk1).2.1 ?_
      show Steps p.tables e below (s₁.setTop (mkF m 30 #[.val (.int tp), .val (.int py), .val (.int (tp &&& (65535 : Int32))), .val (.int (py &&& (2147483647 : Int32))), .val (.long (((4 : Int64) + ((tp &&& (65535 : Int32)).toInt64)) + ((py &&& (2147483647 : Int32)).toInt64))), .second, .unset, .unset, .unset] [])) _
      refine XS.iconst X0.here hx rfl (hb hby at_30) ?_
      show Steps p.tables e below (s₁.setTop (mkF m 31 #[.val (.int tp), .val (.int py), .val (.int (tp &&& (65535 : Int32))), .val (.int (py &&& (2147483647 : Int32))), .val (.long (((4 : Int64) + ((tp &&& (65535 : Int32)).toInt64)) + ((py &&& (2147483647 : Int32)).toInt64))), .second, .unset, .unset, .unset] [(.int (1 : Int32))])) _
      refine XS.istore X0.here hx rfl (hb hby at_31) rfl (l' := #[.val (.int tp), .val (.int py), .val (.int (tp &&& (65535 : Int32))), .val (.int (py &&& (2147483647 : Int32))), .val (.long (((4 : Int64) + ((tp &&& (65535 : Int32)).toInt64)) + ((py &&& (2147483647 : Int32)).toInt64))), .second, .val (.int (1 : Int32)), .unset, .unset]) rfl ?_
      show Steps p.tables e below (s₁.setTop (mkF m 33 #[.val (.int tp), .val (.int py), .val (.int (tp &&& (65535 : Int32))), .val (.int (py &&& (2147483647 : Int32))), .val (.long (((4 : Int64) + ((tp &&& (65535 : Int32)).toInt64)) + ((py &&& (2147483647 : Int32)).toInt64))), .second, .val (.int (1 : Int32)), .unset, .unset] [])) _
      refine XS.goto X0.here hx rfl (pc0 := 33) (pc' := 84) rfl (hb hby at_33) (by decide) (by decide) ?_
      have ev5 : (j0_21_l6 tp py) = (1 : Int32) := by unfold j0_21_l6; rw [if_pos hk1]
      rw [ev5] at k
      exact k
    · show Steps p.tables e below (s₁.setTop (mkF m 27 #[.val (.int tp), .val (.int py), .val (.int (tp &&& (65535 : Int32))), .val (.int (py &&& (2147483647 : Int32))), .val (.long (((4 : Int64) + ((tp &&& (65535 : Int32)).toInt64)) + ((py &&& (2147483647 : Int32)).toInt64))), .second, .unset, .unset, .unset] [(.int (lcmpW (((4 : Int64) + ((tp &&& (65535 : Int32)).toInt64)) + ((py &&& (2147483647 : Int32)).toInt64)) (128 : Int64)))])) _
      refine XS.ifYes X0.here hx rfl (pc0 := 27) (pc' := 36) rfl (hb hby at_27) rfl (own_fltL hk1).2.1 (by decide) (by decide) ?_
      show Steps p.tables e below (s₁.setTop (mkF m 36 #[.val (.int tp), .val (.int py), .val (.int (tp &&& (65535 : Int32))), .val (.int (py &&& (2147483647 : Int32))), .val (.long (((4 : Int64) + ((tp &&& (65535 : Int32)).toInt64)) + ((py &&& (2147483647 : Int32)).toInt64))), .second, .unset, .unset, .unset] [])) _
      refine XS.lload X0.here hx rfl (hb hby at_36) rfl ?_
      show Steps p.tables e below (s₁.setTop (mkF m 38 #[.val (.int tp), .val (.int py), .val (.int (tp &&& (65535 : Int32))), .val (.int (py &&& (2147483647 : Int32))), .val (.long (((4 : Int64) + ((tp &&& (65535 : Int32)).toInt64)) + ((py &&& (2147483647 : Int32)).toInt64))), .second, .unset, .unset, .unset] [(.long (((4 : Int64) + ((tp &&& (65535 : Int32)).toInt64)) + ((py &&& (2147483647 : Int32)).toInt64)))])) _
      refine X0.ldc2Long hx hown (mvT hZ (hw _ (List.mem_of_getElem? (i := 9) rfl))) (g := (mkF m 38 #[.val (.int tp), .val (.int py), .val (.int (tp &&& (65535 : Int32))), .val (.int (py &&& (2147483647 : Int32))), .val (.long (((4 : Int64) + ((tp &&& (65535 : Int32)).toInt64)) + ((py &&& (2147483647 : Int32)).toInt64))), .second, .unset, .unset, .unset] [(.long (((4 : Int64) + ((tp &&& (65535 : Int32)).toInt64)) + ((py &&& (2147483647 : Int32)).toInt64)))])) rfl (hb hby at_38) _ ?_
      show Steps p.tables e below (s₁.setTop (mkF m 41 #[.val (.int tp), .val (.int py), .val (.int (tp &&& (65535 : Int32))), .val (.int (py &&& (2147483647 : Int32))), .val (.long (((4 : Int64) + ((tp &&& (65535 : Int32)).toInt64)) + ((py &&& (2147483647 : Int32)).toInt64))), .second, .unset, .unset, .unset] [(.long (16384 : Int64)), (.long (((4 : Int64) + ((tp &&& (65535 : Int32)).toInt64)) + ((py &&& (2147483647 : Int32)).toInt64)))])) _
      refine XS.lcmp X0.here hx rfl (hb hby at_41) rfl ?_
      by_cases hk2 : (((4 : Int64) + ((tp &&& (65535 : Int32)).toInt64)) + ((py &&& (2147483647 : Int32)).toInt64)) < (16384 : Int64)
      · show Steps p.tables e below (s₁.setTop (mkF m 42 #[.val (.int tp), .val (.int py), .val (.int (tp &&& (65535 : Int32))), .val (.int (py &&& (2147483647 : Int32))), .val (.long (((4 : Int64) + ((tp &&& (65535 : Int32)).toInt64)) + ((py &&& (2147483647 : Int32)).toInt64))), .second, .unset, .unset, .unset] [(.int (lcmpW (((4 : Int64) + ((tp &&& (65535 : Int32)).toInt64)) + ((py &&& (2147483647 : Int32)).toInt64)) (16384 : Int64)))])) _
        refine XS.ifNo X0.here hx rfl (hb hby at_42) rfl (own_tltL hk2).2.1 ?_
        show Steps p.tables e below (s₁.setTop (mkF m 45 #[.val (.int tp), .val (.int py), .val (.int (tp &&& (65535 : Int32))), .val (.int (py &&& (2147483647 : Int32))), .val (.long (((4 : Int64) + ((tp &&& (65535 : Int32)).toInt64)) + ((py &&& (2147483647 : Int32)).toInt64))), .second, .unset, .unset, .unset] [])) _
        refine XS.iconst X0.here hx rfl (hb hby at_45) ?_
        show Steps p.tables e below (s₁.setTop (mkF m 46 #[.val (.int tp), .val (.int py), .val (.int (tp &&& (65535 : Int32))), .val (.int (py &&& (2147483647 : Int32))), .val (.long (((4 : Int64) + ((tp &&& (65535 : Int32)).toInt64)) + ((py &&& (2147483647 : Int32)).toInt64))), .second, .unset, .unset, .unset] [(.int (2 : Int32))])) _
        refine XS.istore X0.here hx rfl (hb hby at_46) rfl (l' := #[.val (.int tp), .val (.int py), .val (.int (tp &&& (65535 : Int32))), .val (.int (py &&& (2147483647 : Int32))), .val (.long (((4 : Int64) + ((tp &&& (65535 : Int32)).toInt64)) + ((py &&& (2147483647 : Int32)).toInt64))), .second, .val (.int (2 : Int32)), .unset, .unset]) rfl ?_
        show Steps p.tables e below (s₁.setTop (mkF m 48 #[.val (.int tp), .val (.int py), .val (.int (tp &&& (65535 : Int32))), .val (.int (py &&& (2147483647 : Int32))), .val (.long (((4 : Int64) + ((tp &&& (65535 : Int32)).toInt64)) + ((py &&& (2147483647 : Int32)).toInt64))), .second, .val (.int (2 : Int32)), .unset, .unset] [])) _
        refine XS.goto X0.here hx rfl (pc0 := 48) (pc' := 84) rfl (hb hby at_48) (by decide) (by decide) ?_
        have ev6 : (j0_21_l6 tp py) = (2 : Int32) := by unfold j0_21_l6; rw [if_neg hk1, if_pos hk2]
        rw [ev6] at k
        exact k
      · show Steps p.tables e below (s₁.setTop (mkF m 42 #[.val (.int tp), .val (.int py), .val (.int (tp &&& (65535 : Int32))), .val (.int (py &&& (2147483647 : Int32))), .val (.long (((4 : Int64) + ((tp &&& (65535 : Int32)).toInt64)) + ((py &&& (2147483647 : Int32)).toInt64))), .second, .unset, .unset, .unset] [(.int (lcmpW (((4 : Int64) + ((tp &&& (65535 : Int32)).toInt64)) + ((py &&& (2147483647 : Int32)).toInt64)) (16384 : Int64)))])) _
        refine XS.ifYes X0.here hx rfl (pc0 := 42) (pc' := 51) rfl (hb hby at_42) rfl (own_fltL hk2).2.1 (by decide) (by decide) ?_
        show Steps p.tables e below (s₁.setTop (mkF m 51 #[.val (.int tp), .val (.int py), .val (.int (tp &&& (65535 : Int32))), .val (.int (py &&& (2147483647 : Int32))), .val (.long (((4 : Int64) + ((tp &&& (65535 : Int32)).toInt64)) + ((py &&& (2147483647 : Int32)).toInt64))), .second, .unset, .unset, .unset] [])) _
        refine XS.lload X0.here hx rfl (hb hby at_51) rfl ?_
        show Steps p.tables e below (s₁.setTop (mkF m 53 #[.val (.int tp), .val (.int py), .val (.int (tp &&& (65535 : Int32))), .val (.int (py &&& (2147483647 : Int32))), .val (.long (((4 : Int64) + ((tp &&& (65535 : Int32)).toInt64)) + ((py &&& (2147483647 : Int32)).toInt64))), .second, .unset, .unset, .unset] [(.long (((4 : Int64) + ((tp &&& (65535 : Int32)).toInt64)) + ((py &&& (2147483647 : Int32)).toInt64)))])) _
        refine X0.ldc2Long hx hown (mvT hZ (hw _ (List.mem_of_getElem? (i := 10) rfl))) (g := (mkF m 53 #[.val (.int tp), .val (.int py), .val (.int (tp &&& (65535 : Int32))), .val (.int (py &&& (2147483647 : Int32))), .val (.long (((4 : Int64) + ((tp &&& (65535 : Int32)).toInt64)) + ((py &&& (2147483647 : Int32)).toInt64))), .second, .unset, .unset, .unset] [(.long (((4 : Int64) + ((tp &&& (65535 : Int32)).toInt64)) + ((py &&& (2147483647 : Int32)).toInt64)))])) rfl (hb hby at_53) _ ?_
        show Steps p.tables e below (s₁.setTop (mkF m 56 #[.val (.int tp), .val (.int py), .val (.int (tp &&& (65535 : Int32))), .val (.int (py &&& (2147483647 : Int32))), .val (.long (((4 : Int64) + ((tp &&& (65535 : Int32)).toInt64)) + ((py &&& (2147483647 : Int32)).toInt64))), .second, .unset, .unset, .unset] [(.long (2097152 : Int64)), (.long (((4 : Int64) + ((tp &&& (65535 : Int32)).toInt64)) + ((py &&& (2147483647 : Int32)).toInt64)))])) _
        refine XS.lcmp X0.here hx rfl (hb hby at_56) rfl ?_
        by_cases hk3 : (((4 : Int64) + ((tp &&& (65535 : Int32)).toInt64)) + ((py &&& (2147483647 : Int32)).toInt64)) < (2097152 : Int64)
        · show Steps p.tables e below (s₁.setTop (mkF m 57 #[.val (.int tp), .val (.int py), .val (.int (tp &&& (65535 : Int32))), .val (.int (py &&& (2147483647 : Int32))), .val (.long (((4 : Int64) + ((tp &&& (65535 : Int32)).toInt64)) + ((py &&& (2147483647 : Int32)).toInt64))), .second, .unset, .unset, .unset] [(.int (lcmpW (((4 : Int64) + ((tp &&& (65535 : Int32)).toInt64)) + ((py &&& (2147483647 : Int32)).toInt64)) (2097152 : Int64)))])) _
          refine XS.ifNo X0.here hx rfl (hb hby at_57) rfl (own_tltL hk3).2.1 ?_
          show Steps p.tables e below (s₁.setTop (mkF m 60 #[.val (.int tp), .val (.int py), .val (.int (tp &&& (65535 : Int32))), .val (.int (py &&& (2147483647 : Int32))), .val (.long (((4 : Int64) + ((tp &&& (65535 : Int32)).toInt64)) + ((py &&& (2147483647 : Int32)).toInt64))), .second, .unset, .unset, .unset] [])) _
          refine XS.iconst X0.here hx rfl (hb hby at_60) ?_
          show Steps p.tables e below (s₁.setTop (mkF m 61 #[.val (.int tp), .val (.int py), .val (.int (tp &&& (65535 : Int32))), .val (.int (py &&& (2147483647 : Int32))), .val (.long (((4 : Int64) + ((tp &&& (65535 : Int32)).toInt64)) + ((py &&& (2147483647 : Int32)).toInt64))), .second, .unset, .unset, .unset] [(.int (3 : Int32))])) _
          refine XS.istore X0.here hx rfl (hb hby at_61) rfl (l' := #[.val (.int tp), .val (.int py), .val (.int (tp &&& (65535 : Int32))), .val (.int (py &&& (2147483647 : Int32))), .val (.long (((4 : Int64) + ((tp &&& (65535 : Int32)).toInt64)) + ((py &&& (2147483647 : Int32)).toInt64))), .second, .val (.int (3 : Int32)), .unset, .unset]) rfl ?_
          show Steps p.tables e below (s₁.setTop (mkF m 63 #[.val (.int tp), .val (.int py), .val (.int (tp &&& (65535 : Int32))), .val (.int (py &&& (2147483647 : Int32))), .val (.long (((4 : Int64) + ((tp &&& (65535 : Int32)).toInt64)) + ((py &&& (2147483647 : Int32)).toInt64))), .second, .val (.int (3 : Int32)), .unset, .unset] [])) _
          refine XS.goto X0.here hx rfl (pc0 := 63) (pc' := 84) rfl (hb hby at_63) (by decide) (by decide) ?_
          have ev7 : (j0_21_l6 tp py) = (3 : Int32) := by unfold j0_21_l6; rw [if_neg hk1, if_neg hk2, if_pos hk3]
          rw [ev7] at k
          exact k
        · show Steps p.tables e below (s₁.setTop (mkF m 57 #[.val (.int tp), .val (.int py), .val (.int (tp &&& (65535 : Int32))), .val (.int (py &&& (2147483647 : Int32))), .val (.long (((4 : Int64) + ((tp &&& (65535 : Int32)).toInt64)) + ((py &&& (2147483647 : Int32)).toInt64))), .second, .unset, .unset, .unset] [(.int (lcmpW (((4 : Int64) + ((tp &&& (65535 : Int32)).toInt64)) + ((py &&& (2147483647 : Int32)).toInt64)) (2097152 : Int64)))])) _
          refine XS.ifYes X0.here hx rfl (pc0 := 57) (pc' := 66) rfl (hb hby at_57) rfl (own_fltL hk3).2.1 (by decide) (by decide) ?_
          show Steps p.tables e below (s₁.setTop (mkF m 66 #[.val (.int tp), .val (.int py), .val (.int (tp &&& (65535 : Int32))), .val (.int (py &&& (2147483647 : Int32))), .val (.long (((4 : Int64) + ((tp &&& (65535 : Int32)).toInt64)) + ((py &&& (2147483647 : Int32)).toInt64))), .second, .unset, .unset, .unset] [])) _
          refine XS.lload X0.here hx rfl (hb hby at_66) rfl ?_
          show Steps p.tables e below (s₁.setTop (mkF m 68 #[.val (.int tp), .val (.int py), .val (.int (tp &&& (65535 : Int32))), .val (.int (py &&& (2147483647 : Int32))), .val (.long (((4 : Int64) + ((tp &&& (65535 : Int32)).toInt64)) + ((py &&& (2147483647 : Int32)).toInt64))), .second, .unset, .unset, .unset] [(.long (((4 : Int64) + ((tp &&& (65535 : Int32)).toInt64)) + ((py &&& (2147483647 : Int32)).toInt64)))])) _
          refine X0.ldc2Long hx hown (mvT hZ (hw _ (List.mem_of_getElem? (i := 11) rfl))) (g := (mkF m 68 #[.val (.int tp), .val (.int py), .val (.int (tp &&& (65535 : Int32))), .val (.int (py &&& (2147483647 : Int32))), .val (.long (((4 : Int64) + ((tp &&& (65535 : Int32)).toInt64)) + ((py &&& (2147483647 : Int32)).toInt64))), .second, .unset, .unset, .unset] [(.long (((4 : Int64) + ((tp &&& (65535 : Int32)).toInt64)) + ((py &&& (2147483647 : Int32)).toInt64)))])) rfl (hb hby at_68) _ ?_
          show Steps p.tables e below (s₁.setTop (mkF m 71 #[.val (.int tp), .val (.int py), .val (.int (tp &&& (65535 : Int32))), .val (.int (py &&& (2147483647 : Int32))), .val (.long (((4 : Int64) + ((tp &&& (65535 : Int32)).toInt64)) + ((py &&& (2147483647 : Int32)).toInt64))), .second, .unset, .unset, .unset] [(.long (268435456 : Int64)), (.long (((4 : Int64) + ((tp &&& (65535 : Int32)).toInt64)) + ((py &&& (2147483647 : Int32)).toInt64)))])) _
          refine XS.lcmp X0.here hx rfl (hb hby at_71) rfl ?_
          by_cases hk4 : (((4 : Int64) + ((tp &&& (65535 : Int32)).toInt64)) + ((py &&& (2147483647 : Int32)).toInt64)) < (268435456 : Int64)
          · show Steps p.tables e below (s₁.setTop (mkF m 72 #[.val (.int tp), .val (.int py), .val (.int (tp &&& (65535 : Int32))), .val (.int (py &&& (2147483647 : Int32))), .val (.long (((4 : Int64) + ((tp &&& (65535 : Int32)).toInt64)) + ((py &&& (2147483647 : Int32)).toInt64))), .second, .unset, .unset, .unset] [(.int (lcmpW (((4 : Int64) + ((tp &&& (65535 : Int32)).toInt64)) + ((py &&& (2147483647 : Int32)).toInt64)) (268435456 : Int64)))])) _
            refine XS.ifNo X0.here hx rfl (hb hby at_72) rfl (own_tltL hk4).2.1 ?_
            show Steps p.tables e below (s₁.setTop (mkF m 75 #[.val (.int tp), .val (.int py), .val (.int (tp &&& (65535 : Int32))), .val (.int (py &&& (2147483647 : Int32))), .val (.long (((4 : Int64) + ((tp &&& (65535 : Int32)).toInt64)) + ((py &&& (2147483647 : Int32)).toInt64))), .second, .unset, .unset, .unset] [])) _
            refine XS.iconst X0.here hx rfl (hb hby at_75) ?_
            show Steps p.tables e below (s₁.setTop (mkF m 76 #[.val (.int tp), .val (.int py), .val (.int (tp &&& (65535 : Int32))), .val (.int (py &&& (2147483647 : Int32))), .val (.long (((4 : Int64) + ((tp &&& (65535 : Int32)).toInt64)) + ((py &&& (2147483647 : Int32)).toInt64))), .second, .unset, .unset, .unset] [(.int (4 : Int32))])) _
            refine XS.istore X0.here hx rfl (hb hby at_76) rfl (l' := #[.val (.int tp), .val (.int py), .val (.int (tp &&& (65535 : Int32))), .val (.int (py &&& (2147483647 : Int32))), .val (.long (((4 : Int64) + ((tp &&& (65535 : Int32)).toInt64)) + ((py &&& (2147483647 : Int32)).toInt64))), .second, .val (.int (4 : Int32)), .unset, .unset]) rfl ?_
            show Steps p.tables e below (s₁.setTop (mkF m 78 #[.val (.int tp), .val (.int py), .val (.int (tp &&& (65535 : Int32))), .val (.int (py &&& (2147483647 : Int32))), .val (.long (((4 : Int64) + ((tp &&& (65535 : Int32)).toInt64)) + ((py &&& (2147483647 : Int32)).toInt64))), .second, .val (.int (4 : Int32)), .unset, .unset] [])) _
            refine XS.goto X0.here hx rfl (pc0 := 78) (pc' := 84) rfl (hb hby at_78) (by decide) (by decide) ?_
            have ev8 : (j0_21_l6 tp py) = (4 : Int32) := by unfold j0_21_l6; rw [if_neg hk1, if_neg hk2, if_neg hk3, if_pos hk4]
            rw [ev8] at k
            exact k
          · show Steps p.tables e below (s₁.setTop (mkF m 72 #[.val (.int tp), .val (.int py), .val (.int (tp &&& (65535 : Int32))), .val (.int (py &&& (2147483647 : Int32))), .val (.long (((4 : Int64) + ((tp &&& (65535 : Int32)).toInt64)) + ((py &&& (2147483647 : Int32)).toInt64))), .second, .unset, .unset, .unset] [(.int (lcmpW (((4 : Int64) + ((tp &&& (65535 : Int32)).toInt64)) + ((py &&& (2147483647 : Int32)).toInt64)) (268435456 : Int64)))])) _
            refine XS.ifYes X0.here hx rfl (pc0 := 72) (pc' := 81) rfl (hb hby at_72) rfl (own_fltL hk4).2.1 (by decide) (by decide) ?_
            show Steps p.tables e below (s₁.setTop (mkF m 81 #[.val (.int tp), .val (.int py), .val (.int (tp &&& (65535 : Int32))), .val (.int (py &&& (2147483647 : Int32))), .val (.long (((4 : Int64) + ((tp &&& (65535 : Int32)).toInt64)) + ((py &&& (2147483647 : Int32)).toInt64))), .second, .unset, .unset, .unset] [])) _
            refine XS.iconst X0.here hx rfl (hb hby at_81) ?_
            show Steps p.tables e below (s₁.setTop (mkF m 82 #[.val (.int tp), .val (.int py), .val (.int (tp &&& (65535 : Int32))), .val (.int (py &&& (2147483647 : Int32))), .val (.long (((4 : Int64) + ((tp &&& (65535 : Int32)).toInt64)) + ((py &&& (2147483647 : Int32)).toInt64))), .second, .unset, .unset, .unset] [(.int (5 : Int32))])) _
            refine XS.istore X0.here hx rfl (hb hby at_82) rfl (l' := #[.val (.int tp), .val (.int py), .val (.int (tp &&& (65535 : Int32))), .val (.int (py &&& (2147483647 : Int32))), .val (.long (((4 : Int64) + ((tp &&& (65535 : Int32)).toInt64)) + ((py &&& (2147483647 : Int32)).toInt64))), .second, .val (.int (5 : Int32)), .unset, .unset]) rfl ?_
            have ev9 : (j0_21_l6 tp py) = (5 : Int32) := by unfold j0_21_l6; rw [if_neg hk1, if_neg hk2, if_neg hk3, if_neg hk4]
            rw [ev9] at k
            exact k
  obtain ⟨_, _, ⟨T12, L12, k12, n12⟩, -, X12, ⟨Lc12, hQ12, l12, y12, z12⟩, st12⟩ := Jvm.LawKit.callS X0 hx (y := (⟨"com/example/hikyaku/hikyaku/mqtt/MqttPacket", "publishBytes", "(II)J"⟩ : MethodName)) hown (mvT hZ (hw _ (List.mem_of_getElem? (i := 4) rfl))) (mvT hZ (hw _ (List.mem_of_getElem? (i := 5) rfl))) (mvT hZ (hw _ (List.mem_of_getElem? (i := 6) rfl))) (mvT hZ (hw _ (List.mem_of_getElem? (i := 7) rfl))) (by decide) (backOf (W := 0) (rm1 l Z a0 hw [] (tp &&& (65535 : Int32)) (py &&& (2147483647 : Int32)) h0 n0 Z0 (own_p tp py)) hZ (hw _ (List.mem_of_getElem? (i := 7) rfl)) (hw _ (List.mem_of_getElem? (i := 6) rfl)) (by decide) (by decide)) (g := (mkF m 96 #[.val (.int tp), .val (.int py), .val (.int (tp &&& (65535 : Int32))), .val (.int (py &&& (2147483647 : Int32))), .val (.long (((4 : Int64) + ((tp &&& (65535 : Int32)).toInt64)) + ((py &&& (2147483647 : Int32)).toInt64))), .second, .val (.int (j0_21_l6 tp py)), .val (.long (((1 : Int64) + ((j0_21_l6 tp py).toInt64)) + (((4 : Int64) + ((tp &&& (65535 : Int32)).toInt64)) + ((py &&& (2147483647 : Int32)).toInt64)))), .second] [(.int (py &&& (2147483647 : Int32))), (.int (tp &&& (65535 : Int32)))])) rfl (by rw [hml]; rfl) (argsL := [(.int (tp &&& (65535 : Int32))), (.int (py &&& (2147483647 : Int32)))]) (rest := []) (lenOf pd_0 rfl) rfl (by show 2 * 0 + _ ≤ _; exact Nat.le_of_eq rfl) (hb hby at_96) (fun _ _ => ⟨rfl, e0, (by decide : 0 + 0 ≤ _), (by decide : 0 + 0 ≤ _)⟩)
  dsimp only [Pt.U, Pt.locs, Pt.cells, Pt.slots] at X12 l12 y12 z12 st12 hQ12
  subst l12 y12 z12
  obtain ⟨rfl, N12q, e12⟩ := hQ12
  have N12 := Fr.app N0 N12q
  obtain ⟨fs, hr, hrun, hended, hW, hsame⟩ := X12.leave (v := some (.int (1 : Int32))) (fun h => by rw [Bd.returns] at h; cases h)
  refine ⟨_, _, pre11 _ ?_, hrun, hended, _, _, rfl, ?_, ⟨_, rfl⟩, hW, hsame.mono (by decide) (by decide)⟩
  · show Steps p.tables e below (s₁.setTop (mkF m 84 #[.val (.int tp), .val (.int py), .val (.int (tp &&& (65535 : Int32))), .val (.int (py &&& (2147483647 : Int32))), .val (.long (((4 : Int64) + ((tp &&& (65535 : Int32)).toInt64)) + ((py &&& (2147483647 : Int32)).toInt64))), .second, .val (.int (j0_21_l6 tp py)), .unset, .unset] [])) _
    refine XS.lconst X0.here hx rfl (hb hby at_84) ?_
    show Steps p.tables e below (s₁.setTop (mkF m 85 #[.val (.int tp), .val (.int py), .val (.int (tp &&& (65535 : Int32))), .val (.int (py &&& (2147483647 : Int32))), .val (.long (((4 : Int64) + ((tp &&& (65535 : Int32)).toInt64)) + ((py &&& (2147483647 : Int32)).toInt64))), .second, .val (.int (j0_21_l6 tp py)), .unset, .unset] [(.long (1 : Int64))])) _
    refine XS.iload X0.here hx rfl (hb hby at_85) rfl ?_
    show Steps p.tables e below (s₁.setTop (mkF m 87 #[.val (.int tp), .val (.int py), .val (.int (tp &&& (65535 : Int32))), .val (.int (py &&& (2147483647 : Int32))), .val (.long (((4 : Int64) + ((tp &&& (65535 : Int32)).toInt64)) + ((py &&& (2147483647 : Int32)).toInt64))), .second, .val (.int (j0_21_l6 tp py)), .unset, .unset] [(.int (j0_21_l6 tp py)), (.long (1 : Int64))])) _
    refine XS.i2l X0.here hx rfl (hb hby at_87) rfl ?_
    show Steps p.tables e below (s₁.setTop (mkF m 88 #[.val (.int tp), .val (.int py), .val (.int (tp &&& (65535 : Int32))), .val (.int (py &&& (2147483647 : Int32))), .val (.long (((4 : Int64) + ((tp &&& (65535 : Int32)).toInt64)) + ((py &&& (2147483647 : Int32)).toInt64))), .second, .val (.int (j0_21_l6 tp py)), .unset, .unset] [(.long ((j0_21_l6 tp py).toInt64)), (.long (1 : Int64))])) _
    refine XS.ladd X0.here hx rfl (hb hby at_88) rfl ?_
    show Steps p.tables e below (s₁.setTop (mkF m 89 #[.val (.int tp), .val (.int py), .val (.int (tp &&& (65535 : Int32))), .val (.int (py &&& (2147483647 : Int32))), .val (.long (((4 : Int64) + ((tp &&& (65535 : Int32)).toInt64)) + ((py &&& (2147483647 : Int32)).toInt64))), .second, .val (.int (j0_21_l6 tp py)), .unset, .unset] [(.long ((1 : Int64) + ((j0_21_l6 tp py).toInt64)))])) _
    refine XS.lload X0.here hx rfl (hb hby at_89) rfl ?_
    show Steps p.tables e below (s₁.setTop (mkF m 91 #[.val (.int tp), .val (.int py), .val (.int (tp &&& (65535 : Int32))), .val (.int (py &&& (2147483647 : Int32))), .val (.long (((4 : Int64) + ((tp &&& (65535 : Int32)).toInt64)) + ((py &&& (2147483647 : Int32)).toInt64))), .second, .val (.int (j0_21_l6 tp py)), .unset, .unset] [(.long (((4 : Int64) + ((tp &&& (65535 : Int32)).toInt64)) + ((py &&& (2147483647 : Int32)).toInt64))), (.long ((1 : Int64) + ((j0_21_l6 tp py).toInt64)))])) _
    refine XS.ladd X0.here hx rfl (hb hby at_91) rfl ?_
    show Steps p.tables e below (s₁.setTop (mkF m 92 #[.val (.int tp), .val (.int py), .val (.int (tp &&& (65535 : Int32))), .val (.int (py &&& (2147483647 : Int32))), .val (.long (((4 : Int64) + ((tp &&& (65535 : Int32)).toInt64)) + ((py &&& (2147483647 : Int32)).toInt64))), .second, .val (.int (j0_21_l6 tp py)), .unset, .unset] [(.long (((1 : Int64) + ((j0_21_l6 tp py).toInt64)) + (((4 : Int64) + ((tp &&& (65535 : Int32)).toInt64)) + ((py &&& (2147483647 : Int32)).toInt64))))])) _
    refine XS.lstore X0.here hx rfl (hb hby at_92) rfl (l' := #[.val (.int tp), .val (.int py), .val (.int (tp &&& (65535 : Int32))), .val (.int (py &&& (2147483647 : Int32))), .val (.long (((4 : Int64) + ((tp &&& (65535 : Int32)).toInt64)) + ((py &&& (2147483647 : Int32)).toInt64))), .second, .val (.int (j0_21_l6 tp py)), .val (.long (((1 : Int64) + ((j0_21_l6 tp py).toInt64)) + (((4 : Int64) + ((tp &&& (65535 : Int32)).toInt64)) + ((py &&& (2147483647 : Int32)).toInt64)))), .second]) rfl ?_
    show Steps p.tables e below (s₁.setTop (mkF m 94 #[.val (.int tp), .val (.int py), .val (.int (tp &&& (65535 : Int32))), .val (.int (py &&& (2147483647 : Int32))), .val (.long (((4 : Int64) + ((tp &&& (65535 : Int32)).toInt64)) + ((py &&& (2147483647 : Int32)).toInt64))), .second, .val (.int (j0_21_l6 tp py)), .val (.long (((1 : Int64) + ((j0_21_l6 tp py).toInt64)) + (((4 : Int64) + ((tp &&& (65535 : Int32)).toInt64)) + ((py &&& (2147483647 : Int32)).toInt64)))), .second] [])) _
    refine XS.iloadN X0.here hx rfl (hb hby at_94) rfl ?_
    show Steps p.tables e below (s₁.setTop (mkF m 95 #[.val (.int tp), .val (.int py), .val (.int (tp &&& (65535 : Int32))), .val (.int (py &&& (2147483647 : Int32))), .val (.long (((4 : Int64) + ((tp &&& (65535 : Int32)).toInt64)) + ((py &&& (2147483647 : Int32)).toInt64))), .second, .val (.int (j0_21_l6 tp py)), .val (.long (((1 : Int64) + ((j0_21_l6 tp py).toInt64)) + (((4 : Int64) + ((tp &&& (65535 : Int32)).toInt64)) + ((py &&& (2147483647 : Int32)).toInt64)))), .second] [(.int (tp &&& (65535 : Int32)))])) _
    refine XS.iloadN X0.here hx rfl (hb hby at_95) rfl ?_
    show Steps p.tables e below (s₁.setTop (mkF m 96 #[.val (.int tp), .val (.int py), .val (.int (tp &&& (65535 : Int32))), .val (.int (py &&& (2147483647 : Int32))), .val (.long (((4 : Int64) + ((tp &&& (65535 : Int32)).toInt64)) + ((py &&& (2147483647 : Int32)).toInt64))), .second, .val (.int (j0_21_l6 tp py)), .val (.long (((1 : Int64) + ((j0_21_l6 tp py).toInt64)) + (((4 : Int64) + ((tp &&& (65535 : Int32)).toInt64)) + ((py &&& (2147483647 : Int32)).toInt64)))), .second] [(.int (py &&& (2147483647 : Int32))), (.int (tp &&& (65535 : Int32)))])) _
    refine st12 _ ?_
    show Steps p.tables e below (T12.setTop (mkF m 99 #[.val (.int tp), .val (.int py), .val (.int (tp &&& (65535 : Int32))), .val (.int (py &&& (2147483647 : Int32))), .val (.long (((4 : Int64) + ((tp &&& (65535 : Int32)).toInt64)) + ((py &&& (2147483647 : Int32)).toInt64))), .second, .val (.int (j0_21_l6 tp py)), .val (.long (((1 : Int64) + ((j0_21_l6 tp py).toInt64)) + (((4 : Int64) + ((tp &&& (65535 : Int32)).toInt64)) + ((py &&& (2147483647 : Int32)).toInt64)))), .second] [(.long (r1_v (tp &&& (65535 : Int32)) (py &&& (2147483647 : Int32))))])) _
    refine XS.lload X12.here hx rfl (hb hby at_99) rfl ?_
    show Steps p.tables e below (T12.setTop (mkF m 101 #[.val (.int tp), .val (.int py), .val (.int (tp &&& (65535 : Int32))), .val (.int (py &&& (2147483647 : Int32))), .val (.long (((4 : Int64) + ((tp &&& (65535 : Int32)).toInt64)) + ((py &&& (2147483647 : Int32)).toInt64))), .second, .val (.int (j0_21_l6 tp py)), .val (.long (((1 : Int64) + ((j0_21_l6 tp py).toInt64)) + (((4 : Int64) + ((tp &&& (65535 : Int32)).toInt64)) + ((py &&& (2147483647 : Int32)).toInt64)))), .second] [(.long (((1 : Int64) + ((j0_21_l6 tp py).toInt64)) + (((4 : Int64) + ((tp &&& (65535 : Int32)).toInt64)) + ((py &&& (2147483647 : Int32)).toInt64)))), (.long (r1_v (tp &&& (65535 : Int32)) (py &&& (2147483647 : Int32))))])) _
    refine XS.lcmp X12.here hx rfl (hb hby at_101) rfl ?_
    show Steps p.tables e below (T12.setTop (mkF m 102 #[.val (.int tp), .val (.int py), .val (.int (tp &&& (65535 : Int32))), .val (.int (py &&& (2147483647 : Int32))), .val (.long (((4 : Int64) + ((tp &&& (65535 : Int32)).toInt64)) + ((py &&& (2147483647 : Int32)).toInt64))), .second, .val (.int (j0_21_l6 tp py)), .val (.long (((1 : Int64) + ((j0_21_l6 tp py).toInt64)) + (((4 : Int64) + ((tp &&& (65535 : Int32)).toInt64)) + ((py &&& (2147483647 : Int32)).toInt64)))), .second] [(.int (lcmpW (r1_v (tp &&& (65535 : Int32)) (py &&& (2147483647 : Int32))) (((1 : Int64) + ((j0_21_l6 tp py).toInt64)) + (((4 : Int64) + ((tp &&& (65535 : Int32)).toInt64)) + ((py &&& (2147483647 : Int32)).toInt64)))))])) _
    refine XS.ifNo X12.here hx rfl (hb hby at_102) rfl (own_teqL (own_fin tp py : ((r1_v (tp &&& (65535 : Int32)) (py &&& (2147483647 : Int32))) = (((1 : Int64) + ((j0_21_l6 tp py).toInt64)) + (((4 : Int64) + ((tp &&& (65535 : Int32)).toInt64)) + ((py &&& (2147483647 : Int32)).toInt64)))))).2 ?_
    show Steps p.tables e below (T12.setTop (mkF m 105 #[.val (.int tp), .val (.int py), .val (.int (tp &&& (65535 : Int32))), .val (.int (py &&& (2147483647 : Int32))), .val (.long (((4 : Int64) + ((tp &&& (65535 : Int32)).toInt64)) + ((py &&& (2147483647 : Int32)).toInt64))), .second, .val (.int (j0_21_l6 tp py)), .val (.long (((1 : Int64) + ((j0_21_l6 tp py).toInt64)) + (((4 : Int64) + ((tp &&& (65535 : Int32)).toInt64)) + ((py &&& (2147483647 : Int32)).toInt64)))), .second] [])) _
    refine XS.iconst X12.here hx rfl (hb hby at_105) ?_
    show Steps p.tables e below (T12.setTop (mkF m 106 #[.val (.int tp), .val (.int py), .val (.int (tp &&& (65535 : Int32))), .val (.int (py &&& (2147483647 : Int32))), .val (.long (((4 : Int64) + ((tp &&& (65535 : Int32)).toInt64)) + ((py &&& (2147483647 : Int32)).toInt64))), .second, .val (.int (j0_21_l6 tp py)), .val (.long (((1 : Int64) + ((j0_21_l6 tp py).toInt64)) + (((4 : Int64) + ((tp &&& (65535 : Int32)).toInt64)) + ((py &&& (2147483647 : Int32)).toInt64)))), .second] [(.int (1 : Int32))])) _
    refine XS.goto X12.here hx rfl (pc0 := 106) (pc' := 110) rfl (hb hby at_106) (by decide) (by decide) ?_
    show Steps p.tables e below (T12.setTop (mkF m 110 #[.val (.int tp), .val (.int py), .val (.int (tp &&& (65535 : Int32))), .val (.int (py &&& (2147483647 : Int32))), .val (.long (((4 : Int64) + ((tp &&& (65535 : Int32)).toInt64)) + ((py &&& (2147483647 : Int32)).toInt64))), .second, .val (.int (j0_21_l6 tp py)), .val (.long (((1 : Int64) + ((j0_21_l6 tp py).toInt64)) + (((4 : Int64) + ((tp &&& (65535 : Int32)).toInt64)) + ((py &&& (2147483647 : Int32)).toInt64)))), .second] [(.int (1 : Int32))])) _
    exact retN X12 hx (t := .boolean) Bd.returns (by simp) (hb hby at_110) hr
  · show Q0 Z tp py h0 n0 _ T12.heap _
    rw [e12]
    exact ⟨rfl, N12⟩
set_option maxRecDepth 65536 in
set_option maxHeartbeats 40000000 in
theorem comes_1 {Post : Tables → Env → Array Value → State → Outcome → State → Prop} (hpost : ∀ tb e args s v u, (limb_1_1.after args s (.returned v) u = true ∧ limb_1_2.after args s (.returned v) u = true ∧ True) → FrameEnd s (.returned v) u (Jvm.fieldLocs frame_1_writes args s ++ Jvm.arrayLocs frame_1_arrays args s ++ Jvm.staticLocs frame_1_statics s) 0 0 → Post tb e args s (.returned v) u) :
    ArmFor flags0 classFile x code maxLocals ret World_1 tables_1 room_1 Calls_1 rest_1 Pre_1 Post := by
  intro l hfl _ _ p e ha hc hk s m args below hf hA hF happ hP
  obtain ⟨hcalls, hrest, hpre⟩ := hP
  obtain ⟨-, -, -, hnamed, -, -, -, hat⟩ := (Spec.applies_iff hf).mp happ
  obtain ⟨hg, hn⟩ := and_e (Cond.before_iff.mp (show (Jvm.Cond.and given_1 narrow_1).before args s = true from hpre))
  obtain ⟨gv1, gv2⟩ := and_e hg
  obtain ⟨gv3, gv4⟩ := and_e gv2
  obtain ⟨w0, w1, rfl⟩ : ∃ w0 w1 : Value, args = #[w0, w1] := by
    have hs : args.size = 2 := by simpa [Cond.value, given_1] using gv1
    obtain ⟨L⟩ := args
    match L, hs with
    | [w0, w1], _ => exact ⟨w0, w1, rfl⟩
  have hw := fun d (hd : d ∈ tables_1) => atoms_spec (ws := Jvm.Cond.code x code maxLocals ret :: tables_1) hat d (List.mem_cons_of_mem _ hd)
  have hfit : Fit s := fun {y c} hc i hi => by
    obtain ⟨ha, rfl⟩ := Array.getElem?_eq_some_iff.mp hc
    have q := List.all_eq_true.mp ((Array.all_eq_true_iff_forall_mem.mp hF) _ (Array.getElem_mem ha)) i (List.mem_range.mpr hi)
    simpa [Array.getElem?_eq_getElem hi] using q
  obtain ⟨i0, ei0⟩ := is_v gv3
  obtain rfl : w0 = (.int i0) := Option.some.inj ei0
  obtain ⟨i1, ei1⟩ := is_v gv4
  obtain rfl : w1 = (.int i1) := Option.some.inj ei1
  obtain ⟨n, o, h1, h2, h3, _, L, rfl, ⟨rfl, N⟩, hq⟩ := rm0 l s _ hw tables_1 i0 i1 s.heap s.heap.size (Nat.le_refl _) p e ha hc hk s m _ below hf ((Spec.applies_iff_loose hf).mp happ).1 ⟨rfl, State.Warmed39.refl s, rfl⟩ trivial
  refine ⟨n, _, h1, h2, h3, hpost _ _ _ _ _ _ ⟨Cond.after_iff.mpr rfl, Cond.after_iff.mpr (eq_i res_at (Term.int_eval (1)) rfl), trivial⟩ ⟨hq.1, hq.2.1, (hq.2.2.sift fun y hy => Or.inr (N y hy)).mono (by decide) (by decide)⟩⟩
theorem main_1_1 : Claimed_1_1 := comes_1 fun _ _ _ _ _ _ h hF => ⟨h.1, hF⟩
theorem main_1_2 : Claimed_1_2 := comes_1 fun _ _ _ _ _ _ h hF => ⟨h.2.1, hF⟩
end Jvm.Pilot.@@N@@
namespace Jvm.Pilot.@@N@@
open Jvm Jvm.ClassFile Sem Op Lib Jvm.Free Jvm.Stand Jvm.Pilot.@@N@@.Jvm.D
/-! MADE BY PROGRAM (witnessworld.py) out of the Statement's table words and the real class files: 10 classes; the members and pool entries that the words name. The judged class is class 1, her method 1. -/
namespace start1
open Jvm.ClassFile
def u (s : String) : CpInfo := .utf8 (stringToUtf16 s)
/-- a pool by its gaps: so many unusable entries, then the entry; so many at the end -/
def gap : Nat → List CpInfo → List CpInfo
  | 0, r => r
  | n + 1, r => .unusable :: gap n r
def poolList (es : List (Nat × CpInfo)) (last : Nat) : List CpInfo := es.foldr (fun e r => gap e.1 (e.2 :: r)) (gap last [])
def pool (es : List (Nat × CpInfo)) (last : Nat) : Array CpInfo := ⟨poolList es last⟩
def fileOf (pool : Array CpInfo) (this : Nat) (attrs : Array Attribute := #[]) (ms : Array MethodInfo := #[]) (fl : Nat := 33) (sup : Nat := 0) (ifs : Array Nat := #[]) (fds : Array FieldInfo := #[]) : ClassFile where
  minorVersion := 0
  majorVersion := 65
  constantPool := pool
  accessFlags := fl
  thisClass := this
  superClass := sup
  interfaces := ifs
  fields := fds
  methods := ms
  attributes := attrs
def plain (name : String) (sup : Option ClassId) : Class where
  name := name
  kind := .ordinary
  loader := none
  accessFlags := 33
  super := sup
  interfaces := #[]
  cf := none
  fields := #[]
  methods := #[]
  instanceTypes := #[]
  staticTypes := #[]
  resolved := #[]
  callSites := []
  init := .initialized
  statics := none
  mirror := none

def pool0 : Array CpInfo := pool [(5, u "<init>"), (0, u "()V"), (1, .class_ 10), (1, u "java/lang/Object")] 113

def k0m0 : Method := { name := "<init>", desc := "()V", sig := { parameters := [], returnType := none }, accessFlags := 1, code := none }
/-- java/lang/Object -/
def k0 : Class := { plain "java/lang/Object" none with
  accessFlags := 33
  interfaces := #[]
  cf := some (fileOf pool0 8 #[] #[{ accessFlags := 1, nameIndex := 5, descriptorIndex := 6, attributes := #[] }] 33 0 #[] #[])
  fields := #[]
  methods := #[k0m0]
  instanceTypes := #[]
  staticTypes := #[]
  resolved := Array.replicate 124 none
  statics := none }

def pool1 : Array CpInfo := pool [(2, .class_ 4), (1, u "java/lang/Object"), (0, u "<init>"), (0, u "()V"), (0, .integer 65535), (0, .integer 2147483647), (0, .long 4), (1, .long 128), (1, .long 16384), (1, .long 2097152), (1, .long 268435456), (1, .methodref 20 21), (0, .class_ 22), (0, .nameAndType 23 24), (0, u "com/example/hikyaku/hikyaku/mqtt/MqttPacket"), (0, u "publishBytes"), (0, u "(II)J"), (0, .class_ 26), (0, u "com/example/hikyaku/hikyaku/mqtt/MqttPacketPublishBytesPinLaw"), (2, u "law"), (0, u "(II)Z")] 3

def k1m0 : Method := { name := "<init>", desc := "()V", sig := { parameters := [], returnType := none }, accessFlags := 1, code := none }
def k1c1 : Code := { maxStack := 4, maxLocals := 9, code := code, exceptionTable := #[], attributes := #[] }
def k1m1 : Method := { name := "law", desc := "(II)Z", sig := { parameters := [.int, .int], returnType := some .boolean }, accessFlags := 9, code := some k1c1 }
/-- com/example/hikyaku/hikyaku/mqtt/MqttPacketPublishBytesPinLaw -/
def k1 : Class := { plain "com/example/hikyaku/hikyaku/mqtt/MqttPacketPublishBytesPinLaw" (some 0) with
  accessFlags := 49
  interfaces := #[]
  cf := some (fileOf pool1 25 #[] #[{ accessFlags := 1, nameIndex := 5, descriptorIndex := 6, attributes := #[] }, { accessFlags := 9, nameIndex := 29, descriptorIndex := 30, attributes := #[] }] 49 2 #[] #[])
  fields := #[]
  methods := #[k1m0, k1m1]
  instanceTypes := #[]
  staticTypes := #[]
  resolved := Array.replicate 34 none
  statics := none }

def pool2 : Array CpInfo := pool [(2, .class_ 4), (1, u "java/lang/Object"), (0, u "<init>"), (0, u "()V"), (0, .class_ 8), (0, u "java/lang/Record")] 13

def k2m0 : Method := { name := "<init>", desc := "()V", sig := { parameters := [], returnType := none }, accessFlags := 4, code := none }
/-- java/lang/Record -/
def k2 : Class := { plain "java/lang/Record" (some 0) with
  accessFlags := 1057
  interfaces := #[]
  cf := some (fileOf pool2 7 #[] #[{ accessFlags := 4, nameIndex := 5, descriptorIndex := 6, attributes := #[] }] 1057 2 #[] #[])
  fields := #[]
  methods := #[k2m0]
  instanceTypes := #[]
  staticTypes := #[]
  resolved := Array.replicate 22 none
  statics := none }

def pool3 : Array CpInfo := pool [(1, .class_ 2), (0, u "com/example/hikyaku/hikyaku/mqtt/MqttPacket"), (1, .class_ 6), (1, u "java/lang/Record"), (4, u "type"), (0, u "I"), (2, u "flags"), (2, u "body"), (0, u "[B"), (5, .class_ 27), (1, u "com/example/hikyaku/hikyaku/mqtt/MqttPacket$Header"), (36, .class_ 65), (0, u "com/example/hikyaku/hikyaku/mqtt/MqttPacket$Fields"), (86, .long 2), (23, .class_ 177), (0, u "com/example/hikyaku/hikyaku/mqtt/MqttPacket$Malformed"), (4, .class_ 184), (1, u "com/example/hikyaku/hikyaku/mqtt/MqttPacket$ByteSource"), (0, .class_ 186), (0, u "com/example/hikyaku/hikyaku/mqtt/MqttPacket$Cursor"), (16, .class_ 204), (0, u "com/example/hikyaku/hikyaku/mqtt/MqttPacket$Whole"), (4, .class_ 211), (1, u "com/example/hikyaku/hikyaku/mqtt/MqttPacket$Login"), (14, u "CONNECT"), (2, u "CONNACK"), (1, u "PUBLISH"), (1, u "PUBACK"), (1, u "PUBREL"), (1, u "SUBSCRIBE"), (1, u "SUBACK"), (1, u "UNSUBSCRIBE"), (1, u "UNSUBACK"), (1, u "PINGREQ"), (1, u "PINGRESP"), (1, u "DISCONNECT"), (1, u "MAX_REMAINING_LENGTH"), (0, u "MAX_PACKET_BYTES"), (1, u "MAX_STRING_BYTES"), (1, u "SUBSCRIPTION_REFUSED"), (1, u "PROTOCOL_NAME"), (0, u "Ljava/lang/String;"), (0, u "PROTOCOL_LEVEL"), (0, u "CLEAN_SESSION"), (0, u "USER_NAME"), (0, u "PASSWORD"), (1, u "DUP"), (0, u "FLAGS_0010"), (20, u "publishBytes"), (0, u "(II)J")] 73

def k3c0 : Code := { maxStack := 4, maxLocals := 7, code := prog_31_method_14_code, exceptionTable := #[], attributes := #[] }
def k3m0 : Method := { name := "publishBytes", desc := "(II)J", sig := { parameters := [.int, .int], returnType := some .long }, accessFlags := 9, code := some k3c0 }
/-- com/example/hikyaku/hikyaku/mqtt/MqttPacket -/
def k3 : Class := { plain "com/example/hikyaku/hikyaku/mqtt/MqttPacket" (some 2) with
  accessFlags := 49
  interfaces := #[]
  cf := some (fileOf pool3 1 #[.nestMembers #[64, 176, 209, 185, 182, 203, 25]] #[{ accessFlags := 9, nameIndex := 287, descriptorIndex := 288, attributes := #[] }] 49 4 #[] #[{ accessFlags := 18, nameIndex := 11, descriptorIndex := 12, attributes := #[] }, { accessFlags := 18, nameIndex := 15, descriptorIndex := 12, attributes := #[] }, { accessFlags := 18, nameIndex := 18, descriptorIndex := 19, attributes := #[] }, { accessFlags := 25, nameIndex := 226, descriptorIndex := 12, attributes := #[] }, { accessFlags := 25, nameIndex := 229, descriptorIndex := 12, attributes := #[] }, { accessFlags := 25, nameIndex := 231, descriptorIndex := 12, attributes := #[] }, { accessFlags := 25, nameIndex := 233, descriptorIndex := 12, attributes := #[] }, { accessFlags := 25, nameIndex := 235, descriptorIndex := 12, attributes := #[] }, { accessFlags := 25, nameIndex := 237, descriptorIndex := 12, attributes := #[] }, { accessFlags := 25, nameIndex := 239, descriptorIndex := 12, attributes := #[] }, { accessFlags := 25, nameIndex := 241, descriptorIndex := 12, attributes := #[] }, { accessFlags := 25, nameIndex := 243, descriptorIndex := 12, attributes := #[] }, { accessFlags := 25, nameIndex := 245, descriptorIndex := 12, attributes := #[] }, { accessFlags := 25, nameIndex := 247, descriptorIndex := 12, attributes := #[] }, { accessFlags := 25, nameIndex := 249, descriptorIndex := 12, attributes := #[] }, { accessFlags := 25, nameIndex := 251, descriptorIndex := 12, attributes := #[] }, { accessFlags := 25, nameIndex := 252, descriptorIndex := 12, attributes := #[] }, { accessFlags := 25, nameIndex := 254, descriptorIndex := 12, attributes := #[] }, { accessFlags := 25, nameIndex := 256, descriptorIndex := 12, attributes := #[] }, { accessFlags := 24, nameIndex := 258, descriptorIndex := 259, attributes := #[] }, { accessFlags := 24, nameIndex := 260, descriptorIndex := 12, attributes := #[] }, { accessFlags := 26, nameIndex := 261, descriptorIndex := 12, attributes := #[] }, { accessFlags := 26, nameIndex := 262, descriptorIndex := 12, attributes := #[] }, { accessFlags := 26, nameIndex := 263, descriptorIndex := 12, attributes := #[] }, { accessFlags := 26, nameIndex := 265, descriptorIndex := 12, attributes := #[] }, { accessFlags := 26, nameIndex := 266, descriptorIndex := 12, attributes := #[] }])
  fields := #[{ name := "type", type := .int, accessFlags := 18, slot := 0, constantValue := 0 }, { name := "flags", type := .int, accessFlags := 18, slot := 1, constantValue := 0 }, { name := "body", type := (.array .byte), accessFlags := 18, slot := 2, constantValue := 0 }, { name := "CONNECT", type := .int, accessFlags := 25, slot := 0, constantValue := 0 }, { name := "CONNACK", type := .int, accessFlags := 25, slot := 1, constantValue := 0 }, { name := "PUBLISH", type := .int, accessFlags := 25, slot := 2, constantValue := 0 }, { name := "PUBACK", type := .int, accessFlags := 25, slot := 3, constantValue := 0 }, { name := "PUBREL", type := .int, accessFlags := 25, slot := 4, constantValue := 0 }, { name := "SUBSCRIBE", type := .int, accessFlags := 25, slot := 5, constantValue := 0 }, { name := "SUBACK", type := .int, accessFlags := 25, slot := 6, constantValue := 0 }, { name := "UNSUBSCRIBE", type := .int, accessFlags := 25, slot := 7, constantValue := 0 }, { name := "UNSUBACK", type := .int, accessFlags := 25, slot := 8, constantValue := 0 }, { name := "PINGREQ", type := .int, accessFlags := 25, slot := 9, constantValue := 0 }, { name := "PINGRESP", type := .int, accessFlags := 25, slot := 10, constantValue := 0 }, { name := "DISCONNECT", type := .int, accessFlags := 25, slot := 11, constantValue := 0 }, { name := "MAX_REMAINING_LENGTH", type := .int, accessFlags := 25, slot := 12, constantValue := 0 }, { name := "MAX_PACKET_BYTES", type := .int, accessFlags := 25, slot := 13, constantValue := 0 }, { name := "MAX_STRING_BYTES", type := .int, accessFlags := 25, slot := 14, constantValue := 0 }, { name := "SUBSCRIPTION_REFUSED", type := .int, accessFlags := 25, slot := 15, constantValue := 0 }, { name := "PROTOCOL_NAME", type := (.object "java/lang/String"), accessFlags := 24, slot := 16, constantValue := 0 }, { name := "PROTOCOL_LEVEL", type := .int, accessFlags := 24, slot := 17, constantValue := 0 }, { name := "CLEAN_SESSION", type := .int, accessFlags := 26, slot := 18, constantValue := 0 }, { name := "USER_NAME", type := .int, accessFlags := 26, slot := 19, constantValue := 0 }, { name := "PASSWORD", type := .int, accessFlags := 26, slot := 20, constantValue := 0 }, { name := "DUP", type := .int, accessFlags := 26, slot := 21, constantValue := 0 }, { name := "FLAGS_0010", type := .int, accessFlags := 26, slot := 22, constantValue := 0 }]
  methods := #[k3m0]
  instanceTypes := #[.int, .int, (.array .byte)]
  staticTypes := #[.int, .int, .int, .int, .int, .int, .int, .int, .int, .int, .int, .int, .int, .int, .int, .int, (.object "java/lang/String"), .int, .int, .int, .int, .int, .int]
  resolved := Array.replicate 362 none
  statics := none }

def pool4 : Array CpInfo := pool [(1, u "java/lang/Cloneable"), (0, .class_ 1), (0, u "java/lang/Object"), (0, .class_ 3)] 3

/-- java/lang/Cloneable -/
def k4 : Class := { plain "java/lang/Cloneable" (some 0) with
  accessFlags := 1537
  interfaces := #[]
  cf := some (fileOf pool4 2 #[] #[] 1537 4 #[] #[])
  fields := #[]
  methods := #[]
  instanceTypes := #[]
  staticTypes := #[]
  resolved := Array.replicate 8 none
  statics := none }

def pool5 : Array CpInfo := pool [(1, u "java/io/Serializable"), (0, .class_ 1), (0, u "java/lang/Object"), (0, .class_ 3)] 3

/-- java/io/Serializable -/
def k5 : Class := { plain "java/io/Serializable" (some 0) with
  accessFlags := 1537
  interfaces := #[]
  cf := some (fileOf pool5 2 #[] #[] 1537 4 #[] #[])
  fields := #[]
  methods := #[]
  instanceTypes := #[]
  staticTypes := #[]
  resolved := Array.replicate 8 none
  statics := none }

/-- the primitive byte -/
def k6 : Class := { plain "byte" none with kind := .primitive 'B', accessFlags := 0x411 }
/-- [B -/
def k7 : Class := { plain "[B" (some 0) with kind := .array 6 .byte, interfaces := #[4, 5], accessFlags := 1041 }

/-- the primitive int -/
def k8 : Class := { plain "int" none with kind := .primitive 'I', accessFlags := 0x411 }
/-- [I -/
def k9 : Class := { plain "[I" (some 0) with kind := .array 8 .int, interfaces := #[4, 5], accessFlags := 1041 }

def heap : Heap := #[]
def classes : Array Class := #[k0, k1, k2, k3, k4, k5, k6, k7, k8, k9]
def interned : List (Array UInt16 × Addr) := []
def slotsUsed : Nat := 0
def theMethod : MethodId := ⟨1, 1⟩
def args0 : Array Value := #[.int 300, .int 70000]
def aboutOver (below : List Frame) : State where
  vm := { classes := classes, interned := interned.toArray }
  heap := heap
  slotsUsed := slotsUsed
  threads := #[{ frames := .invoking theMethod args0 :: below }]
def below0 : List Frame := [.native { method := ⟨0, 0⟩, args := #[] }]
def about1 : State := aboutOver below0
def p0 : Program := .bare "" "" ""
def e0 : Env := launch0.env 0 0 0
theorem w_frames : about1.frames = Frame.invoking theMethod args0 :: below0 := rfl
set_option maxRecDepth 65536 in
theorem w_args : argsFit about1.vm theMethod args0 = true := by decide +kernel
set_option maxRecDepth 65536 in
theorem w_heap : heapFits about1 = true := by decide +kernel
set_option maxRecDepth 65536 in
theorem w_runnable : about1.curStatus? = some .runnable := by decide +kernel
set_option maxRecDepth 65536 in
theorem w_alone : about1.alone = true := by decide +kernel
set_option maxRecDepth 65536 in
theorem w_named : about1.methodNamed? x = some theMethod := by decide +kernel
set_option maxRecDepth 65536 in
theorem w_hears : about1.hears theMethod below0 = true := by decide +kernel
set_option maxRecDepth 65536 in
theorem w_ripe : about1.ripe theMethod args0 below0 = true := by decide +kernel
theorem w_running : about1.status = .running := rfl
set_option maxRecDepth 65536 in
theorem w_room : about1.hasRoom e0.platform room_1 = true :=
  launch0.hasRoom_least _ room_1 (by decide +kernel) (by decide +kernel) (by decide +kernel) (by decide +kernel) (by decide +kernel) (by decide +kernel)
theorem allAtoms_all (ts : List Jvm.Cond) (a : Array Jvm.Value) (st : Jvm.State) : (allAtoms ts).before a st = ts.all (fun c => c.before a st) := by
  induction ts with
  | nil => rfl
  | cons c t ih =>
    show (Jvm.Cond.and c (allAtoms t)).before a st = _
    rw [Jvm.Cond.before_and, ih, List.all_cons]
def words1 : List Jvm.Cond := Jvm.Cond.code x code maxLocals ret :: tables_1
/-- a 'code' word, met by the world's own term for the bytes: nothing is compared byte by byte -/
theorem code_word {y : MethodName} {bytes : ByteArray} {mx : Nat} {rt : Option FieldType} {a : Array Value} {s : State} {m : MethodId} {meth : Method} {c : Code} (h1 : s.methodNamed? y = some m) (h2 : s.vm.method? m = some meth) (h3 : meth.code = some c) (h4 : c.code = bytes)
    (h5 : (c.maxLocals == mx && c.exceptionTable.isEmpty && decide (c.maxStack ≤ mostOperands) && decide (meth.sig.returnType = rt) && !meth.locks && decide (parseMethodDescriptor y.desc = some meth.sig)) = true) : (Jvm.Cond.code y bytes mx rt).before a s = true := by
  simp only [Bool.and_eq_true, beq_iff_eq, Bool.not_eq_true', decide_eq_true_eq] at h5
  obtain ⟨⟨⟨⟨⟨g1, g2⟩, g3⟩, g4⟩, g5⟩, g6⟩ := h5
  simp [Cond.before, Cond.holds, Cond.value, h1, h2, h3, h4, g1, g2, g3, g4, g5, g6]
def isCode : Jvm.Cond → Bool
  | .code _ _ _ _ => true
  | _ => false
theorem all_split {L : List Jvm.Cond} {P : Jvm.Cond → Bool} (h1 : L.all (fun c => isCode c || P c) = true) (h2 : ∀ c ∈ L.filter isCode, P c = true) : L.all P = true := by
  refine List.all_eq_true.mpr fun c hc => ?_
  have h := List.all_eq_true.mp h1 c hc
  rcases Bool.eq_false_or_eq_true (isCode c) with hi | hi
  · exact h2 c (List.mem_filter.mpr ⟨hc, hi⟩)
  · simpa [hi] using h
set_option maxRecDepth 65536 in
theorem w_c0 : (Jvm.Cond.code x code maxLocals ret).before args0 about1 = true := code_word (m := ⟨1, 1⟩) (meth := k1m1) (c := k1c1) (by decide +kernel) rfl rfl rfl (by decide +kernel)
set_option maxRecDepth 65536 in
theorem w_c1 : (Jvm.Cond.code ({ cls := "com/example/hikyaku/hikyaku/mqtt/MqttPacket", name := "publishBytes", desc := "(II)J" } : Jvm.MethodName) prog_31_method_14_code (7 : Nat) (Option.some Jvm.ClassFile.FieldType.long)).before args0 about1 = true := code_word (m := ⟨3, 0⟩) (meth := k3m0) (c := k3c0) (by decide +kernel) rfl rfl rfl (by decide +kernel)
def codes1 : List Jvm.Cond := [Jvm.Cond.code x code maxLocals ret, Jvm.Cond.code ({ cls := "com/example/hikyaku/hikyaku/mqtt/MqttPacket", name := "publishBytes", desc := "(II)J" } : Jvm.MethodName) prog_31_method_14_code (7 : Nat) (Option.some Jvm.ClassFile.FieldType.long)]
set_option maxRecDepth 65536 in
theorem codes_eq : words1.filter isCode = codes1 := rfl
theorem w_codes : ∀ c ∈ words1.filter isCode, c.before args0 about1 = true := by
  rw [codes_eq]
  intro c hc
  simp only [codes1, List.mem_cons, List.not_mem_nil, or_false] at hc
  rcases hc with rfl | rfl
  · exact w_c0
  · exact w_c1
set_option maxRecDepth 65536 in
theorem w_t1 : words1.all (fun c => isCode c || c.before args0 about1) = true := by decide +kernel
theorem w_tables : (allAtoms (Jvm.Cond.code x code maxLocals ret :: tables_1)).before args0 about1 = true := by
  rw [allAtoms_all]
  show words1.all (fun c => c.before args0 about1) = true
  refine all_split ?_ w_codes
  rw [w_t1]
set_option maxRecDepth 65536 in
theorem w_case : (Jvm.Cond.and given_1 narrow_1).before args0 about1 = true := by decide +kernel
theorem w_applies : (headSpec (Jvm.Cond.code x code maxLocals ret :: tables_1) room_1).applies x e0.platform about1 = true :=
  (Spec.applies_iff w_frames).mpr ⟨w_running, w_runnable, w_alone, w_named, w_hears, w_ripe, w_room, w_tables⟩
theorem atStart : AtStart classFile x code maxLocals ret World_1 tables_1 room_1 Calls_1 rest_1 Pre_1 launch0 p0 e0 about1 theMethod args0 below0 :=
  ⟨lists_1, trivial, launch0.admits_env _ _ _, launch0.least_env, fairChoices_fair.cas, fairChoices_fair.clock, w_frames, w_args, w_heap, w_applies, trivial, trivial, w_case⟩
end start1
theorem witness_1 : WitnessClaimed_1 := ⟨start1.p0, start1.e0, start1.about1, start1.theMethod, start1.args0, start1.below0, start1.atStart⟩
end Jvm.Pilot.@@N@@
