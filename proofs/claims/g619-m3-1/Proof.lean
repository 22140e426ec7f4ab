import JvmDerived
import JvmDerived.Pilot.@@N@@Statement
import JvmDerived.Pilot.@@N@@Code
set_option linter.unusedVariables false
set_option linter.unusedSimpArgs false
namespace Jvm.RoadKit
open Sem ClassFile Op Lib Jvm.Stand Jvm.Free Jvm.LawKit
section New
variable {p : Program} {l : Launch} {e : Env} {R : Room} {s : State} {m : MethodId} {args : Array Value} {below : List Frame} {meth : Method} {c : Code} {T : State} {locs : List Loc} {cells slots : Nat}
theorem retI (X : Stand p l e R s m args below meth c T locs cells slots) (hx : p.tables.exec = Jvm.exec) {pc : Nat} {Ls : Array Slot} {z : Int32} {rest : List Value} (hret : meth.sig.returnType = some .int) (hd : decode c.code pc = .ok (.ireturn, 1)) {fs : List Frame}
    (hl : ∀ (f : JFrame) (acts : List Action), f.method = m → f.locked = none → f.entered = [] → (doReturn e (T.setTop f) acts (some (.int z))).1 = T.setFrames fs) : Steps p.tables e below (T.setTop (mkF m pc Ls (.int z :: rest))) (T.setFrames fs) := by
  have hm' : T.vm.method? m = some meth := X.method'
  have hn : narrow .int (.int z) = .int z := rfl
  show Steps p.tables e below (T.setTop { method := m, pc := pc, locals := Ls, stack := _ :: rest, locked := none }) _
  jvm_step X.here [X.here.top, hx, hd, hm', hret, hn]
  first | (intro acts; rw [hl _ acts rfl rfl rfl]) | rw [hl _ _ rfl rfl rfl]
  exact Steps.refl _
end New
/-! own: a long's comparison, an array by a function -/
theorem own_tltL {x y : Int64} (h : x < y) : ifCond.holds .lt (lcmpW x y) = true ∧ ifCond.holds .ge (lcmpW x y) = false ∧ ifCond.holds .gt (lcmpW y x) = true ∧ ifCond.holds .le (lcmpW y x) = false := by
  have h1 := (lc_lt x y).mpr h
  have h2 := (lc_gt y x).mpr h
  rw [← lcW] at h1 h2
  simp only [if0]
  exact ⟨(tlt h1).1, (tlt h1).2.1, (tlt h2).2.2.1, (tlt h2).2.2.2⟩
theorem own_fltL {x y : Int64} (h : ¬ x < y) : ifCond.holds .lt (lcmpW x y) = false ∧ ifCond.holds .ge (lcmpW x y) = true ∧ ifCond.holds .gt (lcmpW y x) = false ∧ ifCond.holds .le (lcmpW y x) = true := by
  have h1 := mt (lc_lt x y).mp h
  have h2 := mt (lc_gt y x).mp h
  rw [← lcW] at h1 h2
  simp only [if0]
  exact ⟨(flt h1).1, (flt h1).2.1, (flt h2).2.2.1, (flt h2).2.2.2⟩
theorem own_teqL {x y : Int64} (h : x = y) : ifCond.holds .eq (lcmpW x y) = true ∧ ifCond.holds .ne (lcmpW x y) = false := by
  have h1 := (lc_eq x y).mpr h
  rw [← lcW] at h1
  simp only [if0]
  exact teq h1
theorem own_feqL {x y : Int64} (h : ¬ x = y) : ifCond.holds .eq (lcmpW x y) = false ∧ ifCond.holds .ne (lcmpW x y) = true := by
  have h1 := mt (lc_eq x y).mp h
  rw [← lcW] at h1
  simp only [if0]
  exact feq h1
theorem own_iadd {x y : Int32} {X Y : Int} (hx : x.toInt = X) (hy : y.toInt = Y) (h1 : -2147483648 ≤ X + Y) (h2 : X + Y < 2147483648) : (x + y).toInt = X + Y := by
  have := c_iadd x y; have := rng32 (x + y); omega
theorem own_isub {x y : Int32} {X Y : Int} (hx : x.toInt = X) (hy : y.toInt = Y) (h1 : -2147483648 ≤ X - Y) (h2 : X - Y < 2147483648) : (x - y).toInt = X - Y := by
  have := c_isub x y; have := rng32 (x - y); omega
theorem own_imul {x y : Int32} {X Y : Int} (hx : x.toInt = X) (hy : y.toInt = Y) (h1 : -2147483648 ≤ X * Y) (h2 : X * Y < 2147483648) : (x * y).toInt = X * Y := by
  have := c_imul x y; have := rng32 (x * y); subst hx hy; omega
theorem own_ladd {x y : Int64} {X Y : Int} (hx : x.toInt = X) (hy : y.toInt = Y) (h1 : -9223372036854775808 ≤ X + Y) (h2 : X + Y < 9223372036854775808) : (x + y).toInt = X + Y := by
  have := c_ladd x y; have := rng64 (x + y); omega
theorem own_lsub {x y : Int64} {X Y : Int} (hx : x.toInt = X) (hy : y.toInt = Y) (h1 : -9223372036854775808 ≤ X - Y) (h2 : X - Y < 9223372036854775808) : (x - y).toInt = X - Y := by
  have := c_lsub x y; have := rng64 (x - y); omega
theorem own_lmul {x y : Int64} {X Y : Int} (hx : x.toInt = X) (hy : y.toInt = Y) (h1 : -9223372036854775808 ≤ X * Y) (h2 : X * Y < 9223372036854775808) : (x * y).toInt = X * Y := by
  have := c_lmul x y; have := rng64 (x * y); subst hx hy; omega
theorem own_maskL (x m : Int64) (k : Nat) (M : Int) (hM : m.toInt = M) (hk : k ≤ 63) (hm : m.toBitVec.toNat = 2 ^ k - 1) : 0 ≤ (x &&& m).toInt ∧ (x &&& m).toInt ≤ M := by
  have h := c_maskL x m k hk hm
  have h2 := c_maskL m m k hk hm
  have e : m &&& m = m := by simp
  rw [e] at h2
  have p : (0 : Int) < ((2 ^ k : Nat) : Int) := by have := Nat.two_pow_pos k; omega
  have a1 := Int.emod_nonneg x.toInt (show ((2 ^ k : Nat) : Int) ≠ 0 by omega)
  have a2 := Int.emod_lt_of_pos x.toInt p
  have hmi : m.toInt = ((2 ^ k - 1 : Nat) : Int) := by
    have h3 : m.toInt = (m.toBitVec.toNat : Int) := by
      show m.toBitVec.toInt = _
      rw [BitVec.toInt_eq_toNat_cond, hm]
      have : 2 ^ k ≤ 2 ^ 63 := Nat.pow_le_pow_right (by decide) hk
      split <;> omega
    rw [h3, hm]
  omega
theorem own_nb (x : Int32) : nar .byte (x.toInt8.toInt32) = x.toInt8.toInt32 := by
  show (x.toInt8.toInt32).toInt8.toInt32 = _
  simp
theorem own_sel {args : Array Value} {s : State} {y z : MethodName} (hi : (Cond.instanceMethod y).before args s = true) (hp : (Cond.privateMethod y).before args s = true) (h2 : (Cond.selects y.cls z z).before args s = true) (hc : z.cls = y.cls)
    (hy : y.cls ≠ "java/lang/invoke/MethodHandle" ∧ y.cls ≠ "java/lang/invoke/VarHandle") : (Cond.selects y.cls y y).before args s = true := by
  obtain ⟨mk, meth, hn, hm, -, -⟩ := Cond.instanceMethod_spec hi
  obtain ⟨c, r, m2, -, -, f3, -, k, f4, f5⟩ := Cond.selects_spec h2
  have e1 := findClass_of_methodNamed hn
  have e2 := findClass_of_methodNamed f3
  rw [hc, e1] at e2
  have e3 : m2.cls = mk.cls := (Option.some.inj e2).symm
  have e4 := State.methodFound?_of_named hn hy
  have e5 := selectMethod_private (p := {}) (c := mk.cls) hm (Cond.privateMethod_at hp mk meth hn hm)
  rw [e3] at f4
  simp [Cond.before, Cond.holds, Cond.value, e1, e4, hn, e5, f4, f5]
def AF (Z : State) (h : Heap) (a : Addr) (ty : FieldType) (n : Nat) (g : Nat → Value) : Prop := ∃ c : Cell, Arr Z h a c ty ∧ c.slots.size = n ∧ ∀ j, j < n → c.slots[j]? = some (g j)
abbrev AI (Z : State) (h : Heap) (a : Addr) (ty : FieldType) (n : Nat) (f : Nat → Int32) : Prop := AF Z h a ty n (fun j => .int (f j))
abbrev AJ (Z : State) (h : Heap) (a : Addr) (ty : FieldType) (n : Nat) (f : Nat → Int64) : Prop := AF Z h a ty n (fun j => .long (f j))
abbrev AD (Z : State) (h : Heap) (a : Addr) (ty : FieldType) (n : Nat) (f : Nat → UInt64) : Prop := AF Z h a ty n (fun j => .double (f j))
def up {α : Type} (f : Nat → α) (i : Nat) (v : α) : Nat → α := fun j => if j = i then v else f j
def zI : Nat → Int32 := fun _ => 0
def zJ : Nat → Int64 := fun _ => 0
section Arrs
variable {Z : State} {h h' : Heap} {a b : Addr} {ty : FieldType} {n : Nat} {g g' : Nat → Value}
theorem AF.lt (F : AF Z h a ty n g) : a < h.size := by obtain ⟨c, A, -⟩ := F; exact A.lt
theorem AF.ext (F : AF Z h a ty n g) (E : Ext h h') : AF Z h' a ty n g := by obtain ⟨c, A, r⟩ := F; exact ⟨c, A.ext E, r⟩
theorem AF.other {sl : Nat} {v : Value} (F : AF Z h b ty n g) (W : Wr h h' a sl v) (q : b ≠ a) : AF Z h' b ty n g := by obtain ⟨c, A, r⟩ := F; exact ⟨c, A.other W q, r⟩
theorem AF.keep {ws : List Addr} (F : AF Z h a ty n g) (K : Keep h h' ws) (q : a ∉ ws) : AF Z h' a ty n g := by obtain ⟨c, A, r⟩ := F; exact ⟨c, ⟨K.2.1 a c A.1 q, A.2⟩, r⟩
theorem AF.re (F : AF Z h a ty n g) (q : ∀ j, j < n → g j = g' j) : AF Z h a ty n g' := by obtain ⟨c, A, S, H⟩ := F; exact ⟨c, A, S, fun j hj => by rw [H j hj, q j hj]⟩
theorem AF.at (F : AF Z h a ty n g) {j : Int32} (i : Nat) (hj : j.toInt = i) (hi : i < n) : ∃ c : Cell, Arr Z h a c ty ∧ ¬ (j < 0 ∨ c.slots.size ≤ j.toNatClampNeg) ∧ c.slots[j.toNatClampNeg]? = some (g i) := by
  obtain ⟨c, A, S, H⟩ := F
  have e : j.toNatClampNeg = i := by simp only [Int32.toNatClampNeg, hj]; omega
  refine ⟨c, A, ?_, by rw [e]; exact H i hi⟩
  rw [e, S, Int32.lt_iff_toInt_lt, hj]
  have : (0 : Int32).toInt = 0 := rfl
  omega
theorem AF.len (F : AF Z h a ty n g) : ∃ c : Cell, Arr Z h a c ty ∧ c.slots.size = n := by obtain ⟨c, A, S, -⟩ := F; exact ⟨c, A, S⟩
theorem AF.set {k : Nat} {v : Value} (F : AF Z h a ty n g) (W : Wr h h' a k v) : AF Z h' a ty n (fun j => if j = k then v else g j) := by
  obtain ⟨c, A, S, H⟩ := F
  refine ⟨_, A.same W, by rw [sz_set]; exact S, fun j hj => ?_⟩
  by_cases q : j = k
  · subst q; simp [Cell.setSlot, S, hj]
  · show _ = some (if j = k then v else g j)
    rw [if_neg q]; have := H j hj; simp only [Cell.setSlot] at this ⊢; rw [Array.getElem?_setIfInBounds_ne (Ne.symm q)]; exact this
theorem own_tn {j : Int32} {i : Nat} (hj : j.toInt = i) : j.toNatClampNeg = i := by simp only [Int32.toNatClampNeg, hj]; omega
theorem AF.setI {f : Nat → Int32} {j : Int32} {v : Int32} (F : AI Z h a ty n f) (W : Wr h h' a j.toNatClampNeg (.int v)) (i : Nat) (hj : j.toInt = i) : AI Z h' a ty n (up f i v) := by
  rw [own_tn hj] at W
  exact (AF.set F W).re fun k _ => by by_cases q : k = i <;> simp [up, q]
theorem AF.setJ {f : Nat → Int64} {j : Int32} {v : Int64} (F : AJ Z h a ty n f) (W : Wr h h' a j.toNatClampNeg (.long v)) (i : Nat) (hj : j.toInt = i) : AJ Z h' a ty n (up f i v) := by
  rw [own_tn hj] at W
  exact (AF.set F W).re fun k _ => by by_cases q : k = i <;> simp [up, q]
theorem AF.setD {f : Nat → UInt64} {j : Int32} {v : UInt64} (F : AD Z h a ty n f) (W : Wr h h' a j.toNatClampNeg (.double v)) (i : Nat) (hj : j.toInt = i) : AD Z h' a ty n (up f i v) := by
  rw [own_tn hj] at W
  exact (AF.set F W).re fun k _ => by by_cases q : k = i <;> simp [up, q]
theorem AF.new {k : ClassId} {z : Int32} (A : Arr Z h a (newA k ty z) ty) (hz : z.toInt = n) : AF Z h a ty n (fun _ => defaultValue ty) :=
  ⟨_, A, by rw [sz_new]; exact own_tn hz, fun j hj => by simp [newA, own_tn hz, hj]⟩
end Arrs
end Jvm.RoadKit
namespace Jvm.Pilot.@@N@@
open Jvm Jvm.ClassFile Sem Op Lib Jvm.Free Jvm.Stand Jvm.LawKit Jvm.RoadKit Bundle Jvm.Pilot.@@N@@.Jvm.D
theorem ef_1 (m : MethodId) (ra : Addr) : entryFrame m #[(.ref ra)] 1 = mkF m 0 #[.val (.ref ra)] [] := by first | (simp [entryFrame, mkF, argsToLocals, Value.category]; done) | rfl
theorem d1_0 : decode prog_146_method_1_code 0 = .ok (.aload_n 0, 1) := by decide +kernel
theorem d1_1 : decode prog_146_method_1_code 1 = .ok (.invokespecial 1, 3) := by decide +kernel
theorem d1_4 : decode prog_146_method_1_code 4 = .ok (.aload_n 0, 1) := by decide +kernel
theorem d1_5 : decode prog_146_method_1_code 5 = .ok (.sipush 256, 3) := by decide +kernel
theorem d1_8 : decode prog_146_method_1_code 8 = .ok (.newarray .byte, 2) := by decide +kernel
theorem d1_10 : decode prog_146_method_1_code 10 = .ok (.putfield 9, 3) := by decide +kernel
theorem d1_13 : decode prog_146_method_1_code 13 = .ok (.return_, 1) := by decide +kernel
theorem pn_com_example_lockstep_lockstep_store_RecordBuffer : plainName "com/example/lockstep/lockstep/store/RecordBuffer" = true := by first | (simp [plainName, overriddenIn]; done) | decide +kernel
def Q1 (Z : State) (ra : Addr) (h0 : Heap) (n0 : Nat) (v : Option Value) (h : Heap) (L : List Loc) : Prop := ∃ fr0 : Addr, n0 ≤ fr0 ∧ h0.size ≤ fr0 ∧ v = none ∧ Fr n0 L ∧ Keep h0 h [ra] ∧ Fld Z h ra "com/example/lockstep/lockstep/store/RecordBuffer" "bytes" "[B" (.ref fr0) ∧ Fld Z h ra "com/example/lockstep/lockstep/store/RecordBuffer" "size" "I" (.int (0 : Int32)) ∧ AI Z h fr0 .byte 256 zI
set_option maxRecDepth 65536 in
set_option maxHeartbeats 40000000 in
theorem rm1 (l : Launch) (Z : State) (a0 : Array Value) (hw : ∀ d ∈ tables_1, d.before a0 Z = true) (ws : List Jvm.Cond) (ra : Addr) (h0 : Heap) (n0 : Nat) (Z0 : n0 ≤ h0.size) (E_ra : Exa Z h0 ra "com/example/lockstep/lockstep/store/RecordBuffer") (F_bytes_ra : Fld Z h0 ra "com/example/lockstep/lockstep/store/RecordBuffer" "bytes" "[B" .null) (F_size_ra : Fld Z h0 ra "com/example/lockstep/lockstep/store/RecordBuffer" "size" "I" (.int (0 : Int32))) (g_ra : n0 ≤ ra) :
    MetFree l (⟨"com/example/lockstep/lockstep/store/RecordBuffer", "<init>", "()V"⟩ : MethodName) (head1 (Jvm.Cond.code (⟨"com/example/lockstep/lockstep/store/RecordBuffer", "<init>", "()V"⟩ : MethodName) prog_146_method_1_code 1 none :: ws) ({ frames := 1, cells := 1, slots := 256, locals := 12 } : Room)) (fun a U => a = #[(.ref ra)] ∧ Z.Warmed39 U.vm ∧ U.heap = h0) (fun _ _ _ _ _ => True) (fun _ U o U' => ∃ v L, o = .returned v ∧ Q1 Z ra h0 n0 v U'.heap L ∧ FrameEnd U o U' L ({ frames := 1, cells := 1, slots := 256, locals := 12 } : Room).cells ({ frames := 1, cells := 1, slots := 256, locals := 12 } : Room).slots) := by
  refine MetFree.of_bodySF (plainFor_of_name pn_com_example_lockstep_lockstep_store_RecordBuffer) hisR ?_
  intro p e s m args below meth c s₁ Bd hml0 hP hK
  obtain ⟨rfl, hZ, hh⟩ := hP
  have hx := Bd.exec
  have hby := Bd.bytes
  have hml : c.maxLocals = 1 := hml0
  have hown : s.vm.findClass "com/example/lockstep/lockstep/store/RecordBuffer" = some m.cls := findClass_of_methodNamed Bd.named
  have hnm := (name_of_methodNamed Bd.named Bd.method).1
  have X0 : Stand p l e ({ frames := 1, cells := 1, slots := 256, locals := 12 } : Room) s m #[(.ref ra)] below meth c s₁ [] 0 0 := Stand.of_body Bd
  have e0 : s₁.heap = h0 := by rw [← hh, Bd.state]; rfl
  have N0 := Fr.nil n0
  have K0 : Keep h0 h0 [ra] := Keep.refl h0 _
  have pre0 : ∀ t, Steps p.tables e below (s₁.setTop (mkF m 0 #[.val (.ref ra)] [])) t → Steps p.tables e below (s₁.setTop (entryFrame m #[(.ref ra)] 1)) t := fun t k => castTop (ef_1 m ra) k
  obtain ⟨T1, X1, e1, st1⟩ := initO X0 hx hZ hown (hw _ (List.mem_of_getElem? (i := 6) rfl)) (hw _ (List.mem_of_getElem? (i := 7) rfl)) (hw _ (List.mem_of_getElem? (i := 8) rfl)) e0 (g := (mkF m 1 #[.val (.ref ra)] [(.ref ra)])) rfl (by rw [hml]; rfl) rfl (hb hby d1_1) (by decide) (W := 0) (by show 2 * 0 + _ ≤ _; exact Nat.le_of_eq rfl) (by decide)
  obtain ⟨T2, h2, k2, X2, e2, E2, A2, st2⟩ := newP X1 hx hZ (hw _ (List.mem_of_getElem? (i := 9) rfl)) e1 (g := (mkF m 8 #[.val (.ref ra)] [(.int (256 : Int32)), (.ref ra)])) rfl (hb hby d1_8) rfl (by decide) (cap := 256) (by decide) (by decide) (by decide) (by decide)
  obtain ⟨b2, g2⟩ : ∃ z, z = h0.size := ⟨_, rfl⟩
  rw [← g2] at A2 st2
  have ne3 : ra ≠ b2 := Nat.ne_of_lt (Nat.lt_of_lt_of_le E_ra.lt (Nat.le_of_eq g2.symm))
  have gg2 : n0 ≤ b2 := Nat.le_trans Z0 (Nat.le_of_eq g2.symm)
  have sz2 : h0.size ≤ b2 := Nat.le_trans K0.1 (Nat.le_of_eq g2.symm)
  have f4 : Exa Z h2 ra "com/example/lockstep/lockstep/store/RecordBuffer" := E_ra.ext E2
  have f5 : Fld Z h2 ra "com/example/lockstep/lockstep/store/RecordBuffer" "bytes" "[B" .null := F_bytes_ra.ext E2
  have f6 : Fld Z h2 ra "com/example/lockstep/lockstep/store/RecordBuffer" "size" "I" (.int (0 : Int32)) := F_size_ra.ext E2
  have Z2 : n0 ≤ h2.size := Nat.le_trans Z0 E2.1
  have K2 : Keep h0 h2 [ra] := K0.ext E2
  have f7 : AI Z h2 b2 .byte 256 zI := AF.new A2 (by decide)
  obtain ⟨T8, h8, X8, e8, W8, st8⟩ := putF X2 hx hZ hown (host := "") (Or.inl (hw _ (List.mem_of_getElem? (i := 10) rfl))) Via.refl e2 f5 f4 (Or.inl (hw _ (List.mem_of_getElem? (i := 11) rfl))) (hw _ (List.mem_of_getElem? (i := 1) rfl)) (ty := (.array .byte)) (by decide) rfl rfl (g := (mkF m 10 #[.val (.ref ra)] [(.ref b2), (.ref ra)])) rfl rfl (hb hby d1_10)
  have N8 := Fr.snoc X8 N0 g_ra
  have Z8 : n0 ≤ h8.size := Nat.le_trans Z2 (Keep.of_wr W8).1
  have K8 : Keep h0 h8 [ra] := K2.wr W8 (Or.inl (List.mem_of_getElem? (i := 0) rfl))
  have f9 : Fld Z h8 ra "com/example/lockstep/lockstep/store/RecordBuffer" "bytes" "[B" (.ref b2) := f5.same W8
  have f10 : Exa Z h8 ra "com/example/lockstep/lockstep/store/RecordBuffer" := f4.wr W8
  have f11 : Fld Z h8 ra "com/example/lockstep/lockstep/store/RecordBuffer" "size" "I" (.int (0 : Int32)) := f6.other W8 (Or.inr (slot_ne (Or.inl (hw _ (List.mem_of_getElem? (i := 23) rfl))) (Or.inl (hw _ (List.mem_of_getElem? (i := 11) rfl))) (by decide) (t := .int) (t' := (.array .byte)) (by decide) (by decide)))
  have f12 : AI Z h8 b2 .byte 256 zI := f7.other W8 (Ne.symm ne3)
  obtain ⟨fs, hr, hrun, hended, hW, hsame⟩ := X8.leave (v := none) (fun _ => rfl)
  refine ⟨_, _, pre0 _ ?_, hrun, hended, _, _, rfl, ?_, ⟨_, rfl⟩, hW, hsame.mono (by decide) (by decide)⟩
  · show Steps p.tables e below (s₁.setTop (mkF m 0 #[.val (.ref ra)] [])) _
    refine XS.aloadN X0.here hx rfl (hb hby d1_0) rfl rfl ?_
    show Steps p.tables e below (s₁.setTop (mkF m 1 #[.val (.ref ra)] [(.ref ra)])) _
    refine st1 _ ?_
    show Steps p.tables e below (T1.setTop (mkF m 4 #[.val (.ref ra)] [])) _
    refine XS.aloadN X1.here hx rfl (hb hby d1_4) rfl rfl ?_
    show Steps p.tables e below (T1.setTop (mkF m 5 #[.val (.ref ra)] [(.ref ra)])) _
    refine XS.sipush X1.here hx rfl (hb hby d1_5) ?_
    show Steps p.tables e below (T1.setTop (mkF m 8 #[.val (.ref ra)] [(.int (256 : Int32)), (.ref ra)])) _
    refine st2 _ ?_
    show Steps p.tables e below (T2.setTop (mkF m 10 #[.val (.ref ra)] [(.ref b2), (.ref ra)])) _
    refine st8 _ ?_
    show Steps p.tables e below (T8.setTop (mkF m 13 #[.val (.ref ra)] [])) _
    exact X8.returnOut hx Bd.returns (hb hby d1_13) hr
  · show Q1 Z ra h0 n0 _ T8.heap _
    rw [e8]
    exact ⟨b2, gg2, sz2, rfl, N8, K8, f9, f11, f12⟩
theorem ef_7 (m : MethodId) (ra : Addr) (kk : Int32) : entryFrame m #[(.ref ra), (.int kk)] 2 = mkF m 0 #[.val (.ref ra), .val (.int kk)] [] := by first | (simp [entryFrame, mkF, argsToLocals, Value.category]; done) | rfl
theorem d7_0 : decode prog_146_method_9_code 0 = .ok (.aload_n 0, 1) := by decide +kernel
theorem d7_1 : decode prog_146_method_9_code 1 = .ok (.getfield 13, 3) := by decide +kernel
theorem d7_4 : decode prog_146_method_9_code 4 = .ok (.iload_n 1, 1) := by decide +kernel
theorem d7_5 : decode prog_146_method_9_code 5 = .ok (.iadd, 1) := by decide +kernel
theorem d7_6 : decode prog_146_method_9_code 6 = .ok (.aload_n 0, 1) := by decide +kernel
theorem d7_7 : decode prog_146_method_9_code 7 = .ok (.getfield 9, 3) := by decide +kernel
theorem d7_10 : decode prog_146_method_9_code 10 = .ok (.arraylength, 1) := by decide +kernel
theorem d7_11 : decode prog_146_method_9_code 11 = .ok (.if_icmp .le 30, 3) := by decide +kernel
theorem d7_41 : decode prog_146_method_9_code 41 = .ok (.return_, 1) := by decide +kernel
def Q7 (Z : State) (ra : Addr) (kk : Int32) (rb : Addr) (fb : Nat → Int32) (sz : Int32) (h0 : Heap) (n0 : Nat) (v : Option Value) (h : Heap) (L : List Loc) : Prop := v = none ∧ Fr n0 L ∧ h = h0
set_option maxRecDepth 65536 in
set_option maxHeartbeats 40000000 in
theorem rm7 (l : Launch) (Z : State) (a0 : Array Value) (hw : ∀ d ∈ tables_1, d.before a0 Z = true) (ws : List Jvm.Cond) (ra : Addr) (kk : Int32) (rb : Addr) (fb : Nat → Int32) (sz : Int32) (h0 : Heap) (n0 : Nat) (Z0 : n0 ≤ h0.size) (F_bytes_ra : Fld Z h0 ra "com/example/lockstep/lockstep/store/RecordBuffer" "bytes" "[B" (.ref rb)) (A_rb : AI Z h0 rb .byte 256 fb) (F_size_ra : Fld Z h0 ra "com/example/lockstep/lockstep/store/RecordBuffer" "size" "I" (.int sz)) (hc11 : ¬ ((256 : Int32) < (sz + kk))) :
    MetFree l (⟨"com/example/lockstep/lockstep/store/RecordBuffer", "grow", "(I)V"⟩ : MethodName) (head1 (Jvm.Cond.code (⟨"com/example/lockstep/lockstep/store/RecordBuffer", "grow", "(I)V"⟩ : MethodName) prog_146_method_9_code 2 none :: ws) ({ frames := 0, cells := 0, slots := 0, locals := 0 } : Room)) (fun a U => a = #[(.ref ra), (.int kk)] ∧ Z.Warmed39 U.vm ∧ U.heap = h0) (fun _ _ _ _ _ => True) (fun _ U o U' => ∃ v L, o = .returned v ∧ Q7 Z ra kk rb fb sz h0 n0 v U'.heap L ∧ FrameEnd U o U' L ({ frames := 0, cells := 0, slots := 0, locals := 0 } : Room).cells ({ frames := 0, cells := 0, slots := 0, locals := 0 } : Room).slots) := by
  refine MetFree.of_bodySF (plainFor_of_name pn_com_example_lockstep_lockstep_store_RecordBuffer) hisR ?_
  intro p e s m args below meth c s₁ Bd hml0 hP hK
  obtain ⟨rfl, hZ, hh⟩ := hP
  have hx := Bd.exec
  have hby := Bd.bytes
  have hml : c.maxLocals = 2 := hml0
  have hown : s.vm.findClass "com/example/lockstep/lockstep/store/RecordBuffer" = some m.cls := findClass_of_methodNamed Bd.named
  have hnm := (name_of_methodNamed Bd.named Bd.method).1
  have X0 : Stand p l e ({ frames := 0, cells := 0, slots := 0, locals := 0 } : Room) s m #[(.ref ra), (.int kk)] below meth c s₁ [] 0 0 := Stand.of_body Bd
  have e0 : s₁.heap = h0 := by rw [← hh, Bd.state]; rfl
  have N0 := Fr.nil n0
  have K0 : Keep h0 h0 [] := Keep.refl h0 _
  have pre0 : ∀ t, Steps p.tables e below (s₁.setTop (mkF m 0 #[.val (.ref ra), .val (.int kk)] [])) t → Steps p.tables e below (s₁.setTop (entryFrame m #[(.ref ra), (.int kk)] 2)) t := fun t k => castTop (ef_7 m ra kk) k
  obtain ⟨T1, X1, e1, st1⟩ := getF X0 hx hZ hown (host := "") (Or.inl (hw _ (List.mem_of_getElem? (i := 22) rfl))) Via.refl e0 F_size_ra (g := (mkF m 1 #[.val (.ref ra), .val (.int kk)] [(.ref ra)])) rfl rfl (hb hby d7_1)
  obtain ⟨T2, X2, e2, st2⟩ := getF X1 hx hZ hown (host := "") (Or.inl (hw _ (List.mem_of_getElem? (i := 10) rfl))) Via.refl e1 F_bytes_ra (g := (mkF m 7 #[.val (.ref ra), .val (.int kk)] [(.ref ra), (.int (sz + kk))])) rfl rfl (hb hby d7_7)
  obtain ⟨cl3, Arcl3, Szcl3⟩ := AF.len A_rb
  obtain ⟨fs, hr, hrun, hended, hW, hsame⟩ := X2.leave (v := none) (fun _ => rfl)
  refine ⟨_, _, pre0 _ ?_, hrun, hended, _, _, rfl, ?_, ⟨_, rfl⟩, hW, hsame.mono (by decide) (by decide)⟩
  · show Steps p.tables e below (s₁.setTop (mkF m 0 #[.val (.ref ra), .val (.int kk)] [])) _
    refine XS.aloadN X0.here hx rfl (hb hby d7_0) rfl rfl ?_
    show Steps p.tables e below (s₁.setTop (mkF m 1 #[.val (.ref ra), .val (.int kk)] [(.ref ra)])) _
    refine st1 _ ?_
    show Steps p.tables e below (T1.setTop (mkF m 4 #[.val (.ref ra), .val (.int kk)] [(.int sz)])) _
    refine XS.iloadN X1.here hx rfl (hb hby d7_4) rfl ?_
    show Steps p.tables e below (T1.setTop (mkF m 5 #[.val (.ref ra), .val (.int kk)] [(.int kk), (.int sz)])) _
    refine XS.iadd X1.here hx rfl (hb hby d7_5) rfl ?_
    show Steps p.tables e below (T1.setTop (mkF m 6 #[.val (.ref ra), .val (.int kk)] [(.int (sz + kk))])) _
    refine XS.aloadN X1.here hx rfl (hb hby d7_6) rfl rfl ?_
    show Steps p.tables e below (T1.setTop (mkF m 7 #[.val (.ref ra), .val (.int kk)] [(.ref ra), (.int (sz + kk))])) _
    refine st2 _ ?_
    show Steps p.tables e below (T2.setTop (mkF m 10 #[.val (.ref ra), .val (.int kk)] [(.ref rb), (.int (sz + kk))])) _
    refine X2.arraylength hx (by rw [e2]; exact Arcl3.1) (State.isArrayOf_alike hZ.alike Arcl3.2.1) (g := (mkF m 10 #[.val (.ref ra), .val (.int kk)] [(.ref rb), (.int (sz + kk))])) rfl rfl (hb hby d7_10) _ ?_
    rw [Szcl3]
    show Steps p.tables e below (T2.setTop (mkF m 11 #[.val (.ref ra), .val (.int kk)] [(.int (256 : Int32)), (.int (sz + kk))])) _
    refine XS.icmpYes X2.here hx rfl (pc0 := 11) (pc' := 41) rfl (hb hby d7_11) rfl (flt hc11).2.2.2 (by decide) (by decide) ?_
    show Steps p.tables e below (T2.setTop (mkF m 41 #[.val (.ref ra), .val (.int kk)] [])) _
    exact X2.returnOut hx Bd.returns (hb hby d7_41) hr
  · show Q7 Z ra kk rb fb sz h0 n0 _ T2.heap _
    rw [e2]
    exact ⟨rfl, N0, rfl⟩
theorem own_ix {pv : Int32} {pn : Nat} (h : pv.toInt = pn) (hl : pn + 4 ≤ 256) (k : Int32) (kn : Nat) (hk : k.toInt = kn) (hk4 : kn ≤ 4) : (pv + k).toInt = ((pn + kn : Nat) : Int) := by
  have := c_iadd pv k
  have := rng32 (pv + k)
  omega
theorem own_gr {sz k : Int32} {sn kn : Nat} (h : sz.toInt = sn) (hk : k.toInt = kn) (hl : sn + kn ≤ 256) (hk4 : kn ≤ 4) : ¬ ((256 : Int32) < (sz + k)) := by
  rw [Int32.lt_iff_toInt_lt]
  have := c_iadd sz k
  have : (256 : Int32).toInt = 256 := rfl
  have := rng32 (sz + k)
  omega
theorem ef_8 (m : MethodId) (ra : Addr) (pv : Int32) (vv : Int32) : entryFrame m #[(.ref ra), (.int pv), (.int vv)] 3 = mkF m 0 #[.val (.ref ra), .val (.int pv), .val (.int vv)] [] := by first | (simp [entryFrame, mkF, argsToLocals, Value.category]; done) | rfl
theorem d8_0 : decode prog_146_method_8_code 0 = .ok (.aload_n 0, 1) := by decide +kernel
theorem d8_1 : decode prog_146_method_8_code 1 = .ok (.getfield 9, 3) := by decide +kernel
theorem d8_4 : decode prog_146_method_8_code 4 = .ok (.iload_n 1, 1) := by decide +kernel
theorem d8_5 : decode prog_146_method_8_code 5 = .ok (.iload_n 2, 1) := by decide +kernel
theorem d8_6 : decode prog_146_method_8_code 6 = .ok (.bipush 24, 2) := by decide +kernel
theorem d8_8 : decode prog_146_method_8_code 8 = .ok (.iushr, 1) := by decide +kernel
theorem d8_9 : decode prog_146_method_8_code 9 = .ok (.i2b, 1) := by decide +kernel
theorem d8_10 : decode prog_146_method_8_code 10 = .ok (.bastore, 1) := by decide +kernel
theorem d8_11 : decode prog_146_method_8_code 11 = .ok (.aload_n 0, 1) := by decide +kernel
theorem d8_12 : decode prog_146_method_8_code 12 = .ok (.getfield 9, 3) := by decide +kernel
theorem d8_15 : decode prog_146_method_8_code 15 = .ok (.iload_n 1, 1) := by decide +kernel
theorem d8_16 : decode prog_146_method_8_code 16 = .ok (.iconst 1, 1) := by decide +kernel
theorem d8_17 : decode prog_146_method_8_code 17 = .ok (.iadd, 1) := by decide +kernel
theorem d8_18 : decode prog_146_method_8_code 18 = .ok (.iload_n 2, 1) := by decide +kernel
theorem d8_19 : decode prog_146_method_8_code 19 = .ok (.bipush 16, 2) := by decide +kernel
theorem d8_21 : decode prog_146_method_8_code 21 = .ok (.iushr, 1) := by decide +kernel
theorem d8_22 : decode prog_146_method_8_code 22 = .ok (.i2b, 1) := by decide +kernel
theorem d8_23 : decode prog_146_method_8_code 23 = .ok (.bastore, 1) := by decide +kernel
theorem d8_24 : decode prog_146_method_8_code 24 = .ok (.aload_n 0, 1) := by decide +kernel
theorem d8_25 : decode prog_146_method_8_code 25 = .ok (.getfield 9, 3) := by decide +kernel
theorem d8_28 : decode prog_146_method_8_code 28 = .ok (.iload_n 1, 1) := by decide +kernel
theorem d8_29 : decode prog_146_method_8_code 29 = .ok (.iconst 2, 1) := by decide +kernel
theorem d8_30 : decode prog_146_method_8_code 30 = .ok (.iadd, 1) := by decide +kernel
theorem d8_31 : decode prog_146_method_8_code 31 = .ok (.iload_n 2, 1) := by decide +kernel
theorem d8_32 : decode prog_146_method_8_code 32 = .ok (.bipush 8, 2) := by decide +kernel
theorem d8_34 : decode prog_146_method_8_code 34 = .ok (.iushr, 1) := by decide +kernel
theorem d8_35 : decode prog_146_method_8_code 35 = .ok (.i2b, 1) := by decide +kernel
theorem d8_36 : decode prog_146_method_8_code 36 = .ok (.bastore, 1) := by decide +kernel
theorem d8_37 : decode prog_146_method_8_code 37 = .ok (.aload_n 0, 1) := by decide +kernel
theorem d8_38 : decode prog_146_method_8_code 38 = .ok (.getfield 9, 3) := by decide +kernel
theorem d8_41 : decode prog_146_method_8_code 41 = .ok (.iload_n 1, 1) := by decide +kernel
theorem d8_42 : decode prog_146_method_8_code 42 = .ok (.iconst 3, 1) := by decide +kernel
theorem d8_43 : decode prog_146_method_8_code 43 = .ok (.iadd, 1) := by decide +kernel
theorem d8_44 : decode prog_146_method_8_code 44 = .ok (.iload_n 2, 1) := by decide +kernel
theorem d8_45 : decode prog_146_method_8_code 45 = .ok (.i2b, 1) := by decide +kernel
theorem d8_46 : decode prog_146_method_8_code 46 = .ok (.bastore, 1) := by decide +kernel
theorem d8_47 : decode prog_146_method_8_code 47 = .ok (.return_, 1) := by decide +kernel
def r8_arr (vv : Int32) (fb : Nat → Int32) (pn : Nat) : Nat → Int32 := (up (up (up (up fb pn (((vv.toUInt32 >>> ((24 : Int32) &&& 31).toUInt32).toInt32).toInt8.toInt32)) (pn + 1) (((vv.toUInt32 >>> ((16 : Int32) &&& 31).toUInt32).toInt32).toInt8.toInt32)) (pn + 2) (((vv.toUInt32 >>> ((8 : Int32) &&& 31).toUInt32).toInt32).toInt8.toInt32)) (pn + 3) (vv.toInt8.toInt32))
def Q8 (Z : State) (ra : Addr) (pv : Int32) (vv : Int32) (rb : Addr) (fb : Nat → Int32) (pn : Nat) (h0 : Heap) (n0 : Nat) (v : Option Value) (h : Heap) (L : List Loc) : Prop := v = none ∧ Fr n0 L ∧ Keep h0 h [rb] ∧ AI Z h rb .byte 256 (r8_arr vv fb pn)
set_option maxRecDepth 65536 in
set_option maxHeartbeats 40000000 in
theorem rm8 (l : Launch) (Z : State) (a0 : Array Value) (hw : ∀ d ∈ tables_1, d.before a0 Z = true) (ws : List Jvm.Cond) (ra : Addr) (pv : Int32) (vv : Int32) (rb : Addr) (fb : Nat → Int32) (pn : Nat) (h0 : Heap) (n0 : Nat) (Z0 : n0 ≤ h0.size) (F_bytes_ra : Fld Z h0 ra "com/example/lockstep/lockstep/store/RecordBuffer" "bytes" "[B" (.ref rb)) (A_rb : AI Z h0 rb .byte 256 fb) (ne_ra_rb : ra ≠ rb) (hpn : pv.toInt = pn) (hpl : pn + 4 ≤ 256) (g_rb : n0 ≤ rb) :
    MetFree l (⟨"com/example/lockstep/lockstep/store/RecordBuffer", "putInt", "(II)V"⟩ : MethodName) (head1 (Jvm.Cond.code (⟨"com/example/lockstep/lockstep/store/RecordBuffer", "putInt", "(II)V"⟩ : MethodName) prog_146_method_8_code 3 none :: ws) ({ frames := 0, cells := 0, slots := 0, locals := 0 } : Room)) (fun a U => a = #[(.ref ra), (.int pv), (.int vv)] ∧ Z.Warmed39 U.vm ∧ U.heap = h0) (fun _ _ _ _ _ => True) (fun _ U o U' => ∃ v L, o = .returned v ∧ Q8 Z ra pv vv rb fb pn h0 n0 v U'.heap L ∧ FrameEnd U o U' L ({ frames := 0, cells := 0, slots := 0, locals := 0 } : Room).cells ({ frames := 0, cells := 0, slots := 0, locals := 0 } : Room).slots) := by
  refine MetFree.of_bodySF (plainFor_of_name pn_com_example_lockstep_lockstep_store_RecordBuffer) hisR ?_
  intro p e s m args below meth c s₁ Bd hml0 hP hK
  obtain ⟨rfl, hZ, hh⟩ := hP
  have hx := Bd.exec
  have hby := Bd.bytes
  have hml : c.maxLocals = 3 := hml0
  have hown : s.vm.findClass "com/example/lockstep/lockstep/store/RecordBuffer" = some m.cls := findClass_of_methodNamed Bd.named
  have hnm := (name_of_methodNamed Bd.named Bd.method).1
  have X0 : Stand p l e ({ frames := 0, cells := 0, slots := 0, locals := 0 } : Room) s m #[(.ref ra), (.int pv), (.int vv)] below meth c s₁ [] 0 0 := Stand.of_body Bd
  have e0 : s₁.heap = h0 := by rw [← hh, Bd.state]; rfl
  have N0 := Fr.nil n0
  have K0 : Keep h0 h0 [rb] := Keep.refl h0 _
  have pre0 : ∀ t, Steps p.tables e below (s₁.setTop (mkF m 0 #[.val (.ref ra), .val (.int pv), .val (.int vv)] [])) t → Steps p.tables e below (s₁.setTop (entryFrame m #[(.ref ra), (.int pv), (.int vv)] 3)) t := fun t k => castTop (ef_8 m ra pv vv) k
  obtain ⟨T1, X1, e1, st1⟩ := getF X0 hx hZ hown (host := "") (Or.inl (hw _ (List.mem_of_getElem? (i := 10) rfl))) Via.refl e0 F_bytes_ra (g := (mkF m 1 #[.val (.ref ra), .val (.int pv), .val (.int vv)] [(.ref ra)])) rfl rfl (hb hby d8_1)
  obtain ⟨cl2, Arcl2, hincl2, -⟩ := AF.at A_rb (j := pv) pn hpn (by omega)
  obtain ⟨T3, h3, X3, e3, W3, st3⟩ := stB X1 hx hZ e1 Arcl2 (j := pv) hincl2 (g := (mkF m 10 #[.val (.ref ra), .val (.int pv), .val (.int vv)] [(.int (((vv.toUInt32 >>> ((24 : Int32) &&& 31).toUInt32).toInt32).toInt8.toInt32)), (.int pv), (.ref rb)])) rfl rfl (hb hby d8_10)
  rw [own_nb] at W3
  have N3 := Fr.snoc X3 N0 g_rb
  have Z3 : n0 ≤ h3.size := Nat.le_trans Z0 (Keep.of_wr W3).1
  have K3 : Keep h0 h3 [rb] := K0.wr W3 (Or.inl (List.mem_of_getElem? (i := 0) rfl))
  have f4 : AI Z h3 rb .byte 256 (up fb pn (((vv.toUInt32 >>> ((24 : Int32) &&& 31).toUInt32).toInt32).toInt8.toInt32)) := AF.setI A_rb W3 pn hpn
  have f5 : Fld Z h3 ra "com/example/lockstep/lockstep/store/RecordBuffer" "bytes" "[B" (.ref rb) := F_bytes_ra.other W3 (Or.inl ne_ra_rb)
  obtain ⟨T6, X6, e6, st6⟩ := getF X3 hx hZ hown (host := "") (Or.inl (hw _ (List.mem_of_getElem? (i := 10) rfl))) Via.refl e3 f5 (g := (mkF m 12 #[.val (.ref ra), .val (.int pv), .val (.int vv)] [(.ref ra)])) rfl rfl (hb hby d8_12)
  obtain ⟨cl7, Arcl7, hincl7, -⟩ := AF.at f4 (j := (pv + (1 : Int32))) (pn + 1) (own_ix hpn hpl (1 : Int32) 1 rfl (by decide)) (by omega)
  obtain ⟨T8, h8, X8, e8, W8, st8⟩ := stB X6 hx hZ e6 Arcl7 (j := (pv + (1 : Int32))) hincl7 (g := (mkF m 23 #[.val (.ref ra), .val (.int pv), .val (.int vv)] [(.int (((vv.toUInt32 >>> ((16 : Int32) &&& 31).toUInt32).toInt32).toInt8.toInt32)), (.int (pv + (1 : Int32))), (.ref rb)])) rfl rfl (hb hby d8_23)
  rw [own_nb] at W8
  have N8 := Fr.snoc X8 N3 g_rb
  have Z8 : n0 ≤ h8.size := Nat.le_trans Z3 (Keep.of_wr W8).1
  have K8 : Keep h0 h8 [rb] := K3.wr W8 (Or.inl (List.mem_of_getElem? (i := 0) rfl))
  have f9 : AI Z h8 rb .byte 256 (up (up fb pn (((vv.toUInt32 >>> ((24 : Int32) &&& 31).toUInt32).toInt32).toInt8.toInt32)) (pn + 1) (((vv.toUInt32 >>> ((16 : Int32) &&& 31).toUInt32).toInt32).toInt8.toInt32)) := AF.setI f4 W8 (pn + 1) (own_ix hpn hpl (1 : Int32) 1 rfl (by decide))
  have f10 : Fld Z h8 ra "com/example/lockstep/lockstep/store/RecordBuffer" "bytes" "[B" (.ref rb) := f5.other W8 (Or.inl ne_ra_rb)
  obtain ⟨T11, X11, e11, st11⟩ := getF X8 hx hZ hown (host := "") (Or.inl (hw _ (List.mem_of_getElem? (i := 10) rfl))) Via.refl e8 f10 (g := (mkF m 25 #[.val (.ref ra), .val (.int pv), .val (.int vv)] [(.ref ra)])) rfl rfl (hb hby d8_25)
  obtain ⟨cl12, Arcl12, hincl12, -⟩ := AF.at f9 (j := (pv + (2 : Int32))) (pn + 2) (own_ix hpn hpl (2 : Int32) 2 rfl (by decide)) (by omega)
  obtain ⟨T13, h13, X13, e13, W13, st13⟩ := stB X11 hx hZ e11 Arcl12 (j := (pv + (2 : Int32))) hincl12 (g := (mkF m 36 #[.val (.ref ra), .val (.int pv), .val (.int vv)] [(.int (((vv.toUInt32 >>> ((8 : Int32) &&& 31).toUInt32).toInt32).toInt8.toInt32)), (.int (pv + (2 : Int32))), (.ref rb)])) rfl rfl (hb hby d8_36)
  rw [own_nb] at W13
  have N13 := Fr.snoc X13 N8 g_rb
  have Z13 : n0 ≤ h13.size := Nat.le_trans Z8 (Keep.of_wr W13).1
  have K13 : Keep h0 h13 [rb] := K8.wr W13 (Or.inl (List.mem_of_getElem? (i := 0) rfl))
  have f14 : AI Z h13 rb .byte 256 (up (up (up fb pn (((vv.toUInt32 >>> ((24 : Int32) &&& 31).toUInt32).toInt32).toInt8.toInt32)) (pn + 1) (((vv.toUInt32 >>> ((16 : Int32) &&& 31).toUInt32).toInt32).toInt8.toInt32)) (pn + 2) (((vv.toUInt32 >>> ((8 : Int32) &&& 31).toUInt32).toInt32).toInt8.toInt32)) := AF.setI f9 W13 (pn + 2) (own_ix hpn hpl (2 : Int32) 2 rfl (by decide))
  have f15 : Fld Z h13 ra "com/example/lockstep/lockstep/store/RecordBuffer" "bytes" "[B" (.ref rb) := f10.other W13 (Or.inl ne_ra_rb)
  obtain ⟨T16, X16, e16, st16⟩ := getF X13 hx hZ hown (host := "") (Or.inl (hw _ (List.mem_of_getElem? (i := 10) rfl))) Via.refl e13 f15 (g := (mkF m 38 #[.val (.ref ra), .val (.int pv), .val (.int vv)] [(.ref ra)])) rfl rfl (hb hby d8_38)
  obtain ⟨cl17, Arcl17, hincl17, -⟩ := AF.at f14 (j := (pv + (3 : Int32))) (pn + 3) (own_ix hpn hpl (3 : Int32) 3 rfl (by decide)) (by omega)
  obtain ⟨T18, h18, X18, e18, W18, st18⟩ := stB X16 hx hZ e16 Arcl17 (j := (pv + (3 : Int32))) hincl17 (g := (mkF m 46 #[.val (.ref ra), .val (.int pv), .val (.int vv)] [(.int (vv.toInt8.toInt32)), (.int (pv + (3 : Int32))), (.ref rb)])) rfl rfl (hb hby d8_46)
  rw [own_nb] at W18
  have N18 := Fr.snoc X18 N13 g_rb
  have Z18 : n0 ≤ h18.size := Nat.le_trans Z13 (Keep.of_wr W18).1
  have K18 : Keep h0 h18 [rb] := K13.wr W18 (Or.inl (List.mem_of_getElem? (i := 0) rfl))
  have f19 : AI Z h18 rb .byte 256 (up (up (up (up fb pn (((vv.toUInt32 >>> ((24 : Int32) &&& 31).toUInt32).toInt32).toInt8.toInt32)) (pn + 1) (((vv.toUInt32 >>> ((16 : Int32) &&& 31).toUInt32).toInt32).toInt8.toInt32)) (pn + 2) (((vv.toUInt32 >>> ((8 : Int32) &&& 31).toUInt32).toInt32).toInt8.toInt32)) (pn + 3) (vv.toInt8.toInt32)) := AF.setI f14 W18 (pn + 3) (own_ix hpn hpl (3 : Int32) 3 rfl (by decide))
  have f20 : Fld Z h18 ra "com/example/lockstep/lockstep/store/RecordBuffer" "bytes" "[B" (.ref rb) := f15.other W18 (Or.inl ne_ra_rb)
  obtain ⟨fs, hr, hrun, hended, hW, hsame⟩ := X18.leave (v := none) (fun _ => rfl)
  refine ⟨_, _, pre0 _ ?_, hrun, hended, _, _, rfl, ?_, ⟨_, rfl⟩, hW, hsame.mono (by decide) (by decide)⟩
  · show Steps p.tables e below (s₁.setTop (mkF m 0 #[.val (.ref ra), .val (.int pv), .val (.int vv)] [])) _
    refine XS.aloadN X0.here hx rfl (hb hby d8_0) rfl rfl ?_
    show Steps p.tables e below (s₁.setTop (mkF m 1 #[.val (.ref ra), .val (.int pv), .val (.int vv)] [(.ref ra)])) _
    refine st1 _ ?_
    show Steps p.tables e below (T1.setTop (mkF m 4 #[.val (.ref ra), .val (.int pv), .val (.int vv)] [(.ref rb)])) _
    refine XS.iloadN X1.here hx rfl (hb hby d8_4) rfl ?_
    show Steps p.tables e below (T1.setTop (mkF m 5 #[.val (.ref ra), .val (.int pv), .val (.int vv)] [(.int pv), (.ref rb)])) _
    refine XS.iloadN X1.here hx rfl (hb hby d8_5) rfl ?_
    show Steps p.tables e below (T1.setTop (mkF m 6 #[.val (.ref ra), .val (.int pv), .val (.int vv)] [(.int vv), (.int pv), (.ref rb)])) _
    refine XS.bipush X1.here hx rfl (hb hby d8_6) ?_
    show Steps p.tables e below (T1.setTop (mkF m 8 #[.val (.ref ra), .val (.int pv), .val (.int vv)] [(.int (24 : Int32)), (.int vv), (.int pv), (.ref rb)])) _
    refine XS.iushr X1.here hx rfl (hb hby d8_8) rfl ?_
    show Steps p.tables e below (T1.setTop (mkF m 9 #[.val (.ref ra), .val (.int pv), .val (.int vv)] [(.int ((vv.toUInt32 >>> ((24 : Int32) &&& 31).toUInt32).toInt32)), (.int pv), (.ref rb)])) _
    refine XS.i2b X1.here hx rfl (hb hby d8_9) rfl ?_
    show Steps p.tables e below (T1.setTop (mkF m 10 #[.val (.ref ra), .val (.int pv), .val (.int vv)] [(.int (((vv.toUInt32 >>> ((24 : Int32) &&& 31).toUInt32).toInt32).toInt8.toInt32)), (.int pv), (.ref rb)])) _
    refine st3 _ ?_
    show Steps p.tables e below (T3.setTop (mkF m 11 #[.val (.ref ra), .val (.int pv), .val (.int vv)] [])) _
    refine XS.aloadN X3.here hx rfl (hb hby d8_11) rfl rfl ?_
    show Steps p.tables e below (T3.setTop (mkF m 12 #[.val (.ref ra), .val (.int pv), .val (.int vv)] [(.ref ra)])) _
    refine st6 _ ?_
    show Steps p.tables e below (T6.setTop (mkF m 15 #[.val (.ref ra), .val (.int pv), .val (.int vv)] [(.ref rb)])) _
    refine XS.iloadN X6.here hx rfl (hb hby d8_15) rfl ?_
    show Steps p.tables e below (T6.setTop (mkF m 16 #[.val (.ref ra), .val (.int pv), .val (.int vv)] [(.int pv), (.ref rb)])) _
    refine XS.iconst X6.here hx rfl (hb hby d8_16) ?_
    show Steps p.tables e below (T6.setTop (mkF m 17 #[.val (.ref ra), .val (.int pv), .val (.int vv)] [(.int (1 : Int32)), (.int pv), (.ref rb)])) _
    refine XS.iadd X6.here hx rfl (hb hby d8_17) rfl ?_
    show Steps p.tables e below (T6.setTop (mkF m 18 #[.val (.ref ra), .val (.int pv), .val (.int vv)] [(.int (pv + (1 : Int32))), (.ref rb)])) _
    refine XS.iloadN X6.here hx rfl (hb hby d8_18) rfl ?_
    show Steps p.tables e below (T6.setTop (mkF m 19 #[.val (.ref ra), .val (.int pv), .val (.int vv)] [(.int vv), (.int (pv + (1 : Int32))), (.ref rb)])) _
    refine XS.bipush X6.here hx rfl (hb hby d8_19) ?_
    show Steps p.tables e below (T6.setTop (mkF m 21 #[.val (.ref ra), .val (.int pv), .val (.int vv)] [(.int (16 : Int32)), (.int vv), (.int (pv + (1 : Int32))), (.ref rb)])) _
    refine XS.iushr X6.here hx rfl (hb hby d8_21) rfl ?_
    show Steps p.tables e below (T6.setTop (mkF m 22 #[.val (.ref ra), .val (.int pv), .val (.int vv)] [(.int ((vv.toUInt32 >>> ((16 : Int32) &&& 31).toUInt32).toInt32)), (.int (pv + (1 : Int32))), (.ref rb)])) _
    refine XS.i2b X6.here hx rfl (hb hby d8_22) rfl ?_
    show Steps p.tables e below (T6.setTop (mkF m 23 #[.val (.ref ra), .val (.int pv), .val (.int vv)] [(.int (((vv.toUInt32 >>> ((16 : Int32) &&& 31).toUInt32).toInt32).toInt8.toInt32)), (.int (pv + (1 : Int32))), (.ref rb)])) _
    refine st8 _ ?_
    show Steps p.tables e below (T8.setTop (mkF m 24 #[.val (.ref ra), .val (.int pv), .val (.int vv)] [])) _
    refine XS.aloadN X8.here hx rfl (hb hby d8_24) rfl rfl ?_
    show Steps p.tables e below (T8.setTop (mkF m 25 #[.val (.ref ra), .val (.int pv), .val (.int vv)] [(.ref ra)])) _
    refine st11 _ ?_
    show Steps p.tables e below (T11.setTop (mkF m 28 #[.val (.ref ra), .val (.int pv), .val (.int vv)] [(.ref rb)])) _
    refine XS.iloadN X11.here hx rfl (hb hby d8_28) rfl ?_
    show Steps p.tables e below (T11.setTop (mkF m 29 #[.val (.ref ra), .val (.int pv), .val (.int vv)] [(.int pv), (.ref rb)])) _
    refine XS.iconst X11.here hx rfl (hb hby d8_29) ?_
    show Steps p.tables e below (T11.setTop (mkF m 30 #[.val (.ref ra), .val (.int pv), .val (.int vv)] [(.int (2 : Int32)), (.int pv), (.ref rb)])) _
    refine XS.iadd X11.here hx rfl (hb hby d8_30) rfl ?_
    show Steps p.tables e below (T11.setTop (mkF m 31 #[.val (.ref ra), .val (.int pv), .val (.int vv)] [(.int (pv + (2 : Int32))), (.ref rb)])) _
    refine XS.iloadN X11.here hx rfl (hb hby d8_31) rfl ?_
    show Steps p.tables e below (T11.setTop (mkF m 32 #[.val (.ref ra), .val (.int pv), .val (.int vv)] [(.int vv), (.int (pv + (2 : Int32))), (.ref rb)])) _
    refine XS.bipush X11.here hx rfl (hb hby d8_32) ?_
    show Steps p.tables e below (T11.setTop (mkF m 34 #[.val (.ref ra), .val (.int pv), .val (.int vv)] [(.int (8 : Int32)), (.int vv), (.int (pv + (2 : Int32))), (.ref rb)])) _
    refine XS.iushr X11.here hx rfl (hb hby d8_34) rfl ?_
    show Steps p.tables e below (T11.setTop (mkF m 35 #[.val (.ref ra), .val (.int pv), .val (.int vv)] [(.int ((vv.toUInt32 >>> ((8 : Int32) &&& 31).toUInt32).toInt32)), (.int (pv + (2 : Int32))), (.ref rb)])) _
    refine XS.i2b X11.here hx rfl (hb hby d8_35) rfl ?_
    show Steps p.tables e below (T11.setTop (mkF m 36 #[.val (.ref ra), .val (.int pv), .val (.int vv)] [(.int (((vv.toUInt32 >>> ((8 : Int32) &&& 31).toUInt32).toInt32).toInt8.toInt32)), (.int (pv + (2 : Int32))), (.ref rb)])) _
    refine st13 _ ?_
    show Steps p.tables e below (T13.setTop (mkF m 37 #[.val (.ref ra), .val (.int pv), .val (.int vv)] [])) _
    refine XS.aloadN X13.here hx rfl (hb hby d8_37) rfl rfl ?_
    show Steps p.tables e below (T13.setTop (mkF m 38 #[.val (.ref ra), .val (.int pv), .val (.int vv)] [(.ref ra)])) _
    refine st16 _ ?_
    show Steps p.tables e below (T16.setTop (mkF m 41 #[.val (.ref ra), .val (.int pv), .val (.int vv)] [(.ref rb)])) _
    refine XS.iloadN X16.here hx rfl (hb hby d8_41) rfl ?_
    show Steps p.tables e below (T16.setTop (mkF m 42 #[.val (.ref ra), .val (.int pv), .val (.int vv)] [(.int pv), (.ref rb)])) _
    refine XS.iconst X16.here hx rfl (hb hby d8_42) ?_
    show Steps p.tables e below (T16.setTop (mkF m 43 #[.val (.ref ra), .val (.int pv), .val (.int vv)] [(.int (3 : Int32)), (.int pv), (.ref rb)])) _
    refine XS.iadd X16.here hx rfl (hb hby d8_43) rfl ?_
    show Steps p.tables e below (T16.setTop (mkF m 44 #[.val (.ref ra), .val (.int pv), .val (.int vv)] [(.int (pv + (3 : Int32))), (.ref rb)])) _
    refine XS.iloadN X16.here hx rfl (hb hby d8_44) rfl ?_
    show Steps p.tables e below (T16.setTop (mkF m 45 #[.val (.ref ra), .val (.int pv), .val (.int vv)] [(.int vv), (.int (pv + (3 : Int32))), (.ref rb)])) _
    refine XS.i2b X16.here hx rfl (hb hby d8_45) rfl ?_
    show Steps p.tables e below (T16.setTop (mkF m 46 #[.val (.ref ra), .val (.int pv), .val (.int vv)] [(.int (vv.toInt8.toInt32)), (.int (pv + (3 : Int32))), (.ref rb)])) _
    refine st18 _ ?_
    show Steps p.tables e below (T18.setTop (mkF m 47 #[.val (.ref ra), .val (.int pv), .val (.int vv)] [])) _
    exact X18.returnOut hx Bd.returns (hb hby d8_47) hr
  · show Q8 Z ra pv vv rb fb pn h0 n0 _ T18.heap _
    rw [e18]
    exact ⟨rfl, N18, K18, f19⟩
theorem ef_6 (m : MethodId) (ra : Addr) (vv : Int32) : entryFrame m #[(.ref ra), (.int vv)] 2 = mkF m 0 #[.val (.ref ra), .val (.int vv)] [] := by first | (simp [entryFrame, mkF, argsToLocals, Value.category]; done) | rfl
theorem d6_0 : decode prog_146_method_6_code 0 = .ok (.aload_n 0, 1) := by decide +kernel
theorem d6_1 : decode prog_146_method_6_code 1 = .ok (.iconst 4, 1) := by decide +kernel
theorem pd_0 : parseMethodDescriptor "(I)V" = some ⟨[.int], none⟩ := by decide +kernel
theorem d6_2 : decode prog_146_method_6_code 2 = .ok (.invokevirtual 18, 3) := by decide +kernel
theorem d6_5 : decode prog_146_method_6_code 5 = .ok (.aload_n 0, 1) := by decide +kernel
theorem d6_6 : decode prog_146_method_6_code 6 = .ok (.aload_n 0, 1) := by decide +kernel
theorem d6_7 : decode prog_146_method_6_code 7 = .ok (.getfield 13, 3) := by decide +kernel
theorem d6_10 : decode prog_146_method_6_code 10 = .ok (.iload_n 1, 1) := by decide +kernel
theorem pd_1 : parseMethodDescriptor "(II)V" = some ⟨[.int, .int], none⟩ := by decide +kernel
theorem d6_11 : decode prog_146_method_6_code 11 = .ok (.invokevirtual 22, 3) := by decide +kernel
theorem d6_14 : decode prog_146_method_6_code 14 = .ok (.aload_n 0, 1) := by decide +kernel
theorem d6_15 : decode prog_146_method_6_code 15 = .ok (.dup, 1) := by decide +kernel
theorem d6_16 : decode prog_146_method_6_code 16 = .ok (.getfield 13, 3) := by decide +kernel
theorem d6_19 : decode prog_146_method_6_code 19 = .ok (.iconst 4, 1) := by decide +kernel
theorem d6_20 : decode prog_146_method_6_code 20 = .ok (.iadd, 1) := by decide +kernel
theorem d6_21 : decode prog_146_method_6_code 21 = .ok (.putfield 13, 3) := by decide +kernel
theorem d6_24 : decode prog_146_method_6_code 24 = .ok (.return_, 1) := by decide +kernel
def Q6 (Z : State) (ra : Addr) (vv : Int32) (rb : Addr) (fb : Nat → Int32) (sz : Int32) (sn : Nat) (h0 : Heap) (n0 : Nat) (v : Option Value) (h : Heap) (L : List Loc) : Prop := v = none ∧ Fr n0 L ∧ Keep h0 h [rb, ra] ∧ Fld Z h ra "com/example/lockstep/lockstep/store/RecordBuffer" "bytes" "[B" (.ref rb) ∧ Fld Z h ra "com/example/lockstep/lockstep/store/RecordBuffer" "size" "I" (.int (sz + (4 : Int32))) ∧ AI Z h rb .byte 256 (r8_arr vv fb sn)
set_option maxRecDepth 65536 in
set_option maxHeartbeats 40000000 in
theorem rm6 (l : Launch) (Z : State) (a0 : Array Value) (hw : ∀ d ∈ tables_1, d.before a0 Z = true) (ws : List Jvm.Cond) (ra : Addr) (vv : Int32) (rb : Addr) (fb : Nat → Int32) (sz : Int32) (sn : Nat) (h0 : Heap) (n0 : Nat) (Z0 : n0 ≤ h0.size) (F_bytes_ra : Fld Z h0 ra "com/example/lockstep/lockstep/store/RecordBuffer" "bytes" "[B" (.ref rb)) (A_rb : AI Z h0 rb .byte 256 fb) (F_size_ra : Fld Z h0 ra "com/example/lockstep/lockstep/store/RecordBuffer" "size" "I" (.int sz)) (E_ra : Exa Z h0 ra "com/example/lockstep/lockstep/store/RecordBuffer") (ne_ra_rb : ra ≠ rb) (hsn : sz.toInt = sn) (hsl : sn + 4 ≤ 256) (g_rb : n0 ≤ rb) (g_ra : n0 ≤ ra) :
    MetFree l (⟨"com/example/lockstep/lockstep/store/RecordBuffer", "writeInt", "(I)V"⟩ : MethodName) (head1 (Jvm.Cond.code (⟨"com/example/lockstep/lockstep/store/RecordBuffer", "writeInt", "(I)V"⟩ : MethodName) prog_146_method_6_code 2 none :: ws) ({ frames := 1, cells := 0, slots := 0, locals := 14 } : Room)) (fun a U => a = #[(.ref ra), (.int vv)] ∧ Z.Warmed39 U.vm ∧ U.heap = h0) (fun _ _ _ _ _ => True) (fun _ U o U' => ∃ v L, o = .returned v ∧ Q6 Z ra vv rb fb sz sn h0 n0 v U'.heap L ∧ FrameEnd U o U' L ({ frames := 1, cells := 0, slots := 0, locals := 14 } : Room).cells ({ frames := 1, cells := 0, slots := 0, locals := 14 } : Room).slots) := by
  refine MetFree.of_bodySF (plainFor_of_name pn_com_example_lockstep_lockstep_store_RecordBuffer) hisR ?_
  intro p e s m args below meth c s₁ Bd hml0 hP hK
  obtain ⟨rfl, hZ, hh⟩ := hP
  have hx := Bd.exec
  have hby := Bd.bytes
  have hml : c.maxLocals = 2 := hml0
  have hown : s.vm.findClass "com/example/lockstep/lockstep/store/RecordBuffer" = some m.cls := findClass_of_methodNamed Bd.named
  have hnm := (name_of_methodNamed Bd.named Bd.method).1
  have X0 : Stand p l e ({ frames := 1, cells := 0, slots := 0, locals := 14 } : Room) s m #[(.ref ra), (.int vv)] below meth c s₁ [] 0 0 := Stand.of_body Bd
  have e0 : s₁.heap = h0 := by rw [← hh, Bd.state]; rfl
  have N0 := Fr.nil n0
  have K0 : Keep h0 h0 [rb, ra] := Keep.refl h0 _
  have pre0 : ∀ t, Steps p.tables e below (s₁.setTop (mkF m 0 #[.val (.ref ra), .val (.int vv)] [])) t → Steps p.tables e below (s₁.setTop (entryFrame m #[(.ref ra), (.int vv)] 2)) t := fun t k => castTop (ef_6 m ra vv) k
  obtain ⟨cq1, q1, q1'⟩ := E_ra.cell
  obtain ⟨_, _, ⟨T1, L1, k1, n1⟩, -, X1, ⟨Lc1, hQ1, l1, y1, z1⟩, st1⟩ := X0.privateBack hx (y := (⟨"com/example/lockstep/lockstep/store/RecordBuffer", "grow", "(I)V"⟩ : MethodName)) hown (mvT hZ (hw _ (List.mem_of_getElem? (i := 35) rfl))) (mvT hZ (hw _ (List.mem_of_getElem? (i := 36) rfl))) (own_sel (mvT hZ (hw _ (List.mem_of_getElem? (i := 36) rfl))) (mvP hZ (hw _ (List.mem_of_getElem? (i := 37) rfl))) (mvT hZ (hw _ (List.mem_of_getElem? (i := 15) rfl))) rfl (by decide)) (Cond.privateMethod_at (mvP hZ (hw _ (List.mem_of_getElem? (i := 37) rfl)) (args := #[]))) (mvT hZ (hw _ (List.mem_of_getElem? (i := 38) rfl))) (by decide) (backOf (W := 0) (rm7 l Z a0 hw [] ra (4 : Int32) rb fb sz h0 n0 Z0 F_bytes_ra A_rb F_size_ra (own_gr hsn (kn := 4) rfl hsl (by decide))) hZ (hw _ (List.mem_of_getElem? (i := 38) rfl)) (hw _ (List.mem_of_getElem? (i := 2) rfl)) (by decide) (by decide)) (g := (mkF m 2 #[.val (.ref ra), .val (.int vv)] [(.int (4 : Int32)), (.ref ra)])) rfl (by rw [hml]; rfl) (Steps.refl _) (a := ra) (by rw [e0]; exact q1) q1' (argsL := [(.int (4 : Int32))]) (rest := []) (lenOf pd_0 rfl) rfl (by show 2 * 0 + _ ≤ _; exact Nat.le_of_eq rfl) (hb hby d6_2) (fun _ _ => ⟨rfl, e0, (by decide : 0 + 0 ≤ _), (by decide : 0 + 0 ≤ _)⟩)
  dsimp only [Pt.U, Pt.locs, Pt.cells, Pt.slots] at X1 l1 y1 z1 st1 hQ1
  subst l1 y1 z1
  obtain ⟨rfl, N1q, e1⟩ := hQ1
  have N1 := Fr.app N0 N1q
  obtain ⟨T2, X2, e2, st2⟩ := getF X1 hx hZ hown (host := "") (Or.inl (hw _ (List.mem_of_getElem? (i := 22) rfl))) Via.refl e1 F_size_ra (g := (mkF m 7 #[.val (.ref ra), .val (.int vv)] [(.ref ra), (.ref ra)])) rfl rfl (hb hby d6_7)
  obtain ⟨cq3, kq3, q3a, q3b, q3c⟩ := isOf hZ e2 E_ra
  obtain ⟨_, _, ⟨T3, L3, k3, n3⟩, -, X3, ⟨Lc3, hQ3, l3, y3, z3⟩, st3⟩ := X2.virtualBack hx (y := (⟨"com/example/lockstep/lockstep/store/RecordBuffer", "putInt", "(II)V"⟩ : MethodName)) (z := (⟨"com/example/lockstep/lockstep/store/RecordBuffer", "putInt", "(II)V"⟩ : MethodName)) hown (mvT hZ (hw _ (List.mem_of_getElem? (i := 39) rfl))) (mvT hZ (hw _ (List.mem_of_getElem? (i := 40) rfl))) (notFace_of_selects (args := #[]) (mvT hZ (hw _ (List.mem_of_getElem? (i := 42) rfl)))) (mvT hZ (hw _ (List.mem_of_getElem? (i := 42) rfl))) (mvT hZ (hw _ (List.mem_of_getElem? (i := 41) rfl))) (by decide) (backOf (W := 0) (rm8 l Z a0 hw [] ra sz vv rb fb sn h0 n0 Z0 F_bytes_ra A_rb ne_ra_rb (hsn) (hsl) g_rb) hZ (hw _ (List.mem_of_getElem? (i := 43) rfl)) (hw _ (List.mem_of_getElem? (i := 2) rfl)) (by decide) (by decide)) q3a q3c (g := (mkF m 11 #[.val (.ref ra), .val (.int vv)] [(.int vv), (.int sz), (.ref ra)])) rfl (by rw [hml]; rfl) (Steps.refl _) (argsL := [(.int sz), (.int vv)]) (rest := []) (lenOf pd_1 rfl) rfl (by show 2 * 0 + _ ≤ _; exact Nat.le_of_eq rfl) (hb hby d6_11) (fun _ _ => ⟨rfl, e2, (by decide : 0 + 0 ≤ _), (by decide : 0 + 0 ≤ _)⟩)
  dsimp only [Pt.U, Pt.locs, Pt.cells, Pt.slots] at X3 l3 y3 z3 st3 hQ3
  subst l3 y3 z3
  obtain ⟨rfl, N3q, K3c, f4⟩ := hQ3
  have N3 := Fr.app N1 N3q
  have f5 : Fld Z T3.heap ra "com/example/lockstep/lockstep/store/RecordBuffer" "bytes" "[B" (.ref rb) := F_bytes_ra.keep K3c (ninS ne_ra_rb nin0)
  have f6 : Fld Z T3.heap ra "com/example/lockstep/lockstep/store/RecordBuffer" "size" "I" (.int sz) := F_size_ra.keep K3c (ninS ne_ra_rb nin0)
  have f7 : Exa Z T3.heap ra "com/example/lockstep/lockstep/store/RecordBuffer" := E_ra.keep K3c
  have Z3 : n0 ≤ T3.heap.size := Nat.le_trans Z0 K3c.1
  have K3 : Keep h0 T3.heap [rb, ra] := K0.trans K3c (allS (Or.inl (List.mem_of_getElem? (i := 0) rfl)) all0)
  obtain ⟨T8, X8, e8, st8⟩ := getF X3 hx hZ hown (host := "") (Or.inl (hw _ (List.mem_of_getElem? (i := 22) rfl))) Via.refl rfl f6 (g := (mkF m 16 #[.val (.ref ra), .val (.int vv)] [(.ref ra), (.ref ra)])) rfl rfl (hb hby d6_16)
  obtain ⟨T9, h9, X9, e9, W9, st9⟩ := putF X8 hx hZ hown (host := "") (Or.inl (hw _ (List.mem_of_getElem? (i := 22) rfl))) Via.refl e8 f6 f7 (Or.inl (hw _ (List.mem_of_getElem? (i := 23) rfl))) (hw _ (List.mem_of_getElem? (i := 1) rfl)) (ty := .int) (by decide) rfl rfl (g := (mkF m 21 #[.val (.ref ra), .val (.int vv)] [(.int (sz + (4 : Int32))), (.ref ra)])) rfl rfl (hb hby d6_21)
  have N9 := Fr.snoc X9 N3 g_ra
  have Z9 : n0 ≤ h9.size := Nat.le_trans Z3 (Keep.of_wr W9).1
  have K9 : Keep h0 h9 [rb, ra] := K3.wr W9 (Or.inl (List.mem_of_getElem? (i := 1) rfl))
  have f10 : Fld Z h9 ra "com/example/lockstep/lockstep/store/RecordBuffer" "size" "I" (.int (sz + (4 : Int32))) := f6.same W9
  have f11 : Fld Z h9 ra "com/example/lockstep/lockstep/store/RecordBuffer" "bytes" "[B" (.ref rb) := f5.other W9 (Or.inr (slot_ne (Or.inl (hw _ (List.mem_of_getElem? (i := 11) rfl))) (Or.inl (hw _ (List.mem_of_getElem? (i := 23) rfl))) (by decide) (t := (.array .byte)) (t' := .int) (by decide) (by decide)))
  have f12 : Exa Z h9 ra "com/example/lockstep/lockstep/store/RecordBuffer" := f7.wr W9
  have f13 : AI Z h9 rb .byte 256 (r8_arr vv fb sn) := f4.other W9 (Ne.symm ne_ra_rb)
  obtain ⟨fs, hr, hrun, hended, hW, hsame⟩ := X9.leave (v := none) (fun _ => rfl)
  refine ⟨_, _, pre0 _ ?_, hrun, hended, _, _, rfl, ?_, ⟨_, rfl⟩, hW, hsame.mono (by decide) (by decide)⟩
  · show Steps p.tables e below (s₁.setTop (mkF m 0 #[.val (.ref ra), .val (.int vv)] [])) _
    refine XS.aloadN X0.here hx rfl (hb hby d6_0) rfl rfl ?_
    show Steps p.tables e below (s₁.setTop (mkF m 1 #[.val (.ref ra), .val (.int vv)] [(.ref ra)])) _
    refine XS.iconst X0.here hx rfl (hb hby d6_1) ?_
    show Steps p.tables e below (s₁.setTop (mkF m 2 #[.val (.ref ra), .val (.int vv)] [(.int (4 : Int32)), (.ref ra)])) _
    refine st1.trans ?_
    show Steps p.tables e below (T1.setTop (mkF m 5 #[.val (.ref ra), .val (.int vv)] [])) _
    refine XS.aloadN X1.here hx rfl (hb hby d6_5) rfl rfl ?_
    show Steps p.tables e below (T1.setTop (mkF m 6 #[.val (.ref ra), .val (.int vv)] [(.ref ra)])) _
    refine XS.aloadN X1.here hx rfl (hb hby d6_6) rfl rfl ?_
    show Steps p.tables e below (T1.setTop (mkF m 7 #[.val (.ref ra), .val (.int vv)] [(.ref ra), (.ref ra)])) _
    refine st2 _ ?_
    show Steps p.tables e below (T2.setTop (mkF m 10 #[.val (.ref ra), .val (.int vv)] [(.int sz), (.ref ra)])) _
    refine XS.iloadN X2.here hx rfl (hb hby d6_10) rfl ?_
    show Steps p.tables e below (T2.setTop (mkF m 11 #[.val (.ref ra), .val (.int vv)] [(.int vv), (.int sz), (.ref ra)])) _
    refine st3.trans ?_
    show Steps p.tables e below (T3.setTop (mkF m 14 #[.val (.ref ra), .val (.int vv)] [])) _
    refine XS.aloadN X3.here hx rfl (hb hby d6_14) rfl rfl ?_
    show Steps p.tables e below (T3.setTop (mkF m 15 #[.val (.ref ra), .val (.int vv)] [(.ref ra)])) _
    refine XS.dup X3.here hx rfl (hb hby d6_15) rfl rfl ?_
    show Steps p.tables e below (T3.setTop (mkF m 16 #[.val (.ref ra), .val (.int vv)] [(.ref ra), (.ref ra)])) _
    refine st8 _ ?_
    show Steps p.tables e below (T8.setTop (mkF m 19 #[.val (.ref ra), .val (.int vv)] [(.int sz), (.ref ra)])) _
    refine XS.iconst X8.here hx rfl (hb hby d6_19) ?_
    show Steps p.tables e below (T8.setTop (mkF m 20 #[.val (.ref ra), .val (.int vv)] [(.int (4 : Int32)), (.int sz), (.ref ra)])) _
    refine XS.iadd X8.here hx rfl (hb hby d6_20) rfl ?_
    show Steps p.tables e below (T8.setTop (mkF m 21 #[.val (.ref ra), .val (.int vv)] [(.int (sz + (4 : Int32))), (.ref ra)])) _
    refine st9 _ ?_
    show Steps p.tables e below (T9.setTop (mkF m 24 #[.val (.ref ra), .val (.int vv)] [])) _
    exact X9.returnOut hx Bd.returns (hb hby d6_24) hr
  · show Q6 Z ra vv rb fb sz sn h0 n0 _ T9.heap _
    rw [e9]
    exact ⟨rfl, N9, K9, f11, f10, f13⟩
theorem ef_9 (m : MethodId) (ra : Addr) (vv : Int32) : entryFrame m #[(.ref ra), (.int vv)] 2 = mkF m 0 #[.val (.ref ra), .val (.int vv)] [] := by first | (simp [entryFrame, mkF, argsToLocals, Value.category]; done) | rfl
theorem d9_0 : decode prog_146_method_5_code 0 = .ok (.aload_n 0, 1) := by decide +kernel
theorem d9_1 : decode prog_146_method_5_code 1 = .ok (.iconst 1, 1) := by decide +kernel
theorem d9_2 : decode prog_146_method_5_code 2 = .ok (.invokevirtual 18, 3) := by decide +kernel
theorem d9_5 : decode prog_146_method_5_code 5 = .ok (.aload_n 0, 1) := by decide +kernel
theorem d9_6 : decode prog_146_method_5_code 6 = .ok (.getfield 9, 3) := by decide +kernel
theorem d9_9 : decode prog_146_method_5_code 9 = .ok (.aload_n 0, 1) := by decide +kernel
theorem d9_10 : decode prog_146_method_5_code 10 = .ok (.dup, 1) := by decide +kernel
theorem d9_11 : decode prog_146_method_5_code 11 = .ok (.getfield 13, 3) := by decide +kernel
theorem d9_14 : decode prog_146_method_5_code 14 = .ok (.dup_x1, 1) := by decide +kernel
theorem d9_15 : decode prog_146_method_5_code 15 = .ok (.iconst 1, 1) := by decide +kernel
theorem d9_16 : decode prog_146_method_5_code 16 = .ok (.iadd, 1) := by decide +kernel
theorem d9_17 : decode prog_146_method_5_code 17 = .ok (.putfield 13, 3) := by decide +kernel
theorem d9_20 : decode prog_146_method_5_code 20 = .ok (.iload_n 1, 1) := by decide +kernel
theorem d9_21 : decode prog_146_method_5_code 21 = .ok (.i2b, 1) := by decide +kernel
theorem d9_22 : decode prog_146_method_5_code 22 = .ok (.bastore, 1) := by decide +kernel
theorem d9_23 : decode prog_146_method_5_code 23 = .ok (.return_, 1) := by decide +kernel
def Q9 (Z : State) (ra : Addr) (vv : Int32) (rb : Addr) (fb : Nat → Int32) (sz : Int32) (sn : Nat) (h0 : Heap) (n0 : Nat) (v : Option Value) (h : Heap) (L : List Loc) : Prop := v = none ∧ Fr n0 L ∧ Keep h0 h [ra, rb] ∧ Fld Z h ra "com/example/lockstep/lockstep/store/RecordBuffer" "bytes" "[B" (.ref rb) ∧ AI Z h rb .byte 256 (up fb sn (vv.toInt8.toInt32)) ∧ Fld Z h ra "com/example/lockstep/lockstep/store/RecordBuffer" "size" "I" (.int (sz + (1 : Int32)))
set_option maxRecDepth 65536 in
set_option maxHeartbeats 40000000 in
theorem rm9 (l : Launch) (Z : State) (a0 : Array Value) (hw : ∀ d ∈ tables_1, d.before a0 Z = true) (ws : List Jvm.Cond) (ra : Addr) (vv : Int32) (rb : Addr) (fb : Nat → Int32) (sz : Int32) (sn : Nat) (h0 : Heap) (n0 : Nat) (Z0 : n0 ≤ h0.size) (F_bytes_ra : Fld Z h0 ra "com/example/lockstep/lockstep/store/RecordBuffer" "bytes" "[B" (.ref rb)) (A_rb : AI Z h0 rb .byte 256 fb) (F_size_ra : Fld Z h0 ra "com/example/lockstep/lockstep/store/RecordBuffer" "size" "I" (.int sz)) (E_ra : Exa Z h0 ra "com/example/lockstep/lockstep/store/RecordBuffer") (ne_ra_rb : ra ≠ rb) (hsn : sz.toInt = sn) (hsl : sn + 4 ≤ 256) (g_ra : n0 ≤ ra) (g_rb : n0 ≤ rb) :
    MetFree l (⟨"com/example/lockstep/lockstep/store/RecordBuffer", "writeByte", "(I)V"⟩ : MethodName) (head1 (Jvm.Cond.code (⟨"com/example/lockstep/lockstep/store/RecordBuffer", "writeByte", "(I)V"⟩ : MethodName) prog_146_method_5_code 2 none :: ws) ({ frames := 1, cells := 0, slots := 0, locals := 13 } : Room)) (fun a U => a = #[(.ref ra), (.int vv)] ∧ Z.Warmed39 U.vm ∧ U.heap = h0) (fun _ _ _ _ _ => True) (fun _ U o U' => ∃ v L, o = .returned v ∧ Q9 Z ra vv rb fb sz sn h0 n0 v U'.heap L ∧ FrameEnd U o U' L ({ frames := 1, cells := 0, slots := 0, locals := 13 } : Room).cells ({ frames := 1, cells := 0, slots := 0, locals := 13 } : Room).slots) := by
  refine MetFree.of_bodySF (plainFor_of_name pn_com_example_lockstep_lockstep_store_RecordBuffer) hisR ?_
  intro p e s m args below meth c s₁ Bd hml0 hP hK
  obtain ⟨rfl, hZ, hh⟩ := hP
  have hx := Bd.exec
  have hby := Bd.bytes
  have hml : c.maxLocals = 2 := hml0
  have hown : s.vm.findClass "com/example/lockstep/lockstep/store/RecordBuffer" = some m.cls := findClass_of_methodNamed Bd.named
  have hnm := (name_of_methodNamed Bd.named Bd.method).1
  have X0 : Stand p l e ({ frames := 1, cells := 0, slots := 0, locals := 13 } : Room) s m #[(.ref ra), (.int vv)] below meth c s₁ [] 0 0 := Stand.of_body Bd
  have e0 : s₁.heap = h0 := by rw [← hh, Bd.state]; rfl
  have N0 := Fr.nil n0
  have K0 : Keep h0 h0 [ra, rb] := Keep.refl h0 _
  have pre0 : ∀ t, Steps p.tables e below (s₁.setTop (mkF m 0 #[.val (.ref ra), .val (.int vv)] [])) t → Steps p.tables e below (s₁.setTop (entryFrame m #[(.ref ra), (.int vv)] 2)) t := fun t k => castTop (ef_9 m ra vv) k
  obtain ⟨cq1, q1, q1'⟩ := E_ra.cell
  obtain ⟨_, _, ⟨T1, L1, k1, n1⟩, -, X1, ⟨Lc1, hQ1, l1, y1, z1⟩, st1⟩ := X0.privateBack hx (y := (⟨"com/example/lockstep/lockstep/store/RecordBuffer", "grow", "(I)V"⟩ : MethodName)) hown (mvT hZ (hw _ (List.mem_of_getElem? (i := 35) rfl))) (mvT hZ (hw _ (List.mem_of_getElem? (i := 36) rfl))) (own_sel (mvT hZ (hw _ (List.mem_of_getElem? (i := 36) rfl))) (mvP hZ (hw _ (List.mem_of_getElem? (i := 37) rfl))) (mvT hZ (hw _ (List.mem_of_getElem? (i := 15) rfl))) rfl (by decide)) (Cond.privateMethod_at (mvP hZ (hw _ (List.mem_of_getElem? (i := 37) rfl)) (args := #[]))) (mvT hZ (hw _ (List.mem_of_getElem? (i := 38) rfl))) (by decide) (backOf (W := 0) (rm7 l Z a0 hw [] ra (1 : Int32) rb fb sz h0 n0 Z0 F_bytes_ra A_rb F_size_ra (own_gr hsn (kn := 1) rfl (by omega) (by decide))) hZ (hw _ (List.mem_of_getElem? (i := 38) rfl)) (hw _ (List.mem_of_getElem? (i := 2) rfl)) (by decide) (by decide)) (g := (mkF m 2 #[.val (.ref ra), .val (.int vv)] [(.int (1 : Int32)), (.ref ra)])) rfl (by rw [hml]; rfl) (Steps.refl _) (a := ra) (by rw [e0]; exact q1) q1' (argsL := [(.int (1 : Int32))]) (rest := []) (lenOf pd_0 rfl) rfl (by show 2 * 0 + _ ≤ _; exact Nat.le_of_eq rfl) (hb hby d9_2) (fun _ _ => ⟨rfl, e0, (by decide : 0 + 0 ≤ _), (by decide : 0 + 0 ≤ _)⟩)
  dsimp only [Pt.U, Pt.locs, Pt.cells, Pt.slots] at X1 l1 y1 z1 st1 hQ1
  subst l1 y1 z1
  obtain ⟨rfl, N1q, e1⟩ := hQ1
  have N1 := Fr.app N0 N1q
  obtain ⟨T2, X2, e2, st2⟩ := getF X1 hx hZ hown (host := "") (Or.inl (hw _ (List.mem_of_getElem? (i := 10) rfl))) Via.refl e1 F_bytes_ra (g := (mkF m 6 #[.val (.ref ra), .val (.int vv)] [(.ref ra)])) rfl rfl (hb hby d9_6)
  obtain ⟨T3, X3, e3, st3⟩ := getF X2 hx hZ hown (host := "") (Or.inl (hw _ (List.mem_of_getElem? (i := 22) rfl))) Via.refl e2 F_size_ra (g := (mkF m 11 #[.val (.ref ra), .val (.int vv)] [(.ref ra), (.ref ra), (.ref rb)])) rfl rfl (hb hby d9_11)
  obtain ⟨T4, h4, X4, e4, W4, st4⟩ := putF X3 hx hZ hown (host := "") (Or.inl (hw _ (List.mem_of_getElem? (i := 22) rfl))) Via.refl e3 F_size_ra E_ra (Or.inl (hw _ (List.mem_of_getElem? (i := 23) rfl))) (hw _ (List.mem_of_getElem? (i := 1) rfl)) (ty := .int) (by decide) rfl rfl (g := (mkF m 17 #[.val (.ref ra), .val (.int vv)] [(.int (sz + (1 : Int32))), (.ref ra), (.int sz), (.ref rb)])) rfl rfl (hb hby d9_17)
  have N4 := Fr.snoc X4 N1 g_ra
  have Z4 : n0 ≤ h4.size := Nat.le_trans Z0 (Keep.of_wr W4).1
  have K4 : Keep h0 h4 [ra, rb] := K0.wr W4 (Or.inl (List.mem_of_getElem? (i := 0) rfl))
  have f5 : Fld Z h4 ra "com/example/lockstep/lockstep/store/RecordBuffer" "size" "I" (.int (sz + (1 : Int32))) := F_size_ra.same W4
  have f6 : Fld Z h4 ra "com/example/lockstep/lockstep/store/RecordBuffer" "bytes" "[B" (.ref rb) := F_bytes_ra.other W4 (Or.inr (slot_ne (Or.inl (hw _ (List.mem_of_getElem? (i := 11) rfl))) (Or.inl (hw _ (List.mem_of_getElem? (i := 23) rfl))) (by decide) (t := (.array .byte)) (t' := .int) (by decide) (by decide)))
  have f7 : AI Z h4 rb .byte 256 fb := A_rb.other W4 (Ne.symm ne_ra_rb)
  have f8 : Exa Z h4 ra "com/example/lockstep/lockstep/store/RecordBuffer" := E_ra.wr W4
  obtain ⟨cl9, Arcl9, hincl9, -⟩ := AF.at f7 (j := sz) sn hsn (by omega)
  obtain ⟨T10, h10, X10, e10, W10, st10⟩ := stB X4 hx hZ e4 Arcl9 (j := sz) hincl9 (g := (mkF m 22 #[.val (.ref ra), .val (.int vv)] [(.int (vv.toInt8.toInt32)), (.int sz), (.ref rb)])) rfl rfl (hb hby d9_22)
  rw [own_nb] at W10
  have N10 := Fr.snoc X10 N4 g_rb
  have Z10 : n0 ≤ h10.size := Nat.le_trans Z4 (Keep.of_wr W10).1
  have K10 : Keep h0 h10 [ra, rb] := K4.wr W10 (Or.inl (List.mem_of_getElem? (i := 1) rfl))
  have f11 : AI Z h10 rb .byte 256 (up fb sn (vv.toInt8.toInt32)) := AF.setI f7 W10 sn hsn
  have f12 : Fld Z h10 ra "com/example/lockstep/lockstep/store/RecordBuffer" "bytes" "[B" (.ref rb) := f6.other W10 (Or.inl ne_ra_rb)
  have f13 : Fld Z h10 ra "com/example/lockstep/lockstep/store/RecordBuffer" "size" "I" (.int (sz + (1 : Int32))) := f5.other W10 (Or.inl ne_ra_rb)
  have f14 : Exa Z h10 ra "com/example/lockstep/lockstep/store/RecordBuffer" := f8.wr W10
  obtain ⟨fs, hr, hrun, hended, hW, hsame⟩ := X10.leave (v := none) (fun _ => rfl)
  refine ⟨_, _, pre0 _ ?_, hrun, hended, _, _, rfl, ?_, ⟨_, rfl⟩, hW, hsame.mono (by decide) (by decide)⟩
  · show Steps p.tables e below (s₁.setTop (mkF m 0 #[.val (.ref ra), .val (.int vv)] [])) _
    refine XS.aloadN X0.here hx rfl (hb hby d9_0) rfl rfl ?_
    show Steps p.tables e below (s₁.setTop (mkF m 1 #[.val (.ref ra), .val (.int vv)] [(.ref ra)])) _
    refine XS.iconst X0.here hx rfl (hb hby d9_1) ?_
    show Steps p.tables e below (s₁.setTop (mkF m 2 #[.val (.ref ra), .val (.int vv)] [(.int (1 : Int32)), (.ref ra)])) _
    refine st1.trans ?_
    show Steps p.tables e below (T1.setTop (mkF m 5 #[.val (.ref ra), .val (.int vv)] [])) _
    refine XS.aloadN X1.here hx rfl (hb hby d9_5) rfl rfl ?_
    show Steps p.tables e below (T1.setTop (mkF m 6 #[.val (.ref ra), .val (.int vv)] [(.ref ra)])) _
    refine st2 _ ?_
    show Steps p.tables e below (T2.setTop (mkF m 9 #[.val (.ref ra), .val (.int vv)] [(.ref rb)])) _
    refine XS.aloadN X2.here hx rfl (hb hby d9_9) rfl rfl ?_
    show Steps p.tables e below (T2.setTop (mkF m 10 #[.val (.ref ra), .val (.int vv)] [(.ref ra), (.ref rb)])) _
    refine XS.dup X2.here hx rfl (hb hby d9_10) rfl rfl ?_
    show Steps p.tables e below (T2.setTop (mkF m 11 #[.val (.ref ra), .val (.int vv)] [(.ref ra), (.ref ra), (.ref rb)])) _
    refine st3 _ ?_
    show Steps p.tables e below (T3.setTop (mkF m 14 #[.val (.ref ra), .val (.int vv)] [(.int sz), (.ref ra), (.ref rb)])) _
    refine XS.dupX1 X3.here hx rfl (hb hby d9_14) rfl rfl rfl ?_
    show Steps p.tables e below (T3.setTop (mkF m 15 #[.val (.ref ra), .val (.int vv)] [(.int sz), (.ref ra), (.int sz), (.ref rb)])) _
    refine XS.iconst X3.here hx rfl (hb hby d9_15) ?_
    show Steps p.tables e below (T3.setTop (mkF m 16 #[.val (.ref ra), .val (.int vv)] [(.int (1 : Int32)), (.int sz), (.ref ra), (.int sz), (.ref rb)])) _
    refine XS.iadd X3.here hx rfl (hb hby d9_16) rfl ?_
    show Steps p.tables e below (T3.setTop (mkF m 17 #[.val (.ref ra), .val (.int vv)] [(.int (sz + (1 : Int32))), (.ref ra), (.int sz), (.ref rb)])) _
    refine st4 _ ?_
    show Steps p.tables e below (T4.setTop (mkF m 20 #[.val (.ref ra), .val (.int vv)] [(.int sz), (.ref rb)])) _
    refine XS.iloadN X4.here hx rfl (hb hby d9_20) rfl ?_
    show Steps p.tables e below (T4.setTop (mkF m 21 #[.val (.ref ra), .val (.int vv)] [(.int vv), (.int sz), (.ref rb)])) _
    refine XS.i2b X4.here hx rfl (hb hby d9_21) rfl ?_
    show Steps p.tables e below (T4.setTop (mkF m 22 #[.val (.ref ra), .val (.int vv)] [(.int (vv.toInt8.toInt32)), (.int sz), (.ref rb)])) _
    refine st10 _ ?_
    show Steps p.tables e below (T10.setTop (mkF m 23 #[.val (.ref ra), .val (.int vv)] [])) _
    exact X10.returnOut hx Bd.returns (hb hby d9_23) hr
  · show Q9 Z ra vv rb fb sz sn h0 n0 _ T10.heap _
    rw [e10]
    exact ⟨rfl, N10, K10, f12, f11, f13⟩
theorem ef_10 (m : MethodId) (ra : Addr) (lv : Int64) : entryFrame m #[(.ref ra), (.long lv)] 3 = mkF m 0 #[.val (.ref ra), .val (.long lv), .second] [] := by first | (simp [entryFrame, mkF, argsToLocals, Value.category]; done) | rfl
theorem d10_0 : decode prog_146_method_7_code 0 = .ok (.aload_n 0, 1) := by decide +kernel
theorem d10_1 : decode prog_146_method_7_code 1 = .ok (.lload_n 1, 1) := by decide +kernel
theorem d10_2 : decode prog_146_method_7_code 2 = .ok (.bipush 32, 2) := by decide +kernel
theorem d10_4 : decode prog_146_method_7_code 4 = .ok (.lushr, 1) := by decide +kernel
theorem d10_5 : decode prog_146_method_7_code 5 = .ok (.l2i, 1) := by decide +kernel
theorem d10_6 : decode prog_146_method_7_code 6 = .ok (.invokevirtual 26, 3) := by decide +kernel
theorem d10_9 : decode prog_146_method_7_code 9 = .ok (.aload_n 0, 1) := by decide +kernel
theorem d10_10 : decode prog_146_method_7_code 10 = .ok (.lload_n 1, 1) := by decide +kernel
theorem d10_11 : decode prog_146_method_7_code 11 = .ok (.l2i, 1) := by decide +kernel
theorem d10_12 : decode prog_146_method_7_code 12 = .ok (.invokevirtual 26, 3) := by decide +kernel
theorem d10_15 : decode prog_146_method_7_code 15 = .ok (.return_, 1) := by decide +kernel
def Q10 (Z : State) (ra : Addr) (lv : Int64) (rb : Addr) (fb : Nat → Int32) (sz : Int32) (sn : Nat) (h0 : Heap) (n0 : Nat) (v : Option Value) (h : Heap) (L : List Loc) : Prop := v = none ∧ Fr n0 L ∧ Keep h0 h [ra, rb] ∧ Fld Z h ra "com/example/lockstep/lockstep/store/RecordBuffer" "bytes" "[B" (.ref rb) ∧ Fld Z h ra "com/example/lockstep/lockstep/store/RecordBuffer" "size" "I" (.int ((sz + (4 : Int32)) + (4 : Int32))) ∧ AI Z h rb .byte 256 (r8_arr (lv.toInt32) (r8_arr (((lv.toUInt64 >>> ((32 : Int32) &&& 0x3f).toInt64.toUInt64).toInt64).toInt32) fb sn) (sn + 4))
set_option maxRecDepth 65536 in
set_option maxHeartbeats 40000000 in
theorem rm10 (l : Launch) (Z : State) (a0 : Array Value) (hw : ∀ d ∈ tables_1, d.before a0 Z = true) (ws : List Jvm.Cond) (ra : Addr) (lv : Int64) (rb : Addr) (fb : Nat → Int32) (sz : Int32) (sn : Nat) (h0 : Heap) (n0 : Nat) (Z0 : n0 ≤ h0.size) (F_bytes_ra : Fld Z h0 ra "com/example/lockstep/lockstep/store/RecordBuffer" "bytes" "[B" (.ref rb)) (A_rb : AI Z h0 rb .byte 256 fb) (F_size_ra : Fld Z h0 ra "com/example/lockstep/lockstep/store/RecordBuffer" "size" "I" (.int sz)) (E_ra : Exa Z h0 ra "com/example/lockstep/lockstep/store/RecordBuffer") (ne_ra_rb : ra ≠ rb) (hsn : sz.toInt = sn) (hsl : sn + 8 ≤ 256) (g_rb : n0 ≤ rb) (g_ra : n0 ≤ ra) :
    MetFree l (⟨"com/example/lockstep/lockstep/store/RecordBuffer", "writeLong", "(J)V"⟩ : MethodName) (head1 (Jvm.Cond.code (⟨"com/example/lockstep/lockstep/store/RecordBuffer", "writeLong", "(J)V"⟩ : MethodName) prog_146_method_7_code 3 none :: ws) ({ frames := 2, cells := 0, slots := 0, locals := 27 } : Room)) (fun a U => a = #[(.ref ra), (.long lv)] ∧ Z.Warmed39 U.vm ∧ U.heap = h0) (fun _ _ _ _ _ => True) (fun _ U o U' => ∃ v L, o = .returned v ∧ Q10 Z ra lv rb fb sz sn h0 n0 v U'.heap L ∧ FrameEnd U o U' L ({ frames := 2, cells := 0, slots := 0, locals := 27 } : Room).cells ({ frames := 2, cells := 0, slots := 0, locals := 27 } : Room).slots) := by
  refine MetFree.of_bodySF (plainFor_of_name pn_com_example_lockstep_lockstep_store_RecordBuffer) hisR ?_
  intro p e s m args below meth c s₁ Bd hml0 hP hK
  obtain ⟨rfl, hZ, hh⟩ := hP
  have hx := Bd.exec
  have hby := Bd.bytes
  have hml : c.maxLocals = 3 := hml0
  have hown : s.vm.findClass "com/example/lockstep/lockstep/store/RecordBuffer" = some m.cls := findClass_of_methodNamed Bd.named
  have hnm := (name_of_methodNamed Bd.named Bd.method).1
  have X0 : Stand p l e ({ frames := 2, cells := 0, slots := 0, locals := 27 } : Room) s m #[(.ref ra), (.long lv)] below meth c s₁ [] 0 0 := Stand.of_body Bd
  have e0 : s₁.heap = h0 := by rw [← hh, Bd.state]; rfl
  have N0 := Fr.nil n0
  have K0 : Keep h0 h0 [ra, rb] := Keep.refl h0 _
  have pre0 : ∀ t, Steps p.tables e below (s₁.setTop (mkF m 0 #[.val (.ref ra), .val (.long lv), .second] [])) t → Steps p.tables e below (s₁.setTop (entryFrame m #[(.ref ra), (.long lv)] 3)) t := fun t k => castTop (ef_10 m ra lv) k
  obtain ⟨cq1, kq1, q1a, q1b, q1c⟩ := isOf hZ e0 E_ra
  obtain ⟨_, _, ⟨T1, L1, k1, n1⟩, -, X1, ⟨Lc1, hQ1, l1, y1, z1⟩, st1⟩ := X0.virtualBack hx (y := (⟨"com/example/lockstep/lockstep/store/RecordBuffer", "writeInt", "(I)V"⟩ : MethodName)) (z := (⟨"com/example/lockstep/lockstep/store/RecordBuffer", "writeInt", "(I)V"⟩ : MethodName)) hown (mvT hZ (hw _ (List.mem_of_getElem? (i := 54) rfl))) (mvT hZ (hw _ (List.mem_of_getElem? (i := 31) rfl))) (notFace_of_selects (args := #[]) (mvT hZ (hw _ (List.mem_of_getElem? (i := 33) rfl)))) (mvT hZ (hw _ (List.mem_of_getElem? (i := 33) rfl))) (mvT hZ (hw _ (List.mem_of_getElem? (i := 32) rfl))) (by decide) (backOf (W := 0) (rm6 l Z a0 hw [] ra (((lv.toUInt64 >>> ((32 : Int32) &&& 0x3f).toInt64.toUInt64).toInt64).toInt32) rb fb sz sn h0 n0 Z0 F_bytes_ra A_rb F_size_ra E_ra ne_ra_rb (hsn) (by omega) g_rb g_ra) hZ (hw _ (List.mem_of_getElem? (i := 34) rfl)) (hw _ (List.mem_of_getElem? (i := 2) rfl)) (by decide) (by decide)) q1a q1c (g := (mkF m 6 #[.val (.ref ra), .val (.long lv), .second] [(.int (((lv.toUInt64 >>> ((32 : Int32) &&& 0x3f).toInt64.toUInt64).toInt64).toInt32)), (.ref ra)])) rfl (by rw [hml]; rfl) (Steps.refl _) (argsL := [(.int (((lv.toUInt64 >>> ((32 : Int32) &&& 0x3f).toInt64.toUInt64).toInt64).toInt32))]) (rest := []) (lenOf pd_0 rfl) rfl (by show 2 * 0 + _ ≤ _; exact Nat.le_of_eq rfl) (hb hby d10_6) (fun _ _ => ⟨rfl, e0, (by decide : 0 + 0 ≤ _), (by decide : 0 + 0 ≤ _)⟩)
  dsimp only [Pt.U, Pt.locs, Pt.cells, Pt.slots] at X1 l1 y1 z1 st1 hQ1
  subst l1 y1 z1
  obtain ⟨rfl, N1q, K1c, f2, f3, f4⟩ := hQ1
  have N1 := Fr.app N0 N1q
  have f5 : Exa Z T1.heap ra "com/example/lockstep/lockstep/store/RecordBuffer" := E_ra.keep K1c
  have Z1 : n0 ≤ T1.heap.size := Nat.le_trans Z0 K1c.1
  have K1 : Keep h0 T1.heap [ra, rb] := K0.trans K1c (allS (Or.inl (List.mem_of_getElem? (i := 1) rfl)) (allS (Or.inl (List.mem_of_getElem? (i := 0) rfl)) all0))
  obtain ⟨cq6, kq6, q6a, q6b, q6c⟩ := isOf hZ rfl f5
  obtain ⟨_, _, ⟨T6, L6, k6, n6⟩, -, X6, ⟨Lc6, hQ6, l6, y6, z6⟩, st6⟩ := X1.virtualBack hx (y := (⟨"com/example/lockstep/lockstep/store/RecordBuffer", "writeInt", "(I)V"⟩ : MethodName)) (z := (⟨"com/example/lockstep/lockstep/store/RecordBuffer", "writeInt", "(I)V"⟩ : MethodName)) hown (mvT hZ (hw _ (List.mem_of_getElem? (i := 54) rfl))) (mvT hZ (hw _ (List.mem_of_getElem? (i := 31) rfl))) (notFace_of_selects (args := #[]) (mvT hZ (hw _ (List.mem_of_getElem? (i := 33) rfl)))) (mvT hZ (hw _ (List.mem_of_getElem? (i := 33) rfl))) (mvT hZ (hw _ (List.mem_of_getElem? (i := 32) rfl))) (by decide) (backOf (W := 0) (rm6 l Z a0 hw [] ra (lv.toInt32) rb (r8_arr (((lv.toUInt64 >>> ((32 : Int32) &&& 0x3f).toInt64.toUInt64).toInt64).toInt32) fb sn) (sz + (4 : Int32)) (sn + 4) T1.heap n0 Z1 f2 f4 f3 f5 ne_ra_rb (own_ix hsn (by omega) (4 : Int32) 4 rfl (by decide)) (by omega) g_rb g_ra) hZ (hw _ (List.mem_of_getElem? (i := 34) rfl)) (hw _ (List.mem_of_getElem? (i := 2) rfl)) (by decide) (by decide)) q6a q6c (g := (mkF m 12 #[.val (.ref ra), .val (.long lv), .second] [(.int (lv.toInt32)), (.ref ra)])) rfl (by rw [hml]; rfl) (Steps.refl _) (argsL := [(.int (lv.toInt32))]) (rest := []) (lenOf pd_0 rfl) rfl (by show 2 * 0 + _ ≤ _; exact Nat.le_of_eq rfl) (hb hby d10_12) (fun _ _ => ⟨rfl, rfl, (by decide : 0 + 0 ≤ _), (by decide : 0 + 0 ≤ _)⟩)
  dsimp only [Pt.U, Pt.locs, Pt.cells, Pt.slots] at X6 l6 y6 z6 st6 hQ6
  subst l6 y6 z6
  obtain ⟨rfl, N6q, K6c, f7, f8, f9⟩ := hQ6
  have N6 := Fr.app N1 N6q
  have f10 : Exa Z T6.heap ra "com/example/lockstep/lockstep/store/RecordBuffer" := f5.keep K6c
  have Z6 : n0 ≤ T6.heap.size := Nat.le_trans Z1 K6c.1
  have K6 : Keep h0 T6.heap [ra, rb] := K1.trans K6c (allS (Or.inl (List.mem_of_getElem? (i := 1) rfl)) (allS (Or.inl (List.mem_of_getElem? (i := 0) rfl)) all0))
  obtain ⟨fs, hr, hrun, hended, hW, hsame⟩ := X6.leave (v := none) (fun _ => rfl)
  refine ⟨_, _, pre0 _ ?_, hrun, hended, _, _, rfl, ?_, ⟨_, rfl⟩, hW, hsame.mono (by decide) (by decide)⟩
  · show Steps p.tables e below (s₁.setTop (mkF m 0 #[.val (.ref ra), .val (.long lv), .second] [])) _
    refine XS.aloadN X0.here hx rfl (hb hby d10_0) rfl rfl ?_
    show Steps p.tables e below (s₁.setTop (mkF m 1 #[.val (.ref ra), .val (.long lv), .second] [(.ref ra)])) _
    refine XS.lloadN X0.here hx rfl (hb hby d10_1) rfl ?_
    show Steps p.tables e below (s₁.setTop (mkF m 2 #[.val (.ref ra), .val (.long lv), .second] [(.long lv), (.ref ra)])) _
    refine XS.bipush X0.here hx rfl (hb hby d10_2) ?_
    show Steps p.tables e below (s₁.setTop (mkF m 4 #[.val (.ref ra), .val (.long lv), .second] [(.int (32 : Int32)), (.long lv), (.ref ra)])) _
    refine XS.lushr X0.here hx rfl (hb hby d10_4) rfl ?_
    show Steps p.tables e below (s₁.setTop (mkF m 5 #[.val (.ref ra), .val (.long lv), .second] [(.long ((lv.toUInt64 >>> ((32 : Int32) &&& 0x3f).toInt64.toUInt64).toInt64)), (.ref ra)])) _
    refine XS.l2i X0.here hx rfl (hb hby d10_5) rfl ?_
    show Steps p.tables e below (s₁.setTop (mkF m 6 #[.val (.ref ra), .val (.long lv), .second] [(.int (((lv.toUInt64 >>> ((32 : Int32) &&& 0x3f).toInt64.toUInt64).toInt64).toInt32)), (.ref ra)])) _
    refine st1.trans ?_
    show Steps p.tables e below (T1.setTop (mkF m 9 #[.val (.ref ra), .val (.long lv), .second] [])) _
    refine XS.aloadN X1.here hx rfl (hb hby d10_9) rfl rfl ?_
    show Steps p.tables e below (T1.setTop (mkF m 10 #[.val (.ref ra), .val (.long lv), .second] [(.ref ra)])) _
    refine XS.lloadN X1.here hx rfl (hb hby d10_10) rfl ?_
    show Steps p.tables e below (T1.setTop (mkF m 11 #[.val (.ref ra), .val (.long lv), .second] [(.long lv), (.ref ra)])) _
    refine XS.l2i X1.here hx rfl (hb hby d10_11) rfl ?_
    show Steps p.tables e below (T1.setTop (mkF m 12 #[.val (.ref ra), .val (.long lv), .second] [(.int (lv.toInt32)), (.ref ra)])) _
    refine st6.trans ?_
    show Steps p.tables e below (T6.setTop (mkF m 15 #[.val (.ref ra), .val (.long lv), .second] [])) _
    exact X6.returnOut hx Bd.returns (hb hby d10_15) hr
  · show Q10 Z ra lv rb fb sz sn h0 n0 _ T6.heap _
    exact ⟨rfl, N6, K6, f7, f8, f9⟩
theorem ef_3 (m : MethodId) (ra : Addr) : entryFrame m #[(.ref ra)] 1 = mkF m 0 #[.val (.ref ra)] [] := by first | (simp [entryFrame, mkF, argsToLocals, Value.category]; done) | rfl
theorem d3_0 : decode prog_146_method_3_code 0 = .ok (.aload_n 0, 1) := by decide +kernel
theorem d3_1 : decode prog_146_method_3_code 1 = .ok (.getfield 9, 3) := by decide +kernel
theorem d3_4 : decode prog_146_method_3_code 4 = .ok (.areturn, 1) := by decide +kernel
def Q3 (Z : State) (ra : Addr) (rb : Addr) (h0 : Heap) (n0 : Nat) (v : Option Value) (h : Heap) (L : List Loc) : Prop := v = some (.ref rb) ∧ Fr n0 L ∧ h = h0
set_option maxRecDepth 65536 in
set_option maxHeartbeats 40000000 in
theorem rm3 (l : Launch) (Z : State) (a0 : Array Value) (hw : ∀ d ∈ tables_1, d.before a0 Z = true) (ws : List Jvm.Cond) (ra : Addr) (rb : Addr) (h0 : Heap) (n0 : Nat) (Z0 : n0 ≤ h0.size) (F_bytes_ra : Fld Z h0 ra "com/example/lockstep/lockstep/store/RecordBuffer" "bytes" "[B" (.ref rb)) :
    MetFree l (⟨"com/example/lockstep/lockstep/store/RecordBuffer", "bytes", "()[B"⟩ : MethodName) (head1 (Jvm.Cond.code (⟨"com/example/lockstep/lockstep/store/RecordBuffer", "bytes", "()[B"⟩ : MethodName) prog_146_method_3_code 1 (some (.array .byte)) :: ws) ({ frames := 0, cells := 0, slots := 0, locals := 0 } : Room)) (fun a U => a = #[(.ref ra)] ∧ Z.Warmed39 U.vm ∧ U.heap = h0) (fun _ _ _ _ _ => True) (fun _ U o U' => ∃ v L, o = .returned v ∧ Q3 Z ra rb h0 n0 v U'.heap L ∧ FrameEnd U o U' L ({ frames := 0, cells := 0, slots := 0, locals := 0 } : Room).cells ({ frames := 0, cells := 0, slots := 0, locals := 0 } : Room).slots) := by
  refine MetFree.of_bodySF (plainFor_of_name pn_com_example_lockstep_lockstep_store_RecordBuffer) hisR ?_
  intro p e s m args below meth c s₁ Bd hml0 hP hK
  obtain ⟨rfl, hZ, hh⟩ := hP
  have hx := Bd.exec
  have hby := Bd.bytes
  have hml : c.maxLocals = 1 := hml0
  have hown : s.vm.findClass "com/example/lockstep/lockstep/store/RecordBuffer" = some m.cls := findClass_of_methodNamed Bd.named
  have hnm := (name_of_methodNamed Bd.named Bd.method).1
  have X0 : Stand p l e ({ frames := 0, cells := 0, slots := 0, locals := 0 } : Room) s m #[(.ref ra)] below meth c s₁ [] 0 0 := Stand.of_body Bd
  have e0 : s₁.heap = h0 := by rw [← hh, Bd.state]; rfl
  have N0 := Fr.nil n0
  have K0 : Keep h0 h0 [] := Keep.refl h0 _
  have pre0 : ∀ t, Steps p.tables e below (s₁.setTop (mkF m 0 #[.val (.ref ra)] [])) t → Steps p.tables e below (s₁.setTop (entryFrame m #[(.ref ra)] 1)) t := fun t k => castTop (ef_3 m ra) k
  obtain ⟨T1, X1, e1, st1⟩ := getF X0 hx hZ hown (host := "") (Or.inl (hw _ (List.mem_of_getElem? (i := 10) rfl))) Via.refl e0 F_bytes_ra (g := (mkF m 1 #[.val (.ref ra)] [(.ref ra)])) rfl rfl (hb hby d3_1)
  obtain ⟨fs, hr, hrun, hended, hW, hsame⟩ := X1.leave (v := some (.ref rb)) (fun h => by rw [Bd.returns] at h; cases h)
  refine ⟨_, _, pre0 _ ?_, hrun, hended, _, _, rfl, ?_, ⟨_, rfl⟩, hW, hsame.mono (by decide) (by decide)⟩
  · show Steps p.tables e below (s₁.setTop (mkF m 0 #[.val (.ref ra)] [])) _
    refine XS.aloadN X0.here hx rfl (hb hby d3_0) rfl rfl ?_
    show Steps p.tables e below (s₁.setTop (mkF m 1 #[.val (.ref ra)] [(.ref ra)])) _
    refine st1 _ ?_
    show Steps p.tables e below (T1.setTop (mkF m 4 #[.val (.ref ra)] [(.ref rb)])) _
    exact retOut X1 hx Bd.returns rfl (Or.inr (Or.inr (Or.inr (Or.inr ⟨rfl, rfl, rfl⟩)))) (hb hby d3_4) hr
  · show Q3 Z ra rb h0 n0 _ T1.heap _
    rw [e1]
    exact ⟨rfl, N0, rfl⟩
theorem ef_5 (m : MethodId) (ra : Addr) : entryFrame m #[(.ref ra)] 1 = mkF m 0 #[.val (.ref ra)] [] := by first | (simp [entryFrame, mkF, argsToLocals, Value.category]; done) | rfl
theorem d5_0 : decode prog_146_method_4_code 0 = .ok (.aload_n 0, 1) := by decide +kernel
theorem d5_1 : decode prog_146_method_4_code 1 = .ok (.getfield 13, 3) := by decide +kernel
theorem d5_4 : decode prog_146_method_4_code 4 = .ok (.ireturn, 1) := by decide +kernel
def Q5 (Z : State) (ra : Addr) (sz : Int32) (h0 : Heap) (n0 : Nat) (v : Option Value) (h : Heap) (L : List Loc) : Prop := v = some (.int sz) ∧ Fr n0 L ∧ h = h0
set_option maxRecDepth 65536 in
set_option maxHeartbeats 40000000 in
theorem rm5 (l : Launch) (Z : State) (a0 : Array Value) (hw : ∀ d ∈ tables_1, d.before a0 Z = true) (ws : List Jvm.Cond) (ra : Addr) (sz : Int32) (h0 : Heap) (n0 : Nat) (Z0 : n0 ≤ h0.size) (F_size_ra : Fld Z h0 ra "com/example/lockstep/lockstep/store/RecordBuffer" "size" "I" (.int sz)) :
    MetFree l (⟨"com/example/lockstep/lockstep/store/RecordBuffer", "size", "()I"⟩ : MethodName) (head1 (Jvm.Cond.code (⟨"com/example/lockstep/lockstep/store/RecordBuffer", "size", "()I"⟩ : MethodName) prog_146_method_4_code 1 (some .int) :: ws) ({ frames := 0, cells := 0, slots := 0, locals := 0 } : Room)) (fun a U => a = #[(.ref ra)] ∧ Z.Warmed39 U.vm ∧ U.heap = h0) (fun _ _ _ _ _ => True) (fun _ U o U' => ∃ v L, o = .returned v ∧ Q5 Z ra sz h0 n0 v U'.heap L ∧ FrameEnd U o U' L ({ frames := 0, cells := 0, slots := 0, locals := 0 } : Room).cells ({ frames := 0, cells := 0, slots := 0, locals := 0 } : Room).slots) := by
  refine MetFree.of_bodySF (plainFor_of_name pn_com_example_lockstep_lockstep_store_RecordBuffer) hisR ?_
  intro p e s m args below meth c s₁ Bd hml0 hP hK
  obtain ⟨rfl, hZ, hh⟩ := hP
  have hx := Bd.exec
  have hby := Bd.bytes
  have hml : c.maxLocals = 1 := hml0
  have hown : s.vm.findClass "com/example/lockstep/lockstep/store/RecordBuffer" = some m.cls := findClass_of_methodNamed Bd.named
  have hnm := (name_of_methodNamed Bd.named Bd.method).1
  have X0 : Stand p l e ({ frames := 0, cells := 0, slots := 0, locals := 0 } : Room) s m #[(.ref ra)] below meth c s₁ [] 0 0 := Stand.of_body Bd
  have e0 : s₁.heap = h0 := by rw [← hh, Bd.state]; rfl
  have N0 := Fr.nil n0
  have K0 : Keep h0 h0 [] := Keep.refl h0 _
  have pre0 : ∀ t, Steps p.tables e below (s₁.setTop (mkF m 0 #[.val (.ref ra)] [])) t → Steps p.tables e below (s₁.setTop (entryFrame m #[(.ref ra)] 1)) t := fun t k => castTop (ef_5 m ra) k
  obtain ⟨T1, X1, e1, st1⟩ := getF X0 hx hZ hown (host := "") (Or.inl (hw _ (List.mem_of_getElem? (i := 22) rfl))) Via.refl e0 F_size_ra (g := (mkF m 1 #[.val (.ref ra)] [(.ref ra)])) rfl rfl (hb hby d5_1)
  obtain ⟨fs, hr, hrun, hended, hW, hsame⟩ := X1.leave (v := some (.int sz)) (fun h => by rw [Bd.returns] at h; cases h)
  refine ⟨_, _, pre0 _ ?_, hrun, hended, _, _, rfl, ?_, ⟨_, rfl⟩, hW, hsame.mono (by decide) (by decide)⟩
  · show Steps p.tables e below (s₁.setTop (mkF m 0 #[.val (.ref ra)] [])) _
    refine XS.aloadN X0.here hx rfl (hb hby d5_0) rfl rfl ?_
    show Steps p.tables e below (s₁.setTop (mkF m 1 #[.val (.ref ra)] [(.ref ra)])) _
    refine st1 _ ?_
    show Steps p.tables e below (T1.setTop (mkF m 4 #[.val (.ref ra)] [(.int sz)])) _
    exact retI X1 hx Bd.returns (hb hby d5_4) hr
  · show Q5 Z ra sz h0 n0 _ T1.heap _
    rw [e1]
    exact ⟨rfl, N0, rfl⟩
theorem ef_4 (m : MethodId) (ra : Addr) : entryFrame m #[(.ref ra)] 1 = mkF m 0 #[.val (.ref ra)] [] := by first | (simp [entryFrame, mkF, argsToLocals, Value.category]; done) | rfl
theorem d4_0 : decode prog_146_method_2_code 0 = .ok (.aload_n 0, 1) := by decide +kernel
theorem d4_1 : decode prog_146_method_2_code 1 = .ok (.iconst 0, 1) := by decide +kernel
theorem d4_2 : decode prog_146_method_2_code 2 = .ok (.putfield 13, 3) := by decide +kernel
theorem d4_5 : decode prog_146_method_2_code 5 = .ok (.aload_n 0, 1) := by decide +kernel
theorem d4_6 : decode prog_146_method_2_code 6 = .ok (.getfield 9, 3) := by decide +kernel
theorem d4_9 : decode prog_146_method_2_code 9 = .ok (.arraylength, 1) := by decide +kernel
theorem d4_10 : decode prog_146_method_2_code 10 = .ok (.ldc 17, 2) := by decide +kernel
theorem d4_12 : decode prog_146_method_2_code 12 = .ok (.if_icmp .le 12, 3) := by decide +kernel
theorem d4_24 : decode prog_146_method_2_code 24 = .ok (.return_, 1) := by decide +kernel
def Q4 (Z : State) (ra : Addr) (rb : Addr) (fb : Nat → Int32) (sz : Int32) (h0 : Heap) (n0 : Nat) (v : Option Value) (h : Heap) (L : List Loc) : Prop := v = none ∧ Fr n0 L ∧ Keep h0 h [ra] ∧ Fld Z h ra "com/example/lockstep/lockstep/store/RecordBuffer" "bytes" "[B" (.ref rb) ∧ Fld Z h ra "com/example/lockstep/lockstep/store/RecordBuffer" "size" "I" (.int (0 : Int32))
set_option maxRecDepth 65536 in
set_option maxHeartbeats 40000000 in
theorem rm4 (l : Launch) (Z : State) (a0 : Array Value) (hw : ∀ d ∈ tables_1, d.before a0 Z = true) (ws : List Jvm.Cond) (ra : Addr) (rb : Addr) (fb : Nat → Int32) (sz : Int32) (h0 : Heap) (n0 : Nat) (Z0 : n0 ≤ h0.size) (F_bytes_ra : Fld Z h0 ra "com/example/lockstep/lockstep/store/RecordBuffer" "bytes" "[B" (.ref rb)) (A_rb : AI Z h0 rb .byte 256 fb) (F_size_ra : Fld Z h0 ra "com/example/lockstep/lockstep/store/RecordBuffer" "size" "I" (.int sz)) (E_ra : Exa Z h0 ra "com/example/lockstep/lockstep/store/RecordBuffer") (ne_ra_rb : ra ≠ rb) (g_ra : n0 ≤ ra) :
    MetFree l (⟨"com/example/lockstep/lockstep/store/RecordBuffer", "clear", "()V"⟩ : MethodName) (head1 (Jvm.Cond.code (⟨"com/example/lockstep/lockstep/store/RecordBuffer", "clear", "()V"⟩ : MethodName) prog_146_method_2_code 1 none :: ws) ({ frames := 0, cells := 0, slots := 0, locals := 0 } : Room)) (fun a U => a = #[(.ref ra)] ∧ Z.Warmed39 U.vm ∧ U.heap = h0) (fun _ _ _ _ _ => True) (fun _ U o U' => ∃ v L, o = .returned v ∧ Q4 Z ra rb fb sz h0 n0 v U'.heap L ∧ FrameEnd U o U' L ({ frames := 0, cells := 0, slots := 0, locals := 0 } : Room).cells ({ frames := 0, cells := 0, slots := 0, locals := 0 } : Room).slots) := by
  refine MetFree.of_bodySF (plainFor_of_name pn_com_example_lockstep_lockstep_store_RecordBuffer) hisR ?_
  intro p e s m args below meth c s₁ Bd hml0 hP hK
  obtain ⟨rfl, hZ, hh⟩ := hP
  have hx := Bd.exec
  have hby := Bd.bytes
  have hml : c.maxLocals = 1 := hml0
  have hown : s.vm.findClass "com/example/lockstep/lockstep/store/RecordBuffer" = some m.cls := findClass_of_methodNamed Bd.named
  have hnm := (name_of_methodNamed Bd.named Bd.method).1
  have X0 : Stand p l e ({ frames := 0, cells := 0, slots := 0, locals := 0 } : Room) s m #[(.ref ra)] below meth c s₁ [] 0 0 := Stand.of_body Bd
  have e0 : s₁.heap = h0 := by rw [← hh, Bd.state]; rfl
  have N0 := Fr.nil n0
  have K0 : Keep h0 h0 [ra] := Keep.refl h0 _
  have pre0 : ∀ t, Steps p.tables e below (s₁.setTop (mkF m 0 #[.val (.ref ra)] [])) t → Steps p.tables e below (s₁.setTop (entryFrame m #[(.ref ra)] 1)) t := fun t k => castTop (ef_4 m ra) k
  obtain ⟨T1, h1, X1, e1, W1, st1⟩ := putF X0 hx hZ hown (host := "") (Or.inl (hw _ (List.mem_of_getElem? (i := 22) rfl))) Via.refl e0 F_size_ra E_ra (Or.inl (hw _ (List.mem_of_getElem? (i := 23) rfl))) (hw _ (List.mem_of_getElem? (i := 1) rfl)) (ty := .int) (by decide) rfl rfl (g := (mkF m 2 #[.val (.ref ra)] [(.int (0 : Int32)), (.ref ra)])) rfl rfl (hb hby d4_2)
  have N1 := Fr.snoc X1 N0 g_ra
  have Z1 : n0 ≤ h1.size := Nat.le_trans Z0 (Keep.of_wr W1).1
  have K1 : Keep h0 h1 [ra] := K0.wr W1 (Or.inl (List.mem_of_getElem? (i := 0) rfl))
  have f2 : Fld Z h1 ra "com/example/lockstep/lockstep/store/RecordBuffer" "size" "I" (.int (0 : Int32)) := F_size_ra.same W1
  have f3 : Fld Z h1 ra "com/example/lockstep/lockstep/store/RecordBuffer" "bytes" "[B" (.ref rb) := F_bytes_ra.other W1 (Or.inr (slot_ne (Or.inl (hw _ (List.mem_of_getElem? (i := 11) rfl))) (Or.inl (hw _ (List.mem_of_getElem? (i := 23) rfl))) (by decide) (t := (.array .byte)) (t' := .int) (by decide) (by decide)))
  have f4 : AI Z h1 rb .byte 256 fb := A_rb.other W1 (Ne.symm ne_ra_rb)
  have f5 : Exa Z h1 ra "com/example/lockstep/lockstep/store/RecordBuffer" := E_ra.wr W1
  obtain ⟨T6, X6, e6, st6⟩ := getF X1 hx hZ hown (host := "") (Or.inl (hw _ (List.mem_of_getElem? (i := 10) rfl))) Via.refl e1 f3 (g := (mkF m 6 #[.val (.ref ra)] [(.ref ra)])) rfl rfl (hb hby d4_6)
  obtain ⟨cl7, Arcl7, Szcl7⟩ := AF.len f4
  obtain ⟨fs, hr, hrun, hended, hW, hsame⟩ := X6.leave (v := none) (fun _ => rfl)
  refine ⟨_, _, pre0 _ ?_, hrun, hended, _, _, rfl, ?_, ⟨_, rfl⟩, hW, hsame.mono (by decide) (by decide)⟩
  · show Steps p.tables e below (s₁.setTop (mkF m 0 #[.val (.ref ra)] [])) _
    refine XS.aloadN X0.here hx rfl (hb hby d4_0) rfl rfl ?_
    show Steps p.tables e below (s₁.setTop (mkF m 1 #[.val (.ref ra)] [(.ref ra)])) _
    refine XS.iconst X0.here hx rfl (hb hby d4_1) ?_
    show Steps p.tables e below (s₁.setTop (mkF m 2 #[.val (.ref ra)] [(.int (0 : Int32)), (.ref ra)])) _
    refine st1 _ ?_
    show Steps p.tables e below (T1.setTop (mkF m 5 #[.val (.ref ra)] [])) _
    refine XS.aloadN X1.here hx rfl (hb hby d4_5) rfl rfl ?_
    show Steps p.tables e below (T1.setTop (mkF m 6 #[.val (.ref ra)] [(.ref ra)])) _
    refine st6 _ ?_
    show Steps p.tables e below (T6.setTop (mkF m 9 #[.val (.ref ra)] [(.ref rb)])) _
    refine X6.arraylength hx (by rw [e6]; exact Arcl7.1) (State.isArrayOf_alike hZ.alike Arcl7.2.1) (g := (mkF m 9 #[.val (.ref ra)] [(.ref rb)])) rfl rfl (hb hby d4_9) _ ?_
    rw [Szcl7]
    show Steps p.tables e below (T6.setTop (mkF m 10 #[.val (.ref ra)] [(.int (256 : Int32))])) _
    refine X6.ldcInt hx hown (mvT hZ (hw _ (List.mem_of_getElem? (i := 24) rfl))) (g := (mkF m 10 #[.val (.ref ra)] [(.int (256 : Int32))])) rfl (hb hby d4_10) _ ?_
    show Steps p.tables e below (T6.setTop (mkF m 12 #[.val (.ref ra)] [(.int (1048576 : Int32)), (.int (256 : Int32))])) _
    refine XS.icmpYes X6.here hx rfl (pc0 := 12) (pc' := 24) rfl (hb hby d4_12) rfl (flt (by decide : ¬ ((1048576 : Int32) < (256 : Int32)))).2.2.2 (by decide) (by decide) ?_
    show Steps p.tables e below (T6.setTop (mkF m 24 #[.val (.ref ra)] [])) _
    exact X6.returnOut hx Bd.returns (hb hby d4_24) hr
  · show Q4 Z ra rb fb sz h0 n0 _ T6.heap _
    rw [e6]
    exact ⟨rfl, N1, K1, f3, f2⟩
theorem ef_0 (m : MethodId) (fl : Int32) (av : Int32) (bv : Int64) (dv : Int32) : entryFrame m #[(.int fl), (.int av), (.long bv), (.int dv)] maxLocals = mkF m 0 #[.val (.int fl), .val (.int av), .val (.long bv), .second, .val (.int dv), .unset, .unset, .unset, .unset, .unset] [] := by first | (simp [entryFrame, mkF, argsToLocals, Value.category, maxLocals]; done) | rfl
theorem pd_2 : parseMethodDescriptor "()V" = some ⟨[], none⟩ := by decide +kernel
theorem pd_3 : parseMethodDescriptor "()[B" = some ⟨[], some (.array .byte)⟩ := by decide +kernel
theorem pd_4 : parseMethodDescriptor "()I" = some ⟨[], some .int⟩ := by decide +kernel
theorem pd_5 : parseMethodDescriptor "(J)V" = some ⟨[.long], none⟩ := by decide +kernel
theorem pn_com_example_lockstep_lockstep_store_RecordBufferClearPinLaw : plainName "com/example/lockstep/lockstep/store/RecordBufferClearPinLaw" = true := by first | (simp [plainName, overriddenIn]; done) | decide +kernel
theorem own_k (fl : Int32) : (fl &&& (3 : Int32)) = (0 : Int32) ∨ (fl &&& (3 : Int32)) = (1 : Int32) ∨ (fl &&& (3 : Int32)) = (2 : Int32) ∨ (fl &&& (3 : Int32)) = (3 : Int32) := by
  have : 0 ≤ (fl &&& (3 : Int32)).toInt ∧ (fl &&& (3 : Int32)).toInt ≤ 3 := c_and fl (3 : Int32) (by decide)
  generalize (fl &&& (3 : Int32)) = u1_ at *
  try simp only [Int32.reduceToInt, Int64.reduceToInt] at *
  simp only [← Int32.toInt_inj, Int32.reduceToInt, Int64.reduceToInt]
  omega
def Q0 (Z : State) (fl : Int32) (av : Int32) (bv : Int64) (dv : Int32) (h0 : Heap) (n0 : Nat) (v : Option Value) (h : Heap) (L : List Loc) : Prop := v = some (.int (1 : Int32)) ∧ Fr n0 L
set_option maxRecDepth 65536 in
set_option maxHeartbeats 40000000 in
theorem rm0 (l : Launch) (Z : State) (a0 : Array Value) (hw : ∀ d ∈ tables_1, d.before a0 Z = true) (ws : List Jvm.Cond) (fl : Int32) (av : Int32) (bv : Int64) (dv : Int32) (h0 : Heap) (n0 : Nat) (Z0 : n0 ≤ h0.size) :
    MetFree l x (head1 (Jvm.Cond.code x code maxLocals ret :: ws) room_1) (fun a U => a = #[(.int fl), (.int av), (.long bv), (.int dv)] ∧ Z.Warmed39 U.vm ∧ U.heap = h0) (fun _ _ _ _ _ => True) (fun _ U o U' => ∃ v L, o = .returned v ∧ Q0 Z fl av bv dv h0 n0 v U'.heap L ∧ FrameEnd U o U' L room_1.cells room_1.slots) := by
  refine MetFree.of_bodySF (plainFor_of_name pn_com_example_lockstep_lockstep_store_RecordBufferClearPinLaw) hisR ?_
  intro p e s m args below meth c s₁ Bd hml0 hP hK
  obtain ⟨rfl, hZ, hh⟩ := hP
  have hx := Bd.exec
  have hby := Bd.bytes
  have hml : c.maxLocals = 10 := hml0
  have hown : s.vm.findClass "com/example/lockstep/lockstep/store/RecordBufferClearPinLaw" = some m.cls := findClass_of_methodNamed Bd.named
  have hnm := (name_of_methodNamed Bd.named Bd.method).1
  have X0 : Stand p l e room_1 s m #[(.int fl), (.int av), (.long bv), (.int dv)] below meth c s₁ [] 0 0 := Stand.of_body Bd
  have e0 : s₁.heap = h0 := by rw [← hh, Bd.state]; rfl
  have N0 := Fr.nil n0
  have K0 : Keep h0 h0 [] := Keep.refl h0 _
  have pre0 : ∀ t, Steps p.tables e below (s₁.setTop (mkF m 0 #[.val (.int fl), .val (.int av), .val (.long bv), .second, .val (.int dv), .unset, .unset, .unset, .unset, .unset] [])) t → Steps p.tables e below (s₁.setTop (entryFrame m #[(.int fl), (.int av), (.long bv), (.int dv)] maxLocals)) t := fun t k => castTop (ef_0 m fl av bv dv) k
  obtain ⟨T1, h1, X1, e1, E1, A1, D1, -, st1⟩ := newO X0 hx hZ hown (hw _ (List.mem_of_getElem? (i := 0) rfl)) (hw _ (List.mem_of_getElem? (i := 1) rfl)) (hw _ (List.mem_of_getElem? (i := 2) rfl)) e0 (g := (mkF m 0 #[.val (.int fl), .val (.int av), .val (.long bv), .second, .val (.int dv), .unset, .unset, .unset, .unset, .unset] [])) rfl (hb hby at_0) (by decide) (by decide)
  obtain ⟨b1, g1⟩ : ∃ z, z = h0.size := ⟨_, rfl⟩
  rw [← g1] at A1 D1 st1
  have gg1 : n0 ≤ b1 := Nat.le_trans Z0 (Nat.le_of_eq g1.symm)
  have Z1 : n0 ≤ h1.size := Nat.le_trans Z0 E1.1
  have f2 : Fld Z h1 b1 "com/example/lockstep/lockstep/store/RecordBuffer" "bytes" "[B" .null := D1 (Or.inl (hw _ (List.mem_of_getElem? (i := 11) rfl))) (ty := (.array .byte)) (by decide)
  have f3 : Fld Z h1 b1 "com/example/lockstep/lockstep/store/RecordBuffer" "size" "I" (.int (0 : Int32)) := D1 (Or.inl (hw _ (List.mem_of_getElem? (i := 23) rfl))) (ty := .int) (by decide)
  obtain ⟨_, _, ⟨T4, L4, k4, n4⟩, -, X4, ⟨Lc4, hQ4, l4, y4, z4⟩, st4⟩ := X1.specialBack hx (y := (⟨"com/example/lockstep/lockstep/store/RecordBuffer", "<init>", "()V"⟩ : MethodName)) rfl hown (mvT hZ (hw _ (List.mem_of_getElem? (i := 3) rfl))) (mvT hZ (hw _ (List.mem_of_getElem? (i := 4) rfl))) (mvT hZ (hw _ (List.mem_of_getElem? (i := 5) rfl))) (by decide) (backOf (W := 1) (rm1 l Z a0 hw [] b1 h1 n0 Z1 A1 f2 f3 gg1) hZ (hw _ (List.mem_of_getElem? (i := 5) rfl)) (hw _ (List.mem_of_getElem? (i := 2) rfl)) (by decide) (by decide)) (g := (mkF m 4 #[.val (.int fl), .val (.int av), .val (.long bv), .second, .val (.int dv), .unset, .unset, .unset, .unset, .unset] [(.ref b1), (.ref b1)])) rfl (by rw [hml]; rfl) (Steps.refl _) (a := b1) (argsL := []) (rest := [(.ref b1)]) (lenOf pd_2 rfl) rfl (by show 2 * 0 + _ ≤ _; exact Nat.le_of_eq rfl) (hb hby at_4) (fun _ _ => ⟨rfl, e1, (by decide : 1 + 1 ≤ _), (by decide : 2 + 256 ≤ _)⟩)
  dsimp only [Pt.U, Pt.locs, Pt.cells, Pt.slots] at X4 l4 y4 z4 st4 hQ4
  subst l4 y4 z4
  obtain ⟨b5, ggb5, szb5, rfl, N4q, K4c, f6, f7, f8⟩ := hQ4
  have N4 := Fr.app N0 N4q
  have ne9 : b1 ≠ b5 := Nat.ne_of_lt (Nat.lt_of_lt_of_le A1.lt szb5)
  have f10 : Exa Z T4.heap b1 "com/example/lockstep/lockstep/store/RecordBuffer" := A1.keep K4c
  have Z4 : n0 ≤ T4.heap.size := Nat.le_trans Z1 K4c.1
  have pre11 : ∀ t, Steps p.tables e below (T4.setTop (mkF m 12 #[.val (.int fl), .val (.int av), .val (.long bv), .second, .val (.int dv), .val (.ref b1), .unset, .unset, .unset, .unset] [(.int (fl &&& (3 : Int32)))])) t → Steps p.tables e below (s₁.setTop (entryFrame m #[(.int fl), (.int av), (.long bv), (.int dv)] maxLocals)) t := by
    intro t k
    refine pre0 _ ?_
    show Steps p.tables e below (s₁.setTop (mkF m 0 #[.val (.int fl), .val (.int av), .val (.long bv), .second, .val (.int dv), .unset, .unset, .unset, .unset, .unset] [])) _
    refine st1 _ ?_
    show Steps p.tables e below (T1.setTop (mkF m 3 #[.val (.int fl), .val (.int av), .val (.long bv), .second, .val (.int dv), .unset, .unset, .unset, .unset, .unset] [(.ref b1)])) _
    refine XS.dup X1.here hx rfl (hb hby at_3) rfl rfl ?_
    show Steps p.tables e below (T1.setTop (mkF m 4 #[.val (.int fl), .val (.int av), .val (.long bv), .second, .val (.int dv), .unset, .unset, .unset, .unset, .unset] [(.ref b1), (.ref b1)])) _
    refine st4.trans ?_
    show Steps p.tables e below (T4.setTop (mkF m 7 #[.val (.int fl), .val (.int av), .val (.long bv), .second, .val (.int dv), .unset, .unset, .unset, .unset, .unset] [(.ref b1)])) _
    refine XS.astore X4.here hx rfl (hb hby at_7) rfl rfl (l' := #[.val (.int fl), .val (.int av), .val (.long bv), .second, .val (.int dv), .val (.ref b1), .unset, .unset, .unset, .unset]) rfl ?_
    show Steps p.tables e below (T4.setTop (mkF m 9 #[.val (.int fl), .val (.int av), .val (.long bv), .second, .val (.int dv), .val (.ref b1), .unset, .unset, .unset, .unset] [])) _
    refine XS.iloadN X4.here hx rfl (hb hby at_9) rfl ?_
    show Steps p.tables e below (T4.setTop (mkF m 10 #[.val (.int fl), .val (.int av), .val (.long bv), .second, .val (.int dv), .val (.ref b1), .unset, .unset, .unset, .unset] [(.int fl)])) _
    refine XS.iconst X4.here hx rfl (hb hby at_10) ?_
    show Steps p.tables e below (T4.setTop (mkF m 11 #[.val (.int fl), .val (.int av), .val (.long bv), .second, .val (.int dv), .val (.ref b1), .unset, .unset, .unset, .unset] [(.int (3 : Int32)), (.int fl)])) _
    refine XS.iand X4.here hx rfl (hb hby at_11) rfl ?_
    exact k
  rcases own_k fl with hk12 | hk12 | hk12 | hk12
  · have pre13 : ∀ t, Steps p.tables e below (T4.setTop (mkF m 12 #[.val (.int fl), .val (.int av), .val (.long bv), .second, .val (.int dv), .val (.ref b1), .unset, .unset, .unset, .unset] [(.int (0 : Int32))])) t → Steps p.tables e below (s₁.setTop (entryFrame m #[(.int fl), (.int av), (.long bv), (.int dv)] maxLocals)) t := by
      intro t k
      refine pre11 _ ?_
      rw [hk12]
      exact k
    obtain ⟨cq14, kq14, q14a, q14b, q14c⟩ := isOf hZ rfl f10
    obtain ⟨_, _, ⟨T14, L14, k14, n14⟩, -, X14, ⟨Lc14, hQ14, l14, y14, z14⟩, st14⟩ := X4.virtualBack hx (y := (⟨"com/example/lockstep/lockstep/store/RecordBuffer", "bytes", "()[B"⟩ : MethodName)) (z := (⟨"com/example/lockstep/lockstep/store/RecordBuffer", "bytes", "()[B"⟩ : MethodName)) hown (mvT hZ (hw _ (List.mem_of_getElem? (i := 12) rfl))) (mvT hZ (hw _ (List.mem_of_getElem? (i := 13) rfl))) (notFace_of_selects (args := #[]) (mvT hZ (hw _ (List.mem_of_getElem? (i := 15) rfl)))) (mvT hZ (hw _ (List.mem_of_getElem? (i := 15) rfl))) (mvT hZ (hw _ (List.mem_of_getElem? (i := 14) rfl))) (by decide) (backOf (W := 0) (rm3 l Z a0 hw [] b1 b5 T4.heap n0 Z4 f6) hZ (hw _ (List.mem_of_getElem? (i := 16) rfl)) (hw _ (List.mem_of_getElem? (i := 2) rfl)) (by decide) (by decide)) q14a q14c (g := (mkF m 52 #[.val (.int fl), .val (.int av), .val (.long bv), .second, .val (.int dv), .val (.ref b1), .val (.int (0 : Int32)), .unset, .unset, .unset] [(.ref b1)])) rfl (by rw [hml]; rfl) (Steps.refl _) (argsL := []) (rest := []) (lenOf pd_3 rfl) rfl (by show 2 * 0 + _ ≤ _; exact Nat.le_of_eq rfl) (hb hby at_52) (fun _ _ => ⟨rfl, rfl, (by decide : 2 + 0 ≤ _), (by decide : 258 + 0 ≤ _)⟩)
    dsimp only [Pt.U, Pt.locs, Pt.cells, Pt.slots] at X14 l14 y14 z14 st14 hQ14
    subst l14 y14 z14
    obtain ⟨rfl, N14q, e14⟩ := hQ14
    have N14 := Fr.app N4 N14q
    obtain ⟨cq15, kq15, q15a, q15b, q15c⟩ := isOf hZ e14 f10
    obtain ⟨_, _, ⟨T15, L15, k15, n15⟩, -, X15, ⟨Lc15, hQ15, l15, y15, z15⟩, st15⟩ := X14.virtualBack hx (y := (⟨"com/example/lockstep/lockstep/store/RecordBuffer", "clear", "()V"⟩ : MethodName)) (z := (⟨"com/example/lockstep/lockstep/store/RecordBuffer", "clear", "()V"⟩ : MethodName)) hown (mvT hZ (hw _ (List.mem_of_getElem? (i := 17) rfl))) (mvT hZ (hw _ (List.mem_of_getElem? (i := 18) rfl))) (notFace_of_selects (args := #[]) (mvT hZ (hw _ (List.mem_of_getElem? (i := 20) rfl)))) (mvT hZ (hw _ (List.mem_of_getElem? (i := 20) rfl))) (mvT hZ (hw _ (List.mem_of_getElem? (i := 19) rfl))) (by decide) (backOf (W := 0) (rm4 l Z a0 hw [] b1 b5 zI (0 : Int32) T4.heap n0 Z4 f6 f8 f7 f10 ne9 gg1) hZ (hw _ (List.mem_of_getElem? (i := 21) rfl)) (hw _ (List.mem_of_getElem? (i := 2) rfl)) (by decide) (by decide)) q15a q15c (g := (mkF m 59 #[.val (.int fl), .val (.int av), .val (.long bv), .second, .val (.int dv), .val (.ref b1), .val (.int (0 : Int32)), .val (.ref b5), .unset, .unset] [(.ref b1)])) rfl (by rw [hml]; rfl) (Steps.refl _) (argsL := []) (rest := []) (lenOf pd_2 rfl) rfl (by show 2 * 0 + _ ≤ _; exact Nat.le_of_eq rfl) (hb hby at_59) (fun _ _ => ⟨rfl, e14, (by decide : 2 + 0 ≤ _), (by decide : 258 + 0 ≤ _)⟩)
    dsimp only [Pt.U, Pt.locs, Pt.cells, Pt.slots] at X15 l15 y15 z15 st15 hQ15
    subst l15 y15 z15
    obtain ⟨rfl, N15q, K15c, f16, f17⟩ := hQ15
    have N15 := Fr.app N14 N15q
    have f18 : Exa Z T15.heap b1 "com/example/lockstep/lockstep/store/RecordBuffer" := f10.keep K15c
    have f19 : AI Z T15.heap b5 .byte 256 zI := f8.keep K15c (ninS (Ne.symm ne9) nin0)
    have Z15 : n0 ≤ T15.heap.size := Nat.le_trans Z4 K15c.1
    obtain ⟨cq20, kq20, q20a, q20b, q20c⟩ := isOf hZ rfl f18
    obtain ⟨_, _, ⟨T20, L20, k20, n20⟩, -, X20, ⟨Lc20, hQ20, l20, y20, z20⟩, st20⟩ := X15.virtualBack hx (y := (⟨"com/example/lockstep/lockstep/store/RecordBuffer", "size", "()I"⟩ : MethodName)) (z := (⟨"com/example/lockstep/lockstep/store/RecordBuffer", "size", "()I"⟩ : MethodName)) hown (mvT hZ (hw _ (List.mem_of_getElem? (i := 25) rfl))) (mvT hZ (hw _ (List.mem_of_getElem? (i := 26) rfl))) (notFace_of_selects (args := #[]) (mvT hZ (hw _ (List.mem_of_getElem? (i := 28) rfl)))) (mvT hZ (hw _ (List.mem_of_getElem? (i := 28) rfl))) (mvT hZ (hw _ (List.mem_of_getElem? (i := 27) rfl))) (by decide) (backOf (W := 0) (rm5 l Z a0 hw [] b1 (0 : Int32) T15.heap n0 Z15 f17) hZ (hw _ (List.mem_of_getElem? (i := 29) rfl)) (hw _ (List.mem_of_getElem? (i := 2) rfl)) (by decide) (by decide)) q20a q20c (g := (mkF m 64 #[.val (.int fl), .val (.int av), .val (.long bv), .second, .val (.int dv), .val (.ref b1), .val (.int (0 : Int32)), .val (.ref b5), .unset, .unset] [(.ref b1)])) rfl (by rw [hml]; rfl) (Steps.refl _) (argsL := []) (rest := []) (lenOf pd_4 rfl) rfl (by show 2 * 0 + _ ≤ _; exact Nat.le_of_eq rfl) (hb hby at_64) (fun _ _ => ⟨rfl, rfl, (by decide : 2 + 0 ≤ _), (by decide : 258 + 0 ≤ _)⟩)
    dsimp only [Pt.U, Pt.locs, Pt.cells, Pt.slots] at X20 l20 y20 z20 st20 hQ20
    subst l20 y20 z20
    obtain ⟨rfl, N20q, e20⟩ := hQ20
    have N20 := Fr.app N15 N20q
    obtain ⟨cq21, kq21, q21a, q21b, q21c⟩ := isOf hZ e20 f18
    obtain ⟨_, _, ⟨T21, L21, k21, n21⟩, -, X21, ⟨Lc21, hQ21, l21, y21, z21⟩, st21⟩ := X20.virtualBack hx (y := (⟨"com/example/lockstep/lockstep/store/RecordBuffer", "bytes", "()[B"⟩ : MethodName)) (z := (⟨"com/example/lockstep/lockstep/store/RecordBuffer", "bytes", "()[B"⟩ : MethodName)) hown (mvT hZ (hw _ (List.mem_of_getElem? (i := 12) rfl))) (mvT hZ (hw _ (List.mem_of_getElem? (i := 13) rfl))) (notFace_of_selects (args := #[]) (mvT hZ (hw _ (List.mem_of_getElem? (i := 15) rfl)))) (mvT hZ (hw _ (List.mem_of_getElem? (i := 15) rfl))) (mvT hZ (hw _ (List.mem_of_getElem? (i := 14) rfl))) (by decide) (backOf (W := 0) (rm3 l Z a0 hw [] b1 b5 T15.heap n0 Z15 f16) hZ (hw _ (List.mem_of_getElem? (i := 16) rfl)) (hw _ (List.mem_of_getElem? (i := 2) rfl)) (by decide) (by decide)) q21a q21c (g := (mkF m 74 #[.val (.int fl), .val (.int av), .val (.long bv), .second, .val (.int dv), .val (.ref b1), .val (.int (0 : Int32)), .val (.ref b5), .unset, .unset] [(.ref b1)])) rfl (by rw [hml]; rfl) (Steps.refl _) (argsL := []) (rest := []) (lenOf pd_3 rfl) rfl (by show 2 * 0 + _ ≤ _; exact Nat.le_of_eq rfl) (hb hby at_74) (fun _ _ => ⟨rfl, e20, (by decide : 2 + 0 ≤ _), (by decide : 258 + 0 ≤ _)⟩)
    dsimp only [Pt.U, Pt.locs, Pt.cells, Pt.slots] at X21 l21 y21 z21 st21 hQ21
    subst l21 y21 z21
    obtain ⟨rfl, N21q, e21⟩ := hQ21
    have N21 := Fr.app N20 N21q
    obtain ⟨cl22, Arcl22, Szcl22⟩ := AF.len f19
    obtain ⟨cq23, kq23, q23a, q23b, q23c⟩ := isOf hZ e21 f18
    obtain ⟨_, _, ⟨T23, L23, k23, n23⟩, -, X23, ⟨Lc23, hQ23, l23, y23, z23⟩, st23⟩ := X21.virtualBack hx (y := (⟨"com/example/lockstep/lockstep/store/RecordBuffer", "writeInt", "(I)V"⟩ : MethodName)) (z := (⟨"com/example/lockstep/lockstep/store/RecordBuffer", "writeInt", "(I)V"⟩ : MethodName)) hown (mvT hZ (hw _ (List.mem_of_getElem? (i := 30) rfl))) (mvT hZ (hw _ (List.mem_of_getElem? (i := 31) rfl))) (notFace_of_selects (args := #[]) (mvT hZ (hw _ (List.mem_of_getElem? (i := 33) rfl)))) (mvT hZ (hw _ (List.mem_of_getElem? (i := 33) rfl))) (mvT hZ (hw _ (List.mem_of_getElem? (i := 32) rfl))) (by decide) (backOf (W := 0) (rm6 l Z a0 hw [] b1 dv b5 zI (0 : Int32) 0 T15.heap n0 Z15 f16 f19 f17 f18 ne9 (rfl) (by decide) ggb5 gg1) hZ (hw _ (List.mem_of_getElem? (i := 34) rfl)) (hw _ (List.mem_of_getElem? (i := 2) rfl)) (by decide) (by decide)) q23a q23c (g := (mkF m 103 #[.val (.int fl), .val (.int av), .val (.long bv), .second, .val (.int dv), .val (.ref b1), .val (.int (0 : Int32)), .val (.ref b5), .val (.ref b5), .unset] [(.int dv), (.ref b1)])) rfl (by rw [hml]; rfl) (Steps.refl _) (argsL := [(.int dv)]) (rest := []) (lenOf pd_0 rfl) rfl (by show 2 * 0 + _ ≤ _; exact Nat.le_of_eq rfl) (hb hby at_103) (fun _ _ => ⟨rfl, e21, (by decide : 2 + 0 ≤ _), (by decide : 258 + 0 ≤ _)⟩)
    dsimp only [Pt.U, Pt.locs, Pt.cells, Pt.slots] at X23 l23 y23 z23 st23 hQ23
    subst l23 y23 z23
    obtain ⟨rfl, N23q, K23c, f24, f25, f26⟩ := hQ23
    have N23 := Fr.app N21 N23q
    have f27 : Exa Z T23.heap b1 "com/example/lockstep/lockstep/store/RecordBuffer" := f18.keep K23c
    have Z23 : n0 ≤ T23.heap.size := Nat.le_trans Z15 K23c.1
    obtain ⟨cq28, kq28, q28a, q28b, q28c⟩ := isOf hZ rfl f27
    obtain ⟨_, _, ⟨T28, L28, k28, n28⟩, -, X28, ⟨Lc28, hQ28, l28, y28, z28⟩, st28⟩ := X23.virtualBack hx (y := (⟨"com/example/lockstep/lockstep/store/RecordBuffer", "size", "()I"⟩ : MethodName)) (z := (⟨"com/example/lockstep/lockstep/store/RecordBuffer", "size", "()I"⟩ : MethodName)) hown (mvT hZ (hw _ (List.mem_of_getElem? (i := 25) rfl))) (mvT hZ (hw _ (List.mem_of_getElem? (i := 26) rfl))) (notFace_of_selects (args := #[]) (mvT hZ (hw _ (List.mem_of_getElem? (i := 28) rfl)))) (mvT hZ (hw _ (List.mem_of_getElem? (i := 28) rfl))) (mvT hZ (hw _ (List.mem_of_getElem? (i := 27) rfl))) (by decide) (backOf (W := 0) (rm5 l Z a0 hw [] b1 ((0 : Int32) + (4 : Int32)) T23.heap n0 Z23 f25) hZ (hw _ (List.mem_of_getElem? (i := 29) rfl)) (hw _ (List.mem_of_getElem? (i := 2) rfl)) (by decide) (by decide)) q28a q28c (g := (mkF m 108 #[.val (.int fl), .val (.int av), .val (.long bv), .second, .val (.int dv), .val (.ref b1), .val (.int (0 : Int32)), .val (.ref b5), .val (.ref b5), .unset] [(.ref b1)])) rfl (by rw [hml]; rfl) (Steps.refl _) (argsL := []) (rest := []) (lenOf pd_4 rfl) rfl (by show 2 * 0 + _ ≤ _; exact Nat.le_of_eq rfl) (hb hby at_108) (fun _ _ => ⟨rfl, rfl, (by decide : 2 + 0 ≤ _), (by decide : 258 + 0 ≤ _)⟩)
    dsimp only [Pt.U, Pt.locs, Pt.cells, Pt.slots] at X28 l28 y28 z28 st28 hQ28
    subst l28 y28 z28
    obtain ⟨rfl, N28q, e28⟩ := hQ28
    have N28 := Fr.app N23 N28q
    obtain ⟨cq29, kq29, q29a, q29b, q29c⟩ := isOf hZ e28 f27
    obtain ⟨_, _, ⟨T29, L29, k29, n29⟩, -, X29, ⟨Lc29, hQ29, l29, y29, z29⟩, st29⟩ := X28.virtualBack hx (y := (⟨"com/example/lockstep/lockstep/store/RecordBuffer", "bytes", "()[B"⟩ : MethodName)) (z := (⟨"com/example/lockstep/lockstep/store/RecordBuffer", "bytes", "()[B"⟩ : MethodName)) hown (mvT hZ (hw _ (List.mem_of_getElem? (i := 12) rfl))) (mvT hZ (hw _ (List.mem_of_getElem? (i := 13) rfl))) (notFace_of_selects (args := #[]) (mvT hZ (hw _ (List.mem_of_getElem? (i := 15) rfl)))) (mvT hZ (hw _ (List.mem_of_getElem? (i := 15) rfl))) (mvT hZ (hw _ (List.mem_of_getElem? (i := 14) rfl))) (by decide) (backOf (W := 0) (rm3 l Z a0 hw [] b1 b5 T23.heap n0 Z23 f24) hZ (hw _ (List.mem_of_getElem? (i := 16) rfl)) (hw _ (List.mem_of_getElem? (i := 2) rfl)) (by decide) (by decide)) q29a q29c (g := (mkF m 119 #[.val (.int fl), .val (.int av), .val (.long bv), .second, .val (.int dv), .val (.ref b1), .val (.int (0 : Int32)), .val (.ref b5), .val (.ref b5), .unset] [(.ref b1)])) rfl (by rw [hml]; rfl) (Steps.refl _) (argsL := []) (rest := []) (lenOf pd_3 rfl) rfl (by show 2 * 0 + _ ≤ _; exact Nat.le_of_eq rfl) (hb hby at_119) (fun _ _ => ⟨rfl, e28, (by decide : 2 + 0 ≤ _), (by decide : 258 + 0 ≤ _)⟩)
    dsimp only [Pt.U, Pt.locs, Pt.cells, Pt.slots] at X29 l29 y29 z29 st29 hQ29
    subst l29 y29 z29
    obtain ⟨rfl, N29q, e29⟩ := hQ29
    have N29 := Fr.app N28 N29q
    obtain ⟨cl30, Arcl30, hincl30, hatcl30⟩ := AF.at f26 (j := (0 : Int32)) 0 (by decide) (by decide)
    obtain ⟨cl31, Arcl31, hincl31, hatcl31⟩ := AF.at f26 (j := (1 : Int32)) 1 (by decide) (by decide)
    obtain ⟨cl32, Arcl32, hincl32, hatcl32⟩ := AF.at f26 (j := (2 : Int32)) 2 (by decide) (by decide)
    obtain ⟨cl33, Arcl33, hincl33, hatcl33⟩ := AF.at f26 (j := (3 : Int32)) 3 (by decide) (by decide)
    obtain ⟨fs, hr, hrun, hended, hW, hsame⟩ := X29.leave (v := some (.int (1 : Int32))) (fun h => by rw [Bd.returns] at h; cases h)
    refine ⟨_, _, pre13 _ ?_, hrun, hended, _, _, rfl, ?_, ⟨_, rfl⟩, hW, hsame.mono (by decide) (by decide)⟩
    · show Steps p.tables e below (T4.setTop (mkF m 12 #[.val (.int fl), .val (.int av), .val (.long bv), .second, .val (.int dv), .val (.ref b1), .unset, .unset, .unset, .unset] [(.int (0 : Int32))])) _
      refine XS.istore X4.here hx rfl (hb hby at_12) rfl (l' := #[.val (.int fl), .val (.int av), .val (.long bv), .second, .val (.int dv), .val (.ref b1), .val (.int (0 : Int32)), .unset, .unset, .unset]) rfl ?_
      show Steps p.tables e below (T4.setTop (mkF m 14 #[.val (.int fl), .val (.int av), .val (.long bv), .second, .val (.int dv), .val (.ref b1), .val (.int (0 : Int32)), .unset, .unset, .unset] [])) _
      refine XS.iload X4.here hx rfl (hb hby at_14) rfl ?_
      show Steps p.tables e below (T4.setTop (mkF m 16 #[.val (.int fl), .val (.int av), .val (.long bv), .second, .val (.int dv), .val (.ref b1), .val (.int (0 : Int32)), .unset, .unset, .unset] [(.int (0 : Int32))])) _
      refine XS.iconst X4.here hx rfl (hb hby at_16) ?_
      show Steps p.tables e below (T4.setTop (mkF m 17 #[.val (.int fl), .val (.int av), .val (.long bv), .second, .val (.int dv), .val (.ref b1), .val (.int (0 : Int32)), .unset, .unset, .unset] [(.int (1 : Int32)), (.int (0 : Int32))])) _
      refine XS.icmpYes X4.here hx rfl (pc0 := 17) (pc' := 26) rfl (hb hby at_17) rfl (tlt (by decide : ((0 : Int32) < (1 : Int32)))).1 (by decide) (by decide) ?_
      show Steps p.tables e below (T4.setTop (mkF m 26 #[.val (.int fl), .val (.int av), .val (.long bv), .second, .val (.int dv), .val (.ref b1), .val (.int (0 : Int32)), .unset, .unset, .unset] [])) _
      refine XS.iload X4.here hx rfl (hb hby at_26) rfl ?_
      show Steps p.tables e below (T4.setTop (mkF m 28 #[.val (.int fl), .val (.int av), .val (.long bv), .second, .val (.int dv), .val (.ref b1), .val (.int (0 : Int32)), .unset, .unset, .unset] [(.int (0 : Int32))])) _
      refine XS.iconst X4.here hx rfl (hb hby at_28) ?_
      show Steps p.tables e below (T4.setTop (mkF m 29 #[.val (.int fl), .val (.int av), .val (.long bv), .second, .val (.int dv), .val (.ref b1), .val (.int (0 : Int32)), .unset, .unset, .unset] [(.int (2 : Int32)), (.int (0 : Int32))])) _
      refine XS.icmpYes X4.here hx rfl (pc0 := 29) (pc' := 38) rfl (hb hby at_29) rfl (tlt (by decide : ((0 : Int32) < (2 : Int32)))).1 (by decide) (by decide) ?_
      show Steps p.tables e below (T4.setTop (mkF m 38 #[.val (.int fl), .val (.int av), .val (.long bv), .second, .val (.int dv), .val (.ref b1), .val (.int (0 : Int32)), .unset, .unset, .unset] [])) _
      refine XS.iload X4.here hx rfl (hb hby at_38) rfl ?_
      show Steps p.tables e below (T4.setTop (mkF m 40 #[.val (.int fl), .val (.int av), .val (.long bv), .second, .val (.int dv), .val (.ref b1), .val (.int (0 : Int32)), .unset, .unset, .unset] [(.int (0 : Int32))])) _
      refine XS.iconst X4.here hx rfl (hb hby at_40) ?_
      show Steps p.tables e below (T4.setTop (mkF m 41 #[.val (.int fl), .val (.int av), .val (.long bv), .second, .val (.int dv), .val (.ref b1), .val (.int (0 : Int32)), .unset, .unset, .unset] [(.int (3 : Int32)), (.int (0 : Int32))])) _
      refine XS.icmpYes X4.here hx rfl (pc0 := 41) (pc' := 50) rfl (hb hby at_41) rfl (tlt (by decide : ((0 : Int32) < (3 : Int32)))).1 (by decide) (by decide) ?_
      show Steps p.tables e below (T4.setTop (mkF m 50 #[.val (.int fl), .val (.int av), .val (.long bv), .second, .val (.int dv), .val (.ref b1), .val (.int (0 : Int32)), .unset, .unset, .unset] [])) _
      refine XS.aload X4.here hx rfl (hb hby at_50) rfl rfl ?_
      show Steps p.tables e below (T4.setTop (mkF m 52 #[.val (.int fl), .val (.int av), .val (.long bv), .second, .val (.int dv), .val (.ref b1), .val (.int (0 : Int32)), .unset, .unset, .unset] [(.ref b1)])) _
      refine st14.trans ?_
      show Steps p.tables e below (T14.setTop (mkF m 55 #[.val (.int fl), .val (.int av), .val (.long bv), .second, .val (.int dv), .val (.ref b1), .val (.int (0 : Int32)), .unset, .unset, .unset] [(.ref b5)])) _
      refine XS.astore X14.here hx rfl (hb hby at_55) rfl rfl (l' := #[.val (.int fl), .val (.int av), .val (.long bv), .second, .val (.int dv), .val (.ref b1), .val (.int (0 : Int32)), .val (.ref b5), .unset, .unset]) rfl ?_
      show Steps p.tables e below (T14.setTop (mkF m 57 #[.val (.int fl), .val (.int av), .val (.long bv), .second, .val (.int dv), .val (.ref b1), .val (.int (0 : Int32)), .val (.ref b5), .unset, .unset] [])) _
      refine XS.aload X14.here hx rfl (hb hby at_57) rfl rfl ?_
      show Steps p.tables e below (T14.setTop (mkF m 59 #[.val (.int fl), .val (.int av), .val (.long bv), .second, .val (.int dv), .val (.ref b1), .val (.int (0 : Int32)), .val (.ref b5), .unset, .unset] [(.ref b1)])) _
      refine st15.trans ?_
      show Steps p.tables e below (T15.setTop (mkF m 62 #[.val (.int fl), .val (.int av), .val (.long bv), .second, .val (.int dv), .val (.ref b1), .val (.int (0 : Int32)), .val (.ref b5), .unset, .unset] [])) _
      refine XS.aload X15.here hx rfl (hb hby at_62) rfl rfl ?_
      show Steps p.tables e below (T15.setTop (mkF m 64 #[.val (.int fl), .val (.int av), .val (.long bv), .second, .val (.int dv), .val (.ref b1), .val (.int (0 : Int32)), .val (.ref b5), .unset, .unset] [(.ref b1)])) _
      refine st20.trans ?_
      show Steps p.tables e below (T20.setTop (mkF m 67 #[.val (.int fl), .val (.int av), .val (.long bv), .second, .val (.int dv), .val (.ref b1), .val (.int (0 : Int32)), .val (.ref b5), .unset, .unset] [(.int (0 : Int32))])) _
      refine XS.ifYes X20.here hx rfl (pc0 := 67) (pc' := 72) rfl (hb hby at_67) rfl ((if0 _ _).trans (teq (by decide : ((0 : Int32) = (0 : Int32)))).1) (by decide) (by decide) ?_
      show Steps p.tables e below (T20.setTop (mkF m 72 #[.val (.int fl), .val (.int av), .val (.long bv), .second, .val (.int dv), .val (.ref b1), .val (.int (0 : Int32)), .val (.ref b5), .unset, .unset] [])) _
      refine XS.aload X20.here hx rfl (hb hby at_72) rfl rfl ?_
      show Steps p.tables e below (T20.setTop (mkF m 74 #[.val (.int fl), .val (.int av), .val (.long bv), .second, .val (.int dv), .val (.ref b1), .val (.int (0 : Int32)), .val (.ref b5), .unset, .unset] [(.ref b1)])) _
      refine st21.trans ?_
      show Steps p.tables e below (T21.setTop (mkF m 77 #[.val (.int fl), .val (.int av), .val (.long bv), .second, .val (.int dv), .val (.ref b1), .val (.int (0 : Int32)), .val (.ref b5), .unset, .unset] [(.ref b5)])) _
      refine XS.astore X21.here hx rfl (hb hby at_77) rfl rfl (l' := #[.val (.int fl), .val (.int av), .val (.long bv), .second, .val (.int dv), .val (.ref b1), .val (.int (0 : Int32)), .val (.ref b5), .val (.ref b5), .unset]) rfl ?_
      show Steps p.tables e below (T21.setTop (mkF m 79 #[.val (.int fl), .val (.int av), .val (.long bv), .second, .val (.int dv), .val (.ref b1), .val (.int (0 : Int32)), .val (.ref b5), .val (.ref b5), .unset] [])) _
      refine XS.aload X21.here hx rfl (hb hby at_79) rfl rfl ?_
      show Steps p.tables e below (T21.setTop (mkF m 81 #[.val (.int fl), .val (.int av), .val (.long bv), .second, .val (.int dv), .val (.ref b1), .val (.int (0 : Int32)), .val (.ref b5), .val (.ref b5), .unset] [(.ref b5)])) _
      refine XS.aload X21.here hx rfl (hb hby at_81) rfl rfl ?_
      show Steps p.tables e below (T21.setTop (mkF m 83 #[.val (.int fl), .val (.int av), .val (.long bv), .second, .val (.int dv), .val (.ref b1), .val (.int (0 : Int32)), .val (.ref b5), .val (.ref b5), .unset] [(.ref b5), (.ref b5)])) _
      refine Jvm.RoadKit.acmp (g := (mkF m 83 #[.val (.int fl), .val (.int av), .val (.long bv), .second, .val (.int dv), .val (.ref b1), .val (.int (0 : Int32)), .val (.ref b5), .val (.ref b5), .unset] [(.ref b5), (.ref b5)])) X21 hx rfl rfl rfl (pc0 := 83) (pc' := 88) (same := true) rfl (hb hby at_83) rfl (decide_eq_true rfl) (by decide) (by decide) ?_
      show Steps p.tables e below (T21.setTop (mkF m 88 #[.val (.int fl), .val (.int av), .val (.long bv), .second, .val (.int dv), .val (.ref b1), .val (.int (0 : Int32)), .val (.ref b5), .val (.ref b5), .unset] [])) _
      refine XS.aload X21.here hx rfl (hb hby at_88) rfl rfl ?_
      show Steps p.tables e below (T21.setTop (mkF m 90 #[.val (.int fl), .val (.int av), .val (.long bv), .second, .val (.int dv), .val (.ref b1), .val (.int (0 : Int32)), .val (.ref b5), .val (.ref b5), .unset] [(.ref b5)])) _
      refine X21.arraylength hx (by rw [e21]; exact Arcl22.1) (State.isArrayOf_alike hZ.alike Arcl22.2.1) (g := (mkF m 90 #[.val (.int fl), .val (.int av), .val (.long bv), .second, .val (.int dv), .val (.ref b1), .val (.int (0 : Int32)), .val (.ref b5), .val (.ref b5), .unset] [(.ref b5)])) rfl rfl (hb hby at_90) _ ?_
      rw [Szcl22]
      show Steps p.tables e below (T21.setTop (mkF m 91 #[.val (.int fl), .val (.int av), .val (.long bv), .second, .val (.int dv), .val (.ref b1), .val (.int (0 : Int32)), .val (.ref b5), .val (.ref b5), .unset] [(.int (256 : Int32))])) _
      refine XS.sipush X21.here hx rfl (hb hby at_91) ?_
      show Steps p.tables e below (T21.setTop (mkF m 94 #[.val (.int fl), .val (.int av), .val (.long bv), .second, .val (.int dv), .val (.ref b1), .val (.int (0 : Int32)), .val (.ref b5), .val (.ref b5), .unset] [(.int (256 : Int32)), (.int (256 : Int32))])) _
      refine XS.icmpYes X21.here hx rfl (pc0 := 94) (pc' := 99) rfl (hb hby at_94) rfl (teq (by decide : ((256 : Int32) = (256 : Int32)))).1 (by decide) (by decide) ?_
      show Steps p.tables e below (T21.setTop (mkF m 99 #[.val (.int fl), .val (.int av), .val (.long bv), .second, .val (.int dv), .val (.ref b1), .val (.int (0 : Int32)), .val (.ref b5), .val (.ref b5), .unset] [])) _
      refine XS.aload X21.here hx rfl (hb hby at_99) rfl rfl ?_
      show Steps p.tables e below (T21.setTop (mkF m 101 #[.val (.int fl), .val (.int av), .val (.long bv), .second, .val (.int dv), .val (.ref b1), .val (.int (0 : Int32)), .val (.ref b5), .val (.ref b5), .unset] [(.ref b1)])) _
      refine XS.iload X21.here hx rfl (hb hby at_101) rfl ?_
      show Steps p.tables e below (T21.setTop (mkF m 103 #[.val (.int fl), .val (.int av), .val (.long bv), .second, .val (.int dv), .val (.ref b1), .val (.int (0 : Int32)), .val (.ref b5), .val (.ref b5), .unset] [(.int dv), (.ref b1)])) _
      refine st23.trans ?_
      show Steps p.tables e below (T23.setTop (mkF m 106 #[.val (.int fl), .val (.int av), .val (.long bv), .second, .val (.int dv), .val (.ref b1), .val (.int (0 : Int32)), .val (.ref b5), .val (.ref b5), .unset] [])) _
      refine XS.aload X23.here hx rfl (hb hby at_106) rfl rfl ?_
      show Steps p.tables e below (T23.setTop (mkF m 108 #[.val (.int fl), .val (.int av), .val (.long bv), .second, .val (.int dv), .val (.ref b1), .val (.int (0 : Int32)), .val (.ref b5), .val (.ref b5), .unset] [(.ref b1)])) _
      refine st28.trans ?_
      show Steps p.tables e below (T28.setTop (mkF m 111 #[.val (.int fl), .val (.int av), .val (.long bv), .second, .val (.int dv), .val (.ref b1), .val (.int (0 : Int32)), .val (.ref b5), .val (.ref b5), .unset] [(.int ((0 : Int32) + (4 : Int32)))])) _
      refine XS.iconst X28.here hx rfl (hb hby at_111) ?_
      show Steps p.tables e below (T28.setTop (mkF m 112 #[.val (.int fl), .val (.int av), .val (.long bv), .second, .val (.int dv), .val (.ref b1), .val (.int (0 : Int32)), .val (.ref b5), .val (.ref b5), .unset] [(.int (4 : Int32)), (.int ((0 : Int32) + (4 : Int32)))])) _
      refine XS.icmpYes X28.here hx rfl (pc0 := 112) (pc' := 117) rfl (hb hby at_112) rfl (teq (by decide : (((0 : Int32) + (4 : Int32)) = (4 : Int32)))).1 (by decide) (by decide) ?_
      show Steps p.tables e below (T28.setTop (mkF m 117 #[.val (.int fl), .val (.int av), .val (.long bv), .second, .val (.int dv), .val (.ref b1), .val (.int (0 : Int32)), .val (.ref b5), .val (.ref b5), .unset] [])) _
      refine XS.aload X28.here hx rfl (hb hby at_117) rfl rfl ?_
      show Steps p.tables e below (T28.setTop (mkF m 119 #[.val (.int fl), .val (.int av), .val (.long bv), .second, .val (.int dv), .val (.ref b1), .val (.int (0 : Int32)), .val (.ref b5), .val (.ref b5), .unset] [(.ref b1)])) _
      refine st29.trans ?_
      show Steps p.tables e below (T29.setTop (mkF m 122 #[.val (.int fl), .val (.int av), .val (.long bv), .second, .val (.int dv), .val (.ref b1), .val (.int (0 : Int32)), .val (.ref b5), .val (.ref b5), .unset] [(.ref b5)])) _
      refine XS.astore X29.here hx rfl (hb hby at_122) rfl rfl (l' := #[.val (.int fl), .val (.int av), .val (.long bv), .second, .val (.int dv), .val (.ref b1), .val (.int (0 : Int32)), .val (.ref b5), .val (.ref b5), .val (.ref b5)]) rfl ?_
      show Steps p.tables e below (T29.setTop (mkF m 124 #[.val (.int fl), .val (.int av), .val (.long bv), .second, .val (.int dv), .val (.ref b1), .val (.int (0 : Int32)), .val (.ref b5), .val (.ref b5), .val (.ref b5)] [])) _
      refine XS.aload X29.here hx rfl (hb hby at_124) rfl rfl ?_
      show Steps p.tables e below (T29.setTop (mkF m 126 #[.val (.int fl), .val (.int av), .val (.long bv), .second, .val (.int dv), .val (.ref b1), .val (.int (0 : Int32)), .val (.ref b5), .val (.ref b5), .val (.ref b5)] [(.ref b5)])) _
      refine XS.aload X29.here hx rfl (hb hby at_126) rfl rfl ?_
      show Steps p.tables e below (T29.setTop (mkF m 128 #[.val (.int fl), .val (.int av), .val (.long bv), .second, .val (.int dv), .val (.ref b1), .val (.int (0 : Int32)), .val (.ref b5), .val (.ref b5), .val (.ref b5)] [(.ref b5), (.ref b5)])) _
      refine Jvm.RoadKit.acmp (g := (mkF m 128 #[.val (.int fl), .val (.int av), .val (.long bv), .second, .val (.int dv), .val (.ref b1), .val (.int (0 : Int32)), .val (.ref b5), .val (.ref b5), .val (.ref b5)] [(.ref b5), (.ref b5)])) X29 hx rfl rfl rfl (pc0 := 128) (pc' := 133) (same := true) rfl (hb hby at_128) rfl (decide_eq_true rfl) (by decide) (by decide) ?_
      show Steps p.tables e below (T29.setTop (mkF m 133 #[.val (.int fl), .val (.int av), .val (.long bv), .second, .val (.int dv), .val (.ref b1), .val (.int (0 : Int32)), .val (.ref b5), .val (.ref b5), .val (.ref b5)] [])) _
      refine XS.aload X29.here hx rfl (hb hby at_133) rfl rfl ?_
      show Steps p.tables e below (T29.setTop (mkF m 135 #[.val (.int fl), .val (.int av), .val (.long bv), .second, .val (.int dv), .val (.ref b1), .val (.int (0 : Int32)), .val (.ref b5), .val (.ref b5), .val (.ref b5)] [(.ref b5)])) _
      refine XS.iconst X29.here hx rfl (hb hby at_135) ?_
      show Steps p.tables e below (T29.setTop (mkF m 136 #[.val (.int fl), .val (.int av), .val (.long bv), .second, .val (.int dv), .val (.ref b1), .val (.int (0 : Int32)), .val (.ref b5), .val (.ref b5), .val (.ref b5)] [(.int (0 : Int32)), (.ref b5)])) _
      refine X29.baloadBytes hx (j := (0 : Int32)) (v := (.int ((r8_arr dv zI 0) 0))) (by rw [e29]; exact Arcl30.1) (State.isArrayOf_alike hZ.alike Arcl30.2.1) Arcl30.2.2 hincl30 hatcl30 (g := (mkF m 136 #[.val (.int fl), .val (.int av), .val (.long bv), .second, .val (.int dv), .val (.ref b1), .val (.int (0 : Int32)), .val (.ref b5), .val (.ref b5), .val (.ref b5)] [(.int (0 : Int32)), (.ref b5)])) rfl rfl (hb hby at_136) _ ?_
      show Steps p.tables e below (T29.setTop (mkF m 137 #[.val (.int fl), .val (.int av), .val (.long bv), .second, .val (.int dv), .val (.ref b1), .val (.int (0 : Int32)), .val (.ref b5), .val (.ref b5), .val (.ref b5)] [(.int ((r8_arr dv zI 0) 0))])) _
      refine XS.iload X29.here hx rfl (hb hby at_137) rfl ?_
      show Steps p.tables e below (T29.setTop (mkF m 139 #[.val (.int fl), .val (.int av), .val (.long bv), .second, .val (.int dv), .val (.ref b1), .val (.int (0 : Int32)), .val (.ref b5), .val (.ref b5), .val (.ref b5)] [(.int dv), (.int ((r8_arr dv zI 0) 0))])) _
      refine XS.bipush X29.here hx rfl (hb hby at_139) ?_
      show Steps p.tables e below (T29.setTop (mkF m 141 #[.val (.int fl), .val (.int av), .val (.long bv), .second, .val (.int dv), .val (.ref b1), .val (.int (0 : Int32)), .val (.ref b5), .val (.ref b5), .val (.ref b5)] [(.int (24 : Int32)), (.int dv), (.int ((r8_arr dv zI 0) 0))])) _
      refine XS.iushr X29.here hx rfl (hb hby at_141) rfl ?_
      show Steps p.tables e below (T29.setTop (mkF m 142 #[.val (.int fl), .val (.int av), .val (.long bv), .second, .val (.int dv), .val (.ref b1), .val (.int (0 : Int32)), .val (.ref b5), .val (.ref b5), .val (.ref b5)] [(.int ((dv.toUInt32 >>> ((24 : Int32) &&& 31).toUInt32).toInt32)), (.int ((r8_arr dv zI 0) 0))])) _
      refine XS.i2b X29.here hx rfl (hb hby at_142) rfl ?_
      show Steps p.tables e below (T29.setTop (mkF m 143 #[.val (.int fl), .val (.int av), .val (.long bv), .second, .val (.int dv), .val (.ref b1), .val (.int (0 : Int32)), .val (.ref b5), .val (.ref b5), .val (.ref b5)] [(.int (((dv.toUInt32 >>> ((24 : Int32) &&& 31).toUInt32).toInt32).toInt8.toInt32)), (.int ((r8_arr dv zI 0) 0))])) _
      refine XS.icmpNo X29.here hx rfl (hb hby at_143) rfl (teq (rfl : (((r8_arr dv zI 0) 0) = (((dv.toUInt32 >>> ((24 : Int32) &&& 31).toUInt32).toInt32).toInt8.toInt32)))).2 ?_
      show Steps p.tables e below (T29.setTop (mkF m 146 #[.val (.int fl), .val (.int av), .val (.long bv), .second, .val (.int dv), .val (.ref b1), .val (.int (0 : Int32)), .val (.ref b5), .val (.ref b5), .val (.ref b5)] [])) _
      refine XS.aload X29.here hx rfl (hb hby at_146) rfl rfl ?_
      show Steps p.tables e below (T29.setTop (mkF m 148 #[.val (.int fl), .val (.int av), .val (.long bv), .second, .val (.int dv), .val (.ref b1), .val (.int (0 : Int32)), .val (.ref b5), .val (.ref b5), .val (.ref b5)] [(.ref b5)])) _
      refine XS.iconst X29.here hx rfl (hb hby at_148) ?_
      show Steps p.tables e below (T29.setTop (mkF m 149 #[.val (.int fl), .val (.int av), .val (.long bv), .second, .val (.int dv), .val (.ref b1), .val (.int (0 : Int32)), .val (.ref b5), .val (.ref b5), .val (.ref b5)] [(.int (1 : Int32)), (.ref b5)])) _
      refine X29.baloadBytes hx (j := (1 : Int32)) (v := (.int ((r8_arr dv zI 0) 1))) (by rw [e29]; exact Arcl31.1) (State.isArrayOf_alike hZ.alike Arcl31.2.1) Arcl31.2.2 hincl31 hatcl31 (g := (mkF m 149 #[.val (.int fl), .val (.int av), .val (.long bv), .second, .val (.int dv), .val (.ref b1), .val (.int (0 : Int32)), .val (.ref b5), .val (.ref b5), .val (.ref b5)] [(.int (1 : Int32)), (.ref b5)])) rfl rfl (hb hby at_149) _ ?_
      show Steps p.tables e below (T29.setTop (mkF m 150 #[.val (.int fl), .val (.int av), .val (.long bv), .second, .val (.int dv), .val (.ref b1), .val (.int (0 : Int32)), .val (.ref b5), .val (.ref b5), .val (.ref b5)] [(.int ((r8_arr dv zI 0) 1))])) _
      refine XS.iload X29.here hx rfl (hb hby at_150) rfl ?_
      show Steps p.tables e below (T29.setTop (mkF m 152 #[.val (.int fl), .val (.int av), .val (.long bv), .second, .val (.int dv), .val (.ref b1), .val (.int (0 : Int32)), .val (.ref b5), .val (.ref b5), .val (.ref b5)] [(.int dv), (.int ((r8_arr dv zI 0) 1))])) _
      refine XS.bipush X29.here hx rfl (hb hby at_152) ?_
      show Steps p.tables e below (T29.setTop (mkF m 154 #[.val (.int fl), .val (.int av), .val (.long bv), .second, .val (.int dv), .val (.ref b1), .val (.int (0 : Int32)), .val (.ref b5), .val (.ref b5), .val (.ref b5)] [(.int (16 : Int32)), (.int dv), (.int ((r8_arr dv zI 0) 1))])) _
      refine XS.iushr X29.here hx rfl (hb hby at_154) rfl ?_
      show Steps p.tables e below (T29.setTop (mkF m 155 #[.val (.int fl), .val (.int av), .val (.long bv), .second, .val (.int dv), .val (.ref b1), .val (.int (0 : Int32)), .val (.ref b5), .val (.ref b5), .val (.ref b5)] [(.int ((dv.toUInt32 >>> ((16 : Int32) &&& 31).toUInt32).toInt32)), (.int ((r8_arr dv zI 0) 1))])) _
      refine XS.i2b X29.here hx rfl (hb hby at_155) rfl ?_
      show Steps p.tables e below (T29.setTop (mkF m 156 #[.val (.int fl), .val (.int av), .val (.long bv), .second, .val (.int dv), .val (.ref b1), .val (.int (0 : Int32)), .val (.ref b5), .val (.ref b5), .val (.ref b5)] [(.int (((dv.toUInt32 >>> ((16 : Int32) &&& 31).toUInt32).toInt32).toInt8.toInt32)), (.int ((r8_arr dv zI 0) 1))])) _
      refine XS.icmpNo X29.here hx rfl (hb hby at_156) rfl (teq (rfl : (((r8_arr dv zI 0) 1) = (((dv.toUInt32 >>> ((16 : Int32) &&& 31).toUInt32).toInt32).toInt8.toInt32)))).2 ?_
      show Steps p.tables e below (T29.setTop (mkF m 159 #[.val (.int fl), .val (.int av), .val (.long bv), .second, .val (.int dv), .val (.ref b1), .val (.int (0 : Int32)), .val (.ref b5), .val (.ref b5), .val (.ref b5)] [])) _
      refine XS.aload X29.here hx rfl (hb hby at_159) rfl rfl ?_
      show Steps p.tables e below (T29.setTop (mkF m 161 #[.val (.int fl), .val (.int av), .val (.long bv), .second, .val (.int dv), .val (.ref b1), .val (.int (0 : Int32)), .val (.ref b5), .val (.ref b5), .val (.ref b5)] [(.ref b5)])) _
      refine XS.iconst X29.here hx rfl (hb hby at_161) ?_
      show Steps p.tables e below (T29.setTop (mkF m 162 #[.val (.int fl), .val (.int av), .val (.long bv), .second, .val (.int dv), .val (.ref b1), .val (.int (0 : Int32)), .val (.ref b5), .val (.ref b5), .val (.ref b5)] [(.int (2 : Int32)), (.ref b5)])) _
      refine X29.baloadBytes hx (j := (2 : Int32)) (v := (.int ((r8_arr dv zI 0) 2))) (by rw [e29]; exact Arcl32.1) (State.isArrayOf_alike hZ.alike Arcl32.2.1) Arcl32.2.2 hincl32 hatcl32 (g := (mkF m 162 #[.val (.int fl), .val (.int av), .val (.long bv), .second, .val (.int dv), .val (.ref b1), .val (.int (0 : Int32)), .val (.ref b5), .val (.ref b5), .val (.ref b5)] [(.int (2 : Int32)), (.ref b5)])) rfl rfl (hb hby at_162) _ ?_
      show Steps p.tables e below (T29.setTop (mkF m 163 #[.val (.int fl), .val (.int av), .val (.long bv), .second, .val (.int dv), .val (.ref b1), .val (.int (0 : Int32)), .val (.ref b5), .val (.ref b5), .val (.ref b5)] [(.int ((r8_arr dv zI 0) 2))])) _
      refine XS.iload X29.here hx rfl (hb hby at_163) rfl ?_
      show Steps p.tables e below (T29.setTop (mkF m 165 #[.val (.int fl), .val (.int av), .val (.long bv), .second, .val (.int dv), .val (.ref b1), .val (.int (0 : Int32)), .val (.ref b5), .val (.ref b5), .val (.ref b5)] [(.int dv), (.int ((r8_arr dv zI 0) 2))])) _
      refine XS.bipush X29.here hx rfl (hb hby at_165) ?_
      show Steps p.tables e below (T29.setTop (mkF m 167 #[.val (.int fl), .val (.int av), .val (.long bv), .second, .val (.int dv), .val (.ref b1), .val (.int (0 : Int32)), .val (.ref b5), .val (.ref b5), .val (.ref b5)] [(.int (8 : Int32)), (.int dv), (.int ((r8_arr dv zI 0) 2))])) _
      refine XS.iushr X29.here hx rfl (hb hby at_167) rfl ?_
      show Steps p.tables e below (T29.setTop (mkF m 168 #[.val (.int fl), .val (.int av), .val (.long bv), .second, .val (.int dv), .val (.ref b1), .val (.int (0 : Int32)), .val (.ref b5), .val (.ref b5), .val (.ref b5)] [(.int ((dv.toUInt32 >>> ((8 : Int32) &&& 31).toUInt32).toInt32)), (.int ((r8_arr dv zI 0) 2))])) _
      refine XS.i2b X29.here hx rfl (hb hby at_168) rfl ?_
      show Steps p.tables e below (T29.setTop (mkF m 169 #[.val (.int fl), .val (.int av), .val (.long bv), .second, .val (.int dv), .val (.ref b1), .val (.int (0 : Int32)), .val (.ref b5), .val (.ref b5), .val (.ref b5)] [(.int (((dv.toUInt32 >>> ((8 : Int32) &&& 31).toUInt32).toInt32).toInt8.toInt32)), (.int ((r8_arr dv zI 0) 2))])) _
      refine XS.icmpNo X29.here hx rfl (hb hby at_169) rfl (teq (rfl : (((r8_arr dv zI 0) 2) = (((dv.toUInt32 >>> ((8 : Int32) &&& 31).toUInt32).toInt32).toInt8.toInt32)))).2 ?_
      show Steps p.tables e below (T29.setTop (mkF m 172 #[.val (.int fl), .val (.int av), .val (.long bv), .second, .val (.int dv), .val (.ref b1), .val (.int (0 : Int32)), .val (.ref b5), .val (.ref b5), .val (.ref b5)] [])) _
      refine XS.aload X29.here hx rfl (hb hby at_172) rfl rfl ?_
      show Steps p.tables e below (T29.setTop (mkF m 174 #[.val (.int fl), .val (.int av), .val (.long bv), .second, .val (.int dv), .val (.ref b1), .val (.int (0 : Int32)), .val (.ref b5), .val (.ref b5), .val (.ref b5)] [(.ref b5)])) _
      refine XS.iconst X29.here hx rfl (hb hby at_174) ?_
      show Steps p.tables e below (T29.setTop (mkF m 175 #[.val (.int fl), .val (.int av), .val (.long bv), .second, .val (.int dv), .val (.ref b1), .val (.int (0 : Int32)), .val (.ref b5), .val (.ref b5), .val (.ref b5)] [(.int (3 : Int32)), (.ref b5)])) _
      refine X29.baloadBytes hx (j := (3 : Int32)) (v := (.int ((r8_arr dv zI 0) 3))) (by rw [e29]; exact Arcl33.1) (State.isArrayOf_alike hZ.alike Arcl33.2.1) Arcl33.2.2 hincl33 hatcl33 (g := (mkF m 175 #[.val (.int fl), .val (.int av), .val (.long bv), .second, .val (.int dv), .val (.ref b1), .val (.int (0 : Int32)), .val (.ref b5), .val (.ref b5), .val (.ref b5)] [(.int (3 : Int32)), (.ref b5)])) rfl rfl (hb hby at_175) _ ?_
      show Steps p.tables e below (T29.setTop (mkF m 176 #[.val (.int fl), .val (.int av), .val (.long bv), .second, .val (.int dv), .val (.ref b1), .val (.int (0 : Int32)), .val (.ref b5), .val (.ref b5), .val (.ref b5)] [(.int ((r8_arr dv zI 0) 3))])) _
      refine XS.iload X29.here hx rfl (hb hby at_176) rfl ?_
      show Steps p.tables e below (T29.setTop (mkF m 178 #[.val (.int fl), .val (.int av), .val (.long bv), .second, .val (.int dv), .val (.ref b1), .val (.int (0 : Int32)), .val (.ref b5), .val (.ref b5), .val (.ref b5)] [(.int dv), (.int ((r8_arr dv zI 0) 3))])) _
      refine XS.i2b X29.here hx rfl (hb hby at_178) rfl ?_
      show Steps p.tables e below (T29.setTop (mkF m 179 #[.val (.int fl), .val (.int av), .val (.long bv), .second, .val (.int dv), .val (.ref b1), .val (.int (0 : Int32)), .val (.ref b5), .val (.ref b5), .val (.ref b5)] [(.int (dv.toInt8.toInt32)), (.int ((r8_arr dv zI 0) 3))])) _
      refine XS.icmpNo X29.here hx rfl (hb hby at_179) rfl (teq (rfl : (((r8_arr dv zI 0) 3) = (dv.toInt8.toInt32)))).2 ?_
      show Steps p.tables e below (T29.setTop (mkF m 182 #[.val (.int fl), .val (.int av), .val (.long bv), .second, .val (.int dv), .val (.ref b1), .val (.int (0 : Int32)), .val (.ref b5), .val (.ref b5), .val (.ref b5)] [])) _
      refine XS.iconst X29.here hx rfl (hb hby at_182) ?_
      show Steps p.tables e below (T29.setTop (mkF m 183 #[.val (.int fl), .val (.int av), .val (.long bv), .second, .val (.int dv), .val (.ref b1), .val (.int (0 : Int32)), .val (.ref b5), .val (.ref b5), .val (.ref b5)] [(.int (1 : Int32))])) _
      refine XS.goto X29.here hx rfl (pc0 := 183) (pc' := 187) rfl (hb hby at_183) (by decide) (by decide) ?_
      show Steps p.tables e below (T29.setTop (mkF m 187 #[.val (.int fl), .val (.int av), .val (.long bv), .second, .val (.int dv), .val (.ref b1), .val (.int (0 : Int32)), .val (.ref b5), .val (.ref b5), .val (.ref b5)] [(.int (1 : Int32))])) _
      exact retN X29 hx (t := .boolean) Bd.returns (by simp) (hb hby at_187) hr
    · show Q0 Z fl av bv dv h0 n0 _ T29.heap _
      rw [e29]
      exact ⟨rfl, N29⟩
  · have pre34 : ∀ t, Steps p.tables e below (T4.setTop (mkF m 12 #[.val (.int fl), .val (.int av), .val (.long bv), .second, .val (.int dv), .val (.ref b1), .unset, .unset, .unset, .unset] [(.int (1 : Int32))])) t → Steps p.tables e below (s₁.setTop (entryFrame m #[(.int fl), (.int av), (.long bv), (.int dv)] maxLocals)) t := by
      intro t k
      refine pre11 _ ?_
      rw [hk12]
      exact k
    obtain ⟨cq35, kq35, q35a, q35b, q35c⟩ := isOf hZ rfl f10
    obtain ⟨_, _, ⟨T35, L35, k35, n35⟩, -, X35, ⟨Lc35, hQ35, l35, y35, z35⟩, st35⟩ := X4.virtualBack hx (y := (⟨"com/example/lockstep/lockstep/store/RecordBuffer", "writeByte", "(I)V"⟩ : MethodName)) (z := (⟨"com/example/lockstep/lockstep/store/RecordBuffer", "writeByte", "(I)V"⟩ : MethodName)) hown (mvT hZ (hw _ (List.mem_of_getElem? (i := 44) rfl))) (mvT hZ (hw _ (List.mem_of_getElem? (i := 45) rfl))) (notFace_of_selects (args := #[]) (mvT hZ (hw _ (List.mem_of_getElem? (i := 47) rfl)))) (mvT hZ (hw _ (List.mem_of_getElem? (i := 47) rfl))) (mvT hZ (hw _ (List.mem_of_getElem? (i := 46) rfl))) (by decide) (backOf (W := 0) (rm9 l Z a0 hw [] b1 av b5 zI (0 : Int32) 0 T4.heap n0 Z4 f6 f8 f7 f10 ne9 (rfl) (by decide) gg1 ggb5) hZ (hw _ (List.mem_of_getElem? (i := 48) rfl)) (hw _ (List.mem_of_getElem? (i := 2) rfl)) (by decide) (by decide)) q35a q35c (g := (mkF m 23 #[.val (.int fl), .val (.int av), .val (.long bv), .second, .val (.int dv), .val (.ref b1), .val (.int (1 : Int32)), .unset, .unset, .unset] [(.int av), (.ref b1)])) rfl (by rw [hml]; rfl) (Steps.refl _) (argsL := [(.int av)]) (rest := []) (lenOf pd_0 rfl) rfl (by show 2 * 0 + _ ≤ _; exact Nat.le_of_eq rfl) (hb hby at_23) (fun _ _ => ⟨rfl, rfl, (by decide : 2 + 0 ≤ _), (by decide : 258 + 0 ≤ _)⟩)
    dsimp only [Pt.U, Pt.locs, Pt.cells, Pt.slots] at X35 l35 y35 z35 st35 hQ35
    subst l35 y35 z35
    obtain ⟨rfl, N35q, K35c, f36, f37, f38⟩ := hQ35
    have N35 := Fr.app N4 N35q
    have f39 : Exa Z T35.heap b1 "com/example/lockstep/lockstep/store/RecordBuffer" := f10.keep K35c
    have Z35 : n0 ≤ T35.heap.size := Nat.le_trans Z4 K35c.1
    obtain ⟨cq40, kq40, q40a, q40b, q40c⟩ := isOf hZ rfl f39
    obtain ⟨_, _, ⟨T40, L40, k40, n40⟩, -, X40, ⟨Lc40, hQ40, l40, y40, z40⟩, st40⟩ := X35.virtualBack hx (y := (⟨"com/example/lockstep/lockstep/store/RecordBuffer", "bytes", "()[B"⟩ : MethodName)) (z := (⟨"com/example/lockstep/lockstep/store/RecordBuffer", "bytes", "()[B"⟩ : MethodName)) hown (mvT hZ (hw _ (List.mem_of_getElem? (i := 12) rfl))) (mvT hZ (hw _ (List.mem_of_getElem? (i := 13) rfl))) (notFace_of_selects (args := #[]) (mvT hZ (hw _ (List.mem_of_getElem? (i := 15) rfl)))) (mvT hZ (hw _ (List.mem_of_getElem? (i := 15) rfl))) (mvT hZ (hw _ (List.mem_of_getElem? (i := 14) rfl))) (by decide) (backOf (W := 0) (rm3 l Z a0 hw [] b1 b5 T35.heap n0 Z35 f36) hZ (hw _ (List.mem_of_getElem? (i := 16) rfl)) (hw _ (List.mem_of_getElem? (i := 2) rfl)) (by decide) (by decide)) q40a q40c (g := (mkF m 52 #[.val (.int fl), .val (.int av), .val (.long bv), .second, .val (.int dv), .val (.ref b1), .val (.int (1 : Int32)), .unset, .unset, .unset] [(.ref b1)])) rfl (by rw [hml]; rfl) (Steps.refl _) (argsL := []) (rest := []) (lenOf pd_3 rfl) rfl (by show 2 * 0 + _ ≤ _; exact Nat.le_of_eq rfl) (hb hby at_52) (fun _ _ => ⟨rfl, rfl, (by decide : 2 + 0 ≤ _), (by decide : 258 + 0 ≤ _)⟩)
    dsimp only [Pt.U, Pt.locs, Pt.cells, Pt.slots] at X40 l40 y40 z40 st40 hQ40
    subst l40 y40 z40
    obtain ⟨rfl, N40q, e40⟩ := hQ40
    have N40 := Fr.app N35 N40q
    obtain ⟨cq41, kq41, q41a, q41b, q41c⟩ := isOf hZ e40 f39
    obtain ⟨_, _, ⟨T41, L41, k41, n41⟩, -, X41, ⟨Lc41, hQ41, l41, y41, z41⟩, st41⟩ := X40.virtualBack hx (y := (⟨"com/example/lockstep/lockstep/store/RecordBuffer", "clear", "()V"⟩ : MethodName)) (z := (⟨"com/example/lockstep/lockstep/store/RecordBuffer", "clear", "()V"⟩ : MethodName)) hown (mvT hZ (hw _ (List.mem_of_getElem? (i := 17) rfl))) (mvT hZ (hw _ (List.mem_of_getElem? (i := 18) rfl))) (notFace_of_selects (args := #[]) (mvT hZ (hw _ (List.mem_of_getElem? (i := 20) rfl)))) (mvT hZ (hw _ (List.mem_of_getElem? (i := 20) rfl))) (mvT hZ (hw _ (List.mem_of_getElem? (i := 19) rfl))) (by decide) (backOf (W := 0) (rm4 l Z a0 hw [] b1 b5 (up zI 0 (av.toInt8.toInt32)) ((0 : Int32) + (1 : Int32)) T35.heap n0 Z35 f36 f37 f38 f39 ne9 gg1) hZ (hw _ (List.mem_of_getElem? (i := 21) rfl)) (hw _ (List.mem_of_getElem? (i := 2) rfl)) (by decide) (by decide)) q41a q41c (g := (mkF m 59 #[.val (.int fl), .val (.int av), .val (.long bv), .second, .val (.int dv), .val (.ref b1), .val (.int (1 : Int32)), .val (.ref b5), .unset, .unset] [(.ref b1)])) rfl (by rw [hml]; rfl) (Steps.refl _) (argsL := []) (rest := []) (lenOf pd_2 rfl) rfl (by show 2 * 0 + _ ≤ _; exact Nat.le_of_eq rfl) (hb hby at_59) (fun _ _ => ⟨rfl, e40, (by decide : 2 + 0 ≤ _), (by decide : 258 + 0 ≤ _)⟩)
    dsimp only [Pt.U, Pt.locs, Pt.cells, Pt.slots] at X41 l41 y41 z41 st41 hQ41
    subst l41 y41 z41
    obtain ⟨rfl, N41q, K41c, f42, f43⟩ := hQ41
    have N41 := Fr.app N40 N41q
    have f44 : Exa Z T41.heap b1 "com/example/lockstep/lockstep/store/RecordBuffer" := f39.keep K41c
    have f45 : AI Z T41.heap b5 .byte 256 (up zI 0 (av.toInt8.toInt32)) := f37.keep K41c (ninS (Ne.symm ne9) nin0)
    have Z41 : n0 ≤ T41.heap.size := Nat.le_trans Z35 K41c.1
    obtain ⟨cq46, kq46, q46a, q46b, q46c⟩ := isOf hZ rfl f44
    obtain ⟨_, _, ⟨T46, L46, k46, n46⟩, -, X46, ⟨Lc46, hQ46, l46, y46, z46⟩, st46⟩ := X41.virtualBack hx (y := (⟨"com/example/lockstep/lockstep/store/RecordBuffer", "size", "()I"⟩ : MethodName)) (z := (⟨"com/example/lockstep/lockstep/store/RecordBuffer", "size", "()I"⟩ : MethodName)) hown (mvT hZ (hw _ (List.mem_of_getElem? (i := 25) rfl))) (mvT hZ (hw _ (List.mem_of_getElem? (i := 26) rfl))) (notFace_of_selects (args := #[]) (mvT hZ (hw _ (List.mem_of_getElem? (i := 28) rfl)))) (mvT hZ (hw _ (List.mem_of_getElem? (i := 28) rfl))) (mvT hZ (hw _ (List.mem_of_getElem? (i := 27) rfl))) (by decide) (backOf (W := 0) (rm5 l Z a0 hw [] b1 (0 : Int32) T41.heap n0 Z41 f43) hZ (hw _ (List.mem_of_getElem? (i := 29) rfl)) (hw _ (List.mem_of_getElem? (i := 2) rfl)) (by decide) (by decide)) q46a q46c (g := (mkF m 64 #[.val (.int fl), .val (.int av), .val (.long bv), .second, .val (.int dv), .val (.ref b1), .val (.int (1 : Int32)), .val (.ref b5), .unset, .unset] [(.ref b1)])) rfl (by rw [hml]; rfl) (Steps.refl _) (argsL := []) (rest := []) (lenOf pd_4 rfl) rfl (by show 2 * 0 + _ ≤ _; exact Nat.le_of_eq rfl) (hb hby at_64) (fun _ _ => ⟨rfl, rfl, (by decide : 2 + 0 ≤ _), (by decide : 258 + 0 ≤ _)⟩)
    dsimp only [Pt.U, Pt.locs, Pt.cells, Pt.slots] at X46 l46 y46 z46 st46 hQ46
    subst l46 y46 z46
    obtain ⟨rfl, N46q, e46⟩ := hQ46
    have N46 := Fr.app N41 N46q
    obtain ⟨cq47, kq47, q47a, q47b, q47c⟩ := isOf hZ e46 f44
    obtain ⟨_, _, ⟨T47, L47, k47, n47⟩, -, X47, ⟨Lc47, hQ47, l47, y47, z47⟩, st47⟩ := X46.virtualBack hx (y := (⟨"com/example/lockstep/lockstep/store/RecordBuffer", "bytes", "()[B"⟩ : MethodName)) (z := (⟨"com/example/lockstep/lockstep/store/RecordBuffer", "bytes", "()[B"⟩ : MethodName)) hown (mvT hZ (hw _ (List.mem_of_getElem? (i := 12) rfl))) (mvT hZ (hw _ (List.mem_of_getElem? (i := 13) rfl))) (notFace_of_selects (args := #[]) (mvT hZ (hw _ (List.mem_of_getElem? (i := 15) rfl)))) (mvT hZ (hw _ (List.mem_of_getElem? (i := 15) rfl))) (mvT hZ (hw _ (List.mem_of_getElem? (i := 14) rfl))) (by decide) (backOf (W := 0) (rm3 l Z a0 hw [] b1 b5 T41.heap n0 Z41 f42) hZ (hw _ (List.mem_of_getElem? (i := 16) rfl)) (hw _ (List.mem_of_getElem? (i := 2) rfl)) (by decide) (by decide)) q47a q47c (g := (mkF m 74 #[.val (.int fl), .val (.int av), .val (.long bv), .second, .val (.int dv), .val (.ref b1), .val (.int (1 : Int32)), .val (.ref b5), .unset, .unset] [(.ref b1)])) rfl (by rw [hml]; rfl) (Steps.refl _) (argsL := []) (rest := []) (lenOf pd_3 rfl) rfl (by show 2 * 0 + _ ≤ _; exact Nat.le_of_eq rfl) (hb hby at_74) (fun _ _ => ⟨rfl, e46, (by decide : 2 + 0 ≤ _), (by decide : 258 + 0 ≤ _)⟩)
    dsimp only [Pt.U, Pt.locs, Pt.cells, Pt.slots] at X47 l47 y47 z47 st47 hQ47
    subst l47 y47 z47
    obtain ⟨rfl, N47q, e47⟩ := hQ47
    have N47 := Fr.app N46 N47q
    obtain ⟨cl48, Arcl48, Szcl48⟩ := AF.len f45
    obtain ⟨cq49, kq49, q49a, q49b, q49c⟩ := isOf hZ e47 f44
    obtain ⟨_, _, ⟨T49, L49, k49, n49⟩, -, X49, ⟨Lc49, hQ49, l49, y49, z49⟩, st49⟩ := X47.virtualBack hx (y := (⟨"com/example/lockstep/lockstep/store/RecordBuffer", "writeInt", "(I)V"⟩ : MethodName)) (z := (⟨"com/example/lockstep/lockstep/store/RecordBuffer", "writeInt", "(I)V"⟩ : MethodName)) hown (mvT hZ (hw _ (List.mem_of_getElem? (i := 30) rfl))) (mvT hZ (hw _ (List.mem_of_getElem? (i := 31) rfl))) (notFace_of_selects (args := #[]) (mvT hZ (hw _ (List.mem_of_getElem? (i := 33) rfl)))) (mvT hZ (hw _ (List.mem_of_getElem? (i := 33) rfl))) (mvT hZ (hw _ (List.mem_of_getElem? (i := 32) rfl))) (by decide) (backOf (W := 0) (rm6 l Z a0 hw [] b1 dv b5 (up zI 0 (av.toInt8.toInt32)) (0 : Int32) 0 T41.heap n0 Z41 f42 f45 f43 f44 ne9 (rfl) (by decide) ggb5 gg1) hZ (hw _ (List.mem_of_getElem? (i := 34) rfl)) (hw _ (List.mem_of_getElem? (i := 2) rfl)) (by decide) (by decide)) q49a q49c (g := (mkF m 103 #[.val (.int fl), .val (.int av), .val (.long bv), .second, .val (.int dv), .val (.ref b1), .val (.int (1 : Int32)), .val (.ref b5), .val (.ref b5), .unset] [(.int dv), (.ref b1)])) rfl (by rw [hml]; rfl) (Steps.refl _) (argsL := [(.int dv)]) (rest := []) (lenOf pd_0 rfl) rfl (by show 2 * 0 + _ ≤ _; exact Nat.le_of_eq rfl) (hb hby at_103) (fun _ _ => ⟨rfl, e47, (by decide : 2 + 0 ≤ _), (by decide : 258 + 0 ≤ _)⟩)
    dsimp only [Pt.U, Pt.locs, Pt.cells, Pt.slots] at X49 l49 y49 z49 st49 hQ49
    subst l49 y49 z49
    obtain ⟨rfl, N49q, K49c, f50, f51, f52⟩ := hQ49
    have N49 := Fr.app N47 N49q
    have f53 : Exa Z T49.heap b1 "com/example/lockstep/lockstep/store/RecordBuffer" := f44.keep K49c
    have Z49 : n0 ≤ T49.heap.size := Nat.le_trans Z41 K49c.1
    obtain ⟨cq54, kq54, q54a, q54b, q54c⟩ := isOf hZ rfl f53
    obtain ⟨_, _, ⟨T54, L54, k54, n54⟩, -, X54, ⟨Lc54, hQ54, l54, y54, z54⟩, st54⟩ := X49.virtualBack hx (y := (⟨"com/example/lockstep/lockstep/store/RecordBuffer", "size", "()I"⟩ : MethodName)) (z := (⟨"com/example/lockstep/lockstep/store/RecordBuffer", "size", "()I"⟩ : MethodName)) hown (mvT hZ (hw _ (List.mem_of_getElem? (i := 25) rfl))) (mvT hZ (hw _ (List.mem_of_getElem? (i := 26) rfl))) (notFace_of_selects (args := #[]) (mvT hZ (hw _ (List.mem_of_getElem? (i := 28) rfl)))) (mvT hZ (hw _ (List.mem_of_getElem? (i := 28) rfl))) (mvT hZ (hw _ (List.mem_of_getElem? (i := 27) rfl))) (by decide) (backOf (W := 0) (rm5 l Z a0 hw [] b1 ((0 : Int32) + (4 : Int32)) T49.heap n0 Z49 f51) hZ (hw _ (List.mem_of_getElem? (i := 29) rfl)) (hw _ (List.mem_of_getElem? (i := 2) rfl)) (by decide) (by decide)) q54a q54c (g := (mkF m 108 #[.val (.int fl), .val (.int av), .val (.long bv), .second, .val (.int dv), .val (.ref b1), .val (.int (1 : Int32)), .val (.ref b5), .val (.ref b5), .unset] [(.ref b1)])) rfl (by rw [hml]; rfl) (Steps.refl _) (argsL := []) (rest := []) (lenOf pd_4 rfl) rfl (by show 2 * 0 + _ ≤ _; exact Nat.le_of_eq rfl) (hb hby at_108) (fun _ _ => ⟨rfl, rfl, (by decide : 2 + 0 ≤ _), (by decide : 258 + 0 ≤ _)⟩)
    dsimp only [Pt.U, Pt.locs, Pt.cells, Pt.slots] at X54 l54 y54 z54 st54 hQ54
    subst l54 y54 z54
    obtain ⟨rfl, N54q, e54⟩ := hQ54
    have N54 := Fr.app N49 N54q
    obtain ⟨cq55, kq55, q55a, q55b, q55c⟩ := isOf hZ e54 f53
    obtain ⟨_, _, ⟨T55, L55, k55, n55⟩, -, X55, ⟨Lc55, hQ55, l55, y55, z55⟩, st55⟩ := X54.virtualBack hx (y := (⟨"com/example/lockstep/lockstep/store/RecordBuffer", "bytes", "()[B"⟩ : MethodName)) (z := (⟨"com/example/lockstep/lockstep/store/RecordBuffer", "bytes", "()[B"⟩ : MethodName)) hown (mvT hZ (hw _ (List.mem_of_getElem? (i := 12) rfl))) (mvT hZ (hw _ (List.mem_of_getElem? (i := 13) rfl))) (notFace_of_selects (args := #[]) (mvT hZ (hw _ (List.mem_of_getElem? (i := 15) rfl)))) (mvT hZ (hw _ (List.mem_of_getElem? (i := 15) rfl))) (mvT hZ (hw _ (List.mem_of_getElem? (i := 14) rfl))) (by decide) (backOf (W := 0) (rm3 l Z a0 hw [] b1 b5 T49.heap n0 Z49 f50) hZ (hw _ (List.mem_of_getElem? (i := 16) rfl)) (hw _ (List.mem_of_getElem? (i := 2) rfl)) (by decide) (by decide)) q55a q55c (g := (mkF m 119 #[.val (.int fl), .val (.int av), .val (.long bv), .second, .val (.int dv), .val (.ref b1), .val (.int (1 : Int32)), .val (.ref b5), .val (.ref b5), .unset] [(.ref b1)])) rfl (by rw [hml]; rfl) (Steps.refl _) (argsL := []) (rest := []) (lenOf pd_3 rfl) rfl (by show 2 * 0 + _ ≤ _; exact Nat.le_of_eq rfl) (hb hby at_119) (fun _ _ => ⟨rfl, e54, (by decide : 2 + 0 ≤ _), (by decide : 258 + 0 ≤ _)⟩)
    dsimp only [Pt.U, Pt.locs, Pt.cells, Pt.slots] at X55 l55 y55 z55 st55 hQ55
    subst l55 y55 z55
    obtain ⟨rfl, N55q, e55⟩ := hQ55
    have N55 := Fr.app N54 N55q
    obtain ⟨cl56, Arcl56, hincl56, hatcl56⟩ := AF.at f52 (j := (0 : Int32)) 0 (by decide) (by decide)
    obtain ⟨cl57, Arcl57, hincl57, hatcl57⟩ := AF.at f52 (j := (1 : Int32)) 1 (by decide) (by decide)
    obtain ⟨cl58, Arcl58, hincl58, hatcl58⟩ := AF.at f52 (j := (2 : Int32)) 2 (by decide) (by decide)
    obtain ⟨cl59, Arcl59, hincl59, hatcl59⟩ := AF.at f52 (j := (3 : Int32)) 3 (by decide) (by decide)
    obtain ⟨fs, hr, hrun, hended, hW, hsame⟩ := X55.leave (v := some (.int (1 : Int32))) (fun h => by rw [Bd.returns] at h; cases h)
    refine ⟨_, _, pre34 _ ?_, hrun, hended, _, _, rfl, ?_, ⟨_, rfl⟩, hW, hsame.mono (by decide) (by decide)⟩
    · show Steps p.tables e below (T4.setTop (mkF m 12 #[.val (.int fl), .val (.int av), .val (.long bv), .second, .val (.int dv), .val (.ref b1), .unset, .unset, .unset, .unset] [(.int (1 : Int32))])) _
      refine XS.istore X4.here hx rfl (hb hby at_12) rfl (l' := #[.val (.int fl), .val (.int av), .val (.long bv), .second, .val (.int dv), .val (.ref b1), .val (.int (1 : Int32)), .unset, .unset, .unset]) rfl ?_
      show Steps p.tables e below (T4.setTop (mkF m 14 #[.val (.int fl), .val (.int av), .val (.long bv), .second, .val (.int dv), .val (.ref b1), .val (.int (1 : Int32)), .unset, .unset, .unset] [])) _
      refine XS.iload X4.here hx rfl (hb hby at_14) rfl ?_
      show Steps p.tables e below (T4.setTop (mkF m 16 #[.val (.int fl), .val (.int av), .val (.long bv), .second, .val (.int dv), .val (.ref b1), .val (.int (1 : Int32)), .unset, .unset, .unset] [(.int (1 : Int32))])) _
      refine XS.iconst X4.here hx rfl (hb hby at_16) ?_
      show Steps p.tables e below (T4.setTop (mkF m 17 #[.val (.int fl), .val (.int av), .val (.long bv), .second, .val (.int dv), .val (.ref b1), .val (.int (1 : Int32)), .unset, .unset, .unset] [(.int (1 : Int32)), (.int (1 : Int32))])) _
      refine XS.icmpNo X4.here hx rfl (hb hby at_17) rfl (flt (by decide : ¬ ((1 : Int32) < (1 : Int32)))).1 ?_
      show Steps p.tables e below (T4.setTop (mkF m 20 #[.val (.int fl), .val (.int av), .val (.long bv), .second, .val (.int dv), .val (.ref b1), .val (.int (1 : Int32)), .unset, .unset, .unset] [])) _
      refine XS.aload X4.here hx rfl (hb hby at_20) rfl rfl ?_
      show Steps p.tables e below (T4.setTop (mkF m 22 #[.val (.int fl), .val (.int av), .val (.long bv), .second, .val (.int dv), .val (.ref b1), .val (.int (1 : Int32)), .unset, .unset, .unset] [(.ref b1)])) _
      refine XS.iloadN X4.here hx rfl (hb hby at_22) rfl ?_
      show Steps p.tables e below (T4.setTop (mkF m 23 #[.val (.int fl), .val (.int av), .val (.long bv), .second, .val (.int dv), .val (.ref b1), .val (.int (1 : Int32)), .unset, .unset, .unset] [(.int av), (.ref b1)])) _
      refine st35.trans ?_
      show Steps p.tables e below (T35.setTop (mkF m 26 #[.val (.int fl), .val (.int av), .val (.long bv), .second, .val (.int dv), .val (.ref b1), .val (.int (1 : Int32)), .unset, .unset, .unset] [])) _
      refine XS.iload X35.here hx rfl (hb hby at_26) rfl ?_
      show Steps p.tables e below (T35.setTop (mkF m 28 #[.val (.int fl), .val (.int av), .val (.long bv), .second, .val (.int dv), .val (.ref b1), .val (.int (1 : Int32)), .unset, .unset, .unset] [(.int (1 : Int32))])) _
      refine XS.iconst X35.here hx rfl (hb hby at_28) ?_
      show Steps p.tables e below (T35.setTop (mkF m 29 #[.val (.int fl), .val (.int av), .val (.long bv), .second, .val (.int dv), .val (.ref b1), .val (.int (1 : Int32)), .unset, .unset, .unset] [(.int (2 : Int32)), (.int (1 : Int32))])) _
      refine XS.icmpYes X35.here hx rfl (pc0 := 29) (pc' := 38) rfl (hb hby at_29) rfl (tlt (by decide : ((1 : Int32) < (2 : Int32)))).1 (by decide) (by decide) ?_
      show Steps p.tables e below (T35.setTop (mkF m 38 #[.val (.int fl), .val (.int av), .val (.long bv), .second, .val (.int dv), .val (.ref b1), .val (.int (1 : Int32)), .unset, .unset, .unset] [])) _
      refine XS.iload X35.here hx rfl (hb hby at_38) rfl ?_
      show Steps p.tables e below (T35.setTop (mkF m 40 #[.val (.int fl), .val (.int av), .val (.long bv), .second, .val (.int dv), .val (.ref b1), .val (.int (1 : Int32)), .unset, .unset, .unset] [(.int (1 : Int32))])) _
      refine XS.iconst X35.here hx rfl (hb hby at_40) ?_
      show Steps p.tables e below (T35.setTop (mkF m 41 #[.val (.int fl), .val (.int av), .val (.long bv), .second, .val (.int dv), .val (.ref b1), .val (.int (1 : Int32)), .unset, .unset, .unset] [(.int (3 : Int32)), (.int (1 : Int32))])) _
      refine XS.icmpYes X35.here hx rfl (pc0 := 41) (pc' := 50) rfl (hb hby at_41) rfl (tlt (by decide : ((1 : Int32) < (3 : Int32)))).1 (by decide) (by decide) ?_
      show Steps p.tables e below (T35.setTop (mkF m 50 #[.val (.int fl), .val (.int av), .val (.long bv), .second, .val (.int dv), .val (.ref b1), .val (.int (1 : Int32)), .unset, .unset, .unset] [])) _
      refine XS.aload X35.here hx rfl (hb hby at_50) rfl rfl ?_
      show Steps p.tables e below (T35.setTop (mkF m 52 #[.val (.int fl), .val (.int av), .val (.long bv), .second, .val (.int dv), .val (.ref b1), .val (.int (1 : Int32)), .unset, .unset, .unset] [(.ref b1)])) _
      refine st40.trans ?_
      show Steps p.tables e below (T40.setTop (mkF m 55 #[.val (.int fl), .val (.int av), .val (.long bv), .second, .val (.int dv), .val (.ref b1), .val (.int (1 : Int32)), .unset, .unset, .unset] [(.ref b5)])) _
      refine XS.astore X40.here hx rfl (hb hby at_55) rfl rfl (l' := #[.val (.int fl), .val (.int av), .val (.long bv), .second, .val (.int dv), .val (.ref b1), .val (.int (1 : Int32)), .val (.ref b5), .unset, .unset]) rfl ?_
      show Steps p.tables e below (T40.setTop (mkF m 57 #[.val (.int fl), .val (.int av), .val (.long bv), .second, .val (.int dv), .val (.ref b1), .val (.int (1 : Int32)), .val (.ref b5), .unset, .unset] [])) _
      refine XS.aload X40.here hx rfl (hb hby at_57) rfl rfl ?_
      show Steps p.tables e below (T40.setTop (mkF m 59 #[.val (.int fl), .val (.int av), .val (.long bv), .second, .val (.int dv), .val (.ref b1), .val (.int (1 : Int32)), .val (.ref b5), .unset, .unset] [(.ref b1)])) _
      refine st41.trans ?_
      show Steps p.tables e below (T41.setTop (mkF m 62 #[.val (.int fl), .val (.int av), .val (.long bv), .second, .val (.int dv), .val (.ref b1), .val (.int (1 : Int32)), .val (.ref b5), .unset, .unset] [])) _
      refine XS.aload X41.here hx rfl (hb hby at_62) rfl rfl ?_
      show Steps p.tables e below (T41.setTop (mkF m 64 #[.val (.int fl), .val (.int av), .val (.long bv), .second, .val (.int dv), .val (.ref b1), .val (.int (1 : Int32)), .val (.ref b5), .unset, .unset] [(.ref b1)])) _
      refine st46.trans ?_
      show Steps p.tables e below (T46.setTop (mkF m 67 #[.val (.int fl), .val (.int av), .val (.long bv), .second, .val (.int dv), .val (.ref b1), .val (.int (1 : Int32)), .val (.ref b5), .unset, .unset] [(.int (0 : Int32))])) _
      refine XS.ifYes X46.here hx rfl (pc0 := 67) (pc' := 72) rfl (hb hby at_67) rfl ((if0 _ _).trans (teq (by decide : ((0 : Int32) = (0 : Int32)))).1) (by decide) (by decide) ?_
      show Steps p.tables e below (T46.setTop (mkF m 72 #[.val (.int fl), .val (.int av), .val (.long bv), .second, .val (.int dv), .val (.ref b1), .val (.int (1 : Int32)), .val (.ref b5), .unset, .unset] [])) _
      refine XS.aload X46.here hx rfl (hb hby at_72) rfl rfl ?_
      show Steps p.tables e below (T46.setTop (mkF m 74 #[.val (.int fl), .val (.int av), .val (.long bv), .second, .val (.int dv), .val (.ref b1), .val (.int (1 : Int32)), .val (.ref b5), .unset, .unset] [(.ref b1)])) _
      refine st47.trans ?_
      show Steps p.tables e below (T47.setTop (mkF m 77 #[.val (.int fl), .val (.int av), .val (.long bv), .second, .val (.int dv), .val (.ref b1), .val (.int (1 : Int32)), .val (.ref b5), .unset, .unset] [(.ref b5)])) _
      refine XS.astore X47.here hx rfl (hb hby at_77) rfl rfl (l' := #[.val (.int fl), .val (.int av), .val (.long bv), .second, .val (.int dv), .val (.ref b1), .val (.int (1 : Int32)), .val (.ref b5), .val (.ref b5), .unset]) rfl ?_
      show Steps p.tables e below (T47.setTop (mkF m 79 #[.val (.int fl), .val (.int av), .val (.long bv), .second, .val (.int dv), .val (.ref b1), .val (.int (1 : Int32)), .val (.ref b5), .val (.ref b5), .unset] [])) _
      refine XS.aload X47.here hx rfl (hb hby at_79) rfl rfl ?_
      show Steps p.tables e below (T47.setTop (mkF m 81 #[.val (.int fl), .val (.int av), .val (.long bv), .second, .val (.int dv), .val (.ref b1), .val (.int (1 : Int32)), .val (.ref b5), .val (.ref b5), .unset] [(.ref b5)])) _
      refine XS.aload X47.here hx rfl (hb hby at_81) rfl rfl ?_
      show Steps p.tables e below (T47.setTop (mkF m 83 #[.val (.int fl), .val (.int av), .val (.long bv), .second, .val (.int dv), .val (.ref b1), .val (.int (1 : Int32)), .val (.ref b5), .val (.ref b5), .unset] [(.ref b5), (.ref b5)])) _
      refine Jvm.RoadKit.acmp (g := (mkF m 83 #[.val (.int fl), .val (.int av), .val (.long bv), .second, .val (.int dv), .val (.ref b1), .val (.int (1 : Int32)), .val (.ref b5), .val (.ref b5), .unset] [(.ref b5), (.ref b5)])) X47 hx rfl rfl rfl (pc0 := 83) (pc' := 88) (same := true) rfl (hb hby at_83) rfl (decide_eq_true rfl) (by decide) (by decide) ?_
      show Steps p.tables e below (T47.setTop (mkF m 88 #[.val (.int fl), .val (.int av), .val (.long bv), .second, .val (.int dv), .val (.ref b1), .val (.int (1 : Int32)), .val (.ref b5), .val (.ref b5), .unset] [])) _
      refine XS.aload X47.here hx rfl (hb hby at_88) rfl rfl ?_
      show Steps p.tables e below (T47.setTop (mkF m 90 #[.val (.int fl), .val (.int av), .val (.long bv), .second, .val (.int dv), .val (.ref b1), .val (.int (1 : Int32)), .val (.ref b5), .val (.ref b5), .unset] [(.ref b5)])) _
      refine X47.arraylength hx (by rw [e47]; exact Arcl48.1) (State.isArrayOf_alike hZ.alike Arcl48.2.1) (g := (mkF m 90 #[.val (.int fl), .val (.int av), .val (.long bv), .second, .val (.int dv), .val (.ref b1), .val (.int (1 : Int32)), .val (.ref b5), .val (.ref b5), .unset] [(.ref b5)])) rfl rfl (hb hby at_90) _ ?_
      rw [Szcl48]
      show Steps p.tables e below (T47.setTop (mkF m 91 #[.val (.int fl), .val (.int av), .val (.long bv), .second, .val (.int dv), .val (.ref b1), .val (.int (1 : Int32)), .val (.ref b5), .val (.ref b5), .unset] [(.int (256 : Int32))])) _
      refine XS.sipush X47.here hx rfl (hb hby at_91) ?_
      show Steps p.tables e below (T47.setTop (mkF m 94 #[.val (.int fl), .val (.int av), .val (.long bv), .second, .val (.int dv), .val (.ref b1), .val (.int (1 : Int32)), .val (.ref b5), .val (.ref b5), .unset] [(.int (256 : Int32)), (.int (256 : Int32))])) _
      refine XS.icmpYes X47.here hx rfl (pc0 := 94) (pc' := 99) rfl (hb hby at_94) rfl (teq (by decide : ((256 : Int32) = (256 : Int32)))).1 (by decide) (by decide) ?_
      show Steps p.tables e below (T47.setTop (mkF m 99 #[.val (.int fl), .val (.int av), .val (.long bv), .second, .val (.int dv), .val (.ref b1), .val (.int (1 : Int32)), .val (.ref b5), .val (.ref b5), .unset] [])) _
      refine XS.aload X47.here hx rfl (hb hby at_99) rfl rfl ?_
      show Steps p.tables e below (T47.setTop (mkF m 101 #[.val (.int fl), .val (.int av), .val (.long bv), .second, .val (.int dv), .val (.ref b1), .val (.int (1 : Int32)), .val (.ref b5), .val (.ref b5), .unset] [(.ref b1)])) _
      refine XS.iload X47.here hx rfl (hb hby at_101) rfl ?_
      show Steps p.tables e below (T47.setTop (mkF m 103 #[.val (.int fl), .val (.int av), .val (.long bv), .second, .val (.int dv), .val (.ref b1), .val (.int (1 : Int32)), .val (.ref b5), .val (.ref b5), .unset] [(.int dv), (.ref b1)])) _
      refine st49.trans ?_
      show Steps p.tables e below (T49.setTop (mkF m 106 #[.val (.int fl), .val (.int av), .val (.long bv), .second, .val (.int dv), .val (.ref b1), .val (.int (1 : Int32)), .val (.ref b5), .val (.ref b5), .unset] [])) _
      refine XS.aload X49.here hx rfl (hb hby at_106) rfl rfl ?_
      show Steps p.tables e below (T49.setTop (mkF m 108 #[.val (.int fl), .val (.int av), .val (.long bv), .second, .val (.int dv), .val (.ref b1), .val (.int (1 : Int32)), .val (.ref b5), .val (.ref b5), .unset] [(.ref b1)])) _
      refine st54.trans ?_
      show Steps p.tables e below (T54.setTop (mkF m 111 #[.val (.int fl), .val (.int av), .val (.long bv), .second, .val (.int dv), .val (.ref b1), .val (.int (1 : Int32)), .val (.ref b5), .val (.ref b5), .unset] [(.int ((0 : Int32) + (4 : Int32)))])) _
      refine XS.iconst X54.here hx rfl (hb hby at_111) ?_
      show Steps p.tables e below (T54.setTop (mkF m 112 #[.val (.int fl), .val (.int av), .val (.long bv), .second, .val (.int dv), .val (.ref b1), .val (.int (1 : Int32)), .val (.ref b5), .val (.ref b5), .unset] [(.int (4 : Int32)), (.int ((0 : Int32) + (4 : Int32)))])) _
      refine XS.icmpYes X54.here hx rfl (pc0 := 112) (pc' := 117) rfl (hb hby at_112) rfl (teq (by decide : (((0 : Int32) + (4 : Int32)) = (4 : Int32)))).1 (by decide) (by decide) ?_
      show Steps p.tables e below (T54.setTop (mkF m 117 #[.val (.int fl), .val (.int av), .val (.long bv), .second, .val (.int dv), .val (.ref b1), .val (.int (1 : Int32)), .val (.ref b5), .val (.ref b5), .unset] [])) _
      refine XS.aload X54.here hx rfl (hb hby at_117) rfl rfl ?_
      show Steps p.tables e below (T54.setTop (mkF m 119 #[.val (.int fl), .val (.int av), .val (.long bv), .second, .val (.int dv), .val (.ref b1), .val (.int (1 : Int32)), .val (.ref b5), .val (.ref b5), .unset] [(.ref b1)])) _
      refine st55.trans ?_
      show Steps p.tables e below (T55.setTop (mkF m 122 #[.val (.int fl), .val (.int av), .val (.long bv), .second, .val (.int dv), .val (.ref b1), .val (.int (1 : Int32)), .val (.ref b5), .val (.ref b5), .unset] [(.ref b5)])) _
      refine XS.astore X55.here hx rfl (hb hby at_122) rfl rfl (l' := #[.val (.int fl), .val (.int av), .val (.long bv), .second, .val (.int dv), .val (.ref b1), .val (.int (1 : Int32)), .val (.ref b5), .val (.ref b5), .val (.ref b5)]) rfl ?_
      show Steps p.tables e below (T55.setTop (mkF m 124 #[.val (.int fl), .val (.int av), .val (.long bv), .second, .val (.int dv), .val (.ref b1), .val (.int (1 : Int32)), .val (.ref b5), .val (.ref b5), .val (.ref b5)] [])) _
      refine XS.aload X55.here hx rfl (hb hby at_124) rfl rfl ?_
      show Steps p.tables e below (T55.setTop (mkF m 126 #[.val (.int fl), .val (.int av), .val (.long bv), .second, .val (.int dv), .val (.ref b1), .val (.int (1 : Int32)), .val (.ref b5), .val (.ref b5), .val (.ref b5)] [(.ref b5)])) _
      refine XS.aload X55.here hx rfl (hb hby at_126) rfl rfl ?_
      show Steps p.tables e below (T55.setTop (mkF m 128 #[.val (.int fl), .val (.int av), .val (.long bv), .second, .val (.int dv), .val (.ref b1), .val (.int (1 : Int32)), .val (.ref b5), .val (.ref b5), .val (.ref b5)] [(.ref b5), (.ref b5)])) _
      refine Jvm.RoadKit.acmp (g := (mkF m 128 #[.val (.int fl), .val (.int av), .val (.long bv), .second, .val (.int dv), .val (.ref b1), .val (.int (1 : Int32)), .val (.ref b5), .val (.ref b5), .val (.ref b5)] [(.ref b5), (.ref b5)])) X55 hx rfl rfl rfl (pc0 := 128) (pc' := 133) (same := true) rfl (hb hby at_128) rfl (decide_eq_true rfl) (by decide) (by decide) ?_
      show Steps p.tables e below (T55.setTop (mkF m 133 #[.val (.int fl), .val (.int av), .val (.long bv), .second, .val (.int dv), .val (.ref b1), .val (.int (1 : Int32)), .val (.ref b5), .val (.ref b5), .val (.ref b5)] [])) _
      refine XS.aload X55.here hx rfl (hb hby at_133) rfl rfl ?_
      show Steps p.tables e below (T55.setTop (mkF m 135 #[.val (.int fl), .val (.int av), .val (.long bv), .second, .val (.int dv), .val (.ref b1), .val (.int (1 : Int32)), .val (.ref b5), .val (.ref b5), .val (.ref b5)] [(.ref b5)])) _
      refine XS.iconst X55.here hx rfl (hb hby at_135) ?_
      show Steps p.tables e below (T55.setTop (mkF m 136 #[.val (.int fl), .val (.int av), .val (.long bv), .second, .val (.int dv), .val (.ref b1), .val (.int (1 : Int32)), .val (.ref b5), .val (.ref b5), .val (.ref b5)] [(.int (0 : Int32)), (.ref b5)])) _
      refine X55.baloadBytes hx (j := (0 : Int32)) (v := (.int ((r8_arr dv (up zI 0 (av.toInt8.toInt32)) 0) 0))) (by rw [e55]; exact Arcl56.1) (State.isArrayOf_alike hZ.alike Arcl56.2.1) Arcl56.2.2 hincl56 hatcl56 (g := (mkF m 136 #[.val (.int fl), .val (.int av), .val (.long bv), .second, .val (.int dv), .val (.ref b1), .val (.int (1 : Int32)), .val (.ref b5), .val (.ref b5), .val (.ref b5)] [(.int (0 : Int32)), (.ref b5)])) rfl rfl (hb hby at_136) _ ?_
      show Steps p.tables e below (T55.setTop (mkF m 137 #[.val (.int fl), .val (.int av), .val (.long bv), .second, .val (.int dv), .val (.ref b1), .val (.int (1 : Int32)), .val (.ref b5), .val (.ref b5), .val (.ref b5)] [(.int ((r8_arr dv (up zI 0 (av.toInt8.toInt32)) 0) 0))])) _
      refine XS.iload X55.here hx rfl (hb hby at_137) rfl ?_
      show Steps p.tables e below (T55.setTop (mkF m 139 #[.val (.int fl), .val (.int av), .val (.long bv), .second, .val (.int dv), .val (.ref b1), .val (.int (1 : Int32)), .val (.ref b5), .val (.ref b5), .val (.ref b5)] [(.int dv), (.int ((r8_arr dv (up zI 0 (av.toInt8.toInt32)) 0) 0))])) _
      refine XS.bipush X55.here hx rfl (hb hby at_139) ?_
      show Steps p.tables e below (T55.setTop (mkF m 141 #[.val (.int fl), .val (.int av), .val (.long bv), .second, .val (.int dv), .val (.ref b1), .val (.int (1 : Int32)), .val (.ref b5), .val (.ref b5), .val (.ref b5)] [(.int (24 : Int32)), (.int dv), (.int ((r8_arr dv (up zI 0 (av.toInt8.toInt32)) 0) 0))])) _
      refine XS.iushr X55.here hx rfl (hb hby at_141) rfl ?_
      show Steps p.tables e below (T55.setTop (mkF m 142 #[.val (.int fl), .val (.int av), .val (.long bv), .second, .val (.int dv), .val (.ref b1), .val (.int (1 : Int32)), .val (.ref b5), .val (.ref b5), .val (.ref b5)] [(.int ((dv.toUInt32 >>> ((24 : Int32) &&& 31).toUInt32).toInt32)), (.int ((r8_arr dv (up zI 0 (av.toInt8.toInt32)) 0) 0))])) _
      refine XS.i2b X55.here hx rfl (hb hby at_142) rfl ?_
      show Steps p.tables e below (T55.setTop (mkF m 143 #[.val (.int fl), .val (.int av), .val (.long bv), .second, .val (.int dv), .val (.ref b1), .val (.int (1 : Int32)), .val (.ref b5), .val (.ref b5), .val (.ref b5)] [(.int (((dv.toUInt32 >>> ((24 : Int32) &&& 31).toUInt32).toInt32).toInt8.toInt32)), (.int ((r8_arr dv (up zI 0 (av.toInt8.toInt32)) 0) 0))])) _
      refine XS.icmpNo X55.here hx rfl (hb hby at_143) rfl (teq (rfl : (((r8_arr dv (up zI 0 (av.toInt8.toInt32)) 0) 0) = (((dv.toUInt32 >>> ((24 : Int32) &&& 31).toUInt32).toInt32).toInt8.toInt32)))).2 ?_
      show Steps p.tables e below (T55.setTop (mkF m 146 #[.val (.int fl), .val (.int av), .val (.long bv), .second, .val (.int dv), .val (.ref b1), .val (.int (1 : Int32)), .val (.ref b5), .val (.ref b5), .val (.ref b5)] [])) _
      refine XS.aload X55.here hx rfl (hb hby at_146) rfl rfl ?_
      show Steps p.tables e below (T55.setTop (mkF m 148 #[.val (.int fl), .val (.int av), .val (.long bv), .second, .val (.int dv), .val (.ref b1), .val (.int (1 : Int32)), .val (.ref b5), .val (.ref b5), .val (.ref b5)] [(.ref b5)])) _
      refine XS.iconst X55.here hx rfl (hb hby at_148) ?_
      show Steps p.tables e below (T55.setTop (mkF m 149 #[.val (.int fl), .val (.int av), .val (.long bv), .second, .val (.int dv), .val (.ref b1), .val (.int (1 : Int32)), .val (.ref b5), .val (.ref b5), .val (.ref b5)] [(.int (1 : Int32)), (.ref b5)])) _
      refine X55.baloadBytes hx (j := (1 : Int32)) (v := (.int ((r8_arr dv (up zI 0 (av.toInt8.toInt32)) 0) 1))) (by rw [e55]; exact Arcl57.1) (State.isArrayOf_alike hZ.alike Arcl57.2.1) Arcl57.2.2 hincl57 hatcl57 (g := (mkF m 149 #[.val (.int fl), .val (.int av), .val (.long bv), .second, .val (.int dv), .val (.ref b1), .val (.int (1 : Int32)), .val (.ref b5), .val (.ref b5), .val (.ref b5)] [(.int (1 : Int32)), (.ref b5)])) rfl rfl (hb hby at_149) _ ?_
      show Steps p.tables e below (T55.setTop (mkF m 150 #[.val (.int fl), .val (.int av), .val (.long bv), .second, .val (.int dv), .val (.ref b1), .val (.int (1 : Int32)), .val (.ref b5), .val (.ref b5), .val (.ref b5)] [(.int ((r8_arr dv (up zI 0 (av.toInt8.toInt32)) 0) 1))])) _
      refine XS.iload X55.here hx rfl (hb hby at_150) rfl ?_
      show Steps p.tables e below (T55.setTop (mkF m 152 #[.val (.int fl), .val (.int av), .val (.long bv), .second, .val (.int dv), .val (.ref b1), .val (.int (1 : Int32)), .val (.ref b5), .val (.ref b5), .val (.ref b5)] [(.int dv), (.int ((r8_arr dv (up zI 0 (av.toInt8.toInt32)) 0) 1))])) _
      refine XS.bipush X55.here hx rfl (hb hby at_152) ?_
      show Steps p.tables e below (T55.setTop (mkF m 154 #[.val (.int fl), .val (.int av), .val (.long bv), .second, .val (.int dv), .val (.ref b1), .val (.int (1 : Int32)), .val (.ref b5), .val (.ref b5), .val (.ref b5)] [(.int (16 : Int32)), (.int dv), (.int ((r8_arr dv (up zI 0 (av.toInt8.toInt32)) 0) 1))])) _
      refine XS.iushr X55.here hx rfl (hb hby at_154) rfl ?_
      show Steps p.tables e below (T55.setTop (mkF m 155 #[.val (.int fl), .val (.int av), .val (.long bv), .second, .val (.int dv), .val (.ref b1), .val (.int (1 : Int32)), .val (.ref b5), .val (.ref b5), .val (.ref b5)] [(.int ((dv.toUInt32 >>> ((16 : Int32) &&& 31).toUInt32).toInt32)), (.int ((r8_arr dv (up zI 0 (av.toInt8.toInt32)) 0) 1))])) _
      refine XS.i2b X55.here hx rfl (hb hby at_155) rfl ?_
      show Steps p.tables e below (T55.setTop (mkF m 156 #[.val (.int fl), .val (.int av), .val (.long bv), .second, .val (.int dv), .val (.ref b1), .val (.int (1 : Int32)), .val (.ref b5), .val (.ref b5), .val (.ref b5)] [(.int (((dv.toUInt32 >>> ((16 : Int32) &&& 31).toUInt32).toInt32).toInt8.toInt32)), (.int ((r8_arr dv (up zI 0 (av.toInt8.toInt32)) 0) 1))])) _
      refine XS.icmpNo X55.here hx rfl (hb hby at_156) rfl (teq (rfl : (((r8_arr dv (up zI 0 (av.toInt8.toInt32)) 0) 1) = (((dv.toUInt32 >>> ((16 : Int32) &&& 31).toUInt32).toInt32).toInt8.toInt32)))).2 ?_
      show Steps p.tables e below (T55.setTop (mkF m 159 #[.val (.int fl), .val (.int av), .val (.long bv), .second, .val (.int dv), .val (.ref b1), .val (.int (1 : Int32)), .val (.ref b5), .val (.ref b5), .val (.ref b5)] [])) _
      refine XS.aload X55.here hx rfl (hb hby at_159) rfl rfl ?_
      show Steps p.tables e below (T55.setTop (mkF m 161 #[.val (.int fl), .val (.int av), .val (.long bv), .second, .val (.int dv), .val (.ref b1), .val (.int (1 : Int32)), .val (.ref b5), .val (.ref b5), .val (.ref b5)] [(.ref b5)])) _
      refine XS.iconst X55.here hx rfl (hb hby at_161) ?_
      show Steps p.tables e below (T55.setTop (mkF m 162 #[.val (.int fl), .val (.int av), .val (.long bv), .second, .val (.int dv), .val (.ref b1), .val (.int (1 : Int32)), .val (.ref b5), .val (.ref b5), .val (.ref b5)] [(.int (2 : Int32)), (.ref b5)])) _
      refine X55.baloadBytes hx (j := (2 : Int32)) (v := (.int ((r8_arr dv (up zI 0 (av.toInt8.toInt32)) 0) 2))) (by rw [e55]; exact Arcl58.1) (State.isArrayOf_alike hZ.alike Arcl58.2.1) Arcl58.2.2 hincl58 hatcl58 (g := (mkF m 162 #[.val (.int fl), .val (.int av), .val (.long bv), .second, .val (.int dv), .val (.ref b1), .val (.int (1 : Int32)), .val (.ref b5), .val (.ref b5), .val (.ref b5)] [(.int (2 : Int32)), (.ref b5)])) rfl rfl (hb hby at_162) _ ?_
      show Steps p.tables e below (T55.setTop (mkF m 163 #[.val (.int fl), .val (.int av), .val (.long bv), .second, .val (.int dv), .val (.ref b1), .val (.int (1 : Int32)), .val (.ref b5), .val (.ref b5), .val (.ref b5)] [(.int ((r8_arr dv (up zI 0 (av.toInt8.toInt32)) 0) 2))])) _
      refine XS.iload X55.here hx rfl (hb hby at_163) rfl ?_
      show Steps p.tables e below (T55.setTop (mkF m 165 #[.val (.int fl), .val (.int av), .val (.long bv), .second, .val (.int dv), .val (.ref b1), .val (.int (1 : Int32)), .val (.ref b5), .val (.ref b5), .val (.ref b5)] [(.int dv), (.int ((r8_arr dv (up zI 0 (av.toInt8.toInt32)) 0) 2))])) _
      refine XS.bipush X55.here hx rfl (hb hby at_165) ?_
      show Steps p.tables e below (T55.setTop (mkF m 167 #[.val (.int fl), .val (.int av), .val (.long bv), .second, .val (.int dv), .val (.ref b1), .val (.int (1 : Int32)), .val (.ref b5), .val (.ref b5), .val (.ref b5)] [(.int (8 : Int32)), (.int dv), (.int ((r8_arr dv (up zI 0 (av.toInt8.toInt32)) 0) 2))])) _
      refine XS.iushr X55.here hx rfl (hb hby at_167) rfl ?_
      show Steps p.tables e below (T55.setTop (mkF m 168 #[.val (.int fl), .val (.int av), .val (.long bv), .second, .val (.int dv), .val (.ref b1), .val (.int (1 : Int32)), .val (.ref b5), .val (.ref b5), .val (.ref b5)] [(.int ((dv.toUInt32 >>> ((8 : Int32) &&& 31).toUInt32).toInt32)), (.int ((r8_arr dv (up zI 0 (av.toInt8.toInt32)) 0) 2))])) _
      refine XS.i2b X55.here hx rfl (hb hby at_168) rfl ?_
      show Steps p.tables e below (T55.setTop (mkF m 169 #[.val (.int fl), .val (.int av), .val (.long bv), .second, .val (.int dv), .val (.ref b1), .val (.int (1 : Int32)), .val (.ref b5), .val (.ref b5), .val (.ref b5)] [(.int (((dv.toUInt32 >>> ((8 : Int32) &&& 31).toUInt32).toInt32).toInt8.toInt32)), (.int ((r8_arr dv (up zI 0 (av.toInt8.toInt32)) 0) 2))])) _
      refine XS.icmpNo X55.here hx rfl (hb hby at_169) rfl (teq (rfl : (((r8_arr dv (up zI 0 (av.toInt8.toInt32)) 0) 2) = (((dv.toUInt32 >>> ((8 : Int32) &&& 31).toUInt32).toInt32).toInt8.toInt32)))).2 ?_
      show Steps p.tables e below (T55.setTop (mkF m 172 #[.val (.int fl), .val (.int av), .val (.long bv), .second, .val (.int dv), .val (.ref b1), .val (.int (1 : Int32)), .val (.ref b5), .val (.ref b5), .val (.ref b5)] [])) _
      refine XS.aload X55.here hx rfl (hb hby at_172) rfl rfl ?_
      show Steps p.tables e below (T55.setTop (mkF m 174 #[.val (.int fl), .val (.int av), .val (.long bv), .second, .val (.int dv), .val (.ref b1), .val (.int (1 : Int32)), .val (.ref b5), .val (.ref b5), .val (.ref b5)] [(.ref b5)])) _
      refine XS.iconst X55.here hx rfl (hb hby at_174) ?_
      show Steps p.tables e below (T55.setTop (mkF m 175 #[.val (.int fl), .val (.int av), .val (.long bv), .second, .val (.int dv), .val (.ref b1), .val (.int (1 : Int32)), .val (.ref b5), .val (.ref b5), .val (.ref b5)] [(.int (3 : Int32)), (.ref b5)])) _
      refine X55.baloadBytes hx (j := (3 : Int32)) (v := (.int ((r8_arr dv (up zI 0 (av.toInt8.toInt32)) 0) 3))) (by rw [e55]; exact Arcl59.1) (State.isArrayOf_alike hZ.alike Arcl59.2.1) Arcl59.2.2 hincl59 hatcl59 (g := (mkF m 175 #[.val (.int fl), .val (.int av), .val (.long bv), .second, .val (.int dv), .val (.ref b1), .val (.int (1 : Int32)), .val (.ref b5), .val (.ref b5), .val (.ref b5)] [(.int (3 : Int32)), (.ref b5)])) rfl rfl (hb hby at_175) _ ?_
      show Steps p.tables e below (T55.setTop (mkF m 176 #[.val (.int fl), .val (.int av), .val (.long bv), .second, .val (.int dv), .val (.ref b1), .val (.int (1 : Int32)), .val (.ref b5), .val (.ref b5), .val (.ref b5)] [(.int ((r8_arr dv (up zI 0 (av.toInt8.toInt32)) 0) 3))])) _
      refine XS.iload X55.here hx rfl (hb hby at_176) rfl ?_
      show Steps p.tables e below (T55.setTop (mkF m 178 #[.val (.int fl), .val (.int av), .val (.long bv), .second, .val (.int dv), .val (.ref b1), .val (.int (1 : Int32)), .val (.ref b5), .val (.ref b5), .val (.ref b5)] [(.int dv), (.int ((r8_arr dv (up zI 0 (av.toInt8.toInt32)) 0) 3))])) _
      refine XS.i2b X55.here hx rfl (hb hby at_178) rfl ?_
      show Steps p.tables e below (T55.setTop (mkF m 179 #[.val (.int fl), .val (.int av), .val (.long bv), .second, .val (.int dv), .val (.ref b1), .val (.int (1 : Int32)), .val (.ref b5), .val (.ref b5), .val (.ref b5)] [(.int (dv.toInt8.toInt32)), (.int ((r8_arr dv (up zI 0 (av.toInt8.toInt32)) 0) 3))])) _
      refine XS.icmpNo X55.here hx rfl (hb hby at_179) rfl (teq (rfl : (((r8_arr dv (up zI 0 (av.toInt8.toInt32)) 0) 3) = (dv.toInt8.toInt32)))).2 ?_
      show Steps p.tables e below (T55.setTop (mkF m 182 #[.val (.int fl), .val (.int av), .val (.long bv), .second, .val (.int dv), .val (.ref b1), .val (.int (1 : Int32)), .val (.ref b5), .val (.ref b5), .val (.ref b5)] [])) _
      refine XS.iconst X55.here hx rfl (hb hby at_182) ?_
      show Steps p.tables e below (T55.setTop (mkF m 183 #[.val (.int fl), .val (.int av), .val (.long bv), .second, .val (.int dv), .val (.ref b1), .val (.int (1 : Int32)), .val (.ref b5), .val (.ref b5), .val (.ref b5)] [(.int (1 : Int32))])) _
      refine XS.goto X55.here hx rfl (pc0 := 183) (pc' := 187) rfl (hb hby at_183) (by decide) (by decide) ?_
      show Steps p.tables e below (T55.setTop (mkF m 187 #[.val (.int fl), .val (.int av), .val (.long bv), .second, .val (.int dv), .val (.ref b1), .val (.int (1 : Int32)), .val (.ref b5), .val (.ref b5), .val (.ref b5)] [(.int (1 : Int32))])) _
      exact retN X55 hx (t := .boolean) Bd.returns (by simp) (hb hby at_187) hr
    · show Q0 Z fl av bv dv h0 n0 _ T55.heap _
      rw [e55]
      exact ⟨rfl, N55⟩
  · have pre60 : ∀ t, Steps p.tables e below (T4.setTop (mkF m 12 #[.val (.int fl), .val (.int av), .val (.long bv), .second, .val (.int dv), .val (.ref b1), .unset, .unset, .unset, .unset] [(.int (2 : Int32))])) t → Steps p.tables e below (s₁.setTop (entryFrame m #[(.int fl), (.int av), (.long bv), (.int dv)] maxLocals)) t := by
      intro t k
      refine pre11 _ ?_
      rw [hk12]
      exact k
    obtain ⟨cq61, kq61, q61a, q61b, q61c⟩ := isOf hZ rfl f10
    obtain ⟨_, _, ⟨T61, L61, k61, n61⟩, -, X61, ⟨Lc61, hQ61, l61, y61, z61⟩, st61⟩ := X4.virtualBack hx (y := (⟨"com/example/lockstep/lockstep/store/RecordBuffer", "writeByte", "(I)V"⟩ : MethodName)) (z := (⟨"com/example/lockstep/lockstep/store/RecordBuffer", "writeByte", "(I)V"⟩ : MethodName)) hown (mvT hZ (hw _ (List.mem_of_getElem? (i := 44) rfl))) (mvT hZ (hw _ (List.mem_of_getElem? (i := 45) rfl))) (notFace_of_selects (args := #[]) (mvT hZ (hw _ (List.mem_of_getElem? (i := 47) rfl)))) (mvT hZ (hw _ (List.mem_of_getElem? (i := 47) rfl))) (mvT hZ (hw _ (List.mem_of_getElem? (i := 46) rfl))) (by decide) (backOf (W := 0) (rm9 l Z a0 hw [] b1 av b5 zI (0 : Int32) 0 T4.heap n0 Z4 f6 f8 f7 f10 ne9 (rfl) (by decide) gg1 ggb5) hZ (hw _ (List.mem_of_getElem? (i := 48) rfl)) (hw _ (List.mem_of_getElem? (i := 2) rfl)) (by decide) (by decide)) q61a q61c (g := (mkF m 23 #[.val (.int fl), .val (.int av), .val (.long bv), .second, .val (.int dv), .val (.ref b1), .val (.int (2 : Int32)), .unset, .unset, .unset] [(.int av), (.ref b1)])) rfl (by rw [hml]; rfl) (Steps.refl _) (argsL := [(.int av)]) (rest := []) (lenOf pd_0 rfl) rfl (by show 2 * 0 + _ ≤ _; exact Nat.le_of_eq rfl) (hb hby at_23) (fun _ _ => ⟨rfl, rfl, (by decide : 2 + 0 ≤ _), (by decide : 258 + 0 ≤ _)⟩)
    dsimp only [Pt.U, Pt.locs, Pt.cells, Pt.slots] at X61 l61 y61 z61 st61 hQ61
    subst l61 y61 z61
    obtain ⟨rfl, N61q, K61c, f62, f63, f64⟩ := hQ61
    have N61 := Fr.app N4 N61q
    have f65 : Exa Z T61.heap b1 "com/example/lockstep/lockstep/store/RecordBuffer" := f10.keep K61c
    have Z61 : n0 ≤ T61.heap.size := Nat.le_trans Z4 K61c.1
    obtain ⟨cq66, kq66, q66a, q66b, q66c⟩ := isOf hZ rfl f65
    obtain ⟨_, _, ⟨T66, L66, k66, n66⟩, -, X66, ⟨Lc66, hQ66, l66, y66, z66⟩, st66⟩ := X61.virtualBack hx (y := (⟨"com/example/lockstep/lockstep/store/RecordBuffer", "writeInt", "(I)V"⟩ : MethodName)) (z := (⟨"com/example/lockstep/lockstep/store/RecordBuffer", "writeInt", "(I)V"⟩ : MethodName)) hown (mvT hZ (hw _ (List.mem_of_getElem? (i := 30) rfl))) (mvT hZ (hw _ (List.mem_of_getElem? (i := 31) rfl))) (notFace_of_selects (args := #[]) (mvT hZ (hw _ (List.mem_of_getElem? (i := 33) rfl)))) (mvT hZ (hw _ (List.mem_of_getElem? (i := 33) rfl))) (mvT hZ (hw _ (List.mem_of_getElem? (i := 32) rfl))) (by decide) (backOf (W := 0) (rm6 l Z a0 hw [] b1 av b5 (up zI 0 (av.toInt8.toInt32)) ((0 : Int32) + (1 : Int32)) 1 T61.heap n0 Z61 f62 f63 f64 f65 ne9 (rfl) (by decide) ggb5 gg1) hZ (hw _ (List.mem_of_getElem? (i := 34) rfl)) (hw _ (List.mem_of_getElem? (i := 2) rfl)) (by decide) (by decide)) q66a q66c (g := (mkF m 35 #[.val (.int fl), .val (.int av), .val (.long bv), .second, .val (.int dv), .val (.ref b1), .val (.int (2 : Int32)), .unset, .unset, .unset] [(.int av), (.ref b1)])) rfl (by rw [hml]; rfl) (Steps.refl _) (argsL := [(.int av)]) (rest := []) (lenOf pd_0 rfl) rfl (by show 2 * 0 + _ ≤ _; exact Nat.le_of_eq rfl) (hb hby at_35) (fun _ _ => ⟨rfl, rfl, (by decide : 2 + 0 ≤ _), (by decide : 258 + 0 ≤ _)⟩)
    dsimp only [Pt.U, Pt.locs, Pt.cells, Pt.slots] at X66 l66 y66 z66 st66 hQ66
    subst l66 y66 z66
    obtain ⟨rfl, N66q, K66c, f67, f68, f69⟩ := hQ66
    have N66 := Fr.app N61 N66q
    have f70 : Exa Z T66.heap b1 "com/example/lockstep/lockstep/store/RecordBuffer" := f65.keep K66c
    have Z66 : n0 ≤ T66.heap.size := Nat.le_trans Z61 K66c.1
    obtain ⟨cq71, kq71, q71a, q71b, q71c⟩ := isOf hZ rfl f70
    obtain ⟨_, _, ⟨T71, L71, k71, n71⟩, -, X71, ⟨Lc71, hQ71, l71, y71, z71⟩, st71⟩ := X66.virtualBack hx (y := (⟨"com/example/lockstep/lockstep/store/RecordBuffer", "bytes", "()[B"⟩ : MethodName)) (z := (⟨"com/example/lockstep/lockstep/store/RecordBuffer", "bytes", "()[B"⟩ : MethodName)) hown (mvT hZ (hw _ (List.mem_of_getElem? (i := 12) rfl))) (mvT hZ (hw _ (List.mem_of_getElem? (i := 13) rfl))) (notFace_of_selects (args := #[]) (mvT hZ (hw _ (List.mem_of_getElem? (i := 15) rfl)))) (mvT hZ (hw _ (List.mem_of_getElem? (i := 15) rfl))) (mvT hZ (hw _ (List.mem_of_getElem? (i := 14) rfl))) (by decide) (backOf (W := 0) (rm3 l Z a0 hw [] b1 b5 T66.heap n0 Z66 f67) hZ (hw _ (List.mem_of_getElem? (i := 16) rfl)) (hw _ (List.mem_of_getElem? (i := 2) rfl)) (by decide) (by decide)) q71a q71c (g := (mkF m 52 #[.val (.int fl), .val (.int av), .val (.long bv), .second, .val (.int dv), .val (.ref b1), .val (.int (2 : Int32)), .unset, .unset, .unset] [(.ref b1)])) rfl (by rw [hml]; rfl) (Steps.refl _) (argsL := []) (rest := []) (lenOf pd_3 rfl) rfl (by show 2 * 0 + _ ≤ _; exact Nat.le_of_eq rfl) (hb hby at_52) (fun _ _ => ⟨rfl, rfl, (by decide : 2 + 0 ≤ _), (by decide : 258 + 0 ≤ _)⟩)
    dsimp only [Pt.U, Pt.locs, Pt.cells, Pt.slots] at X71 l71 y71 z71 st71 hQ71
    subst l71 y71 z71
    obtain ⟨rfl, N71q, e71⟩ := hQ71
    have N71 := Fr.app N66 N71q
    obtain ⟨cq72, kq72, q72a, q72b, q72c⟩ := isOf hZ e71 f70
    obtain ⟨_, _, ⟨T72, L72, k72, n72⟩, -, X72, ⟨Lc72, hQ72, l72, y72, z72⟩, st72⟩ := X71.virtualBack hx (y := (⟨"com/example/lockstep/lockstep/store/RecordBuffer", "clear", "()V"⟩ : MethodName)) (z := (⟨"com/example/lockstep/lockstep/store/RecordBuffer", "clear", "()V"⟩ : MethodName)) hown (mvT hZ (hw _ (List.mem_of_getElem? (i := 17) rfl))) (mvT hZ (hw _ (List.mem_of_getElem? (i := 18) rfl))) (notFace_of_selects (args := #[]) (mvT hZ (hw _ (List.mem_of_getElem? (i := 20) rfl)))) (mvT hZ (hw _ (List.mem_of_getElem? (i := 20) rfl))) (mvT hZ (hw _ (List.mem_of_getElem? (i := 19) rfl))) (by decide) (backOf (W := 0) (rm4 l Z a0 hw [] b1 b5 (r8_arr av (up zI 0 (av.toInt8.toInt32)) 1) (((0 : Int32) + (1 : Int32)) + (4 : Int32)) T66.heap n0 Z66 f67 f69 f68 f70 ne9 gg1) hZ (hw _ (List.mem_of_getElem? (i := 21) rfl)) (hw _ (List.mem_of_getElem? (i := 2) rfl)) (by decide) (by decide)) q72a q72c (g := (mkF m 59 #[.val (.int fl), .val (.int av), .val (.long bv), .second, .val (.int dv), .val (.ref b1), .val (.int (2 : Int32)), .val (.ref b5), .unset, .unset] [(.ref b1)])) rfl (by rw [hml]; rfl) (Steps.refl _) (argsL := []) (rest := []) (lenOf pd_2 rfl) rfl (by show 2 * 0 + _ ≤ _; exact Nat.le_of_eq rfl) (hb hby at_59) (fun _ _ => ⟨rfl, e71, (by decide : 2 + 0 ≤ _), (by decide : 258 + 0 ≤ _)⟩)
    dsimp only [Pt.U, Pt.locs, Pt.cells, Pt.slots] at X72 l72 y72 z72 st72 hQ72
    subst l72 y72 z72
    obtain ⟨rfl, N72q, K72c, f73, f74⟩ := hQ72
    have N72 := Fr.app N71 N72q
    have f75 : Exa Z T72.heap b1 "com/example/lockstep/lockstep/store/RecordBuffer" := f70.keep K72c
    have f76 : AI Z T72.heap b5 .byte 256 (r8_arr av (up zI 0 (av.toInt8.toInt32)) 1) := f69.keep K72c (ninS (Ne.symm ne9) nin0)
    have Z72 : n0 ≤ T72.heap.size := Nat.le_trans Z66 K72c.1
    obtain ⟨cq77, kq77, q77a, q77b, q77c⟩ := isOf hZ rfl f75
    obtain ⟨_, _, ⟨T77, L77, k77, n77⟩, -, X77, ⟨Lc77, hQ77, l77, y77, z77⟩, st77⟩ := X72.virtualBack hx (y := (⟨"com/example/lockstep/lockstep/store/RecordBuffer", "size", "()I"⟩ : MethodName)) (z := (⟨"com/example/lockstep/lockstep/store/RecordBuffer", "size", "()I"⟩ : MethodName)) hown (mvT hZ (hw _ (List.mem_of_getElem? (i := 25) rfl))) (mvT hZ (hw _ (List.mem_of_getElem? (i := 26) rfl))) (notFace_of_selects (args := #[]) (mvT hZ (hw _ (List.mem_of_getElem? (i := 28) rfl)))) (mvT hZ (hw _ (List.mem_of_getElem? (i := 28) rfl))) (mvT hZ (hw _ (List.mem_of_getElem? (i := 27) rfl))) (by decide) (backOf (W := 0) (rm5 l Z a0 hw [] b1 (0 : Int32) T72.heap n0 Z72 f74) hZ (hw _ (List.mem_of_getElem? (i := 29) rfl)) (hw _ (List.mem_of_getElem? (i := 2) rfl)) (by decide) (by decide)) q77a q77c (g := (mkF m 64 #[.val (.int fl), .val (.int av), .val (.long bv), .second, .val (.int dv), .val (.ref b1), .val (.int (2 : Int32)), .val (.ref b5), .unset, .unset] [(.ref b1)])) rfl (by rw [hml]; rfl) (Steps.refl _) (argsL := []) (rest := []) (lenOf pd_4 rfl) rfl (by show 2 * 0 + _ ≤ _; exact Nat.le_of_eq rfl) (hb hby at_64) (fun _ _ => ⟨rfl, rfl, (by decide : 2 + 0 ≤ _), (by decide : 258 + 0 ≤ _)⟩)
    dsimp only [Pt.U, Pt.locs, Pt.cells, Pt.slots] at X77 l77 y77 z77 st77 hQ77
    subst l77 y77 z77
    obtain ⟨rfl, N77q, e77⟩ := hQ77
    have N77 := Fr.app N72 N77q
    obtain ⟨cq78, kq78, q78a, q78b, q78c⟩ := isOf hZ e77 f75
    obtain ⟨_, _, ⟨T78, L78, k78, n78⟩, -, X78, ⟨Lc78, hQ78, l78, y78, z78⟩, st78⟩ := X77.virtualBack hx (y := (⟨"com/example/lockstep/lockstep/store/RecordBuffer", "bytes", "()[B"⟩ : MethodName)) (z := (⟨"com/example/lockstep/lockstep/store/RecordBuffer", "bytes", "()[B"⟩ : MethodName)) hown (mvT hZ (hw _ (List.mem_of_getElem? (i := 12) rfl))) (mvT hZ (hw _ (List.mem_of_getElem? (i := 13) rfl))) (notFace_of_selects (args := #[]) (mvT hZ (hw _ (List.mem_of_getElem? (i := 15) rfl)))) (mvT hZ (hw _ (List.mem_of_getElem? (i := 15) rfl))) (mvT hZ (hw _ (List.mem_of_getElem? (i := 14) rfl))) (by decide) (backOf (W := 0) (rm3 l Z a0 hw [] b1 b5 T72.heap n0 Z72 f73) hZ (hw _ (List.mem_of_getElem? (i := 16) rfl)) (hw _ (List.mem_of_getElem? (i := 2) rfl)) (by decide) (by decide)) q78a q78c (g := (mkF m 74 #[.val (.int fl), .val (.int av), .val (.long bv), .second, .val (.int dv), .val (.ref b1), .val (.int (2 : Int32)), .val (.ref b5), .unset, .unset] [(.ref b1)])) rfl (by rw [hml]; rfl) (Steps.refl _) (argsL := []) (rest := []) (lenOf pd_3 rfl) rfl (by show 2 * 0 + _ ≤ _; exact Nat.le_of_eq rfl) (hb hby at_74) (fun _ _ => ⟨rfl, e77, (by decide : 2 + 0 ≤ _), (by decide : 258 + 0 ≤ _)⟩)
    dsimp only [Pt.U, Pt.locs, Pt.cells, Pt.slots] at X78 l78 y78 z78 st78 hQ78
    subst l78 y78 z78
    obtain ⟨rfl, N78q, e78⟩ := hQ78
    have N78 := Fr.app N77 N78q
    obtain ⟨cl79, Arcl79, Szcl79⟩ := AF.len f76
    obtain ⟨cq80, kq80, q80a, q80b, q80c⟩ := isOf hZ e78 f75
    obtain ⟨_, _, ⟨T80, L80, k80, n80⟩, -, X80, ⟨Lc80, hQ80, l80, y80, z80⟩, st80⟩ := X78.virtualBack hx (y := (⟨"com/example/lockstep/lockstep/store/RecordBuffer", "writeInt", "(I)V"⟩ : MethodName)) (z := (⟨"com/example/lockstep/lockstep/store/RecordBuffer", "writeInt", "(I)V"⟩ : MethodName)) hown (mvT hZ (hw _ (List.mem_of_getElem? (i := 30) rfl))) (mvT hZ (hw _ (List.mem_of_getElem? (i := 31) rfl))) (notFace_of_selects (args := #[]) (mvT hZ (hw _ (List.mem_of_getElem? (i := 33) rfl)))) (mvT hZ (hw _ (List.mem_of_getElem? (i := 33) rfl))) (mvT hZ (hw _ (List.mem_of_getElem? (i := 32) rfl))) (by decide) (backOf (W := 0) (rm6 l Z a0 hw [] b1 dv b5 (r8_arr av (up zI 0 (av.toInt8.toInt32)) 1) (0 : Int32) 0 T72.heap n0 Z72 f73 f76 f74 f75 ne9 (rfl) (by decide) ggb5 gg1) hZ (hw _ (List.mem_of_getElem? (i := 34) rfl)) (hw _ (List.mem_of_getElem? (i := 2) rfl)) (by decide) (by decide)) q80a q80c (g := (mkF m 103 #[.val (.int fl), .val (.int av), .val (.long bv), .second, .val (.int dv), .val (.ref b1), .val (.int (2 : Int32)), .val (.ref b5), .val (.ref b5), .unset] [(.int dv), (.ref b1)])) rfl (by rw [hml]; rfl) (Steps.refl _) (argsL := [(.int dv)]) (rest := []) (lenOf pd_0 rfl) rfl (by show 2 * 0 + _ ≤ _; exact Nat.le_of_eq rfl) (hb hby at_103) (fun _ _ => ⟨rfl, e78, (by decide : 2 + 0 ≤ _), (by decide : 258 + 0 ≤ _)⟩)
    dsimp only [Pt.U, Pt.locs, Pt.cells, Pt.slots] at X80 l80 y80 z80 st80 hQ80
    subst l80 y80 z80
    obtain ⟨rfl, N80q, K80c, f81, f82, f83⟩ := hQ80
    have N80 := Fr.app N78 N80q
    have f84 : Exa Z T80.heap b1 "com/example/lockstep/lockstep/store/RecordBuffer" := f75.keep K80c
    have Z80 : n0 ≤ T80.heap.size := Nat.le_trans Z72 K80c.1
    obtain ⟨cq85, kq85, q85a, q85b, q85c⟩ := isOf hZ rfl f84
    obtain ⟨_, _, ⟨T85, L85, k85, n85⟩, -, X85, ⟨Lc85, hQ85, l85, y85, z85⟩, st85⟩ := X80.virtualBack hx (y := (⟨"com/example/lockstep/lockstep/store/RecordBuffer", "size", "()I"⟩ : MethodName)) (z := (⟨"com/example/lockstep/lockstep/store/RecordBuffer", "size", "()I"⟩ : MethodName)) hown (mvT hZ (hw _ (List.mem_of_getElem? (i := 25) rfl))) (mvT hZ (hw _ (List.mem_of_getElem? (i := 26) rfl))) (notFace_of_selects (args := #[]) (mvT hZ (hw _ (List.mem_of_getElem? (i := 28) rfl)))) (mvT hZ (hw _ (List.mem_of_getElem? (i := 28) rfl))) (mvT hZ (hw _ (List.mem_of_getElem? (i := 27) rfl))) (by decide) (backOf (W := 0) (rm5 l Z a0 hw [] b1 ((0 : Int32) + (4 : Int32)) T80.heap n0 Z80 f82) hZ (hw _ (List.mem_of_getElem? (i := 29) rfl)) (hw _ (List.mem_of_getElem? (i := 2) rfl)) (by decide) (by decide)) q85a q85c (g := (mkF m 108 #[.val (.int fl), .val (.int av), .val (.long bv), .second, .val (.int dv), .val (.ref b1), .val (.int (2 : Int32)), .val (.ref b5), .val (.ref b5), .unset] [(.ref b1)])) rfl (by rw [hml]; rfl) (Steps.refl _) (argsL := []) (rest := []) (lenOf pd_4 rfl) rfl (by show 2 * 0 + _ ≤ _; exact Nat.le_of_eq rfl) (hb hby at_108) (fun _ _ => ⟨rfl, rfl, (by decide : 2 + 0 ≤ _), (by decide : 258 + 0 ≤ _)⟩)
    dsimp only [Pt.U, Pt.locs, Pt.cells, Pt.slots] at X85 l85 y85 z85 st85 hQ85
    subst l85 y85 z85
    obtain ⟨rfl, N85q, e85⟩ := hQ85
    have N85 := Fr.app N80 N85q
    obtain ⟨cq86, kq86, q86a, q86b, q86c⟩ := isOf hZ e85 f84
    obtain ⟨_, _, ⟨T86, L86, k86, n86⟩, -, X86, ⟨Lc86, hQ86, l86, y86, z86⟩, st86⟩ := X85.virtualBack hx (y := (⟨"com/example/lockstep/lockstep/store/RecordBuffer", "bytes", "()[B"⟩ : MethodName)) (z := (⟨"com/example/lockstep/lockstep/store/RecordBuffer", "bytes", "()[B"⟩ : MethodName)) hown (mvT hZ (hw _ (List.mem_of_getElem? (i := 12) rfl))) (mvT hZ (hw _ (List.mem_of_getElem? (i := 13) rfl))) (notFace_of_selects (args := #[]) (mvT hZ (hw _ (List.mem_of_getElem? (i := 15) rfl)))) (mvT hZ (hw _ (List.mem_of_getElem? (i := 15) rfl))) (mvT hZ (hw _ (List.mem_of_getElem? (i := 14) rfl))) (by decide) (backOf (W := 0) (rm3 l Z a0 hw [] b1 b5 T80.heap n0 Z80 f81) hZ (hw _ (List.mem_of_getElem? (i := 16) rfl)) (hw _ (List.mem_of_getElem? (i := 2) rfl)) (by decide) (by decide)) q86a q86c (g := (mkF m 119 #[.val (.int fl), .val (.int av), .val (.long bv), .second, .val (.int dv), .val (.ref b1), .val (.int (2 : Int32)), .val (.ref b5), .val (.ref b5), .unset] [(.ref b1)])) rfl (by rw [hml]; rfl) (Steps.refl _) (argsL := []) (rest := []) (lenOf pd_3 rfl) rfl (by show 2 * 0 + _ ≤ _; exact Nat.le_of_eq rfl) (hb hby at_119) (fun _ _ => ⟨rfl, e85, (by decide : 2 + 0 ≤ _), (by decide : 258 + 0 ≤ _)⟩)
    dsimp only [Pt.U, Pt.locs, Pt.cells, Pt.slots] at X86 l86 y86 z86 st86 hQ86
    subst l86 y86 z86
    obtain ⟨rfl, N86q, e86⟩ := hQ86
    have N86 := Fr.app N85 N86q
    obtain ⟨cl87, Arcl87, hincl87, hatcl87⟩ := AF.at f83 (j := (0 : Int32)) 0 (by decide) (by decide)
    obtain ⟨cl88, Arcl88, hincl88, hatcl88⟩ := AF.at f83 (j := (1 : Int32)) 1 (by decide) (by decide)
    obtain ⟨cl89, Arcl89, hincl89, hatcl89⟩ := AF.at f83 (j := (2 : Int32)) 2 (by decide) (by decide)
    obtain ⟨cl90, Arcl90, hincl90, hatcl90⟩ := AF.at f83 (j := (3 : Int32)) 3 (by decide) (by decide)
    obtain ⟨fs, hr, hrun, hended, hW, hsame⟩ := X86.leave (v := some (.int (1 : Int32))) (fun h => by rw [Bd.returns] at h; cases h)
    refine ⟨_, _, pre60 _ ?_, hrun, hended, _, _, rfl, ?_, ⟨_, rfl⟩, hW, hsame.mono (by decide) (by decide)⟩
    · show Steps p.tables e below (T4.setTop (mkF m 12 #[.val (.int fl), .val (.int av), .val (.long bv), .second, .val (.int dv), .val (.ref b1), .unset, .unset, .unset, .unset] [(.int (2 : Int32))])) _
      refine XS.istore X4.here hx rfl (hb hby at_12) rfl (l' := #[.val (.int fl), .val (.int av), .val (.long bv), .second, .val (.int dv), .val (.ref b1), .val (.int (2 : Int32)), .unset, .unset, .unset]) rfl ?_
      show Steps p.tables e below (T4.setTop (mkF m 14 #[.val (.int fl), .val (.int av), .val (.long bv), .second, .val (.int dv), .val (.ref b1), .val (.int (2 : Int32)), .unset, .unset, .unset] [])) _
      refine XS.iload X4.here hx rfl (hb hby at_14) rfl ?_
      show Steps p.tables e below (T4.setTop (mkF m 16 #[.val (.int fl), .val (.int av), .val (.long bv), .second, .val (.int dv), .val (.ref b1), .val (.int (2 : Int32)), .unset, .unset, .unset] [(.int (2 : Int32))])) _
      refine XS.iconst X4.here hx rfl (hb hby at_16) ?_
      show Steps p.tables e below (T4.setTop (mkF m 17 #[.val (.int fl), .val (.int av), .val (.long bv), .second, .val (.int dv), .val (.ref b1), .val (.int (2 : Int32)), .unset, .unset, .unset] [(.int (1 : Int32)), (.int (2 : Int32))])) _
      refine XS.icmpNo X4.here hx rfl (hb hby at_17) rfl (flt (by decide : ¬ ((2 : Int32) < (1 : Int32)))).1 ?_
      show Steps p.tables e below (T4.setTop (mkF m 20 #[.val (.int fl), .val (.int av), .val (.long bv), .second, .val (.int dv), .val (.ref b1), .val (.int (2 : Int32)), .unset, .unset, .unset] [])) _
      refine XS.aload X4.here hx rfl (hb hby at_20) rfl rfl ?_
      show Steps p.tables e below (T4.setTop (mkF m 22 #[.val (.int fl), .val (.int av), .val (.long bv), .second, .val (.int dv), .val (.ref b1), .val (.int (2 : Int32)), .unset, .unset, .unset] [(.ref b1)])) _
      refine XS.iloadN X4.here hx rfl (hb hby at_22) rfl ?_
      show Steps p.tables e below (T4.setTop (mkF m 23 #[.val (.int fl), .val (.int av), .val (.long bv), .second, .val (.int dv), .val (.ref b1), .val (.int (2 : Int32)), .unset, .unset, .unset] [(.int av), (.ref b1)])) _
      refine st61.trans ?_
      show Steps p.tables e below (T61.setTop (mkF m 26 #[.val (.int fl), .val (.int av), .val (.long bv), .second, .val (.int dv), .val (.ref b1), .val (.int (2 : Int32)), .unset, .unset, .unset] [])) _
      refine XS.iload X61.here hx rfl (hb hby at_26) rfl ?_
      show Steps p.tables e below (T61.setTop (mkF m 28 #[.val (.int fl), .val (.int av), .val (.long bv), .second, .val (.int dv), .val (.ref b1), .val (.int (2 : Int32)), .unset, .unset, .unset] [(.int (2 : Int32))])) _
      refine XS.iconst X61.here hx rfl (hb hby at_28) ?_
      show Steps p.tables e below (T61.setTop (mkF m 29 #[.val (.int fl), .val (.int av), .val (.long bv), .second, .val (.int dv), .val (.ref b1), .val (.int (2 : Int32)), .unset, .unset, .unset] [(.int (2 : Int32)), (.int (2 : Int32))])) _
      refine XS.icmpNo X61.here hx rfl (hb hby at_29) rfl (flt (by decide : ¬ ((2 : Int32) < (2 : Int32)))).1 ?_
      show Steps p.tables e below (T61.setTop (mkF m 32 #[.val (.int fl), .val (.int av), .val (.long bv), .second, .val (.int dv), .val (.ref b1), .val (.int (2 : Int32)), .unset, .unset, .unset] [])) _
      refine XS.aload X61.here hx rfl (hb hby at_32) rfl rfl ?_
      show Steps p.tables e below (T61.setTop (mkF m 34 #[.val (.int fl), .val (.int av), .val (.long bv), .second, .val (.int dv), .val (.ref b1), .val (.int (2 : Int32)), .unset, .unset, .unset] [(.ref b1)])) _
      refine XS.iloadN X61.here hx rfl (hb hby at_34) rfl ?_
      show Steps p.tables e below (T61.setTop (mkF m 35 #[.val (.int fl), .val (.int av), .val (.long bv), .second, .val (.int dv), .val (.ref b1), .val (.int (2 : Int32)), .unset, .unset, .unset] [(.int av), (.ref b1)])) _
      refine st66.trans ?_
      show Steps p.tables e below (T66.setTop (mkF m 38 #[.val (.int fl), .val (.int av), .val (.long bv), .second, .val (.int dv), .val (.ref b1), .val (.int (2 : Int32)), .unset, .unset, .unset] [])) _
      refine XS.iload X66.here hx rfl (hb hby at_38) rfl ?_
      show Steps p.tables e below (T66.setTop (mkF m 40 #[.val (.int fl), .val (.int av), .val (.long bv), .second, .val (.int dv), .val (.ref b1), .val (.int (2 : Int32)), .unset, .unset, .unset] [(.int (2 : Int32))])) _
      refine XS.iconst X66.here hx rfl (hb hby at_40) ?_
      show Steps p.tables e below (T66.setTop (mkF m 41 #[.val (.int fl), .val (.int av), .val (.long bv), .second, .val (.int dv), .val (.ref b1), .val (.int (2 : Int32)), .unset, .unset, .unset] [(.int (3 : Int32)), (.int (2 : Int32))])) _
      refine XS.icmpYes X66.here hx rfl (pc0 := 41) (pc' := 50) rfl (hb hby at_41) rfl (tlt (by decide : ((2 : Int32) < (3 : Int32)))).1 (by decide) (by decide) ?_
      show Steps p.tables e below (T66.setTop (mkF m 50 #[.val (.int fl), .val (.int av), .val (.long bv), .second, .val (.int dv), .val (.ref b1), .val (.int (2 : Int32)), .unset, .unset, .unset] [])) _
      refine XS.aload X66.here hx rfl (hb hby at_50) rfl rfl ?_
      show Steps p.tables e below (T66.setTop (mkF m 52 #[.val (.int fl), .val (.int av), .val (.long bv), .second, .val (.int dv), .val (.ref b1), .val (.int (2 : Int32)), .unset, .unset, .unset] [(.ref b1)])) _
      refine st71.trans ?_
      show Steps p.tables e below (T71.setTop (mkF m 55 #[.val (.int fl), .val (.int av), .val (.long bv), .second, .val (.int dv), .val (.ref b1), .val (.int (2 : Int32)), .unset, .unset, .unset] [(.ref b5)])) _
      refine XS.astore X71.here hx rfl (hb hby at_55) rfl rfl (l' := #[.val (.int fl), .val (.int av), .val (.long bv), .second, .val (.int dv), .val (.ref b1), .val (.int (2 : Int32)), .val (.ref b5), .unset, .unset]) rfl ?_
      show Steps p.tables e below (T71.setTop (mkF m 57 #[.val (.int fl), .val (.int av), .val (.long bv), .second, .val (.int dv), .val (.ref b1), .val (.int (2 : Int32)), .val (.ref b5), .unset, .unset] [])) _
      refine XS.aload X71.here hx rfl (hb hby at_57) rfl rfl ?_
      show Steps p.tables e below (T71.setTop (mkF m 59 #[.val (.int fl), .val (.int av), .val (.long bv), .second, .val (.int dv), .val (.ref b1), .val (.int (2 : Int32)), .val (.ref b5), .unset, .unset] [(.ref b1)])) _
      refine st72.trans ?_
      show Steps p.tables e below (T72.setTop (mkF m 62 #[.val (.int fl), .val (.int av), .val (.long bv), .second, .val (.int dv), .val (.ref b1), .val (.int (2 : Int32)), .val (.ref b5), .unset, .unset] [])) _
      refine XS.aload X72.here hx rfl (hb hby at_62) rfl rfl ?_
      show Steps p.tables e below (T72.setTop (mkF m 64 #[.val (.int fl), .val (.int av), .val (.long bv), .second, .val (.int dv), .val (.ref b1), .val (.int (2 : Int32)), .val (.ref b5), .unset, .unset] [(.ref b1)])) _
      refine st77.trans ?_
      show Steps p.tables e below (T77.setTop (mkF m 67 #[.val (.int fl), .val (.int av), .val (.long bv), .second, .val (.int dv), .val (.ref b1), .val (.int (2 : Int32)), .val (.ref b5), .unset, .unset] [(.int (0 : Int32))])) _
      refine XS.ifYes X77.here hx rfl (pc0 := 67) (pc' := 72) rfl (hb hby at_67) rfl ((if0 _ _).trans (teq (by decide : ((0 : Int32) = (0 : Int32)))).1) (by decide) (by decide) ?_
      show Steps p.tables e below (T77.setTop (mkF m 72 #[.val (.int fl), .val (.int av), .val (.long bv), .second, .val (.int dv), .val (.ref b1), .val (.int (2 : Int32)), .val (.ref b5), .unset, .unset] [])) _
      refine XS.aload X77.here hx rfl (hb hby at_72) rfl rfl ?_
      show Steps p.tables e below (T77.setTop (mkF m 74 #[.val (.int fl), .val (.int av), .val (.long bv), .second, .val (.int dv), .val (.ref b1), .val (.int (2 : Int32)), .val (.ref b5), .unset, .unset] [(.ref b1)])) _
      refine st78.trans ?_
      show Steps p.tables e below (T78.setTop (mkF m 77 #[.val (.int fl), .val (.int av), .val (.long bv), .second, .val (.int dv), .val (.ref b1), .val (.int (2 : Int32)), .val (.ref b5), .unset, .unset] [(.ref b5)])) _
      refine XS.astore X78.here hx rfl (hb hby at_77) rfl rfl (l' := #[.val (.int fl), .val (.int av), .val (.long bv), .second, .val (.int dv), .val (.ref b1), .val (.int (2 : Int32)), .val (.ref b5), .val (.ref b5), .unset]) rfl ?_
      show Steps p.tables e below (T78.setTop (mkF m 79 #[.val (.int fl), .val (.int av), .val (.long bv), .second, .val (.int dv), .val (.ref b1), .val (.int (2 : Int32)), .val (.ref b5), .val (.ref b5), .unset] [])) _
      refine XS.aload X78.here hx rfl (hb hby at_79) rfl rfl ?_
      show Steps p.tables e below (T78.setTop (mkF m 81 #[.val (.int fl), .val (.int av), .val (.long bv), .second, .val (.int dv), .val (.ref b1), .val (.int (2 : Int32)), .val (.ref b5), .val (.ref b5), .unset] [(.ref b5)])) _
      refine XS.aload X78.here hx rfl (hb hby at_81) rfl rfl ?_
      show Steps p.tables e below (T78.setTop (mkF m 83 #[.val (.int fl), .val (.int av), .val (.long bv), .second, .val (.int dv), .val (.ref b1), .val (.int (2 : Int32)), .val (.ref b5), .val (.ref b5), .unset] [(.ref b5), (.ref b5)])) _
      refine Jvm.RoadKit.acmp (g := (mkF m 83 #[.val (.int fl), .val (.int av), .val (.long bv), .second, .val (.int dv), .val (.ref b1), .val (.int (2 : Int32)), .val (.ref b5), .val (.ref b5), .unset] [(.ref b5), (.ref b5)])) X78 hx rfl rfl rfl (pc0 := 83) (pc' := 88) (same := true) rfl (hb hby at_83) rfl (decide_eq_true rfl) (by decide) (by decide) ?_
      show Steps p.tables e below (T78.setTop (mkF m 88 #[.val (.int fl), .val (.int av), .val (.long bv), .second, .val (.int dv), .val (.ref b1), .val (.int (2 : Int32)), .val (.ref b5), .val (.ref b5), .unset] [])) _
      refine XS.aload X78.here hx rfl (hb hby at_88) rfl rfl ?_
      show Steps p.tables e below (T78.setTop (mkF m 90 #[.val (.int fl), .val (.int av), .val (.long bv), .second, .val (.int dv), .val (.ref b1), .val (.int (2 : Int32)), .val (.ref b5), .val (.ref b5), .unset] [(.ref b5)])) _
      refine X78.arraylength hx (by rw [e78]; exact Arcl79.1) (State.isArrayOf_alike hZ.alike Arcl79.2.1) (g := (mkF m 90 #[.val (.int fl), .val (.int av), .val (.long bv), .second, .val (.int dv), .val (.ref b1), .val (.int (2 : Int32)), .val (.ref b5), .val (.ref b5), .unset] [(.ref b5)])) rfl rfl (hb hby at_90) _ ?_
      rw [Szcl79]
      show Steps p.tables e below (T78.setTop (mkF m 91 #[.val (.int fl), .val (.int av), .val (.long bv), .second, .val (.int dv), .val (.ref b1), .val (.int (2 : Int32)), .val (.ref b5), .val (.ref b5), .unset] [(.int (256 : Int32))])) _
      refine XS.sipush X78.here hx rfl (hb hby at_91) ?_
      show Steps p.tables e below (T78.setTop (mkF m 94 #[.val (.int fl), .val (.int av), .val (.long bv), .second, .val (.int dv), .val (.ref b1), .val (.int (2 : Int32)), .val (.ref b5), .val (.ref b5), .unset] [(.int (256 : Int32)), (.int (256 : Int32))])) _
      refine XS.icmpYes X78.here hx rfl (pc0 := 94) (pc' := 99) rfl (hb hby at_94) rfl (teq (by decide : ((256 : Int32) = (256 : Int32)))).1 (by decide) (by decide) ?_
      show Steps p.tables e below (T78.setTop (mkF m 99 #[.val (.int fl), .val (.int av), .val (.long bv), .second, .val (.int dv), .val (.ref b1), .val (.int (2 : Int32)), .val (.ref b5), .val (.ref b5), .unset] [])) _
      refine XS.aload X78.here hx rfl (hb hby at_99) rfl rfl ?_
      show Steps p.tables e below (T78.setTop (mkF m 101 #[.val (.int fl), .val (.int av), .val (.long bv), .second, .val (.int dv), .val (.ref b1), .val (.int (2 : Int32)), .val (.ref b5), .val (.ref b5), .unset] [(.ref b1)])) _
      refine XS.iload X78.here hx rfl (hb hby at_101) rfl ?_
      show Steps p.tables e below (T78.setTop (mkF m 103 #[.val (.int fl), .val (.int av), .val (.long bv), .second, .val (.int dv), .val (.ref b1), .val (.int (2 : Int32)), .val (.ref b5), .val (.ref b5), .unset] [(.int dv), (.ref b1)])) _
      refine st80.trans ?_
      show Steps p.tables e below (T80.setTop (mkF m 106 #[.val (.int fl), .val (.int av), .val (.long bv), .second, .val (.int dv), .val (.ref b1), .val (.int (2 : Int32)), .val (.ref b5), .val (.ref b5), .unset] [])) _
      refine XS.aload X80.here hx rfl (hb hby at_106) rfl rfl ?_
      show Steps p.tables e below (T80.setTop (mkF m 108 #[.val (.int fl), .val (.int av), .val (.long bv), .second, .val (.int dv), .val (.ref b1), .val (.int (2 : Int32)), .val (.ref b5), .val (.ref b5), .unset] [(.ref b1)])) _
      refine st85.trans ?_
      show Steps p.tables e below (T85.setTop (mkF m 111 #[.val (.int fl), .val (.int av), .val (.long bv), .second, .val (.int dv), .val (.ref b1), .val (.int (2 : Int32)), .val (.ref b5), .val (.ref b5), .unset] [(.int ((0 : Int32) + (4 : Int32)))])) _
      refine XS.iconst X85.here hx rfl (hb hby at_111) ?_
      show Steps p.tables e below (T85.setTop (mkF m 112 #[.val (.int fl), .val (.int av), .val (.long bv), .second, .val (.int dv), .val (.ref b1), .val (.int (2 : Int32)), .val (.ref b5), .val (.ref b5), .unset] [(.int (4 : Int32)), (.int ((0 : Int32) + (4 : Int32)))])) _
      refine XS.icmpYes X85.here hx rfl (pc0 := 112) (pc' := 117) rfl (hb hby at_112) rfl (teq (by decide : (((0 : Int32) + (4 : Int32)) = (4 : Int32)))).1 (by decide) (by decide) ?_
      show Steps p.tables e below (T85.setTop (mkF m 117 #[.val (.int fl), .val (.int av), .val (.long bv), .second, .val (.int dv), .val (.ref b1), .val (.int (2 : Int32)), .val (.ref b5), .val (.ref b5), .unset] [])) _
      refine XS.aload X85.here hx rfl (hb hby at_117) rfl rfl ?_
      show Steps p.tables e below (T85.setTop (mkF m 119 #[.val (.int fl), .val (.int av), .val (.long bv), .second, .val (.int dv), .val (.ref b1), .val (.int (2 : Int32)), .val (.ref b5), .val (.ref b5), .unset] [(.ref b1)])) _
      refine st86.trans ?_
      show Steps p.tables e below (T86.setTop (mkF m 122 #[.val (.int fl), .val (.int av), .val (.long bv), .second, .val (.int dv), .val (.ref b1), .val (.int (2 : Int32)), .val (.ref b5), .val (.ref b5), .unset] [(.ref b5)])) _
      refine XS.astore X86.here hx rfl (hb hby at_122) rfl rfl (l' := #[.val (.int fl), .val (.int av), .val (.long bv), .second, .val (.int dv), .val (.ref b1), .val (.int (2 : Int32)), .val (.ref b5), .val (.ref b5), .val (.ref b5)]) rfl ?_
      show Steps p.tables e below (T86.setTop (mkF m 124 #[.val (.int fl), .val (.int av), .val (.long bv), .second, .val (.int dv), .val (.ref b1), .val (.int (2 : Int32)), .val (.ref b5), .val (.ref b5), .val (.ref b5)] [])) _
      refine XS.aload X86.here hx rfl (hb hby at_124) rfl rfl ?_
      show Steps p.tables e below (T86.setTop (mkF m 126 #[.val (.int fl), .val (.int av), .val (.long bv), .second, .val (.int dv), .val (.ref b1), .val (.int (2 : Int32)), .val (.ref b5), .val (.ref b5), .val (.ref b5)] [(.ref b5)])) _
      refine XS.aload X86.here hx rfl (hb hby at_126) rfl rfl ?_
      show Steps p.tables e below (T86.setTop (mkF m 128 #[.val (.int fl), .val (.int av), .val (.long bv), .second, .val (.int dv), .val (.ref b1), .val (.int (2 : Int32)), .val (.ref b5), .val (.ref b5), .val (.ref b5)] [(.ref b5), (.ref b5)])) _
      refine Jvm.RoadKit.acmp (g := (mkF m 128 #[.val (.int fl), .val (.int av), .val (.long bv), .second, .val (.int dv), .val (.ref b1), .val (.int (2 : Int32)), .val (.ref b5), .val (.ref b5), .val (.ref b5)] [(.ref b5), (.ref b5)])) X86 hx rfl rfl rfl (pc0 := 128) (pc' := 133) (same := true) rfl (hb hby at_128) rfl (decide_eq_true rfl) (by decide) (by decide) ?_
      show Steps p.tables e below (T86.setTop (mkF m 133 #[.val (.int fl), .val (.int av), .val (.long bv), .second, .val (.int dv), .val (.ref b1), .val (.int (2 : Int32)), .val (.ref b5), .val (.ref b5), .val (.ref b5)] [])) _
      refine XS.aload X86.here hx rfl (hb hby at_133) rfl rfl ?_
      show Steps p.tables e below (T86.setTop (mkF m 135 #[.val (.int fl), .val (.int av), .val (.long bv), .second, .val (.int dv), .val (.ref b1), .val (.int (2 : Int32)), .val (.ref b5), .val (.ref b5), .val (.ref b5)] [(.ref b5)])) _
      refine XS.iconst X86.here hx rfl (hb hby at_135) ?_
      show Steps p.tables e below (T86.setTop (mkF m 136 #[.val (.int fl), .val (.int av), .val (.long bv), .second, .val (.int dv), .val (.ref b1), .val (.int (2 : Int32)), .val (.ref b5), .val (.ref b5), .val (.ref b5)] [(.int (0 : Int32)), (.ref b5)])) _
      refine X86.baloadBytes hx (j := (0 : Int32)) (v := (.int ((r8_arr dv (r8_arr av (up zI 0 (av.toInt8.toInt32)) 1) 0) 0))) (by rw [e86]; exact Arcl87.1) (State.isArrayOf_alike hZ.alike Arcl87.2.1) Arcl87.2.2 hincl87 hatcl87 (g := (mkF m 136 #[.val (.int fl), .val (.int av), .val (.long bv), .second, .val (.int dv), .val (.ref b1), .val (.int (2 : Int32)), .val (.ref b5), .val (.ref b5), .val (.ref b5)] [(.int (0 : Int32)), (.ref b5)])) rfl rfl (hb hby at_136) _ ?_
      show Steps p.tables e below (T86.setTop (mkF m 137 #[.val (.int fl), .val (.int av), .val (.long bv), .second, .val (.int dv), .val (.ref b1), .val (.int (2 : Int32)), .val (.ref b5), .val (.ref b5), .val (.ref b5)] [(.int ((r8_arr dv (r8_arr av (up zI 0 (av.toInt8.toInt32)) 1) 0) 0))])) _
      refine XS.iload X86.here hx rfl (hb hby at_137) rfl ?_
      show Steps p.tables e below (T86.setTop (mkF m 139 #[.val (.int fl), .val (.int av), .val (.long bv), .second, .val (.int dv), .val (.ref b1), .val (.int (2 : Int32)), .val (.ref b5), .val (.ref b5), .val (.ref b5)] [(.int dv), (.int ((r8_arr dv (r8_arr av (up zI 0 (av.toInt8.toInt32)) 1) 0) 0))])) _
      refine XS.bipush X86.here hx rfl (hb hby at_139) ?_
      show Steps p.tables e below (T86.setTop (mkF m 141 #[.val (.int fl), .val (.int av), .val (.long bv), .second, .val (.int dv), .val (.ref b1), .val (.int (2 : Int32)), .val (.ref b5), .val (.ref b5), .val (.ref b5)] [(.int (24 : Int32)), (.int dv), (.int ((r8_arr dv (r8_arr av (up zI 0 (av.toInt8.toInt32)) 1) 0) 0))])) _
      refine XS.iushr X86.here hx rfl (hb hby at_141) rfl ?_
      show Steps p.tables e below (T86.setTop (mkF m 142 #[.val (.int fl), .val (.int av), .val (.long bv), .second, .val (.int dv), .val (.ref b1), .val (.int (2 : Int32)), .val (.ref b5), .val (.ref b5), .val (.ref b5)] [(.int ((dv.toUInt32 >>> ((24 : Int32) &&& 31).toUInt32).toInt32)), (.int ((r8_arr dv (r8_arr av (up zI 0 (av.toInt8.toInt32)) 1) 0) 0))])) _
      refine XS.i2b X86.here hx rfl (hb hby at_142) rfl ?_
      show Steps p.tables e below (T86.setTop (mkF m 143 #[.val (.int fl), .val (.int av), .val (.long bv), .second, .val (.int dv), .val (.ref b1), .val (.int (2 : Int32)), .val (.ref b5), .val (.ref b5), .val (.ref b5)] [(.int (((dv.toUInt32 >>> ((24 : Int32) &&& 31).toUInt32).toInt32).toInt8.toInt32)), (.int ((r8_arr dv (r8_arr av (up zI 0 (av.toInt8.toInt32)) 1) 0) 0))])) _
      refine XS.icmpNo X86.here hx rfl (hb hby at_143) rfl (teq (rfl : (((r8_arr dv (r8_arr av (up zI 0 (av.toInt8.toInt32)) 1) 0) 0) = (((dv.toUInt32 >>> ((24 : Int32) &&& 31).toUInt32).toInt32).toInt8.toInt32)))).2 ?_
      show Steps p.tables e below (T86.setTop (mkF m 146 #[.val (.int fl), .val (.int av), .val (.long bv), .second, .val (.int dv), .val (.ref b1), .val (.int (2 : Int32)), .val (.ref b5), .val (.ref b5), .val (.ref b5)] [])) _
      refine XS.aload X86.here hx rfl (hb hby at_146) rfl rfl ?_
      show Steps p.tables e below (T86.setTop (mkF m 148 #[.val (.int fl), .val (.int av), .val (.long bv), .second, .val (.int dv), .val (.ref b1), .val (.int (2 : Int32)), .val (.ref b5), .val (.ref b5), .val (.ref b5)] [(.ref b5)])) _
      refine XS.iconst X86.here hx rfl (hb hby at_148) ?_
      show Steps p.tables e below (T86.setTop (mkF m 149 #[.val (.int fl), .val (.int av), .val (.long bv), .second, .val (.int dv), .val (.ref b1), .val (.int (2 : Int32)), .val (.ref b5), .val (.ref b5), .val (.ref b5)] [(.int (1 : Int32)), (.ref b5)])) _
      refine X86.baloadBytes hx (j := (1 : Int32)) (v := (.int ((r8_arr dv (r8_arr av (up zI 0 (av.toInt8.toInt32)) 1) 0) 1))) (by rw [e86]; exact Arcl88.1) (State.isArrayOf_alike hZ.alike Arcl88.2.1) Arcl88.2.2 hincl88 hatcl88 (g := (mkF m 149 #[.val (.int fl), .val (.int av), .val (.long bv), .second, .val (.int dv), .val (.ref b1), .val (.int (2 : Int32)), .val (.ref b5), .val (.ref b5), .val (.ref b5)] [(.int (1 : Int32)), (.ref b5)])) rfl rfl (hb hby at_149) _ ?_
      show Steps p.tables e below (T86.setTop (mkF m 150 #[.val (.int fl), .val (.int av), .val (.long bv), .second, .val (.int dv), .val (.ref b1), .val (.int (2 : Int32)), .val (.ref b5), .val (.ref b5), .val (.ref b5)] [(.int ((r8_arr dv (r8_arr av (up zI 0 (av.toInt8.toInt32)) 1) 0) 1))])) _
      refine XS.iload X86.here hx rfl (hb hby at_150) rfl ?_
      show Steps p.tables e below (T86.setTop (mkF m 152 #[.val (.int fl), .val (.int av), .val (.long bv), .second, .val (.int dv), .val (.ref b1), .val (.int (2 : Int32)), .val (.ref b5), .val (.ref b5), .val (.ref b5)] [(.int dv), (.int ((r8_arr dv (r8_arr av (up zI 0 (av.toInt8.toInt32)) 1) 0) 1))])) _
      refine XS.bipush X86.here hx rfl (hb hby at_152) ?_
      show Steps p.tables e below (T86.setTop (mkF m 154 #[.val (.int fl), .val (.int av), .val (.long bv), .second, .val (.int dv), .val (.ref b1), .val (.int (2 : Int32)), .val (.ref b5), .val (.ref b5), .val (.ref b5)] [(.int (16 : Int32)), (.int dv), (.int ((r8_arr dv (r8_arr av (up zI 0 (av.toInt8.toInt32)) 1) 0) 1))])) _
      refine XS.iushr X86.here hx rfl (hb hby at_154) rfl ?_
      show Steps p.tables e below (T86.setTop (mkF m 155 #[.val (.int fl), .val (.int av), .val (.long bv), .second, .val (.int dv), .val (.ref b1), .val (.int (2 : Int32)), .val (.ref b5), .val (.ref b5), .val (.ref b5)] [(.int ((dv.toUInt32 >>> ((16 : Int32) &&& 31).toUInt32).toInt32)), (.int ((r8_arr dv (r8_arr av (up zI 0 (av.toInt8.toInt32)) 1) 0) 1))])) _
      refine XS.i2b X86.here hx rfl (hb hby at_155) rfl ?_
      show Steps p.tables e below (T86.setTop (mkF m 156 #[.val (.int fl), .val (.int av), .val (.long bv), .second, .val (.int dv), .val (.ref b1), .val (.int (2 : Int32)), .val (.ref b5), .val (.ref b5), .val (.ref b5)] [(.int (((dv.toUInt32 >>> ((16 : Int32) &&& 31).toUInt32).toInt32).toInt8.toInt32)), (.int ((r8_arr dv (r8_arr av (up zI 0 (av.toInt8.toInt32)) 1) 0) 1))])) _
      refine XS.icmpNo X86.here hx rfl (hb hby at_156) rfl (teq (rfl : (((r8_arr dv (r8_arr av (up zI 0 (av.toInt8.toInt32)) 1) 0) 1) = (((dv.toUInt32 >>> ((16 : Int32) &&& 31).toUInt32).toInt32).toInt8.toInt32)))).2 ?_
      show Steps p.tables e below (T86.setTop (mkF m 159 #[.val (.int fl), .val (.int av), .val (.long bv), .second, .val (.int dv), .val (.ref b1), .val (.int (2 : Int32)), .val (.ref b5), .val (.ref b5), .val (.ref b5)] [])) _
      refine XS.aload X86.here hx rfl (hb hby at_159) rfl rfl ?_
      show Steps p.tables e below (T86.setTop (mkF m 161 #[.val (.int fl), .val (.int av), .val (.long bv), .second, .val (.int dv), .val (.ref b1), .val (.int (2 : Int32)), .val (.ref b5), .val (.ref b5), .val (.ref b5)] [(.ref b5)])) _
      refine XS.iconst X86.here hx rfl (hb hby at_161) ?_
      show Steps p.tables e below (T86.setTop (mkF m 162 #[.val (.int fl), .val (.int av), .val (.long bv), .second, .val (.int dv), .val (.ref b1), .val (.int (2 : Int32)), .val (.ref b5), .val (.ref b5), .val (.ref b5)] [(.int (2 : Int32)), (.ref b5)])) _
      refine X86.baloadBytes hx (j := (2 : Int32)) (v := (.int ((r8_arr dv (r8_arr av (up zI 0 (av.toInt8.toInt32)) 1) 0) 2))) (by rw [e86]; exact Arcl89.1) (State.isArrayOf_alike hZ.alike Arcl89.2.1) Arcl89.2.2 hincl89 hatcl89 (g := (mkF m 162 #[.val (.int fl), .val (.int av), .val (.long bv), .second, .val (.int dv), .val (.ref b1), .val (.int (2 : Int32)), .val (.ref b5), .val (.ref b5), .val (.ref b5)] [(.int (2 : Int32)), (.ref b5)])) rfl rfl (hb hby at_162) _ ?_
      show Steps p.tables e below (T86.setTop (mkF m 163 #[.val (.int fl), .val (.int av), .val (.long bv), .second, .val (.int dv), .val (.ref b1), .val (.int (2 : Int32)), .val (.ref b5), .val (.ref b5), .val (.ref b5)] [(.int ((r8_arr dv (r8_arr av (up zI 0 (av.toInt8.toInt32)) 1) 0) 2))])) _
      refine XS.iload X86.here hx rfl (hb hby at_163) rfl ?_
      show Steps p.tables e below (T86.setTop (mkF m 165 #[.val (.int fl), .val (.int av), .val (.long bv), .second, .val (.int dv), .val (.ref b1), .val (.int (2 : Int32)), .val (.ref b5), .val (.ref b5), .val (.ref b5)] [(.int dv), (.int ((r8_arr dv (r8_arr av (up zI 0 (av.toInt8.toInt32)) 1) 0) 2))])) _
      refine XS.bipush X86.here hx rfl (hb hby at_165) ?_
      show Steps p.tables e below (T86.setTop (mkF m 167 #[.val (.int fl), .val (.int av), .val (.long bv), .second, .val (.int dv), .val (.ref b1), .val (.int (2 : Int32)), .val (.ref b5), .val (.ref b5), .val (.ref b5)] [(.int (8 : Int32)), (.int dv), (.int ((r8_arr dv (r8_arr av (up zI 0 (av.toInt8.toInt32)) 1) 0) 2))])) _
      refine XS.iushr X86.here hx rfl (hb hby at_167) rfl ?_
      show Steps p.tables e below (T86.setTop (mkF m 168 #[.val (.int fl), .val (.int av), .val (.long bv), .second, .val (.int dv), .val (.ref b1), .val (.int (2 : Int32)), .val (.ref b5), .val (.ref b5), .val (.ref b5)] [(.int ((dv.toUInt32 >>> ((8 : Int32) &&& 31).toUInt32).toInt32)), (.int ((r8_arr dv (r8_arr av (up zI 0 (av.toInt8.toInt32)) 1) 0) 2))])) _
      refine XS.i2b X86.here hx rfl (hb hby at_168) rfl ?_
      show Steps p.tables e below (T86.setTop (mkF m 169 #[.val (.int fl), .val (.int av), .val (.long bv), .second, .val (.int dv), .val (.ref b1), .val (.int (2 : Int32)), .val (.ref b5), .val (.ref b5), .val (.ref b5)] [(.int (((dv.toUInt32 >>> ((8 : Int32) &&& 31).toUInt32).toInt32).toInt8.toInt32)), (.int ((r8_arr dv (r8_arr av (up zI 0 (av.toInt8.toInt32)) 1) 0) 2))])) _
      refine XS.icmpNo X86.here hx rfl (hb hby at_169) rfl (teq (rfl : (((r8_arr dv (r8_arr av (up zI 0 (av.toInt8.toInt32)) 1) 0) 2) = (((dv.toUInt32 >>> ((8 : Int32) &&& 31).toUInt32).toInt32).toInt8.toInt32)))).2 ?_
      show Steps p.tables e below (T86.setTop (mkF m 172 #[.val (.int fl), .val (.int av), .val (.long bv), .second, .val (.int dv), .val (.ref b1), .val (.int (2 : Int32)), .val (.ref b5), .val (.ref b5), .val (.ref b5)] [])) _
      refine XS.aload X86.here hx rfl (hb hby at_172) rfl rfl ?_
      show Steps p.tables e below (T86.setTop (mkF m 174 #[.val (.int fl), .val (.int av), .val (.long bv), .second, .val (.int dv), .val (.ref b1), .val (.int (2 : Int32)), .val (.ref b5), .val (.ref b5), .val (.ref b5)] [(.ref b5)])) _
      refine XS.iconst X86.here hx rfl (hb hby at_174) ?_
      show Steps p.tables e below (T86.setTop (mkF m 175 #[.val (.int fl), .val (.int av), .val (.long bv), .second, .val (.int dv), .val (.ref b1), .val (.int (2 : Int32)), .val (.ref b5), .val (.ref b5), .val (.ref b5)] [(.int (3 : Int32)), (.ref b5)])) _
      refine X86.baloadBytes hx (j := (3 : Int32)) (v := (.int ((r8_arr dv (r8_arr av (up zI 0 (av.toInt8.toInt32)) 1) 0) 3))) (by rw [e86]; exact Arcl90.1) (State.isArrayOf_alike hZ.alike Arcl90.2.1) Arcl90.2.2 hincl90 hatcl90 (g := (mkF m 175 #[.val (.int fl), .val (.int av), .val (.long bv), .second, .val (.int dv), .val (.ref b1), .val (.int (2 : Int32)), .val (.ref b5), .val (.ref b5), .val (.ref b5)] [(.int (3 : Int32)), (.ref b5)])) rfl rfl (hb hby at_175) _ ?_
      show Steps p.tables e below (T86.setTop (mkF m 176 #[.val (.int fl), .val (.int av), .val (.long bv), .second, .val (.int dv), .val (.ref b1), .val (.int (2 : Int32)), .val (.ref b5), .val (.ref b5), .val (.ref b5)] [(.int ((r8_arr dv (r8_arr av (up zI 0 (av.toInt8.toInt32)) 1) 0) 3))])) _
      refine XS.iload X86.here hx rfl (hb hby at_176) rfl ?_
      show Steps p.tables e below (T86.setTop (mkF m 178 #[.val (.int fl), .val (.int av), .val (.long bv), .second, .val (.int dv), .val (.ref b1), .val (.int (2 : Int32)), .val (.ref b5), .val (.ref b5), .val (.ref b5)] [(.int dv), (.int ((r8_arr dv (r8_arr av (up zI 0 (av.toInt8.toInt32)) 1) 0) 3))])) _
      refine XS.i2b X86.here hx rfl (hb hby at_178) rfl ?_
      show Steps p.tables e below (T86.setTop (mkF m 179 #[.val (.int fl), .val (.int av), .val (.long bv), .second, .val (.int dv), .val (.ref b1), .val (.int (2 : Int32)), .val (.ref b5), .val (.ref b5), .val (.ref b5)] [(.int (dv.toInt8.toInt32)), (.int ((r8_arr dv (r8_arr av (up zI 0 (av.toInt8.toInt32)) 1) 0) 3))])) _
      refine XS.icmpNo X86.here hx rfl (hb hby at_179) rfl (teq (rfl : (((r8_arr dv (r8_arr av (up zI 0 (av.toInt8.toInt32)) 1) 0) 3) = (dv.toInt8.toInt32)))).2 ?_
      show Steps p.tables e below (T86.setTop (mkF m 182 #[.val (.int fl), .val (.int av), .val (.long bv), .second, .val (.int dv), .val (.ref b1), .val (.int (2 : Int32)), .val (.ref b5), .val (.ref b5), .val (.ref b5)] [])) _
      refine XS.iconst X86.here hx rfl (hb hby at_182) ?_
      show Steps p.tables e below (T86.setTop (mkF m 183 #[.val (.int fl), .val (.int av), .val (.long bv), .second, .val (.int dv), .val (.ref b1), .val (.int (2 : Int32)), .val (.ref b5), .val (.ref b5), .val (.ref b5)] [(.int (1 : Int32))])) _
      refine XS.goto X86.here hx rfl (pc0 := 183) (pc' := 187) rfl (hb hby at_183) (by decide) (by decide) ?_
      show Steps p.tables e below (T86.setTop (mkF m 187 #[.val (.int fl), .val (.int av), .val (.long bv), .second, .val (.int dv), .val (.ref b1), .val (.int (2 : Int32)), .val (.ref b5), .val (.ref b5), .val (.ref b5)] [(.int (1 : Int32))])) _
      exact retN X86 hx (t := .boolean) Bd.returns (by simp) (hb hby at_187) hr
    · show Q0 Z fl av bv dv h0 n0 _ T86.heap _
      rw [e86]
      exact ⟨rfl, N86⟩
  · have pre91 : ∀ t, Steps p.tables e below (T4.setTop (mkF m 12 #[.val (.int fl), .val (.int av), .val (.long bv), .second, .val (.int dv), .val (.ref b1), .unset, .unset, .unset, .unset] [(.int (3 : Int32))])) t → Steps p.tables e below (s₁.setTop (entryFrame m #[(.int fl), (.int av), (.long bv), (.int dv)] maxLocals)) t := by
      intro t k
      refine pre11 _ ?_
      rw [hk12]
      exact k
    obtain ⟨cq92, kq92, q92a, q92b, q92c⟩ := isOf hZ rfl f10
    obtain ⟨_, _, ⟨T92, L92, k92, n92⟩, -, X92, ⟨Lc92, hQ92, l92, y92, z92⟩, st92⟩ := X4.virtualBack hx (y := (⟨"com/example/lockstep/lockstep/store/RecordBuffer", "writeByte", "(I)V"⟩ : MethodName)) (z := (⟨"com/example/lockstep/lockstep/store/RecordBuffer", "writeByte", "(I)V"⟩ : MethodName)) hown (mvT hZ (hw _ (List.mem_of_getElem? (i := 44) rfl))) (mvT hZ (hw _ (List.mem_of_getElem? (i := 45) rfl))) (notFace_of_selects (args := #[]) (mvT hZ (hw _ (List.mem_of_getElem? (i := 47) rfl)))) (mvT hZ (hw _ (List.mem_of_getElem? (i := 47) rfl))) (mvT hZ (hw _ (List.mem_of_getElem? (i := 46) rfl))) (by decide) (backOf (W := 0) (rm9 l Z a0 hw [] b1 av b5 zI (0 : Int32) 0 T4.heap n0 Z4 f6 f8 f7 f10 ne9 (rfl) (by decide) gg1 ggb5) hZ (hw _ (List.mem_of_getElem? (i := 48) rfl)) (hw _ (List.mem_of_getElem? (i := 2) rfl)) (by decide) (by decide)) q92a q92c (g := (mkF m 23 #[.val (.int fl), .val (.int av), .val (.long bv), .second, .val (.int dv), .val (.ref b1), .val (.int (3 : Int32)), .unset, .unset, .unset] [(.int av), (.ref b1)])) rfl (by rw [hml]; rfl) (Steps.refl _) (argsL := [(.int av)]) (rest := []) (lenOf pd_0 rfl) rfl (by show 2 * 0 + _ ≤ _; exact Nat.le_of_eq rfl) (hb hby at_23) (fun _ _ => ⟨rfl, rfl, (by decide : 2 + 0 ≤ _), (by decide : 258 + 0 ≤ _)⟩)
    dsimp only [Pt.U, Pt.locs, Pt.cells, Pt.slots] at X92 l92 y92 z92 st92 hQ92
    subst l92 y92 z92
    obtain ⟨rfl, N92q, K92c, f93, f94, f95⟩ := hQ92
    have N92 := Fr.app N4 N92q
    have f96 : Exa Z T92.heap b1 "com/example/lockstep/lockstep/store/RecordBuffer" := f10.keep K92c
    have Z92 : n0 ≤ T92.heap.size := Nat.le_trans Z4 K92c.1
    obtain ⟨cq97, kq97, q97a, q97b, q97c⟩ := isOf hZ rfl f96
    obtain ⟨_, _, ⟨T97, L97, k97, n97⟩, -, X97, ⟨Lc97, hQ97, l97, y97, z97⟩, st97⟩ := X92.virtualBack hx (y := (⟨"com/example/lockstep/lockstep/store/RecordBuffer", "writeInt", "(I)V"⟩ : MethodName)) (z := (⟨"com/example/lockstep/lockstep/store/RecordBuffer", "writeInt", "(I)V"⟩ : MethodName)) hown (mvT hZ (hw _ (List.mem_of_getElem? (i := 30) rfl))) (mvT hZ (hw _ (List.mem_of_getElem? (i := 31) rfl))) (notFace_of_selects (args := #[]) (mvT hZ (hw _ (List.mem_of_getElem? (i := 33) rfl)))) (mvT hZ (hw _ (List.mem_of_getElem? (i := 33) rfl))) (mvT hZ (hw _ (List.mem_of_getElem? (i := 32) rfl))) (by decide) (backOf (W := 0) (rm6 l Z a0 hw [] b1 av b5 (up zI 0 (av.toInt8.toInt32)) ((0 : Int32) + (1 : Int32)) 1 T92.heap n0 Z92 f93 f94 f95 f96 ne9 (rfl) (by decide) ggb5 gg1) hZ (hw _ (List.mem_of_getElem? (i := 34) rfl)) (hw _ (List.mem_of_getElem? (i := 2) rfl)) (by decide) (by decide)) q97a q97c (g := (mkF m 35 #[.val (.int fl), .val (.int av), .val (.long bv), .second, .val (.int dv), .val (.ref b1), .val (.int (3 : Int32)), .unset, .unset, .unset] [(.int av), (.ref b1)])) rfl (by rw [hml]; rfl) (Steps.refl _) (argsL := [(.int av)]) (rest := []) (lenOf pd_0 rfl) rfl (by show 2 * 0 + _ ≤ _; exact Nat.le_of_eq rfl) (hb hby at_35) (fun _ _ => ⟨rfl, rfl, (by decide : 2 + 0 ≤ _), (by decide : 258 + 0 ≤ _)⟩)
    dsimp only [Pt.U, Pt.locs, Pt.cells, Pt.slots] at X97 l97 y97 z97 st97 hQ97
    subst l97 y97 z97
    obtain ⟨rfl, N97q, K97c, f98, f99, f100⟩ := hQ97
    have N97 := Fr.app N92 N97q
    have f101 : Exa Z T97.heap b1 "com/example/lockstep/lockstep/store/RecordBuffer" := f96.keep K97c
    have Z97 : n0 ≤ T97.heap.size := Nat.le_trans Z92 K97c.1
    obtain ⟨cq102, kq102, q102a, q102b, q102c⟩ := isOf hZ rfl f101
    obtain ⟨_, _, ⟨T102, L102, k102, n102⟩, -, X102, ⟨Lc102, hQ102, l102, y102, z102⟩, st102⟩ := X97.virtualBack hx (y := (⟨"com/example/lockstep/lockstep/store/RecordBuffer", "writeLong", "(J)V"⟩ : MethodName)) (z := (⟨"com/example/lockstep/lockstep/store/RecordBuffer", "writeLong", "(J)V"⟩ : MethodName)) hown (mvT hZ (hw _ (List.mem_of_getElem? (i := 49) rfl))) (mvT hZ (hw _ (List.mem_of_getElem? (i := 50) rfl))) (notFace_of_selects (args := #[]) (mvT hZ (hw _ (List.mem_of_getElem? (i := 52) rfl)))) (mvT hZ (hw _ (List.mem_of_getElem? (i := 52) rfl))) (mvT hZ (hw _ (List.mem_of_getElem? (i := 51) rfl))) (by decide) (backOf (W := 0) (rm10 l Z a0 hw [] b1 bv b5 (r8_arr av (up zI 0 (av.toInt8.toInt32)) 1) (((0 : Int32) + (1 : Int32)) + (4 : Int32)) 5 T97.heap n0 Z97 f98 f100 f99 f101 ne9 (rfl) (by decide) ggb5 gg1) hZ (hw _ (List.mem_of_getElem? (i := 53) rfl)) (hw _ (List.mem_of_getElem? (i := 2) rfl)) (by decide) (by decide)) q102a q102c (g := (mkF m 47 #[.val (.int fl), .val (.int av), .val (.long bv), .second, .val (.int dv), .val (.ref b1), .val (.int (3 : Int32)), .unset, .unset, .unset] [(.long bv), (.ref b1)])) rfl (by rw [hml]; rfl) (Steps.refl _) (argsL := [(.long bv)]) (rest := []) (lenOf pd_5 rfl) rfl (by show 2 * 0 + _ ≤ _; exact Nat.le_of_eq rfl) (hb hby at_47) (fun _ _ => ⟨rfl, rfl, (by decide : 2 + 0 ≤ _), (by decide : 258 + 0 ≤ _)⟩)
    dsimp only [Pt.U, Pt.locs, Pt.cells, Pt.slots] at X102 l102 y102 z102 st102 hQ102
    subst l102 y102 z102
    obtain ⟨rfl, N102q, K102c, f103, f104, f105⟩ := hQ102
    have N102 := Fr.app N97 N102q
    have f106 : Exa Z T102.heap b1 "com/example/lockstep/lockstep/store/RecordBuffer" := f101.keep K102c
    have Z102 : n0 ≤ T102.heap.size := Nat.le_trans Z97 K102c.1
    obtain ⟨cq107, kq107, q107a, q107b, q107c⟩ := isOf hZ rfl f106
    obtain ⟨_, _, ⟨T107, L107, k107, n107⟩, -, X107, ⟨Lc107, hQ107, l107, y107, z107⟩, st107⟩ := X102.virtualBack hx (y := (⟨"com/example/lockstep/lockstep/store/RecordBuffer", "bytes", "()[B"⟩ : MethodName)) (z := (⟨"com/example/lockstep/lockstep/store/RecordBuffer", "bytes", "()[B"⟩ : MethodName)) hown (mvT hZ (hw _ (List.mem_of_getElem? (i := 12) rfl))) (mvT hZ (hw _ (List.mem_of_getElem? (i := 13) rfl))) (notFace_of_selects (args := #[]) (mvT hZ (hw _ (List.mem_of_getElem? (i := 15) rfl)))) (mvT hZ (hw _ (List.mem_of_getElem? (i := 15) rfl))) (mvT hZ (hw _ (List.mem_of_getElem? (i := 14) rfl))) (by decide) (backOf (W := 0) (rm3 l Z a0 hw [] b1 b5 T102.heap n0 Z102 f103) hZ (hw _ (List.mem_of_getElem? (i := 16) rfl)) (hw _ (List.mem_of_getElem? (i := 2) rfl)) (by decide) (by decide)) q107a q107c (g := (mkF m 52 #[.val (.int fl), .val (.int av), .val (.long bv), .second, .val (.int dv), .val (.ref b1), .val (.int (3 : Int32)), .unset, .unset, .unset] [(.ref b1)])) rfl (by rw [hml]; rfl) (Steps.refl _) (argsL := []) (rest := []) (lenOf pd_3 rfl) rfl (by show 2 * 0 + _ ≤ _; exact Nat.le_of_eq rfl) (hb hby at_52) (fun _ _ => ⟨rfl, rfl, (by decide : 2 + 0 ≤ _), (by decide : 258 + 0 ≤ _)⟩)
    dsimp only [Pt.U, Pt.locs, Pt.cells, Pt.slots] at X107 l107 y107 z107 st107 hQ107
    subst l107 y107 z107
    obtain ⟨rfl, N107q, e107⟩ := hQ107
    have N107 := Fr.app N102 N107q
    obtain ⟨cq108, kq108, q108a, q108b, q108c⟩ := isOf hZ e107 f106
    obtain ⟨_, _, ⟨T108, L108, k108, n108⟩, -, X108, ⟨Lc108, hQ108, l108, y108, z108⟩, st108⟩ := X107.virtualBack hx (y := (⟨"com/example/lockstep/lockstep/store/RecordBuffer", "clear", "()V"⟩ : MethodName)) (z := (⟨"com/example/lockstep/lockstep/store/RecordBuffer", "clear", "()V"⟩ : MethodName)) hown (mvT hZ (hw _ (List.mem_of_getElem? (i := 17) rfl))) (mvT hZ (hw _ (List.mem_of_getElem? (i := 18) rfl))) (notFace_of_selects (args := #[]) (mvT hZ (hw _ (List.mem_of_getElem? (i := 20) rfl)))) (mvT hZ (hw _ (List.mem_of_getElem? (i := 20) rfl))) (mvT hZ (hw _ (List.mem_of_getElem? (i := 19) rfl))) (by decide) (backOf (W := 0) (rm4 l Z a0 hw [] b1 b5 (r8_arr (bv.toInt32) (r8_arr (((bv.toUInt64 >>> ((32 : Int32) &&& 0x3f).toInt64.toUInt64).toInt64).toInt32) (r8_arr av (up zI 0 (av.toInt8.toInt32)) 1) 5) (5 + 4)) (((((0 : Int32) + (1 : Int32)) + (4 : Int32)) + (4 : Int32)) + (4 : Int32)) T102.heap n0 Z102 f103 f105 f104 f106 ne9 gg1) hZ (hw _ (List.mem_of_getElem? (i := 21) rfl)) (hw _ (List.mem_of_getElem? (i := 2) rfl)) (by decide) (by decide)) q108a q108c (g := (mkF m 59 #[.val (.int fl), .val (.int av), .val (.long bv), .second, .val (.int dv), .val (.ref b1), .val (.int (3 : Int32)), .val (.ref b5), .unset, .unset] [(.ref b1)])) rfl (by rw [hml]; rfl) (Steps.refl _) (argsL := []) (rest := []) (lenOf pd_2 rfl) rfl (by show 2 * 0 + _ ≤ _; exact Nat.le_of_eq rfl) (hb hby at_59) (fun _ _ => ⟨rfl, e107, (by decide : 2 + 0 ≤ _), (by decide : 258 + 0 ≤ _)⟩)
    dsimp only [Pt.U, Pt.locs, Pt.cells, Pt.slots] at X108 l108 y108 z108 st108 hQ108
    subst l108 y108 z108
    obtain ⟨rfl, N108q, K108c, f109, f110⟩ := hQ108
    have N108 := Fr.app N107 N108q
    have f111 : Exa Z T108.heap b1 "com/example/lockstep/lockstep/store/RecordBuffer" := f106.keep K108c
    have f112 : AI Z T108.heap b5 .byte 256 (r8_arr (bv.toInt32) (r8_arr (((bv.toUInt64 >>> ((32 : Int32) &&& 0x3f).toInt64.toUInt64).toInt64).toInt32) (r8_arr av (up zI 0 (av.toInt8.toInt32)) 1) 5) (5 + 4)) := f105.keep K108c (ninS (Ne.symm ne9) nin0)
    have Z108 : n0 ≤ T108.heap.size := Nat.le_trans Z102 K108c.1
    obtain ⟨cq113, kq113, q113a, q113b, q113c⟩ := isOf hZ rfl f111
    obtain ⟨_, _, ⟨T113, L113, k113, n113⟩, -, X113, ⟨Lc113, hQ113, l113, y113, z113⟩, st113⟩ := X108.virtualBack hx (y := (⟨"com/example/lockstep/lockstep/store/RecordBuffer", "size", "()I"⟩ : MethodName)) (z := (⟨"com/example/lockstep/lockstep/store/RecordBuffer", "size", "()I"⟩ : MethodName)) hown (mvT hZ (hw _ (List.mem_of_getElem? (i := 25) rfl))) (mvT hZ (hw _ (List.mem_of_getElem? (i := 26) rfl))) (notFace_of_selects (args := #[]) (mvT hZ (hw _ (List.mem_of_getElem? (i := 28) rfl)))) (mvT hZ (hw _ (List.mem_of_getElem? (i := 28) rfl))) (mvT hZ (hw _ (List.mem_of_getElem? (i := 27) rfl))) (by decide) (backOf (W := 0) (rm5 l Z a0 hw [] b1 (0 : Int32) T108.heap n0 Z108 f110) hZ (hw _ (List.mem_of_getElem? (i := 29) rfl)) (hw _ (List.mem_of_getElem? (i := 2) rfl)) (by decide) (by decide)) q113a q113c (g := (mkF m 64 #[.val (.int fl), .val (.int av), .val (.long bv), .second, .val (.int dv), .val (.ref b1), .val (.int (3 : Int32)), .val (.ref b5), .unset, .unset] [(.ref b1)])) rfl (by rw [hml]; rfl) (Steps.refl _) (argsL := []) (rest := []) (lenOf pd_4 rfl) rfl (by show 2 * 0 + _ ≤ _; exact Nat.le_of_eq rfl) (hb hby at_64) (fun _ _ => ⟨rfl, rfl, (by decide : 2 + 0 ≤ _), (by decide : 258 + 0 ≤ _)⟩)
    dsimp only [Pt.U, Pt.locs, Pt.cells, Pt.slots] at X113 l113 y113 z113 st113 hQ113
    subst l113 y113 z113
    obtain ⟨rfl, N113q, e113⟩ := hQ113
    have N113 := Fr.app N108 N113q
    obtain ⟨cq114, kq114, q114a, q114b, q114c⟩ := isOf hZ e113 f111
    obtain ⟨_, _, ⟨T114, L114, k114, n114⟩, -, X114, ⟨Lc114, hQ114, l114, y114, z114⟩, st114⟩ := X113.virtualBack hx (y := (⟨"com/example/lockstep/lockstep/store/RecordBuffer", "bytes", "()[B"⟩ : MethodName)) (z := (⟨"com/example/lockstep/lockstep/store/RecordBuffer", "bytes", "()[B"⟩ : MethodName)) hown (mvT hZ (hw _ (List.mem_of_getElem? (i := 12) rfl))) (mvT hZ (hw _ (List.mem_of_getElem? (i := 13) rfl))) (notFace_of_selects (args := #[]) (mvT hZ (hw _ (List.mem_of_getElem? (i := 15) rfl)))) (mvT hZ (hw _ (List.mem_of_getElem? (i := 15) rfl))) (mvT hZ (hw _ (List.mem_of_getElem? (i := 14) rfl))) (by decide) (backOf (W := 0) (rm3 l Z a0 hw [] b1 b5 T108.heap n0 Z108 f109) hZ (hw _ (List.mem_of_getElem? (i := 16) rfl)) (hw _ (List.mem_of_getElem? (i := 2) rfl)) (by decide) (by decide)) q114a q114c (g := (mkF m 74 #[.val (.int fl), .val (.int av), .val (.long bv), .second, .val (.int dv), .val (.ref b1), .val (.int (3 : Int32)), .val (.ref b5), .unset, .unset] [(.ref b1)])) rfl (by rw [hml]; rfl) (Steps.refl _) (argsL := []) (rest := []) (lenOf pd_3 rfl) rfl (by show 2 * 0 + _ ≤ _; exact Nat.le_of_eq rfl) (hb hby at_74) (fun _ _ => ⟨rfl, e113, (by decide : 2 + 0 ≤ _), (by decide : 258 + 0 ≤ _)⟩)
    dsimp only [Pt.U, Pt.locs, Pt.cells, Pt.slots] at X114 l114 y114 z114 st114 hQ114
    subst l114 y114 z114
    obtain ⟨rfl, N114q, e114⟩ := hQ114
    have N114 := Fr.app N113 N114q
    obtain ⟨cl115, Arcl115, Szcl115⟩ := AF.len f112
    obtain ⟨cq116, kq116, q116a, q116b, q116c⟩ := isOf hZ e114 f111
    obtain ⟨_, _, ⟨T116, L116, k116, n116⟩, -, X116, ⟨Lc116, hQ116, l116, y116, z116⟩, st116⟩ := X114.virtualBack hx (y := (⟨"com/example/lockstep/lockstep/store/RecordBuffer", "writeInt", "(I)V"⟩ : MethodName)) (z := (⟨"com/example/lockstep/lockstep/store/RecordBuffer", "writeInt", "(I)V"⟩ : MethodName)) hown (mvT hZ (hw _ (List.mem_of_getElem? (i := 30) rfl))) (mvT hZ (hw _ (List.mem_of_getElem? (i := 31) rfl))) (notFace_of_selects (args := #[]) (mvT hZ (hw _ (List.mem_of_getElem? (i := 33) rfl)))) (mvT hZ (hw _ (List.mem_of_getElem? (i := 33) rfl))) (mvT hZ (hw _ (List.mem_of_getElem? (i := 32) rfl))) (by decide) (backOf (W := 0) (rm6 l Z a0 hw [] b1 dv b5 (r8_arr (bv.toInt32) (r8_arr (((bv.toUInt64 >>> ((32 : Int32) &&& 0x3f).toInt64.toUInt64).toInt64).toInt32) (r8_arr av (up zI 0 (av.toInt8.toInt32)) 1) 5) (5 + 4)) (0 : Int32) 0 T108.heap n0 Z108 f109 f112 f110 f111 ne9 (rfl) (by decide) ggb5 gg1) hZ (hw _ (List.mem_of_getElem? (i := 34) rfl)) (hw _ (List.mem_of_getElem? (i := 2) rfl)) (by decide) (by decide)) q116a q116c (g := (mkF m 103 #[.val (.int fl), .val (.int av), .val (.long bv), .second, .val (.int dv), .val (.ref b1), .val (.int (3 : Int32)), .val (.ref b5), .val (.ref b5), .unset] [(.int dv), (.ref b1)])) rfl (by rw [hml]; rfl) (Steps.refl _) (argsL := [(.int dv)]) (rest := []) (lenOf pd_0 rfl) rfl (by show 2 * 0 + _ ≤ _; exact Nat.le_of_eq rfl) (hb hby at_103) (fun _ _ => ⟨rfl, e114, (by decide : 2 + 0 ≤ _), (by decide : 258 + 0 ≤ _)⟩)
    dsimp only [Pt.U, Pt.locs, Pt.cells, Pt.slots] at X116 l116 y116 z116 st116 hQ116
    subst l116 y116 z116
    obtain ⟨rfl, N116q, K116c, f117, f118, f119⟩ := hQ116
    have N116 := Fr.app N114 N116q
    have f120 : Exa Z T116.heap b1 "com/example/lockstep/lockstep/store/RecordBuffer" := f111.keep K116c
    have Z116 : n0 ≤ T116.heap.size := Nat.le_trans Z108 K116c.1
    obtain ⟨cq121, kq121, q121a, q121b, q121c⟩ := isOf hZ rfl f120
    obtain ⟨_, _, ⟨T121, L121, k121, n121⟩, -, X121, ⟨Lc121, hQ121, l121, y121, z121⟩, st121⟩ := X116.virtualBack hx (y := (⟨"com/example/lockstep/lockstep/store/RecordBuffer", "size", "()I"⟩ : MethodName)) (z := (⟨"com/example/lockstep/lockstep/store/RecordBuffer", "size", "()I"⟩ : MethodName)) hown (mvT hZ (hw _ (List.mem_of_getElem? (i := 25) rfl))) (mvT hZ (hw _ (List.mem_of_getElem? (i := 26) rfl))) (notFace_of_selects (args := #[]) (mvT hZ (hw _ (List.mem_of_getElem? (i := 28) rfl)))) (mvT hZ (hw _ (List.mem_of_getElem? (i := 28) rfl))) (mvT hZ (hw _ (List.mem_of_getElem? (i := 27) rfl))) (by decide) (backOf (W := 0) (rm5 l Z a0 hw [] b1 ((0 : Int32) + (4 : Int32)) T116.heap n0 Z116 f118) hZ (hw _ (List.mem_of_getElem? (i := 29) rfl)) (hw _ (List.mem_of_getElem? (i := 2) rfl)) (by decide) (by decide)) q121a q121c (g := (mkF m 108 #[.val (.int fl), .val (.int av), .val (.long bv), .second, .val (.int dv), .val (.ref b1), .val (.int (3 : Int32)), .val (.ref b5), .val (.ref b5), .unset] [(.ref b1)])) rfl (by rw [hml]; rfl) (Steps.refl _) (argsL := []) (rest := []) (lenOf pd_4 rfl) rfl (by show 2 * 0 + _ ≤ _; exact Nat.le_of_eq rfl) (hb hby at_108) (fun _ _ => ⟨rfl, rfl, (by decide : 2 + 0 ≤ _), (by decide : 258 + 0 ≤ _)⟩)
    dsimp only [Pt.U, Pt.locs, Pt.cells, Pt.slots] at X121 l121 y121 z121 st121 hQ121
    subst l121 y121 z121
    obtain ⟨rfl, N121q, e121⟩ := hQ121
    have N121 := Fr.app N116 N121q
    obtain ⟨cq122, kq122, q122a, q122b, q122c⟩ := isOf hZ e121 f120
    obtain ⟨_, _, ⟨T122, L122, k122, n122⟩, -, X122, ⟨Lc122, hQ122, l122, y122, z122⟩, st122⟩ := X121.virtualBack hx (y := (⟨"com/example/lockstep/lockstep/store/RecordBuffer", "bytes", "()[B"⟩ : MethodName)) (z := (⟨"com/example/lockstep/lockstep/store/RecordBuffer", "bytes", "()[B"⟩ : MethodName)) hown (mvT hZ (hw _ (List.mem_of_getElem? (i := 12) rfl))) (mvT hZ (hw _ (List.mem_of_getElem? (i := 13) rfl))) (notFace_of_selects (args := #[]) (mvT hZ (hw _ (List.mem_of_getElem? (i := 15) rfl)))) (mvT hZ (hw _ (List.mem_of_getElem? (i := 15) rfl))) (mvT hZ (hw _ (List.mem_of_getElem? (i := 14) rfl))) (by decide) (backOf (W := 0) (rm3 l Z a0 hw [] b1 b5 T116.heap n0 Z116 f117) hZ (hw _ (List.mem_of_getElem? (i := 16) rfl)) (hw _ (List.mem_of_getElem? (i := 2) rfl)) (by decide) (by decide)) q122a q122c (g := (mkF m 119 #[.val (.int fl), .val (.int av), .val (.long bv), .second, .val (.int dv), .val (.ref b1), .val (.int (3 : Int32)), .val (.ref b5), .val (.ref b5), .unset] [(.ref b1)])) rfl (by rw [hml]; rfl) (Steps.refl _) (argsL := []) (rest := []) (lenOf pd_3 rfl) rfl (by show 2 * 0 + _ ≤ _; exact Nat.le_of_eq rfl) (hb hby at_119) (fun _ _ => ⟨rfl, e121, (by decide : 2 + 0 ≤ _), (by decide : 258 + 0 ≤ _)⟩)
    dsimp only [Pt.U, Pt.locs, Pt.cells, Pt.slots] at X122 l122 y122 z122 st122 hQ122
    subst l122 y122 z122
    obtain ⟨rfl, N122q, e122⟩ := hQ122
    have N122 := Fr.app N121 N122q
    obtain ⟨cl123, Arcl123, hincl123, hatcl123⟩ := AF.at f119 (j := (0 : Int32)) 0 (by decide) (by decide)
    obtain ⟨cl124, Arcl124, hincl124, hatcl124⟩ := AF.at f119 (j := (1 : Int32)) 1 (by decide) (by decide)
    obtain ⟨cl125, Arcl125, hincl125, hatcl125⟩ := AF.at f119 (j := (2 : Int32)) 2 (by decide) (by decide)
    obtain ⟨cl126, Arcl126, hincl126, hatcl126⟩ := AF.at f119 (j := (3 : Int32)) 3 (by decide) (by decide)
    obtain ⟨fs, hr, hrun, hended, hW, hsame⟩ := X122.leave (v := some (.int (1 : Int32))) (fun h => by rw [Bd.returns] at h; cases h)
    refine ⟨_, _, pre91 _ ?_, hrun, hended, _, _, rfl, ?_, ⟨_, rfl⟩, hW, hsame.mono (by decide) (by decide)⟩
    · show Steps p.tables e below (T4.setTop (mkF m 12 #[.val (.int fl), .val (.int av), .val (.long bv), .second, .val (.int dv), .val (.ref b1), .unset, .unset, .unset, .unset] [(.int (3 : Int32))])) _
      refine XS.istore X4.here hx rfl (hb hby at_12) rfl (l' := #[.val (.int fl), .val (.int av), .val (.long bv), .second, .val (.int dv), .val (.ref b1), .val (.int (3 : Int32)), .unset, .unset, .unset]) rfl ?_
      show Steps p.tables e below (T4.setTop (mkF m 14 #[.val (.int fl), .val (.int av), .val (.long bv), .second, .val (.int dv), .val (.ref b1), .val (.int (3 : Int32)), .unset, .unset, .unset] [])) _
      refine XS.iload X4.here hx rfl (hb hby at_14) rfl ?_
      show Steps p.tables e below (T4.setTop (mkF m 16 #[.val (.int fl), .val (.int av), .val (.long bv), .second, .val (.int dv), .val (.ref b1), .val (.int (3 : Int32)), .unset, .unset, .unset] [(.int (3 : Int32))])) _
      refine XS.iconst X4.here hx rfl (hb hby at_16) ?_
      show Steps p.tables e below (T4.setTop (mkF m 17 #[.val (.int fl), .val (.int av), .val (.long bv), .second, .val (.int dv), .val (.ref b1), .val (.int (3 : Int32)), .unset, .unset, .unset] [(.int (1 : Int32)), (.int (3 : Int32))])) _
      refine XS.icmpNo X4.here hx rfl (hb hby at_17) rfl (flt (by decide : ¬ ((3 : Int32) < (1 : Int32)))).1 ?_
      show Steps p.tables e below (T4.setTop (mkF m 20 #[.val (.int fl), .val (.int av), .val (.long bv), .second, .val (.int dv), .val (.ref b1), .val (.int (3 : Int32)), .unset, .unset, .unset] [])) _
      refine XS.aload X4.here hx rfl (hb hby at_20) rfl rfl ?_
      show Steps p.tables e below (T4.setTop (mkF m 22 #[.val (.int fl), .val (.int av), .val (.long bv), .second, .val (.int dv), .val (.ref b1), .val (.int (3 : Int32)), .unset, .unset, .unset] [(.ref b1)])) _
      refine XS.iloadN X4.here hx rfl (hb hby at_22) rfl ?_
      show Steps p.tables e below (T4.setTop (mkF m 23 #[.val (.int fl), .val (.int av), .val (.long bv), .second, .val (.int dv), .val (.ref b1), .val (.int (3 : Int32)), .unset, .unset, .unset] [(.int av), (.ref b1)])) _
      refine st92.trans ?_
      show Steps p.tables e below (T92.setTop (mkF m 26 #[.val (.int fl), .val (.int av), .val (.long bv), .second, .val (.int dv), .val (.ref b1), .val (.int (3 : Int32)), .unset, .unset, .unset] [])) _
      refine XS.iload X92.here hx rfl (hb hby at_26) rfl ?_
      show Steps p.tables e below (T92.setTop (mkF m 28 #[.val (.int fl), .val (.int av), .val (.long bv), .second, .val (.int dv), .val (.ref b1), .val (.int (3 : Int32)), .unset, .unset, .unset] [(.int (3 : Int32))])) _
      refine XS.iconst X92.here hx rfl (hb hby at_28) ?_
      show Steps p.tables e below (T92.setTop (mkF m 29 #[.val (.int fl), .val (.int av), .val (.long bv), .second, .val (.int dv), .val (.ref b1), .val (.int (3 : Int32)), .unset, .unset, .unset] [(.int (2 : Int32)), (.int (3 : Int32))])) _
      refine XS.icmpNo X92.here hx rfl (hb hby at_29) rfl (flt (by decide : ¬ ((3 : Int32) < (2 : Int32)))).1 ?_
      show Steps p.tables e below (T92.setTop (mkF m 32 #[.val (.int fl), .val (.int av), .val (.long bv), .second, .val (.int dv), .val (.ref b1), .val (.int (3 : Int32)), .unset, .unset, .unset] [])) _
      refine XS.aload X92.here hx rfl (hb hby at_32) rfl rfl ?_
      show Steps p.tables e below (T92.setTop (mkF m 34 #[.val (.int fl), .val (.int av), .val (.long bv), .second, .val (.int dv), .val (.ref b1), .val (.int (3 : Int32)), .unset, .unset, .unset] [(.ref b1)])) _
      refine XS.iloadN X92.here hx rfl (hb hby at_34) rfl ?_
      show Steps p.tables e below (T92.setTop (mkF m 35 #[.val (.int fl), .val (.int av), .val (.long bv), .second, .val (.int dv), .val (.ref b1), .val (.int (3 : Int32)), .unset, .unset, .unset] [(.int av), (.ref b1)])) _
      refine st97.trans ?_
      show Steps p.tables e below (T97.setTop (mkF m 38 #[.val (.int fl), .val (.int av), .val (.long bv), .second, .val (.int dv), .val (.ref b1), .val (.int (3 : Int32)), .unset, .unset, .unset] [])) _
      refine XS.iload X97.here hx rfl (hb hby at_38) rfl ?_
      show Steps p.tables e below (T97.setTop (mkF m 40 #[.val (.int fl), .val (.int av), .val (.long bv), .second, .val (.int dv), .val (.ref b1), .val (.int (3 : Int32)), .unset, .unset, .unset] [(.int (3 : Int32))])) _
      refine XS.iconst X97.here hx rfl (hb hby at_40) ?_
      show Steps p.tables e below (T97.setTop (mkF m 41 #[.val (.int fl), .val (.int av), .val (.long bv), .second, .val (.int dv), .val (.ref b1), .val (.int (3 : Int32)), .unset, .unset, .unset] [(.int (3 : Int32)), (.int (3 : Int32))])) _
      refine XS.icmpNo X97.here hx rfl (hb hby at_41) rfl (flt (by decide : ¬ ((3 : Int32) < (3 : Int32)))).1 ?_
      show Steps p.tables e below (T97.setTop (mkF m 44 #[.val (.int fl), .val (.int av), .val (.long bv), .second, .val (.int dv), .val (.ref b1), .val (.int (3 : Int32)), .unset, .unset, .unset] [])) _
      refine XS.aload X97.here hx rfl (hb hby at_44) rfl rfl ?_
      show Steps p.tables e below (T97.setTop (mkF m 46 #[.val (.int fl), .val (.int av), .val (.long bv), .second, .val (.int dv), .val (.ref b1), .val (.int (3 : Int32)), .unset, .unset, .unset] [(.ref b1)])) _
      refine XS.lloadN X97.here hx rfl (hb hby at_46) rfl ?_
      show Steps p.tables e below (T97.setTop (mkF m 47 #[.val (.int fl), .val (.int av), .val (.long bv), .second, .val (.int dv), .val (.ref b1), .val (.int (3 : Int32)), .unset, .unset, .unset] [(.long bv), (.ref b1)])) _
      refine st102.trans ?_
      show Steps p.tables e below (T102.setTop (mkF m 50 #[.val (.int fl), .val (.int av), .val (.long bv), .second, .val (.int dv), .val (.ref b1), .val (.int (3 : Int32)), .unset, .unset, .unset] [])) _
      refine XS.aload X102.here hx rfl (hb hby at_50) rfl rfl ?_
      show Steps p.tables e below (T102.setTop (mkF m 52 #[.val (.int fl), .val (.int av), .val (.long bv), .second, .val (.int dv), .val (.ref b1), .val (.int (3 : Int32)), .unset, .unset, .unset] [(.ref b1)])) _
      refine st107.trans ?_
      show Steps p.tables e below (T107.setTop (mkF m 55 #[.val (.int fl), .val (.int av), .val (.long bv), .second, .val (.int dv), .val (.ref b1), .val (.int (3 : Int32)), .unset, .unset, .unset] [(.ref b5)])) _
      refine XS.astore X107.here hx rfl (hb hby at_55) rfl rfl (l' := #[.val (.int fl), .val (.int av), .val (.long bv), .second, .val (.int dv), .val (.ref b1), .val (.int (3 : Int32)), .val (.ref b5), .unset, .unset]) rfl ?_
      show Steps p.tables e below (T107.setTop (mkF m 57 #[.val (.int fl), .val (.int av), .val (.long bv), .second, .val (.int dv), .val (.ref b1), .val (.int (3 : Int32)), .val (.ref b5), .unset, .unset] [])) _
      refine XS.aload X107.here hx rfl (hb hby at_57) rfl rfl ?_
      show Steps p.tables e below (T107.setTop (mkF m 59 #[.val (.int fl), .val (.int av), .val (.long bv), .second, .val (.int dv), .val (.ref b1), .val (.int (3 : Int32)), .val (.ref b5), .unset, .unset] [(.ref b1)])) _
      refine st108.trans ?_
      show Steps p.tables e below (T108.setTop (mkF m 62 #[.val (.int fl), .val (.int av), .val (.long bv), .second, .val (.int dv), .val (.ref b1), .val (.int (3 : Int32)), .val (.ref b5), .unset, .unset] [])) _
      refine XS.aload X108.here hx rfl (hb hby at_62) rfl rfl ?_
      show Steps p.tables e below (T108.setTop (mkF m 64 #[.val (.int fl), .val (.int av), .val (.long bv), .second, .val (.int dv), .val (.ref b1), .val (.int (3 : Int32)), .val (.ref b5), .unset, .unset] [(.ref b1)])) _
      refine st113.trans ?_
      show Steps p.tables e below (T113.setTop (mkF m 67 #[.val (.int fl), .val (.int av), .val (.long bv), .second, .val (.int dv), .val (.ref b1), .val (.int (3 : Int32)), .val (.ref b5), .unset, .unset] [(.int (0 : Int32))])) _
      refine XS.ifYes X113.here hx rfl (pc0 := 67) (pc' := 72) rfl (hb hby at_67) rfl ((if0 _ _).trans (teq (by decide : ((0 : Int32) = (0 : Int32)))).1) (by decide) (by decide) ?_
      show Steps p.tables e below (T113.setTop (mkF m 72 #[.val (.int fl), .val (.int av), .val (.long bv), .second, .val (.int dv), .val (.ref b1), .val (.int (3 : Int32)), .val (.ref b5), .unset, .unset] [])) _
      refine XS.aload X113.here hx rfl (hb hby at_72) rfl rfl ?_
      show Steps p.tables e below (T113.setTop (mkF m 74 #[.val (.int fl), .val (.int av), .val (.long bv), .second, .val (.int dv), .val (.ref b1), .val (.int (3 : Int32)), .val (.ref b5), .unset, .unset] [(.ref b1)])) _
      refine st114.trans ?_
      show Steps p.tables e below (T114.setTop (mkF m 77 #[.val (.int fl), .val (.int av), .val (.long bv), .second, .val (.int dv), .val (.ref b1), .val (.int (3 : Int32)), .val (.ref b5), .unset, .unset] [(.ref b5)])) _
      refine XS.astore X114.here hx rfl (hb hby at_77) rfl rfl (l' := #[.val (.int fl), .val (.int av), .val (.long bv), .second, .val (.int dv), .val (.ref b1), .val (.int (3 : Int32)), .val (.ref b5), .val (.ref b5), .unset]) rfl ?_
      show Steps p.tables e below (T114.setTop (mkF m 79 #[.val (.int fl), .val (.int av), .val (.long bv), .second, .val (.int dv), .val (.ref b1), .val (.int (3 : Int32)), .val (.ref b5), .val (.ref b5), .unset] [])) _
      refine XS.aload X114.here hx rfl (hb hby at_79) rfl rfl ?_
      show Steps p.tables e below (T114.setTop (mkF m 81 #[.val (.int fl), .val (.int av), .val (.long bv), .second, .val (.int dv), .val (.ref b1), .val (.int (3 : Int32)), .val (.ref b5), .val (.ref b5), .unset] [(.ref b5)])) _
      refine XS.aload X114.here hx rfl (hb hby at_81) rfl rfl ?_
      show Steps p.tables e below (T114.setTop (mkF m 83 #[.val (.int fl), .val (.int av), .val (.long bv), .second, .val (.int dv), .val (.ref b1), .val (.int (3 : Int32)), .val (.ref b5), .val (.ref b5), .unset] [(.ref b5), (.ref b5)])) _
      refine Jvm.RoadKit.acmp (g := (mkF m 83 #[.val (.int fl), .val (.int av), .val (.long bv), .second, .val (.int dv), .val (.ref b1), .val (.int (3 : Int32)), .val (.ref b5), .val (.ref b5), .unset] [(.ref b5), (.ref b5)])) X114 hx rfl rfl rfl (pc0 := 83) (pc' := 88) (same := true) rfl (hb hby at_83) rfl (decide_eq_true rfl) (by decide) (by decide) ?_
      show Steps p.tables e below (T114.setTop (mkF m 88 #[.val (.int fl), .val (.int av), .val (.long bv), .second, .val (.int dv), .val (.ref b1), .val (.int (3 : Int32)), .val (.ref b5), .val (.ref b5), .unset] [])) _
      refine XS.aload X114.here hx rfl (hb hby at_88) rfl rfl ?_
      show Steps p.tables e below (T114.setTop (mkF m 90 #[.val (.int fl), .val (.int av), .val (.long bv), .second, .val (.int dv), .val (.ref b1), .val (.int (3 : Int32)), .val (.ref b5), .val (.ref b5), .unset] [(.ref b5)])) _
      refine X114.arraylength hx (by rw [e114]; exact Arcl115.1) (State.isArrayOf_alike hZ.alike Arcl115.2.1) (g := (mkF m 90 #[.val (.int fl), .val (.int av), .val (.long bv), .second, .val (.int dv), .val (.ref b1), .val (.int (3 : Int32)), .val (.ref b5), .val (.ref b5), .unset] [(.ref b5)])) rfl rfl (hb hby at_90) _ ?_
      rw [Szcl115]
      show Steps p.tables e below (T114.setTop (mkF m 91 #[.val (.int fl), .val (.int av), .val (.long bv), .second, .val (.int dv), .val (.ref b1), .val (.int (3 : Int32)), .val (.ref b5), .val (.ref b5), .unset] [(.int (256 : Int32))])) _
      refine XS.sipush X114.here hx rfl (hb hby at_91) ?_
      show Steps p.tables e below (T114.setTop (mkF m 94 #[.val (.int fl), .val (.int av), .val (.long bv), .second, .val (.int dv), .val (.ref b1), .val (.int (3 : Int32)), .val (.ref b5), .val (.ref b5), .unset] [(.int (256 : Int32)), (.int (256 : Int32))])) _
      refine XS.icmpYes X114.here hx rfl (pc0 := 94) (pc' := 99) rfl (hb hby at_94) rfl (teq (by decide : ((256 : Int32) = (256 : Int32)))).1 (by decide) (by decide) ?_
      show Steps p.tables e below (T114.setTop (mkF m 99 #[.val (.int fl), .val (.int av), .val (.long bv), .second, .val (.int dv), .val (.ref b1), .val (.int (3 : Int32)), .val (.ref b5), .val (.ref b5), .unset] [])) _
      refine XS.aload X114.here hx rfl (hb hby at_99) rfl rfl ?_
      show Steps p.tables e below (T114.setTop (mkF m 101 #[.val (.int fl), .val (.int av), .val (.long bv), .second, .val (.int dv), .val (.ref b1), .val (.int (3 : Int32)), .val (.ref b5), .val (.ref b5), .unset] [(.ref b1)])) _
      refine XS.iload X114.here hx rfl (hb hby at_101) rfl ?_
      show Steps p.tables e below (T114.setTop (mkF m 103 #[.val (.int fl), .val (.int av), .val (.long bv), .second, .val (.int dv), .val (.ref b1), .val (.int (3 : Int32)), .val (.ref b5), .val (.ref b5), .unset] [(.int dv), (.ref b1)])) _
      refine st116.trans ?_
      show Steps p.tables e below (T116.setTop (mkF m 106 #[.val (.int fl), .val (.int av), .val (.long bv), .second, .val (.int dv), .val (.ref b1), .val (.int (3 : Int32)), .val (.ref b5), .val (.ref b5), .unset] [])) _
      refine XS.aload X116.here hx rfl (hb hby at_106) rfl rfl ?_
      show Steps p.tables e below (T116.setTop (mkF m 108 #[.val (.int fl), .val (.int av), .val (.long bv), .second, .val (.int dv), .val (.ref b1), .val (.int (3 : Int32)), .val (.ref b5), .val (.ref b5), .unset] [(.ref b1)])) _
      refine st121.trans ?_
      show Steps p.tables e below (T121.setTop (mkF m 111 #[.val (.int fl), .val (.int av), .val (.long bv), .second, .val (.int dv), .val (.ref b1), .val (.int (3 : Int32)), .val (.ref b5), .val (.ref b5), .unset] [(.int ((0 : Int32) + (4 : Int32)))])) _
      refine XS.iconst X121.here hx rfl (hb hby at_111) ?_
      show Steps p.tables e below (T121.setTop (mkF m 112 #[.val (.int fl), .val (.int av), .val (.long bv), .second, .val (.int dv), .val (.ref b1), .val (.int (3 : Int32)), .val (.ref b5), .val (.ref b5), .unset] [(.int (4 : Int32)), (.int ((0 : Int32) + (4 : Int32)))])) _
      refine XS.icmpYes X121.here hx rfl (pc0 := 112) (pc' := 117) rfl (hb hby at_112) rfl (teq (by decide : (((0 : Int32) + (4 : Int32)) = (4 : Int32)))).1 (by decide) (by decide) ?_
      show Steps p.tables e below (T121.setTop (mkF m 117 #[.val (.int fl), .val (.int av), .val (.long bv), .second, .val (.int dv), .val (.ref b1), .val (.int (3 : Int32)), .val (.ref b5), .val (.ref b5), .unset] [])) _
      refine XS.aload X121.here hx rfl (hb hby at_117) rfl rfl ?_
      show Steps p.tables e below (T121.setTop (mkF m 119 #[.val (.int fl), .val (.int av), .val (.long bv), .second, .val (.int dv), .val (.ref b1), .val (.int (3 : Int32)), .val (.ref b5), .val (.ref b5), .unset] [(.ref b1)])) _
      refine st122.trans ?_
      show Steps p.tables e below (T122.setTop (mkF m 122 #[.val (.int fl), .val (.int av), .val (.long bv), .second, .val (.int dv), .val (.ref b1), .val (.int (3 : Int32)), .val (.ref b5), .val (.ref b5), .unset] [(.ref b5)])) _
      refine XS.astore X122.here hx rfl (hb hby at_122) rfl rfl (l' := #[.val (.int fl), .val (.int av), .val (.long bv), .second, .val (.int dv), .val (.ref b1), .val (.int (3 : Int32)), .val (.ref b5), .val (.ref b5), .val (.ref b5)]) rfl ?_
      show Steps p.tables e below (T122.setTop (mkF m 124 #[.val (.int fl), .val (.int av), .val (.long bv), .second, .val (.int dv), .val (.ref b1), .val (.int (3 : Int32)), .val (.ref b5), .val (.ref b5), .val (.ref b5)] [])) _
      refine XS.aload X122.here hx rfl (hb hby at_124) rfl rfl ?_
      show Steps p.tables e below (T122.setTop (mkF m 126 #[.val (.int fl), .val (.int av), .val (.long bv), .second, .val (.int dv), .val (.ref b1), .val (.int (3 : Int32)), .val (.ref b5), .val (.ref b5), .val (.ref b5)] [(.ref b5)])) _
      refine XS.aload X122.here hx rfl (hb hby at_126) rfl rfl ?_
      show Steps p.tables e below (T122.setTop (mkF m 128 #[.val (.int fl), .val (.int av), .val (.long bv), .second, .val (.int dv), .val (.ref b1), .val (.int (3 : Int32)), .val (.ref b5), .val (.ref b5), .val (.ref b5)] [(.ref b5), (.ref b5)])) _
      refine Jvm.RoadKit.acmp (g := (mkF m 128 #[.val (.int fl), .val (.int av), .val (.long bv), .second, .val (.int dv), .val (.ref b1), .val (.int (3 : Int32)), .val (.ref b5), .val (.ref b5), .val (.ref b5)] [(.ref b5), (.ref b5)])) X122 hx rfl rfl rfl (pc0 := 128) (pc' := 133) (same := true) rfl (hb hby at_128) rfl (decide_eq_true rfl) (by decide) (by decide) ?_
      show Steps p.tables e below (T122.setTop (mkF m 133 #[.val (.int fl), .val (.int av), .val (.long bv), .second, .val (.int dv), .val (.ref b1), .val (.int (3 : Int32)), .val (.ref b5), .val (.ref b5), .val (.ref b5)] [])) _
      refine XS.aload X122.here hx rfl (hb hby at_133) rfl rfl ?_
      show Steps p.tables e below (T122.setTop (mkF m 135 #[.val (.int fl), .val (.int av), .val (.long bv), .second, .val (.int dv), .val (.ref b1), .val (.int (3 : Int32)), .val (.ref b5), .val (.ref b5), .val (.ref b5)] [(.ref b5)])) _
      refine XS.iconst X122.here hx rfl (hb hby at_135) ?_
      show Steps p.tables e below (T122.setTop (mkF m 136 #[.val (.int fl), .val (.int av), .val (.long bv), .second, .val (.int dv), .val (.ref b1), .val (.int (3 : Int32)), .val (.ref b5), .val (.ref b5), .val (.ref b5)] [(.int (0 : Int32)), (.ref b5)])) _
      refine X122.baloadBytes hx (j := (0 : Int32)) (v := (.int ((r8_arr dv (r8_arr (bv.toInt32) (r8_arr (((bv.toUInt64 >>> ((32 : Int32) &&& 0x3f).toInt64.toUInt64).toInt64).toInt32) (r8_arr av (up zI 0 (av.toInt8.toInt32)) 1) 5) (5 + 4)) 0) 0))) (by rw [e122]; exact Arcl123.1) (State.isArrayOf_alike hZ.alike Arcl123.2.1) Arcl123.2.2 hincl123 hatcl123 (g := (mkF m 136 #[.val (.int fl), .val (.int av), .val (.long bv), .second, .val (.int dv), .val (.ref b1), .val (.int (3 : Int32)), .val (.ref b5), .val (.ref b5), .val (.ref b5)] [(.int (0 : Int32)), (.ref b5)])) rfl rfl (hb hby at_136) _ ?_
      show Steps p.tables e below (T122.setTop (mkF m 137 #[.val (.int fl), .val (.int av), .val (.long bv), .second, .val (.int dv), .val (.ref b1), .val (.int (3 : Int32)), .val (.ref b5), .val (.ref b5), .val (.ref b5)] [(.int ((r8_arr dv (r8_arr (bv.toInt32) (r8_arr (((bv.toUInt64 >>> ((32 : Int32) &&& 0x3f).toInt64.toUInt64).toInt64).toInt32) (r8_arr av (up zI 0 (av.toInt8.toInt32)) 1) 5) (5 + 4)) 0) 0))])) _
      refine XS.iload X122.here hx rfl (hb hby at_137) rfl ?_
      show Steps p.tables e below (T122.setTop (mkF m 139 #[.val (.int fl), .val (.int av), .val (.long bv), .second, .val (.int dv), .val (.ref b1), .val (.int (3 : Int32)), .val (.ref b5), .val (.ref b5), .val (.ref b5)] [(.int dv), (.int ((r8_arr dv (r8_arr (bv.toInt32) (r8_arr (((bv.toUInt64 >>> ((32 : Int32) &&& 0x3f).toInt64.toUInt64).toInt64).toInt32) (r8_arr av (up zI 0 (av.toInt8.toInt32)) 1) 5) (5 + 4)) 0) 0))])) _
      refine XS.bipush X122.here hx rfl (hb hby at_139) ?_
      show Steps p.tables e below (T122.setTop (mkF m 141 #[.val (.int fl), .val (.int av), .val (.long bv), .second, .val (.int dv), .val (.ref b1), .val (.int (3 : Int32)), .val (.ref b5), .val (.ref b5), .val (.ref b5)] [(.int (24 : Int32)), (.int dv), (.int ((r8_arr dv (r8_arr (bv.toInt32) (r8_arr (((bv.toUInt64 >>> ((32 : Int32) &&& 0x3f).toInt64.toUInt64).toInt64).toInt32) (r8_arr av (up zI 0 (av.toInt8.toInt32)) 1) 5) (5 + 4)) 0) 0))])) _
      refine XS.iushr X122.here hx rfl (hb hby at_141) rfl ?_
      show Steps p.tables e below (T122.setTop (mkF m 142 #[.val (.int fl), .val (.int av), .val (.long bv), .second, .val (.int dv), .val (.ref b1), .val (.int (3 : Int32)), .val (.ref b5), .val (.ref b5), .val (.ref b5)] [(.int ((dv.toUInt32 >>> ((24 : Int32) &&& 31).toUInt32).toInt32)), (.int ((r8_arr dv (r8_arr (bv.toInt32) (r8_arr (((bv.toUInt64 >>> ((32 : Int32) &&& 0x3f).toInt64.toUInt64).toInt64).toInt32) (r8_arr av (up zI 0 (av.toInt8.toInt32)) 1) 5) (5 + 4)) 0) 0))])) _
      refine XS.i2b X122.here hx rfl (hb hby at_142) rfl ?_
      show Steps p.tables e below (T122.setTop (mkF m 143 #[.val (.int fl), .val (.int av), .val (.long bv), .second, .val (.int dv), .val (.ref b1), .val (.int (3 : Int32)), .val (.ref b5), .val (.ref b5), .val (.ref b5)] [(.int (((dv.toUInt32 >>> ((24 : Int32) &&& 31).toUInt32).toInt32).toInt8.toInt32)), (.int ((r8_arr dv (r8_arr (bv.toInt32) (r8_arr (((bv.toUInt64 >>> ((32 : Int32) &&& 0x3f).toInt64.toUInt64).toInt64).toInt32) (r8_arr av (up zI 0 (av.toInt8.toInt32)) 1) 5) (5 + 4)) 0) 0))])) _
      refine XS.icmpNo X122.here hx rfl (hb hby at_143) rfl (teq (rfl : (((r8_arr dv (r8_arr (bv.toInt32) (r8_arr (((bv.toUInt64 >>> ((32 : Int32) &&& 0x3f).toInt64.toUInt64).toInt64).toInt32) (r8_arr av (up zI 0 (av.toInt8.toInt32)) 1) 5) (5 + 4)) 0) 0) = (((dv.toUInt32 >>> ((24 : Int32) &&& 31).toUInt32).toInt32).toInt8.toInt32)))).2 ?_
      show Steps p.tables e below (T122.setTop (mkF m 146 #[.val (.int fl), .val (.int av), .val (.long bv), .second, .val (.int dv), .val (.ref b1), .val (.int (3 : Int32)), .val (.ref b5), .val (.ref b5), .val (.ref b5)] [])) _
      refine XS.aload X122.here hx rfl (hb hby at_146) rfl rfl ?_
      show Steps p.tables e below (T122.setTop (mkF m 148 #[.val (.int fl), .val (.int av), .val (.long bv), .second, .val (.int dv), .val (.ref b1), .val (.int (3 : Int32)), .val (.ref b5), .val (.ref b5), .val (.ref b5)] [(.ref b5)])) _
      refine XS.iconst X122.here hx rfl (hb hby at_148) ?_
      show Steps p.tables e below (T122.setTop (mkF m 149 #[.val (.int fl), .val (.int av), .val (.long bv), .second, .val (.int dv), .val (.ref b1), .val (.int (3 : Int32)), .val (.ref b5), .val (.ref b5), .val (.ref b5)] [(.int (1 : Int32)), (.ref b5)])) _
      refine X122.baloadBytes hx (j := (1 : Int32)) (v := (.int ((r8_arr dv (r8_arr (bv.toInt32) (r8_arr (((bv.toUInt64 >>> ((32 : Int32) &&& 0x3f).toInt64.toUInt64).toInt64).toInt32) (r8_arr av (up zI 0 (av.toInt8.toInt32)) 1) 5) (5 + 4)) 0) 1))) (by rw [e122]; exact Arcl124.1) (State.isArrayOf_alike hZ.alike Arcl124.2.1) Arcl124.2.2 hincl124 hatcl124 (g := (mkF m 149 #[.val (.int fl), .val (.int av), .val (.long bv), .second, .val (.int dv), .val (.ref b1), .val (.int (3 : Int32)), .val (.ref b5), .val (.ref b5), .val (.ref b5)] [(.int (1 : Int32)), (.ref b5)])) rfl rfl (hb hby at_149) _ ?_
      show Steps p.tables e below (T122.setTop (mkF m 150 #[.val (.int fl), .val (.int av), .val (.long bv), .second, .val (.int dv), .val (.ref b1), .val (.int (3 : Int32)), .val (.ref b5), .val (.ref b5), .val (.ref b5)] [(.int ((r8_arr dv (r8_arr (bv.toInt32) (r8_arr (((bv.toUInt64 >>> ((32 : Int32) &&& 0x3f).toInt64.toUInt64).toInt64).toInt32) (r8_arr av (up zI 0 (av.toInt8.toInt32)) 1) 5) (5 + 4)) 0) 1))])) _
      refine XS.iload X122.here hx rfl (hb hby at_150) rfl ?_
      show Steps p.tables e below (T122.setTop (mkF m 152 #[.val (.int fl), .val (.int av), .val (.long bv), .second, .val (.int dv), .val (.ref b1), .val (.int (3 : Int32)), .val (.ref b5), .val (.ref b5), .val (.ref b5)] [(.int dv), (.int ((r8_arr dv (r8_arr (bv.toInt32) (r8_arr (((bv.toUInt64 >>> ((32 : Int32) &&& 0x3f).toInt64.toUInt64).toInt64).toInt32) (r8_arr av (up zI 0 (av.toInt8.toInt32)) 1) 5) (5 + 4)) 0) 1))])) _
      refine XS.bipush X122.here hx rfl (hb hby at_152) ?_
      show Steps p.tables e below (T122.setTop (mkF m 154 #[.val (.int fl), .val (.int av), .val (.long bv), .second, .val (.int dv), .val (.ref b1), .val (.int (3 : Int32)), .val (.ref b5), .val (.ref b5), .val (.ref b5)] [(.int (16 : Int32)), (.int dv), (.int ((r8_arr dv (r8_arr (bv.toInt32) (r8_arr (((bv.toUInt64 >>> ((32 : Int32) &&& 0x3f).toInt64.toUInt64).toInt64).toInt32) (r8_arr av (up zI 0 (av.toInt8.toInt32)) 1) 5) (5 + 4)) 0) 1))])) _
      refine XS.iushr X122.here hx rfl (hb hby at_154) rfl ?_
      show Steps p.tables e below (T122.setTop (mkF m 155 #[.val (.int fl), .val (.int av), .val (.long bv), .second, .val (.int dv), .val (.ref b1), .val (.int (3 : Int32)), .val (.ref b5), .val (.ref b5), .val (.ref b5)] [(.int ((dv.toUInt32 >>> ((16 : Int32) &&& 31).toUInt32).toInt32)), (.int ((r8_arr dv (r8_arr (bv.toInt32) (r8_arr (((bv.toUInt64 >>> ((32 : Int32) &&& 0x3f).toInt64.toUInt64).toInt64).toInt32) (r8_arr av (up zI 0 (av.toInt8.toInt32)) 1) 5) (5 + 4)) 0) 1))])) _
      refine XS.i2b X122.here hx rfl (hb hby at_155) rfl ?_
      show Steps p.tables e below (T122.setTop (mkF m 156 #[.val (.int fl), .val (.int av), .val (.long bv), .second, .val (.int dv), .val (.ref b1), .val (.int (3 : Int32)), .val (.ref b5), .val (.ref b5), .val (.ref b5)] [(.int (((dv.toUInt32 >>> ((16 : Int32) &&& 31).toUInt32).toInt32).toInt8.toInt32)), (.int ((r8_arr dv (r8_arr (bv.toInt32) (r8_arr (((bv.toUInt64 >>> ((32 : Int32) &&& 0x3f).toInt64.toUInt64).toInt64).toInt32) (r8_arr av (up zI 0 (av.toInt8.toInt32)) 1) 5) (5 + 4)) 0) 1))])) _
      refine XS.icmpNo X122.here hx rfl (hb hby at_156) rfl (teq (rfl : (((r8_arr dv (r8_arr (bv.toInt32) (r8_arr (((bv.toUInt64 >>> ((32 : Int32) &&& 0x3f).toInt64.toUInt64).toInt64).toInt32) (r8_arr av (up zI 0 (av.toInt8.toInt32)) 1) 5) (5 + 4)) 0) 1) = (((dv.toUInt32 >>> ((16 : Int32) &&& 31).toUInt32).toInt32).toInt8.toInt32)))).2 ?_
      show Steps p.tables e below (T122.setTop (mkF m 159 #[.val (.int fl), .val (.int av), .val (.long bv), .second, .val (.int dv), .val (.ref b1), .val (.int (3 : Int32)), .val (.ref b5), .val (.ref b5), .val (.ref b5)] [])) _
      refine XS.aload X122.here hx rfl (hb hby at_159) rfl rfl ?_
      show Steps p.tables e below (T122.setTop (mkF m 161 #[.val (.int fl), .val (.int av), .val (.long bv), .second, .val (.int dv), .val (.ref b1), .val (.int (3 : Int32)), .val (.ref b5), .val (.ref b5), .val (.ref b5)] [(.ref b5)])) _
      refine XS.iconst X122.here hx rfl (hb hby at_161) ?_
      show Steps p.tables e below (T122.setTop (mkF m 162 #[.val (.int fl), .val (.int av), .val (.long bv), .second, .val (.int dv), .val (.ref b1), .val (.int (3 : Int32)), .val (.ref b5), .val (.ref b5), .val (.ref b5)] [(.int (2 : Int32)), (.ref b5)])) _
      refine X122.baloadBytes hx (j := (2 : Int32)) (v := (.int ((r8_arr dv (r8_arr (bv.toInt32) (r8_arr (((bv.toUInt64 >>> ((32 : Int32) &&& 0x3f).toInt64.toUInt64).toInt64).toInt32) (r8_arr av (up zI 0 (av.toInt8.toInt32)) 1) 5) (5 + 4)) 0) 2))) (by rw [e122]; exact Arcl125.1) (State.isArrayOf_alike hZ.alike Arcl125.2.1) Arcl125.2.2 hincl125 hatcl125 (g := (mkF m 162 #[.val (.int fl), .val (.int av), .val (.long bv), .second, .val (.int dv), .val (.ref b1), .val (.int (3 : Int32)), .val (.ref b5), .val (.ref b5), .val (.ref b5)] [(.int (2 : Int32)), (.ref b5)])) rfl rfl (hb hby at_162) _ ?_
      show Steps p.tables e below (T122.setTop (mkF m 163 #[.val (.int fl), .val (.int av), .val (.long bv), .second, .val (.int dv), .val (.ref b1), .val (.int (3 : Int32)), .val (.ref b5), .val (.ref b5), .val (.ref b5)] [(.int ((r8_arr dv (r8_arr (bv.toInt32) (r8_arr (((bv.toUInt64 >>> ((32 : Int32) &&& 0x3f).toInt64.toUInt64).toInt64).toInt32) (r8_arr av (up zI 0 (av.toInt8.toInt32)) 1) 5) (5 + 4)) 0) 2))])) _
      refine XS.iload X122.here hx rfl (hb hby at_163) rfl ?_
      show Steps p.tables e below (T122.setTop (mkF m 165 #[.val (.int fl), .val (.int av), .val (.long bv), .second, .val (.int dv), .val (.ref b1), .val (.int (3 : Int32)), .val (.ref b5), .val (.ref b5), .val (.ref b5)] [(.int dv), (.int ((r8_arr dv (r8_arr (bv.toInt32) (r8_arr (((bv.toUInt64 >>> ((32 : Int32) &&& 0x3f).toInt64.toUInt64).toInt64).toInt32) (r8_arr av (up zI 0 (av.toInt8.toInt32)) 1) 5) (5 + 4)) 0) 2))])) _
      refine XS.bipush X122.here hx rfl (hb hby at_165) ?_
      show Steps p.tables e below (T122.setTop (mkF m 167 #[.val (.int fl), .val (.int av), .val (.long bv), .second, .val (.int dv), .val (.ref b1), .val (.int (3 : Int32)), .val (.ref b5), .val (.ref b5), .val (.ref b5)] [(.int (8 : Int32)), (.int dv), (.int ((r8_arr dv (r8_arr (bv.toInt32) (r8_arr (((bv.toUInt64 >>> ((32 : Int32) &&& 0x3f).toInt64.toUInt64).toInt64).toInt32) (r8_arr av (up zI 0 (av.toInt8.toInt32)) 1) 5) (5 + 4)) 0) 2))])) _
      refine XS.iushr X122.here hx rfl (hb hby at_167) rfl ?_
      show Steps p.tables e below (T122.setTop (mkF m 168 #[.val (.int fl), .val (.int av), .val (.long bv), .second, .val (.int dv), .val (.ref b1), .val (.int (3 : Int32)), .val (.ref b5), .val (.ref b5), .val (.ref b5)] [(.int ((dv.toUInt32 >>> ((8 : Int32) &&& 31).toUInt32).toInt32)), (.int ((r8_arr dv (r8_arr (bv.toInt32) (r8_arr (((bv.toUInt64 >>> ((32 : Int32) &&& 0x3f).toInt64.toUInt64).toInt64).toInt32) (r8_arr av (up zI 0 (av.toInt8.toInt32)) 1) 5) (5 + 4)) 0) 2))])) _
      refine XS.i2b X122.here hx rfl (hb hby at_168) rfl ?_
      show Steps p.tables e below (T122.setTop (mkF m 169 #[.val (.int fl), .val (.int av), .val (.long bv), .second, .val (.int dv), .val (.ref b1), .val (.int (3 : Int32)), .val (.ref b5), .val (.ref b5), .val (.ref b5)] [(.int (((dv.toUInt32 >>> ((8 : Int32) &&& 31).toUInt32).toInt32).toInt8.toInt32)), (.int ((r8_arr dv (r8_arr (bv.toInt32) (r8_arr (((bv.toUInt64 >>> ((32 : Int32) &&& 0x3f).toInt64.toUInt64).toInt64).toInt32) (r8_arr av (up zI 0 (av.toInt8.toInt32)) 1) 5) (5 + 4)) 0) 2))])) _
      refine XS.icmpNo X122.here hx rfl (hb hby at_169) rfl (teq (rfl : (((r8_arr dv (r8_arr (bv.toInt32) (r8_arr (((bv.toUInt64 >>> ((32 : Int32) &&& 0x3f).toInt64.toUInt64).toInt64).toInt32) (r8_arr av (up zI 0 (av.toInt8.toInt32)) 1) 5) (5 + 4)) 0) 2) = (((dv.toUInt32 >>> ((8 : Int32) &&& 31).toUInt32).toInt32).toInt8.toInt32)))).2 ?_
      show Steps p.tables e below (T122.setTop (mkF m 172 #[.val (.int fl), .val (.int av), .val (.long bv), .second, .val (.int dv), .val (.ref b1), .val (.int (3 : Int32)), .val (.ref b5), .val (.ref b5), .val (.ref b5)] [])) _
      refine XS.aload X122.here hx rfl (hb hby at_172) rfl rfl ?_
      show Steps p.tables e below (T122.setTop (mkF m 174 #[.val (.int fl), .val (.int av), .val (.long bv), .second, .val (.int dv), .val (.ref b1), .val (.int (3 : Int32)), .val (.ref b5), .val (.ref b5), .val (.ref b5)] [(.ref b5)])) _
      refine XS.iconst X122.here hx rfl (hb hby at_174) ?_
      show Steps p.tables e below (T122.setTop (mkF m 175 #[.val (.int fl), .val (.int av), .val (.long bv), .second, .val (.int dv), .val (.ref b1), .val (.int (3 : Int32)), .val (.ref b5), .val (.ref b5), .val (.ref b5)] [(.int (3 : Int32)), (.ref b5)])) _
      refine X122.baloadBytes hx (j := (3 : Int32)) (v := (.int ((r8_arr dv (r8_arr (bv.toInt32) (r8_arr (((bv.toUInt64 >>> ((32 : Int32) &&& 0x3f).toInt64.toUInt64).toInt64).toInt32) (r8_arr av (up zI 0 (av.toInt8.toInt32)) 1) 5) (5 + 4)) 0) 3))) (by rw [e122]; exact Arcl126.1) (State.isArrayOf_alike hZ.alike Arcl126.2.1) Arcl126.2.2 hincl126 hatcl126 (g := (mkF m 175 #[.val (.int fl), .val (.int av), .val (.long bv), .second, .val (.int dv), .val (.ref b1), .val (.int (3 : Int32)), .val (.ref b5), .val (.ref b5), .val (.ref b5)] [(.int (3 : Int32)), (.ref b5)])) rfl rfl (hb hby at_175) _ ?_
      show Steps p.tables e below (T122.setTop (mkF m 176 #[.val (.int fl), .val (.int av), .val (.long bv), .second, .val (.int dv), .val (.ref b1), .val (.int (3 : Int32)), .val (.ref b5), .val (.ref b5), .val (.ref b5)] [(.int ((r8_arr dv (r8_arr (bv.toInt32) (r8_arr (((bv.toUInt64 >>> ((32 : Int32) &&& 0x3f).toInt64.toUInt64).toInt64).toInt32) (r8_arr av (up zI 0 (av.toInt8.toInt32)) 1) 5) (5 + 4)) 0) 3))])) _
      refine XS.iload X122.here hx rfl (hb hby at_176) rfl ?_
      show Steps p.tables e below (T122.setTop (mkF m 178 #[.val (.int fl), .val (.int av), .val (.long bv), .second, .val (.int dv), .val (.ref b1), .val (.int (3 : Int32)), .val (.ref b5), .val (.ref b5), .val (.ref b5)] [(.int dv), (.int ((r8_arr dv (r8_arr (bv.toInt32) (r8_arr (((bv.toUInt64 >>> ((32 : Int32) &&& 0x3f).toInt64.toUInt64).toInt64).toInt32) (r8_arr av (up zI 0 (av.toInt8.toInt32)) 1) 5) (5 + 4)) 0) 3))])) _
      refine XS.i2b X122.here hx rfl (hb hby at_178) rfl ?_
      show Steps p.tables e below (T122.setTop (mkF m 179 #[.val (.int fl), .val (.int av), .val (.long bv), .second, .val (.int dv), .val (.ref b1), .val (.int (3 : Int32)), .val (.ref b5), .val (.ref b5), .val (.ref b5)] [(.int (dv.toInt8.toInt32)), (.int ((r8_arr dv (r8_arr (bv.toInt32) (r8_arr (((bv.toUInt64 >>> ((32 : Int32) &&& 0x3f).toInt64.toUInt64).toInt64).toInt32) (r8_arr av (up zI 0 (av.toInt8.toInt32)) 1) 5) (5 + 4)) 0) 3))])) _
      refine XS.icmpNo X122.here hx rfl (hb hby at_179) rfl (teq (rfl : (((r8_arr dv (r8_arr (bv.toInt32) (r8_arr (((bv.toUInt64 >>> ((32 : Int32) &&& 0x3f).toInt64.toUInt64).toInt64).toInt32) (r8_arr av (up zI 0 (av.toInt8.toInt32)) 1) 5) (5 + 4)) 0) 3) = (dv.toInt8.toInt32)))).2 ?_
      show Steps p.tables e below (T122.setTop (mkF m 182 #[.val (.int fl), .val (.int av), .val (.long bv), .second, .val (.int dv), .val (.ref b1), .val (.int (3 : Int32)), .val (.ref b5), .val (.ref b5), .val (.ref b5)] [])) _
      refine XS.iconst X122.here hx rfl (hb hby at_182) ?_
      show Steps p.tables e below (T122.setTop (mkF m 183 #[.val (.int fl), .val (.int av), .val (.long bv), .second, .val (.int dv), .val (.ref b1), .val (.int (3 : Int32)), .val (.ref b5), .val (.ref b5), .val (.ref b5)] [(.int (1 : Int32))])) _
      refine XS.goto X122.here hx rfl (pc0 := 183) (pc' := 187) rfl (hb hby at_183) (by decide) (by decide) ?_
      show Steps p.tables e below (T122.setTop (mkF m 187 #[.val (.int fl), .val (.int av), .val (.long bv), .second, .val (.int dv), .val (.ref b1), .val (.int (3 : Int32)), .val (.ref b5), .val (.ref b5), .val (.ref b5)] [(.int (1 : Int32))])) _
      exact retN X122 hx (t := .boolean) Bd.returns (by simp) (hb hby at_187) hr
    · show Q0 Z fl av bv dv h0 n0 _ T122.heap _
      rw [e122]
      exact ⟨rfl, N122⟩
set_option maxRecDepth 65536 in
set_option maxHeartbeats 40000000 in
theorem comes_1 {Post : Tables → Env → Array Value → State → Outcome → State → Prop} (hpost : ∀ tb e args s v u, (limb_1_1.after args s (.returned v) u = true ∧ limb_1_2.after args s (.returned v) u = true ∧ True) → FrameEnd s (.returned v) u (Jvm.fieldLocs frame_1_writes args s ++ Jvm.arrayLocs frame_1_arrays args s ++ Jvm.staticLocs frame_1_statics s) 16 640 → Post tb e args s (.returned v) u) :
    ArmFor flags0 classFile x code maxLocals ret World_1 tables_1 room_1 Calls_1 rest_1 Pre_1 Post := by
  intro l hfl _ _ p e ha hc hk s m args below hf hA hF happ hP
  obtain ⟨hcalls, hrest, hpre⟩ := hP
  obtain ⟨-, -, -, hnamed, -, -, -, hat⟩ := (Spec.applies_iff hf).mp happ
  obtain ⟨hg, hn⟩ := and_e (Cond.before_iff.mp (show (Jvm.Cond.and given_1 narrow_1).before args s = true from hpre))
  obtain ⟨gv1, gv2⟩ := and_e hg
  obtain ⟨gv3, gv4⟩ := and_e gv2
  obtain ⟨gv5, gv6⟩ := and_e gv4
  obtain ⟨gv7, gv8⟩ := and_e gv6
  obtain ⟨w0, w1, w2, w3, rfl⟩ : ∃ w0 w1 w2 w3 : Value, args = #[w0, w1, w2, w3] := by
    have hs : args.size = 4 := by simpa [Cond.value, given_1] using gv1
    obtain ⟨L⟩ := args
    match L, hs with
    | [w0, w1, w2, w3], _ => exact ⟨w0, w1, w2, w3, rfl⟩
  have hw := fun d (hd : d ∈ tables_1) => atoms_spec (ws := Jvm.Cond.code x code maxLocals ret :: tables_1) hat d (List.mem_cons_of_mem _ hd)
  have hfit : Fit s := fun {y c} hc i hi => by
    obtain ⟨ha, rfl⟩ := Array.getElem?_eq_some_iff.mp hc
    have q := List.all_eq_true.mp ((Array.all_eq_true_iff_forall_mem.mp hF) _ (Array.getElem_mem ha)) i (List.mem_range.mpr hi)
    simpa [Array.getElem?_eq_getElem hi] using q
  obtain ⟨i0, ei0⟩ := is_v gv3
  obtain rfl : w0 = (.int i0) := Option.some.inj ei0
  obtain ⟨i1, ei1⟩ := is_v gv5
  obtain rfl : w1 = (.int i1) := Option.some.inj ei1
  obtain ⟨i2, ei2⟩ := isL_v gv7
  obtain rfl : w2 = (.long i2) := Option.some.inj ei2
  obtain ⟨i3, ei3⟩ := is_v gv8
  obtain rfl : w3 = (.int i3) := Option.some.inj ei3
  obtain ⟨n, o, h1, h2, h3, _, L, rfl, ⟨rfl, N⟩, hq⟩ := rm0 l s _ hw tables_1 i0 i1 i2 i3 s.heap s.heap.size (Nat.le_refl _) p e ha hc hk s m _ below hf ((Spec.applies_iff_loose hf).mp happ).1 ⟨rfl, State.Warmed39.refl s, rfl⟩ trivial
  refine ⟨n, _, h1, h2, h3, hpost _ _ _ _ _ _ ⟨Cond.after_iff.mpr rfl, Cond.after_iff.mpr (eq_i res_at (Term.int_eval (1)) rfl), trivial⟩ ⟨hq.1, hq.2.1, (hq.2.2.sift fun y hy => Or.inr (N y hy)).mono (by decide) (by decide)⟩⟩
theorem main_1_1 : Claimed_1_1 := comes_1 fun _ _ _ _ _ _ h hF => ⟨h.1, hF⟩
theorem main_1_2 : Claimed_1_2 := comes_1 fun _ _ _ _ _ _ h hF => ⟨h.2.1, hF⟩
end Jvm.Pilot.@@N@@
namespace Jvm.Pilot.@@N@@
open Jvm Jvm.ClassFile Sem Op Lib Jvm.Free Jvm.Stand Jvm.Pilot.@@N@@.Jvm.D
/-! MADE BY PROGRAM (witnessworld.py) out of the Statement's table words and the real class files: 9 classes; the members and pool entries that the words name. The judged class is class 1, her method 1. -/
namespace start1
open Jvm.ClassFile
def u (s : String) : CpInfo := .utf8 (stringToUtf16 s)
/-- a pool by its gaps: so many unusable entries, then the entry; so many at the end -/
def gap : Nat → List CpInfo → List CpInfo
  | 0, r => r
  | n + 1, r => .unusable :: gap n r
def poolList (es : List (Nat × CpInfo)) (last : Nat) : List CpInfo := es.foldr (fun e r => gap e.1 (e.2 :: r)) (gap last [])
def pool (es : List (Nat × CpInfo)) (last : Nat) : Array CpInfo := ⟨poolList es last⟩
def fileOf (pool : Array CpInfo) (this : Nat) (attrs : Array Attribute := #[]) (ms : Array MethodInfo := #[]) (fl : Nat := 33) (sup : Nat := 0) (ifs : Array Nat := #[]) (fds : Array FieldInfo := #[]) : ClassFile where
  minorVersion := 0
  majorVersion := 65
  constantPool := pool
  accessFlags := fl
  thisClass := this
  superClass := sup
  interfaces := ifs
  fields := fds
  methods := ms
  attributes := attrs
def plain (name : String) (sup : Option ClassId) : Class where
  name := name
  kind := .ordinary
  loader := none
  accessFlags := 33
  super := sup
  interfaces := #[]
  cf := none
  fields := #[]
  methods := #[]
  instanceTypes := #[]
  staticTypes := #[]
  resolved := #[]
  callSites := []
  init := .initialized
  statics := none
  mirror := none

def pool0 : Array CpInfo := pool [(5, u "<init>"), (0, u "()V"), (1, .class_ 10), (1, u "java/lang/Object")] 113

def k0c0 : Code := { maxStack := 0, maxLocals := 1, code := object_method_1_code, exceptionTable := #[], attributes := #[] }
def k0m0 : Method := { name := "<init>", desc := "()V", sig := { parameters := [], returnType := none }, accessFlags := 1, code := some k0c0 }
/-- java/lang/Object -/
def k0 : Class := { plain "java/lang/Object" none with
  accessFlags := 33
  interfaces := #[]
  cf := some (fileOf pool0 8 #[] #[{ accessFlags := 1, nameIndex := 5, descriptorIndex := 6, attributes := #[] }] 33 0 #[] #[])
  fields := #[]
  methods := #[k0m0]
  instanceTypes := #[]
  staticTypes := #[]
  resolved := Array.replicate 124 none
  statics := none }

def pool1 : Array CpInfo := pool [(2, .class_ 4), (0, .nameAndType 5 6), (0, u "java/lang/Object"), (0, u "<init>"), (0, u "()V"), (0, .class_ 8), (0, u "com/example/lockstep/lockstep/store/RecordBuffer"), (0, .methodref 7 3), (0, .methodref 7 11), (0, .nameAndType 12 13), (0, u "writeByte"), (0, u "(I)V"), (0, .methodref 7 15), (0, .nameAndType 16 13), (0, u "writeInt"), (0, .methodref 7 18), (0, .nameAndType 19 20), (0, u "writeLong"), (0, u "(J)V"), (0, .methodref 7 22), (0, .nameAndType 23 24), (0, u "bytes"), (0, u "()[B"), (0, .methodref 7 26), (0, .nameAndType 27 6), (0, u "clear"), (0, .methodref 7 29), (0, .nameAndType 30 31), (0, u "size"), (0, u "()I"), (0, .class_ 33), (0, u "com/example/lockstep/lockstep/store/RecordBufferClearPinLaw"), (2, u "law"), (0, u "(IIJI)Z")] 5

def k1m0 : Method := { name := "<init>", desc := "()V", sig := { parameters := [], returnType := none }, accessFlags := 1, code := none }
def k1c1 : Code := { maxStack := 3, maxLocals := 10, code := code, exceptionTable := #[], attributes := #[] }
def k1m1 : Method := { name := "law", desc := "(IIJI)Z", sig := { parameters := [.int, .int, .long, .int], returnType := some .boolean }, accessFlags := 9, code := some k1c1 }
/-- com/example/lockstep/lockstep/store/RecordBufferClearPinLaw -/
def k1 : Class := { plain "com/example/lockstep/lockstep/store/RecordBufferClearPinLaw" (some 0) with
  accessFlags := 49
  interfaces := #[]
  cf := some (fileOf pool1 32 #[] #[{ accessFlags := 1, nameIndex := 5, descriptorIndex := 6, attributes := #[] }, { accessFlags := 9, nameIndex := 36, descriptorIndex := 37, attributes := #[] }] 49 2 #[] #[])
  fields := #[]
  methods := #[k1m0, k1m1]
  instanceTypes := #[]
  staticTypes := #[]
  resolved := Array.replicate 43 none
  statics := none }

def pool2 : Array CpInfo := pool [(1, .methodref 2 3), (0, .class_ 4), (0, .nameAndType 5 6), (0, u "java/lang/Object"), (0, u "<init>"), (0, u "()V"), (0, .class_ 8), (0, u "com/example/lockstep/lockstep/store/RecordBuffer"), (0, .fieldref 7 10), (0, .nameAndType 11 12), (0, u "bytes"), (0, u "[B"), (0, .fieldref 7 14), (0, .nameAndType 15 16), (0, u "size"), (0, u "I"), (0, .integer 1048576), (0, .methodref 7 19), (0, .nameAndType 20 21), (0, u "grow"), (0, u "(I)V"), (0, .methodref 7 23), (0, .nameAndType 24 25), (0, u "putInt"), (0, u "(II)V"), (0, .methodref 7 27), (0, .nameAndType 28 21), (0, u "writeInt"), (12, u "INITIAL"), (2, u "KEPT"), (2, u "clear"), (1, u "()[B"), (0, u "()I"), (0, u "writeByte"), (0, u "writeLong"), (0, u "(J)V")] 2

def k2c0 : Code := { maxStack := 2, maxLocals := 1, code := prog_146_method_1_code, exceptionTable := #[], attributes := #[] }
def k2m0 : Method := { name := "<init>", desc := "()V", sig := { parameters := [], returnType := none }, accessFlags := 0, code := some k2c0 }
def k2c1 : Code := { maxStack := 2, maxLocals := 1, code := prog_146_method_2_code, exceptionTable := #[], attributes := #[] }
def k2m1 : Method := { name := "clear", desc := "()V", sig := { parameters := [], returnType := none }, accessFlags := 0, code := some k2c1 }
def k2c2 : Code := { maxStack := 1, maxLocals := 1, code := prog_146_method_3_code, exceptionTable := #[], attributes := #[] }
def k2m2 : Method := { name := "bytes", desc := "()[B", sig := { parameters := [], returnType := some (.array .byte) }, accessFlags := 0, code := some k2c2 }
def k2c3 : Code := { maxStack := 1, maxLocals := 1, code := prog_146_method_4_code, exceptionTable := #[], attributes := #[] }
def k2m3 : Method := { name := "size", desc := "()I", sig := { parameters := [], returnType := some .int }, accessFlags := 0, code := some k2c3 }
def k2c4 : Code := { maxStack := 5, maxLocals := 2, code := prog_146_method_5_code, exceptionTable := #[], attributes := #[] }
def k2m4 : Method := { name := "writeByte", desc := "(I)V", sig := { parameters := [.int], returnType := none }, accessFlags := 0, code := some k2c4 }
def k2c5 : Code := { maxStack := 3, maxLocals := 2, code := prog_146_method_6_code, exceptionTable := #[], attributes := #[] }
def k2m5 : Method := { name := "writeInt", desc := "(I)V", sig := { parameters := [.int], returnType := none }, accessFlags := 0, code := some k2c5 }
def k2c6 : Code := { maxStack := 4, maxLocals := 3, code := prog_146_method_7_code, exceptionTable := #[], attributes := #[] }
def k2m6 : Method := { name := "writeLong", desc := "(J)V", sig := { parameters := [.long], returnType := none }, accessFlags := 0, code := some k2c6 }
def k2c7 : Code := { maxStack := 4, maxLocals := 3, code := prog_146_method_8_code, exceptionTable := #[], attributes := #[] }
def k2m7 : Method := { name := "putInt", desc := "(II)V", sig := { parameters := [.int, .int], returnType := none }, accessFlags := 0, code := some k2c7 }
def k2c8 : Code := { maxStack := 5, maxLocals := 2, code := prog_146_method_9_code, exceptionTable := #[], attributes := #[] }
def k2m8 : Method := { name := "grow", desc := "(I)V", sig := { parameters := [.int], returnType := none }, accessFlags := 2, code := some k2c8 }
/-- com/example/lockstep/lockstep/store/RecordBuffer -/
def k2 : Class := { plain "com/example/lockstep/lockstep/store/RecordBuffer" (some 0) with
  accessFlags := 48
  interfaces := #[]
  cf := some (fileOf pool2 7 #[] #[{ accessFlags := 0, nameIndex := 5, descriptorIndex := 6, attributes := #[] }, { accessFlags := 0, nameIndex := 47, descriptorIndex := 6, attributes := #[] }, { accessFlags := 0, nameIndex := 11, descriptorIndex := 49, attributes := #[] }, { accessFlags := 0, nameIndex := 15, descriptorIndex := 50, attributes := #[] }, { accessFlags := 0, nameIndex := 51, descriptorIndex := 21, attributes := #[] }, { accessFlags := 0, nameIndex := 28, descriptorIndex := 21, attributes := #[] }, { accessFlags := 0, nameIndex := 52, descriptorIndex := 53, attributes := #[] }, { accessFlags := 0, nameIndex := 24, descriptorIndex := 25, attributes := #[] }, { accessFlags := 2, nameIndex := 20, descriptorIndex := 21, attributes := #[] }] 48 2 #[] #[{ accessFlags := 26, nameIndex := 41, descriptorIndex := 16, attributes := #[] }, { accessFlags := 26, nameIndex := 44, descriptorIndex := 16, attributes := #[] }, { accessFlags := 2, nameIndex := 11, descriptorIndex := 12, attributes := #[] }, { accessFlags := 2, nameIndex := 15, descriptorIndex := 16, attributes := #[] }])
  fields := #[{ name := "INITIAL", type := .int, accessFlags := 26, slot := 0, constantValue := 0 }, { name := "KEPT", type := .int, accessFlags := 26, slot := 1, constantValue := 0 }, { name := "bytes", type := (.array .byte), accessFlags := 2, slot := 0, constantValue := 0 }, { name := "size", type := .int, accessFlags := 2, slot := 1, constantValue := 0 }]
  methods := #[k2m0, k2m1, k2m2, k2m3, k2m4, k2m5, k2m6, k2m7, k2m8]
  instanceTypes := #[(.array .byte), .int]
  staticTypes := #[.int, .int]
  resolved := Array.replicate 56 none
  statics := none }

def pool3 : Array CpInfo := pool [(1, u "java/lang/Cloneable"), (0, .class_ 1), (0, u "java/lang/Object"), (0, .class_ 3)] 3

/-- java/lang/Cloneable -/
def k3 : Class := { plain "java/lang/Cloneable" (some 0) with
  accessFlags := 1537
  interfaces := #[]
  cf := some (fileOf pool3 2 #[] #[] 1537 4 #[] #[])
  fields := #[]
  methods := #[]
  instanceTypes := #[]
  staticTypes := #[]
  resolved := Array.replicate 8 none
  statics := none }

def pool4 : Array CpInfo := pool [(1, u "java/io/Serializable"), (0, .class_ 1), (0, u "java/lang/Object"), (0, .class_ 3)] 3

/-- java/io/Serializable -/
def k4 : Class := { plain "java/io/Serializable" (some 0) with
  accessFlags := 1537
  interfaces := #[]
  cf := some (fileOf pool4 2 #[] #[] 1537 4 #[] #[])
  fields := #[]
  methods := #[]
  instanceTypes := #[]
  staticTypes := #[]
  resolved := Array.replicate 8 none
  statics := none }

/-- the primitive byte -/
def k5 : Class := { plain "byte" none with kind := .primitive 'B', accessFlags := 0x411 }
/-- [B -/
def k6 : Class := { plain "[B" (some 0) with kind := .array 5 .byte, interfaces := #[3, 4], accessFlags := 1041 }

/-- the primitive int -/
def k7 : Class := { plain "int" none with kind := .primitive 'I', accessFlags := 0x411 }
/-- [I -/
def k8 : Class := { plain "[I" (some 0) with kind := .array 7 .int, interfaces := #[3, 4], accessFlags := 1041 }

def heap : Heap := #[]
def classes : Array Class := #[k0, k1, k2, k3, k4, k5, k6, k7, k8]
def interned : List (Array UInt16 × Addr) := []
def slotsUsed : Nat := 0
def theMethod : MethodId := ⟨1, 1⟩
def args0 : Array Value := #[.int 3, .int 77, .long 123456789, .int 99]
def aboutOver (below : List Frame) : State where
  vm := { classes := classes, interned := interned.toArray }
  heap := heap
  slotsUsed := slotsUsed
  threads := #[{ frames := .invoking theMethod args0 :: below }]
def below0 : List Frame := [.native { method := ⟨0, 0⟩, args := #[] }]
def about1 : State := aboutOver below0
def p0 : Program := .bare "" "" ""
def e0 : Env := launch0.env 0 0 0
theorem w_frames : about1.frames = Frame.invoking theMethod args0 :: below0 := rfl
set_option maxRecDepth 65536 in
theorem w_args : argsFit about1.vm theMethod args0 = true := by decide +kernel
set_option maxRecDepth 65536 in
theorem w_heap : heapFits about1 = true := by decide +kernel
set_option maxRecDepth 65536 in
theorem w_runnable : about1.curStatus? = some .runnable := by decide +kernel
set_option maxRecDepth 65536 in
theorem w_alone : about1.alone = true := by decide +kernel
set_option maxRecDepth 65536 in
theorem w_named : about1.methodNamed? x = some theMethod := by decide +kernel
set_option maxRecDepth 65536 in
theorem w_hears : about1.hears theMethod below0 = true := by decide +kernel
set_option maxRecDepth 65536 in
theorem w_ripe : about1.ripe theMethod args0 below0 = true := by decide +kernel
theorem w_running : about1.status = .running := rfl
set_option maxRecDepth 65536 in
theorem w_room : about1.hasRoom e0.platform room_1 = true :=
  launch0.hasRoom_least _ room_1 (by decide +kernel) (by decide +kernel) (by decide +kernel) (by decide +kernel) (by decide +kernel) (by decide +kernel)
theorem allAtoms_all (ts : List Jvm.Cond) (a : Array Jvm.Value) (st : Jvm.State) : (allAtoms ts).before a st = ts.all (fun c => c.before a st) := by
  induction ts with
  | nil => rfl
  | cons c t ih =>
    show (Jvm.Cond.and c (allAtoms t)).before a st = _
    rw [Jvm.Cond.before_and, ih, List.all_cons]
def words1 : List Jvm.Cond := Jvm.Cond.code x code maxLocals ret :: tables_1
/-- a 'code' word, met by the world's own term for the bytes: nothing is compared byte by byte -/
theorem code_word {y : MethodName} {bytes : ByteArray} {mx : Nat} {rt : Option FieldType} {a : Array Value} {s : State} {m : MethodId} {meth : Method} {c : Code} (h1 : s.methodNamed? y = some m) (h2 : s.vm.method? m = some meth) (h3 : meth.code = some c) (h4 : c.code = bytes)
    (h5 : (c.maxLocals == mx && c.exceptionTable.isEmpty && decide (c.maxStack ≤ mostOperands) && decide (meth.sig.returnType = rt) && !meth.locks && decide (parseMethodDescriptor y.desc = some meth.sig)) = true) : (Jvm.Cond.code y bytes mx rt).before a s = true := by
  simp only [Bool.and_eq_true, beq_iff_eq, Bool.not_eq_true', decide_eq_true_eq] at h5
  obtain ⟨⟨⟨⟨⟨g1, g2⟩, g3⟩, g4⟩, g5⟩, g6⟩ := h5
  simp [Cond.before, Cond.holds, Cond.value, h1, h2, h3, h4, g1, g2, g3, g4, g5, g6]
def isCode : Jvm.Cond → Bool
  | .code _ _ _ _ => true
  | _ => false
theorem all_split {L : List Jvm.Cond} {P : Jvm.Cond → Bool} (h1 : L.all (fun c => isCode c || P c) = true) (h2 : ∀ c ∈ L.filter isCode, P c = true) : L.all P = true := by
  refine List.all_eq_true.mpr fun c hc => ?_
  have h := List.all_eq_true.mp h1 c hc
  rcases Bool.eq_false_or_eq_true (isCode c) with hi | hi
  · exact h2 c (List.mem_filter.mpr ⟨hc, hi⟩)
  · simpa [hi] using h
set_option maxRecDepth 65536 in
theorem w_c0 : (Jvm.Cond.code x code maxLocals ret).before args0 about1 = true := code_word (m := ⟨1, 1⟩) (meth := k1m1) (c := k1c1) (by decide +kernel) rfl rfl rfl (by decide +kernel)
set_option maxRecDepth 65536 in
theorem w_c1 : (Jvm.Cond.code ({ cls := "com/example/lockstep/lockstep/store/RecordBuffer", name := "<init>", desc := "()V" } : Jvm.MethodName) prog_146_method_1_code (1 : Nat) (Option.none : Option Jvm.ClassFile.FieldType)).before args0 about1 = true := code_word (m := ⟨2, 0⟩) (meth := k2m0) (c := k2c0) (by decide +kernel) rfl rfl rfl (by decide +kernel)
set_option maxRecDepth 65536 in
theorem w_c2 : (Jvm.Cond.code ({ cls := "java/lang/Object", name := "<init>", desc := "()V" } : Jvm.MethodName) object_method_1_code (1 : Nat) (Option.none : Option Jvm.ClassFile.FieldType)).before args0 about1 = true := code_word (m := ⟨0, 0⟩) (meth := k0m0) (c := k0c0) (by decide +kernel) rfl rfl rfl (by decide +kernel)
set_option maxRecDepth 65536 in
theorem w_c3 : (Jvm.Cond.code ({ cls := "com/example/lockstep/lockstep/store/RecordBuffer", name := "bytes", desc := "()[B" } : Jvm.MethodName) prog_146_method_3_code (1 : Nat) (Option.some (Jvm.ClassFile.FieldType.array Jvm.ClassFile.FieldType.byte))).before args0 about1 = true := code_word (m := ⟨2, 2⟩) (meth := k2m2) (c := k2c2) (by decide +kernel) rfl rfl rfl (by decide +kernel)
set_option maxRecDepth 65536 in
theorem w_c4 : (Jvm.Cond.code ({ cls := "com/example/lockstep/lockstep/store/RecordBuffer", name := "clear", desc := "()V" } : Jvm.MethodName) prog_146_method_2_code (1 : Nat) (Option.none : Option Jvm.ClassFile.FieldType)).before args0 about1 = true := code_word (m := ⟨2, 1⟩) (meth := k2m1) (c := k2c1) (by decide +kernel) rfl rfl rfl (by decide +kernel)
set_option maxRecDepth 65536 in
theorem w_c5 : (Jvm.Cond.code ({ cls := "com/example/lockstep/lockstep/store/RecordBuffer", name := "size", desc := "()I" } : Jvm.MethodName) prog_146_method_4_code (1 : Nat) (Option.some Jvm.ClassFile.FieldType.int)).before args0 about1 = true := code_word (m := ⟨2, 3⟩) (meth := k2m3) (c := k2c3) (by decide +kernel) rfl rfl rfl (by decide +kernel)
set_option maxRecDepth 65536 in
theorem w_c6 : (Jvm.Cond.code ({ cls := "com/example/lockstep/lockstep/store/RecordBuffer", name := "writeInt", desc := "(I)V" } : Jvm.MethodName) prog_146_method_6_code (2 : Nat) (Option.none : Option Jvm.ClassFile.FieldType)).before args0 about1 = true := code_word (m := ⟨2, 5⟩) (meth := k2m5) (c := k2c5) (by decide +kernel) rfl rfl rfl (by decide +kernel)
set_option maxRecDepth 65536 in
theorem w_c7 : (Jvm.Cond.code ({ cls := "com/example/lockstep/lockstep/store/RecordBuffer", name := "grow", desc := "(I)V" } : Jvm.MethodName) prog_146_method_9_code (2 : Nat) (Option.none : Option Jvm.ClassFile.FieldType)).before args0 about1 = true := code_word (m := ⟨2, 8⟩) (meth := k2m8) (c := k2c8) (by decide +kernel) rfl rfl rfl (by decide +kernel)
set_option maxRecDepth 65536 in
theorem w_c8 : (Jvm.Cond.code ({ cls := "com/example/lockstep/lockstep/store/RecordBuffer", name := "putInt", desc := "(II)V" } : Jvm.MethodName) prog_146_method_8_code (3 : Nat) (Option.none : Option Jvm.ClassFile.FieldType)).before args0 about1 = true := code_word (m := ⟨2, 7⟩) (meth := k2m7) (c := k2c7) (by decide +kernel) rfl rfl rfl (by decide +kernel)
set_option maxRecDepth 65536 in
theorem w_c9 : (Jvm.Cond.code ({ cls := "com/example/lockstep/lockstep/store/RecordBuffer", name := "writeByte", desc := "(I)V" } : Jvm.MethodName) prog_146_method_5_code (2 : Nat) (Option.none : Option Jvm.ClassFile.FieldType)).before args0 about1 = true := code_word (m := ⟨2, 4⟩) (meth := k2m4) (c := k2c4) (by decide +kernel) rfl rfl rfl (by decide +kernel)
set_option maxRecDepth 65536 in
theorem w_c10 : (Jvm.Cond.code ({ cls := "com/example/lockstep/lockstep/store/RecordBuffer", name := "writeLong", desc := "(J)V" } : Jvm.MethodName) prog_146_method_7_code (3 : Nat) (Option.none : Option Jvm.ClassFile.FieldType)).before args0 about1 = true := code_word (m := ⟨2, 6⟩) (meth := k2m6) (c := k2c6) (by decide +kernel) rfl rfl rfl (by decide +kernel)
def codes1 : List Jvm.Cond := [Jvm.Cond.code x code maxLocals ret, Jvm.Cond.code ({ cls := "com/example/lockstep/lockstep/store/RecordBuffer", name := "<init>", desc := "()V" } : Jvm.MethodName) prog_146_method_1_code (1 : Nat) (Option.none : Option Jvm.ClassFile.FieldType), Jvm.Cond.code ({ cls := "java/lang/Object", name := "<init>", desc := "()V" } : Jvm.MethodName) object_method_1_code (1 : Nat) (Option.none : Option Jvm.ClassFile.FieldType), Jvm.Cond.code ({ cls := "com/example/lockstep/lockstep/store/RecordBuffer", name := "bytes", desc := "()[B" } : Jvm.MethodName) prog_146_method_3_code (1 : Nat) (Option.some (Jvm.ClassFile.FieldType.array Jvm.ClassFile.FieldType.byte)), Jvm.Cond.code ({ cls := "com/example/lockstep/lockstep/store/RecordBuffer", name := "clear", desc := "()V" } : Jvm.MethodName) prog_146_method_2_code (1 : Nat) (Option.none : Option Jvm.ClassFile.FieldType), Jvm.Cond.code ({ cls := "com/example/lockstep/lockstep/store/RecordBuffer", name := "size", desc := "()I" } : Jvm.MethodName) prog_146_method_4_code (1 : Nat) (Option.some Jvm.ClassFile.FieldType.int), Jvm.Cond.code ({ cls := "com/example/lockstep/lockstep/store/RecordBuffer", name := "writeInt", desc := "(I)V" } : Jvm.MethodName) prog_146_method_6_code (2 : Nat) (Option.none : Option Jvm.ClassFile.FieldType), Jvm.Cond.code ({ cls := "com/example/lockstep/lockstep/store/RecordBuffer", name := "grow", desc := "(I)V" } : Jvm.MethodName) prog_146_method_9_code (2 : Nat) (Option.none : Option Jvm.ClassFile.FieldType), Jvm.Cond.code ({ cls := "com/example/lockstep/lockstep/store/RecordBuffer", name := "putInt", desc := "(II)V" } : Jvm.MethodName) prog_146_method_8_code (3 : Nat) (Option.none : Option Jvm.ClassFile.FieldType), Jvm.Cond.code ({ cls := "com/example/lockstep/lockstep/store/RecordBuffer", name := "writeByte", desc := "(I)V" } : Jvm.MethodName) prog_146_method_5_code (2 : Nat) (Option.none : Option Jvm.ClassFile.FieldType), Jvm.Cond.code ({ cls := "com/example/lockstep/lockstep/store/RecordBuffer", name := "writeLong", desc := "(J)V" } : Jvm.MethodName) prog_146_method_7_code (3 : Nat) (Option.none : Option Jvm.ClassFile.FieldType)]
set_option maxRecDepth 65536 in
theorem codes_eq : words1.filter isCode = codes1 := rfl
theorem w_codes : ∀ c ∈ words1.filter isCode, c.before args0 about1 = true := by
  rw [codes_eq]
  intro c hc
  simp only [codes1, List.mem_cons, List.not_mem_nil, or_false] at hc
  rcases hc with rfl | rfl | rfl | rfl | rfl | rfl | rfl | rfl | rfl | rfl | rfl
  · exact w_c0
  · exact w_c1
  · exact w_c2
  · exact w_c3
  · exact w_c4
  · exact w_c5
  · exact w_c6
  · exact w_c7
  · exact w_c8
  · exact w_c9
  · exact w_c10
set_option maxRecDepth 65536 in
theorem w_t1 : (words1.take 24).all (fun c => isCode c || c.before args0 about1) = true := by decide +kernel
set_option maxRecDepth 65536 in
theorem w_t2 : ((words1.drop 24).take 24).all (fun c => isCode c || c.before args0 about1) = true := by decide +kernel
set_option maxRecDepth 65536 in
theorem w_t3 : ((words1.drop 24).drop 24).all (fun c => isCode c || c.before args0 about1) = true := by decide +kernel
theorem w_tables : (allAtoms (Jvm.Cond.code x code maxLocals ret :: tables_1)).before args0 about1 = true := by
  rw [allAtoms_all]
  show words1.all (fun c => c.before args0 about1) = true
  refine all_split ?_ w_codes
  rw [← List.take_append_drop 24 words1, List.all_append, w_t1, ← List.take_append_drop 24 (words1.drop 24), List.all_append, w_t2, w_t3]
  rfl
set_option maxRecDepth 65536 in
theorem w_case : (Jvm.Cond.and given_1 narrow_1).before args0 about1 = true := by decide +kernel
theorem w_applies : (headSpec (Jvm.Cond.code x code maxLocals ret :: tables_1) room_1).applies x e0.platform about1 = true :=
  (Spec.applies_iff w_frames).mpr ⟨w_running, w_runnable, w_alone, w_named, w_hears, w_ripe, w_room, w_tables⟩
theorem atStart : AtStart classFile x code maxLocals ret World_1 tables_1 room_1 Calls_1 rest_1 Pre_1 launch0 p0 e0 about1 theMethod args0 below0 :=
  ⟨lists_1, trivial, launch0.admits_env _ _ _, launch0.least_env, fairChoices_fair.cas, fairChoices_fair.clock, w_frames, w_args, w_heap, w_applies, trivial, trivial, w_case⟩
end start1
theorem witness_1 : WitnessClaimed_1 := ⟨start1.p0, start1.e0, start1.about1, start1.theMethod, start1.args0, start1.below0, start1.atStart⟩
end Jvm.Pilot.@@N@@
