import JvmDerived
import JvmDerived.Pilot.@@N@@Statement
import JvmDerived.Pilot.@@N@@Code
set_option linter.unusedVariables false
set_option linter.unusedSimpArgs false
namespace Jvm.RoadKit
open Sem ClassFile Op Lib Jvm.Stand Jvm.Free Jvm.LawKit
section New
variable {p : Program} {l : Launch} {e : Env} {R : Room} {s : State} {m : MethodId} {args : Array Value} {below : List Frame} {meth : Method} {c : Code} {T : State} {locs : List Loc} {cells slots : Nat}
theorem retI (X : Stand p l e R s m args below meth c T locs cells slots) (hx : p.tables.exec = Jvm.exec) {pc : Nat} {Ls : Array Slot} {z : Int32} {rest : List Value} (hret : meth.sig.returnType = some .int) (hd : decode c.code pc = .ok (.ireturn, 1)) {fs : List Frame}
    (hl : ∀ (f : JFrame) (acts : List Action), f.method = m → f.locked = none → f.entered = [] → (doReturn e (T.setTop f) acts (some (.int z))).1 = T.setFrames fs) : Steps p.tables e below (T.setTop (mkF m pc Ls (.int z :: rest))) (T.setFrames fs) := by
  have hm' : T.vm.method? m = some meth := X.method'
  have hn : narrow .int (.int z) = .int z := rfl
  show Steps p.tables e below (T.setTop { method := m, pc := pc, locals := Ls, stack := _ :: rest, locked := none }) _
  jvm_step X.here [X.here.top, hx, hd, hm', hret, hn]
  first | (intro acts; rw [hl _ acts rfl rfl rfl]) | rw [hl _ _ rfl rfl rfl]
  exact Steps.refl _
theorem own_lremM {g : JFrame} {target : State} (X : Stand p l e R s m args below meth c T locs cells slots) (hx : p.tables.exec = Jvm.exec) (hg : g.method = m) {x y : Int64} {rest : List Value} (hd : decode c.code g.pc = .ok (.lrem, 1)) (hs : g.stack = .long y :: .long x :: rest) (hy : y ≠ 0)
    (hr : Steps p.tables e below (T.setTop { g with pc := g.pc + 1, stack := .long (x % y) :: rest }) target) : Steps p.tables e below (T.setTop g) target := by
  have q : x - (x / y) * y = x % y := lrem_mod x y
  exact XS.lrem X.here hx hg hd hs hy (by rw [q]; exact hr)
end New
/-! own: a long's comparison, an array by a function -/
theorem own_tltL {x y : Int64} (h : x < y) : ifCond.holds .lt (lcmpW x y) = true ∧ ifCond.holds .ge (lcmpW x y) = false ∧ ifCond.holds .gt (lcmpW y x) = true ∧ ifCond.holds .le (lcmpW y x) = false := by
  have h1 := (lc_lt x y).mpr h
  have h2 := (lc_gt y x).mpr h
  rw [← lcW] at h1 h2
  simp only [if0]
  exact ⟨(tlt h1).1, (tlt h1).2.1, (tlt h2).2.2.1, (tlt h2).2.2.2⟩
theorem own_fltL {x y : Int64} (h : ¬ x < y) : ifCond.holds .lt (lcmpW x y) = false ∧ ifCond.holds .ge (lcmpW x y) = true ∧ ifCond.holds .gt (lcmpW y x) = false ∧ ifCond.holds .le (lcmpW y x) = true := by
  have h1 := mt (lc_lt x y).mp h
  have h2 := mt (lc_gt y x).mp h
  rw [← lcW] at h1 h2
  simp only [if0]
  exact ⟨(flt h1).1, (flt h1).2.1, (flt h2).2.2.1, (flt h2).2.2.2⟩
theorem own_teqL {x y : Int64} (h : x = y) : ifCond.holds .eq (lcmpW x y) = true ∧ ifCond.holds .ne (lcmpW x y) = false := by
  have h1 := (lc_eq x y).mpr h
  rw [← lcW] at h1
  simp only [if0]
  exact teq h1
theorem own_feqL {x y : Int64} (h : ¬ x = y) : ifCond.holds .eq (lcmpW x y) = false ∧ ifCond.holds .ne (lcmpW x y) = true := by
  have h1 := mt (lc_eq x y).mp h
  rw [← lcW] at h1
  simp only [if0]
  exact feq h1
theorem own_iadd {x y : Int32} {X Y : Int} (hx : x.toInt = X) (hy : y.toInt = Y) (h1 : -2147483648 ≤ X + Y) (h2 : X + Y < 2147483648) : (x + y).toInt = X + Y := by
  have := c_iadd x y; have := rng32 (x + y); omega
theorem own_isub {x y : Int32} {X Y : Int} (hx : x.toInt = X) (hy : y.toInt = Y) (h1 : -2147483648 ≤ X - Y) (h2 : X - Y < 2147483648) : (x - y).toInt = X - Y := by
  have := c_isub x y; have := rng32 (x - y); omega
theorem own_imul {x y : Int32} {X Y : Int} (hx : x.toInt = X) (hy : y.toInt = Y) (h1 : -2147483648 ≤ X * Y) (h2 : X * Y < 2147483648) : (x * y).toInt = X * Y := by
  have := c_imul x y; have := rng32 (x * y); subst hx hy; omega
theorem own_ladd {x y : Int64} {X Y : Int} (hx : x.toInt = X) (hy : y.toInt = Y) (h1 : -9223372036854775808 ≤ X + Y) (h2 : X + Y < 9223372036854775808) : (x + y).toInt = X + Y := by
  have := c_ladd x y; have := rng64 (x + y); omega
theorem own_lsub {x y : Int64} {X Y : Int} (hx : x.toInt = X) (hy : y.toInt = Y) (h1 : -9223372036854775808 ≤ X - Y) (h2 : X - Y < 9223372036854775808) : (x - y).toInt = X - Y := by
  have := c_lsub x y; have := rng64 (x - y); omega
theorem own_lmul {x y : Int64} {X Y : Int} (hx : x.toInt = X) (hy : y.toInt = Y) (h1 : -9223372036854775808 ≤ X * Y) (h2 : X * Y < 9223372036854775808) : (x * y).toInt = X * Y := by
  have := c_lmul x y; have := rng64 (x * y); subst hx hy; omega
theorem own_maskL (x m : Int64) (k : Nat) (M : Int) (hM : m.toInt = M) (hk : k ≤ 63) (hm : m.toBitVec.toNat = 2 ^ k - 1) : 0 ≤ (x &&& m).toInt ∧ (x &&& m).toInt ≤ M := by
  have h := c_maskL x m k hk hm
  have h2 := c_maskL m m k hk hm
  have e : m &&& m = m := by simp
  rw [e] at h2
  have p : (0 : Int) < ((2 ^ k : Nat) : Int) := by have := Nat.two_pow_pos k; omega
  have a1 := Int.emod_nonneg x.toInt (show ((2 ^ k : Nat) : Int) ≠ 0 by omega)
  have a2 := Int.emod_lt_of_pos x.toInt p
  have hmi : m.toInt = ((2 ^ k - 1 : Nat) : Int) := by
    have h3 : m.toInt = (m.toBitVec.toNat : Int) := by
      show m.toBitVec.toInt = _
      rw [BitVec.toInt_eq_toNat_cond, hm]
      have : 2 ^ k ≤ 2 ^ 63 := Nat.pow_le_pow_right (by decide) hk
      split <;> omega
    rw [h3, hm]
  omega
theorem own_nb (x : Int32) : nar .byte (x.toInt8.toInt32) = x.toInt8.toInt32 := by
  show (x.toInt8.toInt32).toInt8.toInt32 = _
  simp
theorem own_sel {args : Array Value} {s : State} {y z : MethodName} (hi : (Cond.instanceMethod y).before args s = true) (hp : (Cond.privateMethod y).before args s = true) (h2 : (Cond.selects y.cls z z).before args s = true) (hc : z.cls = y.cls)
    (hy : y.cls ≠ "java/lang/invoke/MethodHandle" ∧ y.cls ≠ "java/lang/invoke/VarHandle") : (Cond.selects y.cls y y).before args s = true := by
  obtain ⟨mk, meth, hn, hm, -, -⟩ := Cond.instanceMethod_spec hi
  obtain ⟨c, r, m2, -, -, f3, -, k, f4, f5⟩ := Cond.selects_spec h2
  have e1 := findClass_of_methodNamed hn
  have e2 := findClass_of_methodNamed f3
  rw [hc, e1] at e2
  have e3 : m2.cls = mk.cls := (Option.some.inj e2).symm
  have e4 := State.methodFound?_of_named hn hy
  have e5 := selectMethod_private (p := {}) (c := mk.cls) hm (Cond.privateMethod_at hp mk meth hn hm)
  rw [e3] at f4
  simp [Cond.before, Cond.holds, Cond.value, e1, e4, hn, e5, f4, f5]
def AF (Z : State) (h : Heap) (a : Addr) (ty : FieldType) (n : Nat) (g : Nat → Value) : Prop := ∃ c : Cell, Arr Z h a c ty ∧ c.slots.size = n ∧ ∀ j, j < n → c.slots[j]? = some (g j)
abbrev AI (Z : State) (h : Heap) (a : Addr) (ty : FieldType) (n : Nat) (f : Nat → Int32) : Prop := AF Z h a ty n (fun j => .int (f j))
abbrev AJ (Z : State) (h : Heap) (a : Addr) (ty : FieldType) (n : Nat) (f : Nat → Int64) : Prop := AF Z h a ty n (fun j => .long (f j))
abbrev AD (Z : State) (h : Heap) (a : Addr) (ty : FieldType) (n : Nat) (f : Nat → UInt64) : Prop := AF Z h a ty n (fun j => .double (f j))
def up {α : Type} (f : Nat → α) (i : Nat) (v : α) : Nat → α := fun j => if j = i then v else f j
def zI : Nat → Int32 := fun _ => 0
def zJ : Nat → Int64 := fun _ => 0
section Arrs
variable {Z : State} {h h' : Heap} {a b : Addr} {ty : FieldType} {n : Nat} {g g' : Nat → Value}
theorem AF.lt (F : AF Z h a ty n g) : a < h.size := by obtain ⟨c, A, -⟩ := F; exact A.lt
theorem AF.ext (F : AF Z h a ty n g) (E : Ext h h') : AF Z h' a ty n g := by obtain ⟨c, A, r⟩ := F; exact ⟨c, A.ext E, r⟩
theorem AF.other {sl : Nat} {v : Value} (F : AF Z h b ty n g) (W : Wr h h' a sl v) (q : b ≠ a) : AF Z h' b ty n g := by obtain ⟨c, A, r⟩ := F; exact ⟨c, A.other W q, r⟩
theorem AF.keep {ws : List Addr} (F : AF Z h a ty n g) (K : Keep h h' ws) (q : a ∉ ws) : AF Z h' a ty n g := by obtain ⟨c, A, r⟩ := F; exact ⟨c, ⟨K.2.1 a c A.1 q, A.2⟩, r⟩
theorem AF.re (F : AF Z h a ty n g) (q : ∀ j, j < n → g j = g' j) : AF Z h a ty n g' := by obtain ⟨c, A, S, H⟩ := F; exact ⟨c, A, S, fun j hj => by rw [H j hj, q j hj]⟩
theorem AF.at (F : AF Z h a ty n g) {j : Int32} (i : Nat) (hj : j.toInt = i) (hi : i < n) : ∃ c : Cell, Arr Z h a c ty ∧ ¬ (j < 0 ∨ c.slots.size ≤ j.toNatClampNeg) ∧ c.slots[j.toNatClampNeg]? = some (g i) := by
  obtain ⟨c, A, S, H⟩ := F
  have e : j.toNatClampNeg = i := by simp only [Int32.toNatClampNeg, hj]; omega
  refine ⟨c, A, ?_, by rw [e]; exact H i hi⟩
  rw [e, S, Int32.lt_iff_toInt_lt, hj]
  have : (0 : Int32).toInt = 0 := rfl
  omega
theorem AF.len (F : AF Z h a ty n g) : ∃ c : Cell, Arr Z h a c ty ∧ c.slots.size = n := by obtain ⟨c, A, S, -⟩ := F; exact ⟨c, A, S⟩
theorem AF.set {k : Nat} {v : Value} (F : AF Z h a ty n g) (W : Wr h h' a k v) : AF Z h' a ty n (fun j => if j = k then v else g j) := by
  obtain ⟨c, A, S, H⟩ := F
  refine ⟨_, A.same W, by rw [sz_set]; exact S, fun j hj => ?_⟩
  by_cases q : j = k
  · subst q; simp [Cell.setSlot, S, hj]
  · show _ = some (if j = k then v else g j)
    rw [if_neg q]; have := H j hj; simp only [Cell.setSlot] at this ⊢; rw [Array.getElem?_setIfInBounds_ne (Ne.symm q)]; exact this
theorem own_tn {j : Int32} {i : Nat} (hj : j.toInt = i) : j.toNatClampNeg = i := by simp only [Int32.toNatClampNeg, hj]; omega
theorem AF.setI {f : Nat → Int32} {j : Int32} {v : Int32} (F : AI Z h a ty n f) (W : Wr h h' a j.toNatClampNeg (.int v)) (i : Nat) (hj : j.toInt = i) : AI Z h' a ty n (up f i v) := by
  rw [own_tn hj] at W
  exact (AF.set F W).re fun k _ => by by_cases q : k = i <;> simp [up, q]
theorem AF.setJ {f : Nat → Int64} {j : Int32} {v : Int64} (F : AJ Z h a ty n f) (W : Wr h h' a j.toNatClampNeg (.long v)) (i : Nat) (hj : j.toInt = i) : AJ Z h' a ty n (up f i v) := by
  rw [own_tn hj] at W
  exact (AF.set F W).re fun k _ => by by_cases q : k = i <;> simp [up, q]
theorem AF.setD {f : Nat → UInt64} {j : Int32} {v : UInt64} (F : AD Z h a ty n f) (W : Wr h h' a j.toNatClampNeg (.double v)) (i : Nat) (hj : j.toInt = i) : AD Z h' a ty n (up f i v) := by
  rw [own_tn hj] at W
  exact (AF.set F W).re fun k _ => by by_cases q : k = i <;> simp [up, q]
theorem AF.new {k : ClassId} {z : Int32} (A : Arr Z h a (newA k ty z) ty) (hz : z.toInt = n) : AF Z h a ty n (fun _ => defaultValue ty) :=
  ⟨_, A, by rw [sz_new]; exact own_tn hz, fun j hj => by simp [newA, own_tn hz, hj]⟩
end Arrs
end Jvm.RoadKit
namespace Jvm.Pilot.@@N@@
open Jvm Jvm.ClassFile Sem Op Lib Jvm.Free Jvm.Stand Jvm.LawKit Jvm.RoadKit Bundle Jvm.Pilot.@@N@@.Jvm.D
theorem ef_1 (m : MethodId) (ra : Addr) : entryFrame m #[(.ref ra)] 1 = mkF m 0 #[.val (.ref ra)] [] := by first | (simp [entryFrame, mkF, argsToLocals, Value.category]; done) | rfl
theorem d1_0 : decode prog_146_method_1_code 0 = .ok (.aload_n 0, 1) := by decide +kernel
theorem d1_1 : decode prog_146_method_1_code 1 = .ok (.invokespecial 1, 3) := by decide +kernel
theorem d1_4 : decode prog_146_method_1_code 4 = .ok (.aload_n 0, 1) := by decide +kernel
theorem d1_5 : decode prog_146_method_1_code 5 = .ok (.sipush 256, 3) := by decide +kernel
theorem d1_8 : decode prog_146_method_1_code 8 = .ok (.newarray .byte, 2) := by decide +kernel
theorem d1_10 : decode prog_146_method_1_code 10 = .ok (.putfield 9, 3) := by decide +kernel
theorem d1_13 : decode prog_146_method_1_code 13 = .ok (.return_, 1) := by decide +kernel
theorem pn_com_example_lockstep_lockstep_store_RecordBuffer : plainName "com/example/lockstep/lockstep/store/RecordBuffer" = true := by first | (simp [plainName, overriddenIn]; done) | decide +kernel
def Q1 (Z : State) (ra : Addr) (h0 : Heap) (n0 : Nat) (v : Option Value) (h : Heap) (L : List Loc) : Prop := ∃ fr0 : Addr, n0 ≤ fr0 ∧ h0.size ≤ fr0 ∧ v = none ∧ Fr n0 L ∧ Keep h0 h [ra] ∧ Fld Z h ra "com/example/lockstep/lockstep/store/RecordBuffer" "bytes" "[B" (.ref fr0) ∧ Fld Z h ra "com/example/lockstep/lockstep/store/RecordBuffer" "size" "I" (.int (0 : Int32)) ∧ AI Z h fr0 .byte 256 zI
set_option maxRecDepth 65536 in
set_option maxHeartbeats 40000000 in
theorem rm1 (l : Launch) (Z : State) (a0 : Array Value) (hw : ∀ d ∈ tables_1, d.before a0 Z = true) (ws : List Jvm.Cond) (ra : Addr) (h0 : Heap) (n0 : Nat) (Z0 : n0 ≤ h0.size) (E_ra : Exa Z h0 ra "com/example/lockstep/lockstep/store/RecordBuffer") (F_bytes_ra : Fld Z h0 ra "com/example/lockstep/lockstep/store/RecordBuffer" "bytes" "[B" .null) (F_size_ra : Fld Z h0 ra "com/example/lockstep/lockstep/store/RecordBuffer" "size" "I" (.int (0 : Int32))) (g_ra : n0 ≤ ra) :
    MetFree l (⟨"com/example/lockstep/lockstep/store/RecordBuffer", "<init>", "()V"⟩ : MethodName) (head1 (Jvm.Cond.code (⟨"com/example/lockstep/lockstep/store/RecordBuffer", "<init>", "()V"⟩ : MethodName) prog_146_method_1_code 1 none :: ws) ({ frames := 1, cells := 1, slots := 256, locals := 12 } : Room)) (fun a U => a = #[(.ref ra)] ∧ Z.Warmed39 U.vm ∧ U.heap = h0) (fun _ _ _ _ _ => True) (fun _ U o U' => ∃ v L, o = .returned v ∧ Q1 Z ra h0 n0 v U'.heap L ∧ FrameEnd U o U' L ({ frames := 1, cells := 1, slots := 256, locals := 12 } : Room).cells ({ frames := 1, cells := 1, slots := 256, locals := 12 } : Room).slots) := by
  refine MetFree.of_bodySF (plainFor_of_name pn_com_example_lockstep_lockstep_store_RecordBuffer) hisR ?_
  intro p e s m args below meth c s₁ Bd hml0 hP hK
  obtain ⟨rfl, hZ, hh⟩ := hP
  have hx := Bd.exec
  have hby := Bd.bytes
  have hml : c.maxLocals = 1 := hml0
  have hown : s.vm.findClass "com/example/lockstep/lockstep/store/RecordBuffer" = some m.cls := findClass_of_methodNamed Bd.named
  have hnm := (name_of_methodNamed Bd.named Bd.method).1
  have X0 : Stand p l e ({ frames := 1, cells := 1, slots := 256, locals := 12 } : Room) s m #[(.ref ra)] below meth c s₁ [] 0 0 := Stand.of_body Bd
  have e0 : s₁.heap = h0 := by rw [← hh, Bd.state]; rfl
  have N0 := Fr.nil n0
  have K0 : Keep h0 h0 [ra] := Keep.refl h0 _
  have pre0 : ∀ t, Steps p.tables e below (s₁.setTop (mkF m 0 #[.val (.ref ra)] [])) t → Steps p.tables e below (s₁.setTop (entryFrame m #[(.ref ra)] 1)) t := fun t k => castTop (ef_1 m ra) k
  obtain ⟨T1, X1, e1, st1⟩ := initO X0 hx hZ hown (hw _ (List.mem_of_getElem? (i := 6) rfl)) (hw _ (List.mem_of_getElem? (i := 7) rfl)) (hw _ (List.mem_of_getElem? (i := 8) rfl)) e0 (g := (mkF m 1 #[.val (.ref ra)] [(.ref ra)])) rfl (by rw [hml]; rfl) rfl (hb hby d1_1) (by decide) (W := 0) (by show 2 * 0 + _ ≤ _; exact Nat.le_of_eq rfl) (by decide)
  obtain ⟨T2, h2, k2, X2, e2, E2, A2, st2⟩ := newP X1 hx hZ (hw _ (List.mem_of_getElem? (i := 9) rfl)) e1 (g := (mkF m 8 #[.val (.ref ra)] [(.int (256 : Int32)), (.ref ra)])) rfl (hb hby d1_8) rfl (by decide) (cap := 256) (by decide) (by decide) (by decide) (by decide)
  obtain ⟨b2, g2⟩ : ∃ z, z = h0.size := ⟨_, rfl⟩
  rw [← g2] at A2 st2
  have ne3 : ra ≠ b2 := Nat.ne_of_lt (Nat.lt_of_lt_of_le E_ra.lt (Nat.le_of_eq g2.symm))
  have gg2 : n0 ≤ b2 := Nat.le_trans Z0 (Nat.le_of_eq g2.symm)
  have sz2 : h0.size ≤ b2 := Nat.le_trans K0.1 (Nat.le_of_eq g2.symm)
  have f4 : Exa Z h2 ra "com/example/lockstep/lockstep/store/RecordBuffer" := E_ra.ext E2
  have f5 : Fld Z h2 ra "com/example/lockstep/lockstep/store/RecordBuffer" "bytes" "[B" .null := F_bytes_ra.ext E2
  have f6 : Fld Z h2 ra "com/example/lockstep/lockstep/store/RecordBuffer" "size" "I" (.int (0 : Int32)) := F_size_ra.ext E2
  have Z2 : n0 ≤ h2.size := Nat.le_trans Z0 E2.1
  have K2 : Keep h0 h2 [ra] := K0.ext E2
  have f7 : AI Z h2 b2 .byte 256 zI := AF.new A2 (by decide)
  obtain ⟨T8, h8, X8, e8, W8, st8⟩ := putF X2 hx hZ hown (host := "") (Or.inl (hw _ (List.mem_of_getElem? (i := 10) rfl))) Via.refl e2 f5 f4 (Or.inl (hw _ (List.mem_of_getElem? (i := 11) rfl))) (hw _ (List.mem_of_getElem? (i := 1) rfl)) (ty := (.array .byte)) (by decide) rfl rfl (g := (mkF m 10 #[.val (.ref ra)] [(.ref b2), (.ref ra)])) rfl rfl (hb hby d1_10)
  have N8 := Fr.snoc X8 N0 g_ra
  have Z8 : n0 ≤ h8.size := Nat.le_trans Z2 (Keep.of_wr W8).1
  have K8 : Keep h0 h8 [ra] := K2.wr W8 (Or.inl (List.mem_of_getElem? (i := 0) rfl))
  have f9 : Fld Z h8 ra "com/example/lockstep/lockstep/store/RecordBuffer" "bytes" "[B" (.ref b2) := f5.same W8
  have f10 : Exa Z h8 ra "com/example/lockstep/lockstep/store/RecordBuffer" := f4.wr W8
  have f11 : Fld Z h8 ra "com/example/lockstep/lockstep/store/RecordBuffer" "size" "I" (.int (0 : Int32)) := f6.other W8 (Or.inr (slot_ne (Or.inl (hw _ (List.mem_of_getElem? (i := 27) rfl))) (Or.inl (hw _ (List.mem_of_getElem? (i := 11) rfl))) (by decide) (t := .int) (t' := (.array .byte)) (by decide) (by decide)))
  have f12 : AI Z h8 b2 .byte 256 zI := f7.other W8 (Ne.symm ne3)
  obtain ⟨fs, hr, hrun, hended, hW, hsame⟩ := X8.leave (v := none) (fun _ => rfl)
  refine ⟨_, _, pre0 _ ?_, hrun, hended, _, _, rfl, ?_, ⟨_, rfl⟩, hW, hsame.mono (by decide) (by decide)⟩
  · show Steps p.tables e below (s₁.setTop (mkF m 0 #[.val (.ref ra)] [])) _
    refine XS.aloadN X0.here hx rfl (hb hby d1_0) rfl rfl ?_
    show Steps p.tables e below (s₁.setTop (mkF m 1 #[.val (.ref ra)] [(.ref ra)])) _
    refine st1 _ ?_
    show Steps p.tables e below (T1.setTop (mkF m 4 #[.val (.ref ra)] [])) _
    refine XS.aloadN X1.here hx rfl (hb hby d1_4) rfl rfl ?_
    show Steps p.tables e below (T1.setTop (mkF m 5 #[.val (.ref ra)] [(.ref ra)])) _
    refine XS.sipush X1.here hx rfl (hb hby d1_5) ?_
    show Steps p.tables e below (T1.setTop (mkF m 8 #[.val (.ref ra)] [(.int (256 : Int32)), (.ref ra)])) _
    refine st2 _ ?_
    show Steps p.tables e below (T2.setTop (mkF m 10 #[.val (.ref ra)] [(.ref b2), (.ref ra)])) _
    refine st8 _ ?_
    show Steps p.tables e below (T8.setTop (mkF m 13 #[.val (.ref ra)] [])) _
    exact X8.returnOut hx Bd.returns (hb hby d1_13) hr
  · show Q1 Z ra h0 n0 _ T8.heap _
    rw [e8]
    exact ⟨b2, gg2, sz2, rfl, N8, K8, f9, f11, f12⟩
theorem ef_5 (m : MethodId) (ra : Addr) (kk : Int32) : entryFrame m #[(.ref ra), (.int kk)] 2 = mkF m 0 #[.val (.ref ra), .val (.int kk)] [] := by first | (simp [entryFrame, mkF, argsToLocals, Value.category]; done) | rfl
theorem d5_0 : decode prog_146_method_9_code 0 = .ok (.aload_n 0, 1) := by decide +kernel
theorem d5_1 : decode prog_146_method_9_code 1 = .ok (.getfield 13, 3) := by decide +kernel
theorem d5_4 : decode prog_146_method_9_code 4 = .ok (.iload_n 1, 1) := by decide +kernel
theorem d5_5 : decode prog_146_method_9_code 5 = .ok (.iadd, 1) := by decide +kernel
theorem d5_6 : decode prog_146_method_9_code 6 = .ok (.aload_n 0, 1) := by decide +kernel
theorem d5_7 : decode prog_146_method_9_code 7 = .ok (.getfield 9, 3) := by decide +kernel
theorem d5_10 : decode prog_146_method_9_code 10 = .ok (.arraylength, 1) := by decide +kernel
theorem d5_11 : decode prog_146_method_9_code 11 = .ok (.if_icmp .le 30, 3) := by decide +kernel
theorem d5_41 : decode prog_146_method_9_code 41 = .ok (.return_, 1) := by decide +kernel
def Q5 (Z : State) (ra : Addr) (kk : Int32) (rb : Addr) (fb : Nat → Int32) (sz : Int32) (h0 : Heap) (n0 : Nat) (v : Option Value) (h : Heap) (L : List Loc) : Prop := v = none ∧ Fr n0 L ∧ h = h0
set_option maxRecDepth 65536 in
set_option maxHeartbeats 40000000 in
theorem rm5 (l : Launch) (Z : State) (a0 : Array Value) (hw : ∀ d ∈ tables_1, d.before a0 Z = true) (ws : List Jvm.Cond) (ra : Addr) (kk : Int32) (rb : Addr) (fb : Nat → Int32) (sz : Int32) (h0 : Heap) (n0 : Nat) (Z0 : n0 ≤ h0.size) (F_bytes_ra : Fld Z h0 ra "com/example/lockstep/lockstep/store/RecordBuffer" "bytes" "[B" (.ref rb)) (A_rb : AI Z h0 rb .byte 256 fb) (F_size_ra : Fld Z h0 ra "com/example/lockstep/lockstep/store/RecordBuffer" "size" "I" (.int sz)) (hc11 : ¬ ((256 : Int32) < (sz + kk))) :
    MetFree l (⟨"com/example/lockstep/lockstep/store/RecordBuffer", "grow", "(I)V"⟩ : MethodName) (head1 (Jvm.Cond.code (⟨"com/example/lockstep/lockstep/store/RecordBuffer", "grow", "(I)V"⟩ : MethodName) prog_146_method_9_code 2 none :: ws) ({ frames := 0, cells := 0, slots := 0, locals := 0 } : Room)) (fun a U => a = #[(.ref ra), (.int kk)] ∧ Z.Warmed39 U.vm ∧ U.heap = h0) (fun _ _ _ _ _ => True) (fun _ U o U' => ∃ v L, o = .returned v ∧ Q5 Z ra kk rb fb sz h0 n0 v U'.heap L ∧ FrameEnd U o U' L ({ frames := 0, cells := 0, slots := 0, locals := 0 } : Room).cells ({ frames := 0, cells := 0, slots := 0, locals := 0 } : Room).slots) := by
  refine MetFree.of_bodySF (plainFor_of_name pn_com_example_lockstep_lockstep_store_RecordBuffer) hisR ?_
  intro p e s m args below meth c s₁ Bd hml0 hP hK
  obtain ⟨rfl, hZ, hh⟩ := hP
  have hx := Bd.exec
  have hby := Bd.bytes
  have hml : c.maxLocals = 2 := hml0
  have hown : s.vm.findClass "com/example/lockstep/lockstep/store/RecordBuffer" = some m.cls := findClass_of_methodNamed Bd.named
  have hnm := (name_of_methodNamed Bd.named Bd.method).1
  have X0 : Stand p l e ({ frames := 0, cells := 0, slots := 0, locals := 0 } : Room) s m #[(.ref ra), (.int kk)] below meth c s₁ [] 0 0 := Stand.of_body Bd
  have e0 : s₁.heap = h0 := by rw [← hh, Bd.state]; rfl
  have N0 := Fr.nil n0
  have K0 : Keep h0 h0 [] := Keep.refl h0 _
  have pre0 : ∀ t, Steps p.tables e below (s₁.setTop (mkF m 0 #[.val (.ref ra), .val (.int kk)] [])) t → Steps p.tables e below (s₁.setTop (entryFrame m #[(.ref ra), (.int kk)] 2)) t := fun t k => castTop (ef_5 m ra kk) k
  obtain ⟨T1, X1, e1, st1⟩ := getF X0 hx hZ hown (host := "") (Or.inl (hw _ (List.mem_of_getElem? (i := 26) rfl))) Via.refl e0 F_size_ra (g := (mkF m 1 #[.val (.ref ra), .val (.int kk)] [(.ref ra)])) rfl rfl (hb hby d5_1)
  obtain ⟨T2, X2, e2, st2⟩ := getF X1 hx hZ hown (host := "") (Or.inl (hw _ (List.mem_of_getElem? (i := 10) rfl))) Via.refl e1 F_bytes_ra (g := (mkF m 7 #[.val (.ref ra), .val (.int kk)] [(.ref ra), (.int (sz + kk))])) rfl rfl (hb hby d5_7)
  obtain ⟨cl3, Arcl3, Szcl3⟩ := AF.len A_rb
  obtain ⟨fs, hr, hrun, hended, hW, hsame⟩ := X2.leave (v := none) (fun _ => rfl)
  refine ⟨_, _, pre0 _ ?_, hrun, hended, _, _, rfl, ?_, ⟨_, rfl⟩, hW, hsame.mono (by decide) (by decide)⟩
  · show Steps p.tables e below (s₁.setTop (mkF m 0 #[.val (.ref ra), .val (.int kk)] [])) _
    refine XS.aloadN X0.here hx rfl (hb hby d5_0) rfl rfl ?_
    show Steps p.tables e below (s₁.setTop (mkF m 1 #[.val (.ref ra), .val (.int kk)] [(.ref ra)])) _
    refine st1 _ ?_
    show Steps p.tables e below (T1.setTop (mkF m 4 #[.val (.ref ra), .val (.int kk)] [(.int sz)])) _
    refine XS.iloadN X1.here hx rfl (hb hby d5_4) rfl ?_
    show Steps p.tables e below (T1.setTop (mkF m 5 #[.val (.ref ra), .val (.int kk)] [(.int kk), (.int sz)])) _
    refine XS.iadd X1.here hx rfl (hb hby d5_5) rfl ?_
    show Steps p.tables e below (T1.setTop (mkF m 6 #[.val (.ref ra), .val (.int kk)] [(.int (sz + kk))])) _
    refine XS.aloadN X1.here hx rfl (hb hby d5_6) rfl rfl ?_
    show Steps p.tables e below (T1.setTop (mkF m 7 #[.val (.ref ra), .val (.int kk)] [(.ref ra), (.int (sz + kk))])) _
    refine st2 _ ?_
    show Steps p.tables e below (T2.setTop (mkF m 10 #[.val (.ref ra), .val (.int kk)] [(.ref rb), (.int (sz + kk))])) _
    refine X2.arraylength hx (by rw [e2]; exact Arcl3.1) (State.isArrayOf_alike hZ.alike Arcl3.2.1) (g := (mkF m 10 #[.val (.ref ra), .val (.int kk)] [(.ref rb), (.int (sz + kk))])) rfl rfl (hb hby d5_10) _ ?_
    rw [Szcl3]
    show Steps p.tables e below (T2.setTop (mkF m 11 #[.val (.ref ra), .val (.int kk)] [(.int (256 : Int32)), (.int (sz + kk))])) _
    refine XS.icmpYes X2.here hx rfl (pc0 := 11) (pc' := 41) rfl (hb hby d5_11) rfl (flt hc11).2.2.2 (by decide) (by decide) ?_
    show Steps p.tables e below (T2.setTop (mkF m 41 #[.val (.ref ra), .val (.int kk)] [])) _
    exact X2.returnOut hx Bd.returns (hb hby d5_41) hr
  · show Q5 Z ra kk rb fb sz h0 n0 _ T2.heap _
    rw [e2]
    exact ⟨rfl, N0, rfl⟩
theorem own_ix {pv : Int32} {pn : Nat} (h : pv.toInt = pn) (hl : pn + 4 ≤ 256) (k : Int32) (kn : Nat) (hk : k.toInt = kn) (hk4 : kn ≤ 4) : (pv + k).toInt = ((pn + kn : Nat) : Int) := by
  have := c_iadd pv k
  have := rng32 (pv + k)
  omega
theorem own_gr {sz k : Int32} {sn kn : Nat} (h : sz.toInt = sn) (hk : k.toInt = kn) (hl : sn + kn ≤ 256) (hk4 : kn ≤ 4) : ¬ ((256 : Int32) < (sz + k)) := by
  rw [Int32.lt_iff_toInt_lt]
  have := c_iadd sz k
  have : (256 : Int32).toInt = 256 := rfl
  have := rng32 (sz + k)
  omega
theorem ef_6 (m : MethodId) (ra : Addr) (pv : Int32) (vv : Int32) : entryFrame m #[(.ref ra), (.int pv), (.int vv)] 3 = mkF m 0 #[.val (.ref ra), .val (.int pv), .val (.int vv)] [] := by first | (simp [entryFrame, mkF, argsToLocals, Value.category]; done) | rfl
theorem d6_0 : decode prog_146_method_8_code 0 = .ok (.aload_n 0, 1) := by decide +kernel
theorem d6_1 : decode prog_146_method_8_code 1 = .ok (.getfield 9, 3) := by decide +kernel
theorem d6_4 : decode prog_146_method_8_code 4 = .ok (.iload_n 1, 1) := by decide +kernel
theorem d6_5 : decode prog_146_method_8_code 5 = .ok (.iload_n 2, 1) := by decide +kernel
theorem d6_6 : decode prog_146_method_8_code 6 = .ok (.bipush 24, 2) := by decide +kernel
theorem d6_8 : decode prog_146_method_8_code 8 = .ok (.iushr, 1) := by decide +kernel
theorem d6_9 : decode prog_146_method_8_code 9 = .ok (.i2b, 1) := by decide +kernel
theorem d6_10 : decode prog_146_method_8_code 10 = .ok (.bastore, 1) := by decide +kernel
theorem d6_11 : decode prog_146_method_8_code 11 = .ok (.aload_n 0, 1) := by decide +kernel
theorem d6_12 : decode prog_146_method_8_code 12 = .ok (.getfield 9, 3) := by decide +kernel
theorem d6_15 : decode prog_146_method_8_code 15 = .ok (.iload_n 1, 1) := by decide +kernel
theorem d6_16 : decode prog_146_method_8_code 16 = .ok (.iconst 1, 1) := by decide +kernel
theorem d6_17 : decode prog_146_method_8_code 17 = .ok (.iadd, 1) := by decide +kernel
theorem d6_18 : decode prog_146_method_8_code 18 = .ok (.iload_n 2, 1) := by decide +kernel
theorem d6_19 : decode prog_146_method_8_code 19 = .ok (.bipush 16, 2) := by decide +kernel
theorem d6_21 : decode prog_146_method_8_code 21 = .ok (.iushr, 1) := by decide +kernel
theorem d6_22 : decode prog_146_method_8_code 22 = .ok (.i2b, 1) := by decide +kernel
theorem d6_23 : decode prog_146_method_8_code 23 = .ok (.bastore, 1) := by decide +kernel
theorem d6_24 : decode prog_146_method_8_code 24 = .ok (.aload_n 0, 1) := by decide +kernel
theorem d6_25 : decode prog_146_method_8_code 25 = .ok (.getfield 9, 3) := by decide +kernel
theorem d6_28 : decode prog_146_method_8_code 28 = .ok (.iload_n 1, 1) := by decide +kernel
theorem d6_29 : decode prog_146_method_8_code 29 = .ok (.iconst 2, 1) := by decide +kernel
theorem d6_30 : decode prog_146_method_8_code 30 = .ok (.iadd, 1) := by decide +kernel
theorem d6_31 : decode prog_146_method_8_code 31 = .ok (.iload_n 2, 1) := by decide +kernel
theorem d6_32 : decode prog_146_method_8_code 32 = .ok (.bipush 8, 2) := by decide +kernel
theorem d6_34 : decode prog_146_method_8_code 34 = .ok (.iushr, 1) := by decide +kernel
theorem d6_35 : decode prog_146_method_8_code 35 = .ok (.i2b, 1) := by decide +kernel
theorem d6_36 : decode prog_146_method_8_code 36 = .ok (.bastore, 1) := by decide +kernel
theorem d6_37 : decode prog_146_method_8_code 37 = .ok (.aload_n 0, 1) := by decide +kernel
theorem d6_38 : decode prog_146_method_8_code 38 = .ok (.getfield 9, 3) := by decide +kernel
theorem d6_41 : decode prog_146_method_8_code 41 = .ok (.iload_n 1, 1) := by decide +kernel
theorem d6_42 : decode prog_146_method_8_code 42 = .ok (.iconst 3, 1) := by decide +kernel
theorem d6_43 : decode prog_146_method_8_code 43 = .ok (.iadd, 1) := by decide +kernel
theorem d6_44 : decode prog_146_method_8_code 44 = .ok (.iload_n 2, 1) := by decide +kernel
theorem d6_45 : decode prog_146_method_8_code 45 = .ok (.i2b, 1) := by decide +kernel
theorem d6_46 : decode prog_146_method_8_code 46 = .ok (.bastore, 1) := by decide +kernel
theorem d6_47 : decode prog_146_method_8_code 47 = .ok (.return_, 1) := by decide +kernel
def r6_arr (vv : Int32) (fb : Nat → Int32) (pn : Nat) : Nat → Int32 := (up (up (up (up fb pn (((vv.toUInt32 >>> ((24 : Int32) &&& 31).toUInt32).toInt32).toInt8.toInt32)) (pn + 1) (((vv.toUInt32 >>> ((16 : Int32) &&& 31).toUInt32).toInt32).toInt8.toInt32)) (pn + 2) (((vv.toUInt32 >>> ((8 : Int32) &&& 31).toUInt32).toInt32).toInt8.toInt32)) (pn + 3) (vv.toInt8.toInt32))
def Q6 (Z : State) (ra : Addr) (pv : Int32) (vv : Int32) (rb : Addr) (fb : Nat → Int32) (pn : Nat) (h0 : Heap) (n0 : Nat) (v : Option Value) (h : Heap) (L : List Loc) : Prop := v = none ∧ Fr n0 L ∧ Keep h0 h [rb] ∧ AI Z h rb .byte 256 (r6_arr vv fb pn)
set_option maxRecDepth 65536 in
set_option maxHeartbeats 40000000 in
theorem rm6 (l : Launch) (Z : State) (a0 : Array Value) (hw : ∀ d ∈ tables_1, d.before a0 Z = true) (ws : List Jvm.Cond) (ra : Addr) (pv : Int32) (vv : Int32) (rb : Addr) (fb : Nat → Int32) (pn : Nat) (h0 : Heap) (n0 : Nat) (Z0 : n0 ≤ h0.size) (F_bytes_ra : Fld Z h0 ra "com/example/lockstep/lockstep/store/RecordBuffer" "bytes" "[B" (.ref rb)) (A_rb : AI Z h0 rb .byte 256 fb) (ne_ra_rb : ra ≠ rb) (hpn : pv.toInt = pn) (hpl : pn + 4 ≤ 256) (g_rb : n0 ≤ rb) :
    MetFree l (⟨"com/example/lockstep/lockstep/store/RecordBuffer", "putInt", "(II)V"⟩ : MethodName) (head1 (Jvm.Cond.code (⟨"com/example/lockstep/lockstep/store/RecordBuffer", "putInt", "(II)V"⟩ : MethodName) prog_146_method_8_code 3 none :: ws) ({ frames := 0, cells := 0, slots := 0, locals := 0 } : Room)) (fun a U => a = #[(.ref ra), (.int pv), (.int vv)] ∧ Z.Warmed39 U.vm ∧ U.heap = h0) (fun _ _ _ _ _ => True) (fun _ U o U' => ∃ v L, o = .returned v ∧ Q6 Z ra pv vv rb fb pn h0 n0 v U'.heap L ∧ FrameEnd U o U' L ({ frames := 0, cells := 0, slots := 0, locals := 0 } : Room).cells ({ frames := 0, cells := 0, slots := 0, locals := 0 } : Room).slots) := by
  refine MetFree.of_bodySF (plainFor_of_name pn_com_example_lockstep_lockstep_store_RecordBuffer) hisR ?_
  intro p e s m args below meth c s₁ Bd hml0 hP hK
  obtain ⟨rfl, hZ, hh⟩ := hP
  have hx := Bd.exec
  have hby := Bd.bytes
  have hml : c.maxLocals = 3 := hml0
  have hown : s.vm.findClass "com/example/lockstep/lockstep/store/RecordBuffer" = some m.cls := findClass_of_methodNamed Bd.named
  have hnm := (name_of_methodNamed Bd.named Bd.method).1
  have X0 : Stand p l e ({ frames := 0, cells := 0, slots := 0, locals := 0 } : Room) s m #[(.ref ra), (.int pv), (.int vv)] below meth c s₁ [] 0 0 := Stand.of_body Bd
  have e0 : s₁.heap = h0 := by rw [← hh, Bd.state]; rfl
  have N0 := Fr.nil n0
  have K0 : Keep h0 h0 [rb] := Keep.refl h0 _
  have pre0 : ∀ t, Steps p.tables e below (s₁.setTop (mkF m 0 #[.val (.ref ra), .val (.int pv), .val (.int vv)] [])) t → Steps p.tables e below (s₁.setTop (entryFrame m #[(.ref ra), (.int pv), (.int vv)] 3)) t := fun t k => castTop (ef_6 m ra pv vv) k
  obtain ⟨T1, X1, e1, st1⟩ := getF X0 hx hZ hown (host := "") (Or.inl (hw _ (List.mem_of_getElem? (i := 10) rfl))) Via.refl e0 F_bytes_ra (g := (mkF m 1 #[.val (.ref ra), .val (.int pv), .val (.int vv)] [(.ref ra)])) rfl rfl (hb hby d6_1)
  obtain ⟨cl2, Arcl2, hincl2, -⟩ := AF.at A_rb (j := pv) pn hpn (by omega)
  obtain ⟨T3, h3, X3, e3, W3, st3⟩ := stB X1 hx hZ e1 Arcl2 (j := pv) hincl2 (g := (mkF m 10 #[.val (.ref ra), .val (.int pv), .val (.int vv)] [(.int (((vv.toUInt32 >>> ((24 : Int32) &&& 31).toUInt32).toInt32).toInt8.toInt32)), (.int pv), (.ref rb)])) rfl rfl (hb hby d6_10)
  rw [own_nb] at W3
  have N3 := Fr.snoc X3 N0 g_rb
  have Z3 : n0 ≤ h3.size := Nat.le_trans Z0 (Keep.of_wr W3).1
  have K3 : Keep h0 h3 [rb] := K0.wr W3 (Or.inl (List.mem_of_getElem? (i := 0) rfl))
  have f4 : AI Z h3 rb .byte 256 (up fb pn (((vv.toUInt32 >>> ((24 : Int32) &&& 31).toUInt32).toInt32).toInt8.toInt32)) := AF.setI A_rb W3 pn hpn
  have f5 : Fld Z h3 ra "com/example/lockstep/lockstep/store/RecordBuffer" "bytes" "[B" (.ref rb) := F_bytes_ra.other W3 (Or.inl ne_ra_rb)
  obtain ⟨T6, X6, e6, st6⟩ := getF X3 hx hZ hown (host := "") (Or.inl (hw _ (List.mem_of_getElem? (i := 10) rfl))) Via.refl e3 f5 (g := (mkF m 12 #[.val (.ref ra), .val (.int pv), .val (.int vv)] [(.ref ra)])) rfl rfl (hb hby d6_12)
  obtain ⟨cl7, Arcl7, hincl7, -⟩ := AF.at f4 (j := (pv + (1 : Int32))) (pn + 1) (own_ix hpn hpl (1 : Int32) 1 rfl (by decide)) (by omega)
  obtain ⟨T8, h8, X8, e8, W8, st8⟩ := stB X6 hx hZ e6 Arcl7 (j := (pv + (1 : Int32))) hincl7 (g := (mkF m 23 #[.val (.ref ra), .val (.int pv), .val (.int vv)] [(.int (((vv.toUInt32 >>> ((16 : Int32) &&& 31).toUInt32).toInt32).toInt8.toInt32)), (.int (pv + (1 : Int32))), (.ref rb)])) rfl rfl (hb hby d6_23)
  rw [own_nb] at W8
  have N8 := Fr.snoc X8 N3 g_rb
  have Z8 : n0 ≤ h8.size := Nat.le_trans Z3 (Keep.of_wr W8).1
  have K8 : Keep h0 h8 [rb] := K3.wr W8 (Or.inl (List.mem_of_getElem? (i := 0) rfl))
  have f9 : AI Z h8 rb .byte 256 (up (up fb pn (((vv.toUInt32 >>> ((24 : Int32) &&& 31).toUInt32).toInt32).toInt8.toInt32)) (pn + 1) (((vv.toUInt32 >>> ((16 : Int32) &&& 31).toUInt32).toInt32).toInt8.toInt32)) := AF.setI f4 W8 (pn + 1) (own_ix hpn hpl (1 : Int32) 1 rfl (by decide))
  have f10 : Fld Z h8 ra "com/example/lockstep/lockstep/store/RecordBuffer" "bytes" "[B" (.ref rb) := f5.other W8 (Or.inl ne_ra_rb)
  obtain ⟨T11, X11, e11, st11⟩ := getF X8 hx hZ hown (host := "") (Or.inl (hw _ (List.mem_of_getElem? (i := 10) rfl))) Via.refl e8 f10 (g := (mkF m 25 #[.val (.ref ra), .val (.int pv), .val (.int vv)] [(.ref ra)])) rfl rfl (hb hby d6_25)
  obtain ⟨cl12, Arcl12, hincl12, -⟩ := AF.at f9 (j := (pv + (2 : Int32))) (pn + 2) (own_ix hpn hpl (2 : Int32) 2 rfl (by decide)) (by omega)
  obtain ⟨T13, h13, X13, e13, W13, st13⟩ := stB X11 hx hZ e11 Arcl12 (j := (pv + (2 : Int32))) hincl12 (g := (mkF m 36 #[.val (.ref ra), .val (.int pv), .val (.int vv)] [(.int (((vv.toUInt32 >>> ((8 : Int32) &&& 31).toUInt32).toInt32).toInt8.toInt32)), (.int (pv + (2 : Int32))), (.ref rb)])) rfl rfl (hb hby d6_36)
  rw [own_nb] at W13
  have N13 := Fr.snoc X13 N8 g_rb
  have Z13 : n0 ≤ h13.size := Nat.le_trans Z8 (Keep.of_wr W13).1
  have K13 : Keep h0 h13 [rb] := K8.wr W13 (Or.inl (List.mem_of_getElem? (i := 0) rfl))
  have f14 : AI Z h13 rb .byte 256 (up (up (up fb pn (((vv.toUInt32 >>> ((24 : Int32) &&& 31).toUInt32).toInt32).toInt8.toInt32)) (pn + 1) (((vv.toUInt32 >>> ((16 : Int32) &&& 31).toUInt32).toInt32).toInt8.toInt32)) (pn + 2) (((vv.toUInt32 >>> ((8 : Int32) &&& 31).toUInt32).toInt32).toInt8.toInt32)) := AF.setI f9 W13 (pn + 2) (own_ix hpn hpl (2 : Int32) 2 rfl (by decide))
  have f15 : Fld Z h13 ra "com/example/lockstep/lockstep/store/RecordBuffer" "bytes" "[B" (.ref rb) := f10.other W13 (Or.inl ne_ra_rb)
  obtain ⟨T16, X16, e16, st16⟩ := getF X13 hx hZ hown (host := "") (Or.inl (hw _ (List.mem_of_getElem? (i := 10) rfl))) Via.refl e13 f15 (g := (mkF m 38 #[.val (.ref ra), .val (.int pv), .val (.int vv)] [(.ref ra)])) rfl rfl (hb hby d6_38)
  obtain ⟨cl17, Arcl17, hincl17, -⟩ := AF.at f14 (j := (pv + (3 : Int32))) (pn + 3) (own_ix hpn hpl (3 : Int32) 3 rfl (by decide)) (by omega)
  obtain ⟨T18, h18, X18, e18, W18, st18⟩ := stB X16 hx hZ e16 Arcl17 (j := (pv + (3 : Int32))) hincl17 (g := (mkF m 46 #[.val (.ref ra), .val (.int pv), .val (.int vv)] [(.int (vv.toInt8.toInt32)), (.int (pv + (3 : Int32))), (.ref rb)])) rfl rfl (hb hby d6_46)
  rw [own_nb] at W18
  have N18 := Fr.snoc X18 N13 g_rb
  have Z18 : n0 ≤ h18.size := Nat.le_trans Z13 (Keep.of_wr W18).1
  have K18 : Keep h0 h18 [rb] := K13.wr W18 (Or.inl (List.mem_of_getElem? (i := 0) rfl))
  have f19 : AI Z h18 rb .byte 256 (up (up (up (up fb pn (((vv.toUInt32 >>> ((24 : Int32) &&& 31).toUInt32).toInt32).toInt8.toInt32)) (pn + 1) (((vv.toUInt32 >>> ((16 : Int32) &&& 31).toUInt32).toInt32).toInt8.toInt32)) (pn + 2) (((vv.toUInt32 >>> ((8 : Int32) &&& 31).toUInt32).toInt32).toInt8.toInt32)) (pn + 3) (vv.toInt8.toInt32)) := AF.setI f14 W18 (pn + 3) (own_ix hpn hpl (3 : Int32) 3 rfl (by decide))
  have f20 : Fld Z h18 ra "com/example/lockstep/lockstep/store/RecordBuffer" "bytes" "[B" (.ref rb) := f15.other W18 (Or.inl ne_ra_rb)
  obtain ⟨fs, hr, hrun, hended, hW, hsame⟩ := X18.leave (v := none) (fun _ => rfl)
  refine ⟨_, _, pre0 _ ?_, hrun, hended, _, _, rfl, ?_, ⟨_, rfl⟩, hW, hsame.mono (by decide) (by decide)⟩
  · show Steps p.tables e below (s₁.setTop (mkF m 0 #[.val (.ref ra), .val (.int pv), .val (.int vv)] [])) _
    refine XS.aloadN X0.here hx rfl (hb hby d6_0) rfl rfl ?_
    show Steps p.tables e below (s₁.setTop (mkF m 1 #[.val (.ref ra), .val (.int pv), .val (.int vv)] [(.ref ra)])) _
    refine st1 _ ?_
    show Steps p.tables e below (T1.setTop (mkF m 4 #[.val (.ref ra), .val (.int pv), .val (.int vv)] [(.ref rb)])) _
    refine XS.iloadN X1.here hx rfl (hb hby d6_4) rfl ?_
    show Steps p.tables e below (T1.setTop (mkF m 5 #[.val (.ref ra), .val (.int pv), .val (.int vv)] [(.int pv), (.ref rb)])) _
    refine XS.iloadN X1.here hx rfl (hb hby d6_5) rfl ?_
    show Steps p.tables e below (T1.setTop (mkF m 6 #[.val (.ref ra), .val (.int pv), .val (.int vv)] [(.int vv), (.int pv), (.ref rb)])) _
    refine XS.bipush X1.here hx rfl (hb hby d6_6) ?_
    show Steps p.tables e below (T1.setTop (mkF m 8 #[.val (.ref ra), .val (.int pv), .val (.int vv)] [(.int (24 : Int32)), (.int vv), (.int pv), (.ref rb)])) _
    refine XS.iushr X1.here hx rfl (hb hby d6_8) rfl ?_
    show Steps p.tables e below (T1.setTop (mkF m 9 #[.val (.ref ra), .val (.int pv), .val (.int vv)] [(.int ((vv.toUInt32 >>> ((24 : Int32) &&& 31).toUInt32).toInt32)), (.int pv), (.ref rb)])) _
    refine XS.i2b X1.here hx rfl (hb hby d6_9) rfl ?_
    show Steps p.tables e below (T1.setTop (mkF m 10 #[.val (.ref ra), .val (.int pv), .val (.int vv)] [(.int (((vv.toUInt32 >>> ((24 : Int32) &&& 31).toUInt32).toInt32).toInt8.toInt32)), (.int pv), (.ref rb)])) _
    refine st3 _ ?_
    show Steps p.tables e below (T3.setTop (mkF m 11 #[.val (.ref ra), .val (.int pv), .val (.int vv)] [])) _
    refine XS.aloadN X3.here hx rfl (hb hby d6_11) rfl rfl ?_
    show Steps p.tables e below (T3.setTop (mkF m 12 #[.val (.ref ra), .val (.int pv), .val (.int vv)] [(.ref ra)])) _
    refine st6 _ ?_
    show Steps p.tables e below (T6.setTop (mkF m 15 #[.val (.ref ra), .val (.int pv), .val (.int vv)] [(.ref rb)])) _
    refine XS.iloadN X6.here hx rfl (hb hby d6_15) rfl ?_
    show Steps p.tables e below (T6.setTop (mkF m 16 #[.val (.ref ra), .val (.int pv), .val (.int vv)] [(.int pv), (.ref rb)])) _
    refine XS.iconst X6.here hx rfl (hb hby d6_16) ?_
    show Steps p.tables e below (T6.setTop (mkF m 17 #[.val (.ref ra), .val (.int pv), .val (.int vv)] [(.int (1 : Int32)), (.int pv), (.ref rb)])) _
    refine XS.iadd X6.here hx rfl (hb hby d6_17) rfl ?_
    show Steps p.tables e below (T6.setTop (mkF m 18 #[.val (.ref ra), .val (.int pv), .val (.int vv)] [(.int (pv + (1 : Int32))), (.ref rb)])) _
    refine XS.iloadN X6.here hx rfl (hb hby d6_18) rfl ?_
    show Steps p.tables e below (T6.setTop (mkF m 19 #[.val (.ref ra), .val (.int pv), .val (.int vv)] [(.int vv), (.int (pv + (1 : Int32))), (.ref rb)])) _
    refine XS.bipush X6.here hx rfl (hb hby d6_19) ?_
    show Steps p.tables e below (T6.setTop (mkF m 21 #[.val (.ref ra), .val (.int pv), .val (.int vv)] [(.int (16 : Int32)), (.int vv), (.int (pv + (1 : Int32))), (.ref rb)])) _
    refine XS.iushr X6.here hx rfl (hb hby d6_21) rfl ?_
    show Steps p.tables e below (T6.setTop (mkF m 22 #[.val (.ref ra), .val (.int pv), .val (.int vv)] [(.int ((vv.toUInt32 >>> ((16 : Int32) &&& 31).toUInt32).toInt32)), (.int (pv + (1 : Int32))), (.ref rb)])) _
    refine XS.i2b X6.here hx rfl (hb hby d6_22) rfl ?_
    show Steps p.tables e below (T6.setTop (mkF m 23 #[.val (.ref ra), .val (.int pv), .val (.int vv)] [(.int (((vv.toUInt32 >>> ((16 : Int32) &&& 31).toUInt32).toInt32).toInt8.toInt32)), (.int (pv + (1 : Int32))), (.ref rb)])) _
    refine st8 _ ?_
    show Steps p.tables e below (T8.setTop (mkF m 24 #[.val (.ref ra), .val (.int pv), .val (.int vv)] [])) _
    refine XS.aloadN X8.here hx rfl (hb hby d6_24) rfl rfl ?_
    show Steps p.tables e below (T8.setTop (mkF m 25 #[.val (.ref ra), .val (.int pv), .val (.int vv)] [(.ref ra)])) _
    refine st11 _ ?_
    show Steps p.tables e below (T11.setTop (mkF m 28 #[.val (.ref ra), .val (.int pv), .val (.int vv)] [(.ref rb)])) _
    refine XS.iloadN X11.here hx rfl (hb hby d6_28) rfl ?_
    show Steps p.tables e below (T11.setTop (mkF m 29 #[.val (.ref ra), .val (.int pv), .val (.int vv)] [(.int pv), (.ref rb)])) _
    refine XS.iconst X11.here hx rfl (hb hby d6_29) ?_
    show Steps p.tables e below (T11.setTop (mkF m 30 #[.val (.ref ra), .val (.int pv), .val (.int vv)] [(.int (2 : Int32)), (.int pv), (.ref rb)])) _
    refine XS.iadd X11.here hx rfl (hb hby d6_30) rfl ?_
    show Steps p.tables e below (T11.setTop (mkF m 31 #[.val (.ref ra), .val (.int pv), .val (.int vv)] [(.int (pv + (2 : Int32))), (.ref rb)])) _
    refine XS.iloadN X11.here hx rfl (hb hby d6_31) rfl ?_
    show Steps p.tables e below (T11.setTop (mkF m 32 #[.val (.ref ra), .val (.int pv), .val (.int vv)] [(.int vv), (.int (pv + (2 : Int32))), (.ref rb)])) _
    refine XS.bipush X11.here hx rfl (hb hby d6_32) ?_
    show Steps p.tables e below (T11.setTop (mkF m 34 #[.val (.ref ra), .val (.int pv), .val (.int vv)] [(.int (8 : Int32)), (.int vv), (.int (pv + (2 : Int32))), (.ref rb)])) _
    refine XS.iushr X11.here hx rfl (hb hby d6_34) rfl ?_
    show Steps p.tables e below (T11.setTop (mkF m 35 #[.val (.ref ra), .val (.int pv), .val (.int vv)] [(.int ((vv.toUInt32 >>> ((8 : Int32) &&& 31).toUInt32).toInt32)), (.int (pv + (2 : Int32))), (.ref rb)])) _
    refine XS.i2b X11.here hx rfl (hb hby d6_35) rfl ?_
    show Steps p.tables e below (T11.setTop (mkF m 36 #[.val (.ref ra), .val (.int pv), .val (.int vv)] [(.int (((vv.toUInt32 >>> ((8 : Int32) &&& 31).toUInt32).toInt32).toInt8.toInt32)), (.int (pv + (2 : Int32))), (.ref rb)])) _
    refine st13 _ ?_
    show Steps p.tables e below (T13.setTop (mkF m 37 #[.val (.ref ra), .val (.int pv), .val (.int vv)] [])) _
    refine XS.aloadN X13.here hx rfl (hb hby d6_37) rfl rfl ?_
    show Steps p.tables e below (T13.setTop (mkF m 38 #[.val (.ref ra), .val (.int pv), .val (.int vv)] [(.ref ra)])) _
    refine st16 _ ?_
    show Steps p.tables e below (T16.setTop (mkF m 41 #[.val (.ref ra), .val (.int pv), .val (.int vv)] [(.ref rb)])) _
    refine XS.iloadN X16.here hx rfl (hb hby d6_41) rfl ?_
    show Steps p.tables e below (T16.setTop (mkF m 42 #[.val (.ref ra), .val (.int pv), .val (.int vv)] [(.int pv), (.ref rb)])) _
    refine XS.iconst X16.here hx rfl (hb hby d6_42) ?_
    show Steps p.tables e below (T16.setTop (mkF m 43 #[.val (.ref ra), .val (.int pv), .val (.int vv)] [(.int (3 : Int32)), (.int pv), (.ref rb)])) _
    refine XS.iadd X16.here hx rfl (hb hby d6_43) rfl ?_
    show Steps p.tables e below (T16.setTop (mkF m 44 #[.val (.ref ra), .val (.int pv), .val (.int vv)] [(.int (pv + (3 : Int32))), (.ref rb)])) _
    refine XS.iloadN X16.here hx rfl (hb hby d6_44) rfl ?_
    show Steps p.tables e below (T16.setTop (mkF m 45 #[.val (.ref ra), .val (.int pv), .val (.int vv)] [(.int vv), (.int (pv + (3 : Int32))), (.ref rb)])) _
    refine XS.i2b X16.here hx rfl (hb hby d6_45) rfl ?_
    show Steps p.tables e below (T16.setTop (mkF m 46 #[.val (.ref ra), .val (.int pv), .val (.int vv)] [(.int (vv.toInt8.toInt32)), (.int (pv + (3 : Int32))), (.ref rb)])) _
    refine st18 _ ?_
    show Steps p.tables e below (T18.setTop (mkF m 47 #[.val (.ref ra), .val (.int pv), .val (.int vv)] [])) _
    exact X18.returnOut hx Bd.returns (hb hby d6_47) hr
  · show Q6 Z ra pv vv rb fb pn h0 n0 _ T18.heap _
    rw [e18]
    exact ⟨rfl, N18, K18, f19⟩
theorem ef_4 (m : MethodId) (ra : Addr) (vv : Int32) : entryFrame m #[(.ref ra), (.int vv)] 2 = mkF m 0 #[.val (.ref ra), .val (.int vv)] [] := by first | (simp [entryFrame, mkF, argsToLocals, Value.category]; done) | rfl
theorem d4_0 : decode prog_146_method_6_code 0 = .ok (.aload_n 0, 1) := by decide +kernel
theorem d4_1 : decode prog_146_method_6_code 1 = .ok (.iconst 4, 1) := by decide +kernel
theorem pd_0 : parseMethodDescriptor "(I)V" = some ⟨[.int], none⟩ := by decide +kernel
theorem d4_2 : decode prog_146_method_6_code 2 = .ok (.invokevirtual 18, 3) := by decide +kernel
theorem d4_5 : decode prog_146_method_6_code 5 = .ok (.aload_n 0, 1) := by decide +kernel
theorem d4_6 : decode prog_146_method_6_code 6 = .ok (.aload_n 0, 1) := by decide +kernel
theorem d4_7 : decode prog_146_method_6_code 7 = .ok (.getfield 13, 3) := by decide +kernel
theorem d4_10 : decode prog_146_method_6_code 10 = .ok (.iload_n 1, 1) := by decide +kernel
theorem pd_1 : parseMethodDescriptor "(II)V" = some ⟨[.int, .int], none⟩ := by decide +kernel
theorem d4_11 : decode prog_146_method_6_code 11 = .ok (.invokevirtual 22, 3) := by decide +kernel
theorem d4_14 : decode prog_146_method_6_code 14 = .ok (.aload_n 0, 1) := by decide +kernel
theorem d4_15 : decode prog_146_method_6_code 15 = .ok (.dup, 1) := by decide +kernel
theorem d4_16 : decode prog_146_method_6_code 16 = .ok (.getfield 13, 3) := by decide +kernel
theorem d4_19 : decode prog_146_method_6_code 19 = .ok (.iconst 4, 1) := by decide +kernel
theorem d4_20 : decode prog_146_method_6_code 20 = .ok (.iadd, 1) := by decide +kernel
theorem d4_21 : decode prog_146_method_6_code 21 = .ok (.putfield 13, 3) := by decide +kernel
theorem d4_24 : decode prog_146_method_6_code 24 = .ok (.return_, 1) := by decide +kernel
def Q4 (Z : State) (ra : Addr) (vv : Int32) (rb : Addr) (fb : Nat → Int32) (sz : Int32) (sn : Nat) (h0 : Heap) (n0 : Nat) (v : Option Value) (h : Heap) (L : List Loc) : Prop := v = none ∧ Fr n0 L ∧ Keep h0 h [rb, ra] ∧ Fld Z h ra "com/example/lockstep/lockstep/store/RecordBuffer" "bytes" "[B" (.ref rb) ∧ Fld Z h ra "com/example/lockstep/lockstep/store/RecordBuffer" "size" "I" (.int (sz + (4 : Int32))) ∧ AI Z h rb .byte 256 (r6_arr vv fb sn)
set_option maxRecDepth 65536 in
set_option maxHeartbeats 40000000 in
theorem rm4 (l : Launch) (Z : State) (a0 : Array Value) (hw : ∀ d ∈ tables_1, d.before a0 Z = true) (ws : List Jvm.Cond) (ra : Addr) (vv : Int32) (rb : Addr) (fb : Nat → Int32) (sz : Int32) (sn : Nat) (h0 : Heap) (n0 : Nat) (Z0 : n0 ≤ h0.size) (F_bytes_ra : Fld Z h0 ra "com/example/lockstep/lockstep/store/RecordBuffer" "bytes" "[B" (.ref rb)) (A_rb : AI Z h0 rb .byte 256 fb) (F_size_ra : Fld Z h0 ra "com/example/lockstep/lockstep/store/RecordBuffer" "size" "I" (.int sz)) (E_ra : Exa Z h0 ra "com/example/lockstep/lockstep/store/RecordBuffer") (ne_ra_rb : ra ≠ rb) (hsn : sz.toInt = sn) (hsl : sn + 4 ≤ 256) (g_rb : n0 ≤ rb) (g_ra : n0 ≤ ra) :
    MetFree l (⟨"com/example/lockstep/lockstep/store/RecordBuffer", "writeInt", "(I)V"⟩ : MethodName) (head1 (Jvm.Cond.code (⟨"com/example/lockstep/lockstep/store/RecordBuffer", "writeInt", "(I)V"⟩ : MethodName) prog_146_method_6_code 2 none :: ws) ({ frames := 1, cells := 0, slots := 0, locals := 14 } : Room)) (fun a U => a = #[(.ref ra), (.int vv)] ∧ Z.Warmed39 U.vm ∧ U.heap = h0) (fun _ _ _ _ _ => True) (fun _ U o U' => ∃ v L, o = .returned v ∧ Q4 Z ra vv rb fb sz sn h0 n0 v U'.heap L ∧ FrameEnd U o U' L ({ frames := 1, cells := 0, slots := 0, locals := 14 } : Room).cells ({ frames := 1, cells := 0, slots := 0, locals := 14 } : Room).slots) := by
  refine MetFree.of_bodySF (plainFor_of_name pn_com_example_lockstep_lockstep_store_RecordBuffer) hisR ?_
  intro p e s m args below meth c s₁ Bd hml0 hP hK
  obtain ⟨rfl, hZ, hh⟩ := hP
  have hx := Bd.exec
  have hby := Bd.bytes
  have hml : c.maxLocals = 2 := hml0
  have hown : s.vm.findClass "com/example/lockstep/lockstep/store/RecordBuffer" = some m.cls := findClass_of_methodNamed Bd.named
  have hnm := (name_of_methodNamed Bd.named Bd.method).1
  have X0 : Stand p l e ({ frames := 1, cells := 0, slots := 0, locals := 14 } : Room) s m #[(.ref ra), (.int vv)] below meth c s₁ [] 0 0 := Stand.of_body Bd
  have e0 : s₁.heap = h0 := by rw [← hh, Bd.state]; rfl
  have N0 := Fr.nil n0
  have K0 : Keep h0 h0 [rb, ra] := Keep.refl h0 _
  have pre0 : ∀ t, Steps p.tables e below (s₁.setTop (mkF m 0 #[.val (.ref ra), .val (.int vv)] [])) t → Steps p.tables e below (s₁.setTop (entryFrame m #[(.ref ra), (.int vv)] 2)) t := fun t k => castTop (ef_4 m ra vv) k
  obtain ⟨cq1, q1, q1'⟩ := E_ra.cell
  obtain ⟨_, _, ⟨T1, L1, k1, n1⟩, -, X1, ⟨Lc1, hQ1, l1, y1, z1⟩, st1⟩ := X0.privateBack hx (y := (⟨"com/example/lockstep/lockstep/store/RecordBuffer", "grow", "(I)V"⟩ : MethodName)) hown (mvT hZ (hw _ (List.mem_of_getElem? (i := 22) rfl))) (mvT hZ (hw _ (List.mem_of_getElem? (i := 23) rfl))) (own_sel (mvT hZ (hw _ (List.mem_of_getElem? (i := 23) rfl))) (mvP hZ (hw _ (List.mem_of_getElem? (i := 24) rfl))) (mvT hZ (hw _ (List.mem_of_getElem? (i := 15) rfl))) rfl (by decide)) (Cond.privateMethod_at (mvP hZ (hw _ (List.mem_of_getElem? (i := 24) rfl)) (args := #[]))) (mvT hZ (hw _ (List.mem_of_getElem? (i := 25) rfl))) (by decide) (backOf (W := 0) (rm5 l Z a0 hw [] ra (4 : Int32) rb fb sz h0 n0 Z0 F_bytes_ra A_rb F_size_ra (own_gr hsn (kn := 4) rfl hsl (by decide))) hZ (hw _ (List.mem_of_getElem? (i := 25) rfl)) (hw _ (List.mem_of_getElem? (i := 2) rfl)) (by decide) (by decide)) (g := (mkF m 2 #[.val (.ref ra), .val (.int vv)] [(.int (4 : Int32)), (.ref ra)])) rfl (by rw [hml]; rfl) (Steps.refl _) (a := ra) (by rw [e0]; exact q1) q1' (argsL := [(.int (4 : Int32))]) (rest := []) (lenOf pd_0 rfl) rfl (by show 2 * 0 + _ ≤ _; exact Nat.le_of_eq rfl) (hb hby d4_2) (fun _ _ => ⟨rfl, e0, (by decide : 0 + 0 ≤ _), (by decide : 0 + 0 ≤ _)⟩)
  dsimp only [Pt.U, Pt.locs, Pt.cells, Pt.slots] at X1 l1 y1 z1 st1 hQ1
  subst l1 y1 z1
  obtain ⟨rfl, N1q, e1⟩ := hQ1
  have N1 := Fr.app N0 N1q
  obtain ⟨T2, X2, e2, st2⟩ := getF X1 hx hZ hown (host := "") (Or.inl (hw _ (List.mem_of_getElem? (i := 26) rfl))) Via.refl e1 F_size_ra (g := (mkF m 7 #[.val (.ref ra), .val (.int vv)] [(.ref ra), (.ref ra)])) rfl rfl (hb hby d4_7)
  obtain ⟨cq3, kq3, q3a, q3b, q3c⟩ := isOf hZ e2 E_ra
  obtain ⟨_, _, ⟨T3, L3, k3, n3⟩, -, X3, ⟨Lc3, hQ3, l3, y3, z3⟩, st3⟩ := X2.virtualBack hx (y := (⟨"com/example/lockstep/lockstep/store/RecordBuffer", "putInt", "(II)V"⟩ : MethodName)) (z := (⟨"com/example/lockstep/lockstep/store/RecordBuffer", "putInt", "(II)V"⟩ : MethodName)) hown (mvT hZ (hw _ (List.mem_of_getElem? (i := 28) rfl))) (mvT hZ (hw _ (List.mem_of_getElem? (i := 29) rfl))) (notFace_of_selects (args := #[]) (mvT hZ (hw _ (List.mem_of_getElem? (i := 31) rfl)))) (mvT hZ (hw _ (List.mem_of_getElem? (i := 31) rfl))) (mvT hZ (hw _ (List.mem_of_getElem? (i := 30) rfl))) (by decide) (backOf (W := 0) (rm6 l Z a0 hw [] ra sz vv rb fb sn h0 n0 Z0 F_bytes_ra A_rb ne_ra_rb (hsn) (hsl) g_rb) hZ (hw _ (List.mem_of_getElem? (i := 32) rfl)) (hw _ (List.mem_of_getElem? (i := 2) rfl)) (by decide) (by decide)) q3a q3c (g := (mkF m 11 #[.val (.ref ra), .val (.int vv)] [(.int vv), (.int sz), (.ref ra)])) rfl (by rw [hml]; rfl) (Steps.refl _) (argsL := [(.int sz), (.int vv)]) (rest := []) (lenOf pd_1 rfl) rfl (by show 2 * 0 + _ ≤ _; exact Nat.le_of_eq rfl) (hb hby d4_11) (fun _ _ => ⟨rfl, e2, (by decide : 0 + 0 ≤ _), (by decide : 0 + 0 ≤ _)⟩)
  dsimp only [Pt.U, Pt.locs, Pt.cells, Pt.slots] at X3 l3 y3 z3 st3 hQ3
  subst l3 y3 z3
  obtain ⟨rfl, N3q, K3c, f4⟩ := hQ3
  have N3 := Fr.app N1 N3q
  have f5 : Fld Z T3.heap ra "com/example/lockstep/lockstep/store/RecordBuffer" "bytes" "[B" (.ref rb) := F_bytes_ra.keep K3c (ninS ne_ra_rb nin0)
  have f6 : Fld Z T3.heap ra "com/example/lockstep/lockstep/store/RecordBuffer" "size" "I" (.int sz) := F_size_ra.keep K3c (ninS ne_ra_rb nin0)
  have f7 : Exa Z T3.heap ra "com/example/lockstep/lockstep/store/RecordBuffer" := E_ra.keep K3c
  have Z3 : n0 ≤ T3.heap.size := Nat.le_trans Z0 K3c.1
  have K3 : Keep h0 T3.heap [rb, ra] := K0.trans K3c (allS (Or.inl (List.mem_of_getElem? (i := 0) rfl)) all0)
  obtain ⟨T8, X8, e8, st8⟩ := getF X3 hx hZ hown (host := "") (Or.inl (hw _ (List.mem_of_getElem? (i := 26) rfl))) Via.refl rfl f6 (g := (mkF m 16 #[.val (.ref ra), .val (.int vv)] [(.ref ra), (.ref ra)])) rfl rfl (hb hby d4_16)
  obtain ⟨T9, h9, X9, e9, W9, st9⟩ := putF X8 hx hZ hown (host := "") (Or.inl (hw _ (List.mem_of_getElem? (i := 26) rfl))) Via.refl e8 f6 f7 (Or.inl (hw _ (List.mem_of_getElem? (i := 27) rfl))) (hw _ (List.mem_of_getElem? (i := 1) rfl)) (ty := .int) (by decide) rfl rfl (g := (mkF m 21 #[.val (.ref ra), .val (.int vv)] [(.int (sz + (4 : Int32))), (.ref ra)])) rfl rfl (hb hby d4_21)
  have N9 := Fr.snoc X9 N3 g_ra
  have Z9 : n0 ≤ h9.size := Nat.le_trans Z3 (Keep.of_wr W9).1
  have K9 : Keep h0 h9 [rb, ra] := K3.wr W9 (Or.inl (List.mem_of_getElem? (i := 1) rfl))
  have f10 : Fld Z h9 ra "com/example/lockstep/lockstep/store/RecordBuffer" "size" "I" (.int (sz + (4 : Int32))) := f6.same W9
  have f11 : Fld Z h9 ra "com/example/lockstep/lockstep/store/RecordBuffer" "bytes" "[B" (.ref rb) := f5.other W9 (Or.inr (slot_ne (Or.inl (hw _ (List.mem_of_getElem? (i := 11) rfl))) (Or.inl (hw _ (List.mem_of_getElem? (i := 27) rfl))) (by decide) (t := (.array .byte)) (t' := .int) (by decide) (by decide)))
  have f12 : Exa Z h9 ra "com/example/lockstep/lockstep/store/RecordBuffer" := f7.wr W9
  have f13 : AI Z h9 rb .byte 256 (r6_arr vv fb sn) := f4.other W9 (Ne.symm ne_ra_rb)
  obtain ⟨fs, hr, hrun, hended, hW, hsame⟩ := X9.leave (v := none) (fun _ => rfl)
  refine ⟨_, _, pre0 _ ?_, hrun, hended, _, _, rfl, ?_, ⟨_, rfl⟩, hW, hsame.mono (by decide) (by decide)⟩
  · show Steps p.tables e below (s₁.setTop (mkF m 0 #[.val (.ref ra), .val (.int vv)] [])) _
    refine XS.aloadN X0.here hx rfl (hb hby d4_0) rfl rfl ?_
    show Steps p.tables e below (s₁.setTop (mkF m 1 #[.val (.ref ra), .val (.int vv)] [(.ref ra)])) _
    refine XS.iconst X0.here hx rfl (hb hby d4_1) ?_
    show Steps p.tables e below (s₁.setTop (mkF m 2 #[.val (.ref ra), .val (.int vv)] [(.int (4 : Int32)), (.ref ra)])) _
    refine st1.trans ?_
    show Steps p.tables e below (T1.setTop (mkF m 5 #[.val (.ref ra), .val (.int vv)] [])) _
    refine XS.aloadN X1.here hx rfl (hb hby d4_5) rfl rfl ?_
    show Steps p.tables e below (T1.setTop (mkF m 6 #[.val (.ref ra), .val (.int vv)] [(.ref ra)])) _
    refine XS.aloadN X1.here hx rfl (hb hby d4_6) rfl rfl ?_
    show Steps p.tables e below (T1.setTop (mkF m 7 #[.val (.ref ra), .val (.int vv)] [(.ref ra), (.ref ra)])) _
    refine st2 _ ?_
    show Steps p.tables e below (T2.setTop (mkF m 10 #[.val (.ref ra), .val (.int vv)] [(.int sz), (.ref ra)])) _
    refine XS.iloadN X2.here hx rfl (hb hby d4_10) rfl ?_
    show Steps p.tables e below (T2.setTop (mkF m 11 #[.val (.ref ra), .val (.int vv)] [(.int vv), (.int sz), (.ref ra)])) _
    refine st3.trans ?_
    show Steps p.tables e below (T3.setTop (mkF m 14 #[.val (.ref ra), .val (.int vv)] [])) _
    refine XS.aloadN X3.here hx rfl (hb hby d4_14) rfl rfl ?_
    show Steps p.tables e below (T3.setTop (mkF m 15 #[.val (.ref ra), .val (.int vv)] [(.ref ra)])) _
    refine XS.dup X3.here hx rfl (hb hby d4_15) rfl rfl ?_
    show Steps p.tables e below (T3.setTop (mkF m 16 #[.val (.ref ra), .val (.int vv)] [(.ref ra), (.ref ra)])) _
    refine st8 _ ?_
    show Steps p.tables e below (T8.setTop (mkF m 19 #[.val (.ref ra), .val (.int vv)] [(.int sz), (.ref ra)])) _
    refine XS.iconst X8.here hx rfl (hb hby d4_19) ?_
    show Steps p.tables e below (T8.setTop (mkF m 20 #[.val (.ref ra), .val (.int vv)] [(.int (4 : Int32)), (.int sz), (.ref ra)])) _
    refine XS.iadd X8.here hx rfl (hb hby d4_20) rfl ?_
    show Steps p.tables e below (T8.setTop (mkF m 21 #[.val (.ref ra), .val (.int vv)] [(.int (sz + (4 : Int32))), (.ref ra)])) _
    refine st9 _ ?_
    show Steps p.tables e below (T9.setTop (mkF m 24 #[.val (.ref ra), .val (.int vv)] [])) _
    exact X9.returnOut hx Bd.returns (hb hby d4_24) hr
  · show Q4 Z ra vv rb fb sz sn h0 n0 _ T9.heap _
    rw [e9]
    exact ⟨rfl, N9, K9, f11, f10, f13⟩
theorem ef_3 (m : MethodId) (ra : Addr) (lv : Int64) : entryFrame m #[(.ref ra), (.long lv)] 3 = mkF m 0 #[.val (.ref ra), .val (.long lv), .second] [] := by first | (simp [entryFrame, mkF, argsToLocals, Value.category]; done) | rfl
theorem d3_0 : decode prog_146_method_7_code 0 = .ok (.aload_n 0, 1) := by decide +kernel
theorem d3_1 : decode prog_146_method_7_code 1 = .ok (.lload_n 1, 1) := by decide +kernel
theorem d3_2 : decode prog_146_method_7_code 2 = .ok (.bipush 32, 2) := by decide +kernel
theorem d3_4 : decode prog_146_method_7_code 4 = .ok (.lushr, 1) := by decide +kernel
theorem d3_5 : decode prog_146_method_7_code 5 = .ok (.l2i, 1) := by decide +kernel
theorem d3_6 : decode prog_146_method_7_code 6 = .ok (.invokevirtual 26, 3) := by decide +kernel
theorem d3_9 : decode prog_146_method_7_code 9 = .ok (.aload_n 0, 1) := by decide +kernel
theorem d3_10 : decode prog_146_method_7_code 10 = .ok (.lload_n 1, 1) := by decide +kernel
theorem d3_11 : decode prog_146_method_7_code 11 = .ok (.l2i, 1) := by decide +kernel
theorem d3_12 : decode prog_146_method_7_code 12 = .ok (.invokevirtual 26, 3) := by decide +kernel
theorem d3_15 : decode prog_146_method_7_code 15 = .ok (.return_, 1) := by decide +kernel
def Q3 (Z : State) (ra : Addr) (lv : Int64) (rb : Addr) (fb : Nat → Int32) (sz : Int32) (sn : Nat) (h0 : Heap) (n0 : Nat) (v : Option Value) (h : Heap) (L : List Loc) : Prop := v = none ∧ Fr n0 L ∧ Keep h0 h [ra, rb] ∧ Fld Z h ra "com/example/lockstep/lockstep/store/RecordBuffer" "bytes" "[B" (.ref rb) ∧ Fld Z h ra "com/example/lockstep/lockstep/store/RecordBuffer" "size" "I" (.int ((sz + (4 : Int32)) + (4 : Int32))) ∧ AI Z h rb .byte 256 (r6_arr (lv.toInt32) (r6_arr (((lv.toUInt64 >>> ((32 : Int32) &&& 0x3f).toInt64.toUInt64).toInt64).toInt32) fb sn) (sn + 4))
set_option maxRecDepth 65536 in
set_option maxHeartbeats 40000000 in
theorem rm3 (l : Launch) (Z : State) (a0 : Array Value) (hw : ∀ d ∈ tables_1, d.before a0 Z = true) (ws : List Jvm.Cond) (ra : Addr) (lv : Int64) (rb : Addr) (fb : Nat → Int32) (sz : Int32) (sn : Nat) (h0 : Heap) (n0 : Nat) (Z0 : n0 ≤ h0.size) (F_bytes_ra : Fld Z h0 ra "com/example/lockstep/lockstep/store/RecordBuffer" "bytes" "[B" (.ref rb)) (A_rb : AI Z h0 rb .byte 256 fb) (F_size_ra : Fld Z h0 ra "com/example/lockstep/lockstep/store/RecordBuffer" "size" "I" (.int sz)) (E_ra : Exa Z h0 ra "com/example/lockstep/lockstep/store/RecordBuffer") (ne_ra_rb : ra ≠ rb) (hsn : sz.toInt = sn) (hsl : sn + 8 ≤ 256) (g_rb : n0 ≤ rb) (g_ra : n0 ≤ ra) :
    MetFree l (⟨"com/example/lockstep/lockstep/store/RecordBuffer", "writeLong", "(J)V"⟩ : MethodName) (head1 (Jvm.Cond.code (⟨"com/example/lockstep/lockstep/store/RecordBuffer", "writeLong", "(J)V"⟩ : MethodName) prog_146_method_7_code 3 none :: ws) ({ frames := 2, cells := 0, slots := 0, locals := 27 } : Room)) (fun a U => a = #[(.ref ra), (.long lv)] ∧ Z.Warmed39 U.vm ∧ U.heap = h0) (fun _ _ _ _ _ => True) (fun _ U o U' => ∃ v L, o = .returned v ∧ Q3 Z ra lv rb fb sz sn h0 n0 v U'.heap L ∧ FrameEnd U o U' L ({ frames := 2, cells := 0, slots := 0, locals := 27 } : Room).cells ({ frames := 2, cells := 0, slots := 0, locals := 27 } : Room).slots) := by
  refine MetFree.of_bodySF (plainFor_of_name pn_com_example_lockstep_lockstep_store_RecordBuffer) hisR ?_
  intro p e s m args below meth c s₁ Bd hml0 hP hK
  obtain ⟨rfl, hZ, hh⟩ := hP
  have hx := Bd.exec
  have hby := Bd.bytes
  have hml : c.maxLocals = 3 := hml0
  have hown : s.vm.findClass "com/example/lockstep/lockstep/store/RecordBuffer" = some m.cls := findClass_of_methodNamed Bd.named
  have hnm := (name_of_methodNamed Bd.named Bd.method).1
  have X0 : Stand p l e ({ frames := 2, cells := 0, slots := 0, locals := 27 } : Room) s m #[(.ref ra), (.long lv)] below meth c s₁ [] 0 0 := Stand.of_body Bd
  have e0 : s₁.heap = h0 := by rw [← hh, Bd.state]; rfl
  have N0 := Fr.nil n0
  have K0 : Keep h0 h0 [ra, rb] := Keep.refl h0 _
  have pre0 : ∀ t, Steps p.tables e below (s₁.setTop (mkF m 0 #[.val (.ref ra), .val (.long lv), .second] [])) t → Steps p.tables e below (s₁.setTop (entryFrame m #[(.ref ra), (.long lv)] 3)) t := fun t k => castTop (ef_3 m ra lv) k
  obtain ⟨cq1, kq1, q1a, q1b, q1c⟩ := isOf hZ e0 E_ra
  obtain ⟨_, _, ⟨T1, L1, k1, n1⟩, -, X1, ⟨Lc1, hQ1, l1, y1, z1⟩, st1⟩ := X0.virtualBack hx (y := (⟨"com/example/lockstep/lockstep/store/RecordBuffer", "writeInt", "(I)V"⟩ : MethodName)) (z := (⟨"com/example/lockstep/lockstep/store/RecordBuffer", "writeInt", "(I)V"⟩ : MethodName)) hown (mvT hZ (hw _ (List.mem_of_getElem? (i := 17) rfl))) (mvT hZ (hw _ (List.mem_of_getElem? (i := 18) rfl))) (notFace_of_selects (args := #[]) (mvT hZ (hw _ (List.mem_of_getElem? (i := 20) rfl)))) (mvT hZ (hw _ (List.mem_of_getElem? (i := 20) rfl))) (mvT hZ (hw _ (List.mem_of_getElem? (i := 19) rfl))) (by decide) (backOf (W := 0) (rm4 l Z a0 hw [] ra (((lv.toUInt64 >>> ((32 : Int32) &&& 0x3f).toInt64.toUInt64).toInt64).toInt32) rb fb sz sn h0 n0 Z0 F_bytes_ra A_rb F_size_ra E_ra ne_ra_rb (hsn) (by omega) g_rb g_ra) hZ (hw _ (List.mem_of_getElem? (i := 21) rfl)) (hw _ (List.mem_of_getElem? (i := 2) rfl)) (by decide) (by decide)) q1a q1c (g := (mkF m 6 #[.val (.ref ra), .val (.long lv), .second] [(.int (((lv.toUInt64 >>> ((32 : Int32) &&& 0x3f).toInt64.toUInt64).toInt64).toInt32)), (.ref ra)])) rfl (by rw [hml]; rfl) (Steps.refl _) (argsL := [(.int (((lv.toUInt64 >>> ((32 : Int32) &&& 0x3f).toInt64.toUInt64).toInt64).toInt32))]) (rest := []) (lenOf pd_0 rfl) rfl (by show 2 * 0 + _ ≤ _; exact Nat.le_of_eq rfl) (hb hby d3_6) (fun _ _ => ⟨rfl, e0, (by decide : 0 + 0 ≤ _), (by decide : 0 + 0 ≤ _)⟩)
  dsimp only [Pt.U, Pt.locs, Pt.cells, Pt.slots] at X1 l1 y1 z1 st1 hQ1
  subst l1 y1 z1
  obtain ⟨rfl, N1q, K1c, f2, f3, f4⟩ := hQ1
  have N1 := Fr.app N0 N1q
  have f5 : Exa Z T1.heap ra "com/example/lockstep/lockstep/store/RecordBuffer" := E_ra.keep K1c
  have Z1 : n0 ≤ T1.heap.size := Nat.le_trans Z0 K1c.1
  have K1 : Keep h0 T1.heap [ra, rb] := K0.trans K1c (allS (Or.inl (List.mem_of_getElem? (i := 1) rfl)) (allS (Or.inl (List.mem_of_getElem? (i := 0) rfl)) all0))
  obtain ⟨cq6, kq6, q6a, q6b, q6c⟩ := isOf hZ rfl f5
  obtain ⟨_, _, ⟨T6, L6, k6, n6⟩, -, X6, ⟨Lc6, hQ6, l6, y6, z6⟩, st6⟩ := X1.virtualBack hx (y := (⟨"com/example/lockstep/lockstep/store/RecordBuffer", "writeInt", "(I)V"⟩ : MethodName)) (z := (⟨"com/example/lockstep/lockstep/store/RecordBuffer", "writeInt", "(I)V"⟩ : MethodName)) hown (mvT hZ (hw _ (List.mem_of_getElem? (i := 17) rfl))) (mvT hZ (hw _ (List.mem_of_getElem? (i := 18) rfl))) (notFace_of_selects (args := #[]) (mvT hZ (hw _ (List.mem_of_getElem? (i := 20) rfl)))) (mvT hZ (hw _ (List.mem_of_getElem? (i := 20) rfl))) (mvT hZ (hw _ (List.mem_of_getElem? (i := 19) rfl))) (by decide) (backOf (W := 0) (rm4 l Z a0 hw [] ra (lv.toInt32) rb (r6_arr (((lv.toUInt64 >>> ((32 : Int32) &&& 0x3f).toInt64.toUInt64).toInt64).toInt32) fb sn) (sz + (4 : Int32)) (sn + 4) T1.heap n0 Z1 f2 f4 f3 f5 ne_ra_rb (own_ix hsn (by omega) (4 : Int32) 4 rfl (by decide)) (by omega) g_rb g_ra) hZ (hw _ (List.mem_of_getElem? (i := 21) rfl)) (hw _ (List.mem_of_getElem? (i := 2) rfl)) (by decide) (by decide)) q6a q6c (g := (mkF m 12 #[.val (.ref ra), .val (.long lv), .second] [(.int (lv.toInt32)), (.ref ra)])) rfl (by rw [hml]; rfl) (Steps.refl _) (argsL := [(.int (lv.toInt32))]) (rest := []) (lenOf pd_0 rfl) rfl (by show 2 * 0 + _ ≤ _; exact Nat.le_of_eq rfl) (hb hby d3_12) (fun _ _ => ⟨rfl, rfl, (by decide : 0 + 0 ≤ _), (by decide : 0 + 0 ≤ _)⟩)
  dsimp only [Pt.U, Pt.locs, Pt.cells, Pt.slots] at X6 l6 y6 z6 st6 hQ6
  subst l6 y6 z6
  obtain ⟨rfl, N6q, K6c, f7, f8, f9⟩ := hQ6
  have N6 := Fr.app N1 N6q
  have f10 : Exa Z T6.heap ra "com/example/lockstep/lockstep/store/RecordBuffer" := f5.keep K6c
  have Z6 : n0 ≤ T6.heap.size := Nat.le_trans Z1 K6c.1
  have K6 : Keep h0 T6.heap [ra, rb] := K1.trans K6c (allS (Or.inl (List.mem_of_getElem? (i := 1) rfl)) (allS (Or.inl (List.mem_of_getElem? (i := 0) rfl)) all0))
  obtain ⟨fs, hr, hrun, hended, hW, hsame⟩ := X6.leave (v := none) (fun _ => rfl)
  refine ⟨_, _, pre0 _ ?_, hrun, hended, _, _, rfl, ?_, ⟨_, rfl⟩, hW, hsame.mono (by decide) (by decide)⟩
  · show Steps p.tables e below (s₁.setTop (mkF m 0 #[.val (.ref ra), .val (.long lv), .second] [])) _
    refine XS.aloadN X0.here hx rfl (hb hby d3_0) rfl rfl ?_
    show Steps p.tables e below (s₁.setTop (mkF m 1 #[.val (.ref ra), .val (.long lv), .second] [(.ref ra)])) _
    refine XS.lloadN X0.here hx rfl (hb hby d3_1) rfl ?_
    show Steps p.tables e below (s₁.setTop (mkF m 2 #[.val (.ref ra), .val (.long lv), .second] [(.long lv), (.ref ra)])) _
    refine XS.bipush X0.here hx rfl (hb hby d3_2) ?_
    show Steps p.tables e below (s₁.setTop (mkF m 4 #[.val (.ref ra), .val (.long lv), .second] [(.int (32 : Int32)), (.long lv), (.ref ra)])) _
    refine XS.lushr X0.here hx rfl (hb hby d3_4) rfl ?_
    show Steps p.tables e below (s₁.setTop (mkF m 5 #[.val (.ref ra), .val (.long lv), .second] [(.long ((lv.toUInt64 >>> ((32 : Int32) &&& 0x3f).toInt64.toUInt64).toInt64)), (.ref ra)])) _
    refine XS.l2i X0.here hx rfl (hb hby d3_5) rfl ?_
    show Steps p.tables e below (s₁.setTop (mkF m 6 #[.val (.ref ra), .val (.long lv), .second] [(.int (((lv.toUInt64 >>> ((32 : Int32) &&& 0x3f).toInt64.toUInt64).toInt64).toInt32)), (.ref ra)])) _
    refine st1.trans ?_
    show Steps p.tables e below (T1.setTop (mkF m 9 #[.val (.ref ra), .val (.long lv), .second] [])) _
    refine XS.aloadN X1.here hx rfl (hb hby d3_9) rfl rfl ?_
    show Steps p.tables e below (T1.setTop (mkF m 10 #[.val (.ref ra), .val (.long lv), .second] [(.ref ra)])) _
    refine XS.lloadN X1.here hx rfl (hb hby d3_10) rfl ?_
    show Steps p.tables e below (T1.setTop (mkF m 11 #[.val (.ref ra), .val (.long lv), .second] [(.long lv), (.ref ra)])) _
    refine XS.l2i X1.here hx rfl (hb hby d3_11) rfl ?_
    show Steps p.tables e below (T1.setTop (mkF m 12 #[.val (.ref ra), .val (.long lv), .second] [(.int (lv.toInt32)), (.ref ra)])) _
    refine st6.trans ?_
    show Steps p.tables e below (T6.setTop (mkF m 15 #[.val (.ref ra), .val (.long lv), .second] [])) _
    exact X6.returnOut hx Bd.returns (hb hby d3_15) hr
  · show Q3 Z ra lv rb fb sz sn h0 n0 _ T6.heap _
    exact ⟨rfl, N6, K6, f7, f8, f9⟩
theorem ef_7 (m : MethodId) (ra : Addr) : entryFrame m #[(.ref ra)] 1 = mkF m 0 #[.val (.ref ra)] [] := by first | (simp [entryFrame, mkF, argsToLocals, Value.category]; done) | rfl
theorem d7_0 : decode prog_146_method_3_code 0 = .ok (.aload_n 0, 1) := by decide +kernel
theorem d7_1 : decode prog_146_method_3_code 1 = .ok (.getfield 9, 3) := by decide +kernel
theorem d7_4 : decode prog_146_method_3_code 4 = .ok (.areturn, 1) := by decide +kernel
def Q7 (Z : State) (ra : Addr) (rb : Addr) (h0 : Heap) (n0 : Nat) (v : Option Value) (h : Heap) (L : List Loc) : Prop := v = some (.ref rb) ∧ Fr n0 L ∧ h = h0
set_option maxRecDepth 65536 in
set_option maxHeartbeats 40000000 in
theorem rm7 (l : Launch) (Z : State) (a0 : Array Value) (hw : ∀ d ∈ tables_1, d.before a0 Z = true) (ws : List Jvm.Cond) (ra : Addr) (rb : Addr) (h0 : Heap) (n0 : Nat) (Z0 : n0 ≤ h0.size) (F_bytes_ra : Fld Z h0 ra "com/example/lockstep/lockstep/store/RecordBuffer" "bytes" "[B" (.ref rb)) :
    MetFree l (⟨"com/example/lockstep/lockstep/store/RecordBuffer", "bytes", "()[B"⟩ : MethodName) (head1 (Jvm.Cond.code (⟨"com/example/lockstep/lockstep/store/RecordBuffer", "bytes", "()[B"⟩ : MethodName) prog_146_method_3_code 1 (some (.array .byte)) :: ws) ({ frames := 0, cells := 0, slots := 0, locals := 0 } : Room)) (fun a U => a = #[(.ref ra)] ∧ Z.Warmed39 U.vm ∧ U.heap = h0) (fun _ _ _ _ _ => True) (fun _ U o U' => ∃ v L, o = .returned v ∧ Q7 Z ra rb h0 n0 v U'.heap L ∧ FrameEnd U o U' L ({ frames := 0, cells := 0, slots := 0, locals := 0 } : Room).cells ({ frames := 0, cells := 0, slots := 0, locals := 0 } : Room).slots) := by
  refine MetFree.of_bodySF (plainFor_of_name pn_com_example_lockstep_lockstep_store_RecordBuffer) hisR ?_
  intro p e s m args below meth c s₁ Bd hml0 hP hK
  obtain ⟨rfl, hZ, hh⟩ := hP
  have hx := Bd.exec
  have hby := Bd.bytes
  have hml : c.maxLocals = 1 := hml0
  have hown : s.vm.findClass "com/example/lockstep/lockstep/store/RecordBuffer" = some m.cls := findClass_of_methodNamed Bd.named
  have hnm := (name_of_methodNamed Bd.named Bd.method).1
  have X0 : Stand p l e ({ frames := 0, cells := 0, slots := 0, locals := 0 } : Room) s m #[(.ref ra)] below meth c s₁ [] 0 0 := Stand.of_body Bd
  have e0 : s₁.heap = h0 := by rw [← hh, Bd.state]; rfl
  have N0 := Fr.nil n0
  have K0 : Keep h0 h0 [] := Keep.refl h0 _
  have pre0 : ∀ t, Steps p.tables e below (s₁.setTop (mkF m 0 #[.val (.ref ra)] [])) t → Steps p.tables e below (s₁.setTop (entryFrame m #[(.ref ra)] 1)) t := fun t k => castTop (ef_7 m ra) k
  obtain ⟨T1, X1, e1, st1⟩ := getF X0 hx hZ hown (host := "") (Or.inl (hw _ (List.mem_of_getElem? (i := 10) rfl))) Via.refl e0 F_bytes_ra (g := (mkF m 1 #[.val (.ref ra)] [(.ref ra)])) rfl rfl (hb hby d7_1)
  obtain ⟨fs, hr, hrun, hended, hW, hsame⟩ := X1.leave (v := some (.ref rb)) (fun h => by rw [Bd.returns] at h; cases h)
  refine ⟨_, _, pre0 _ ?_, hrun, hended, _, _, rfl, ?_, ⟨_, rfl⟩, hW, hsame.mono (by decide) (by decide)⟩
  · show Steps p.tables e below (s₁.setTop (mkF m 0 #[.val (.ref ra)] [])) _
    refine XS.aloadN X0.here hx rfl (hb hby d7_0) rfl rfl ?_
    show Steps p.tables e below (s₁.setTop (mkF m 1 #[.val (.ref ra)] [(.ref ra)])) _
    refine st1 _ ?_
    show Steps p.tables e below (T1.setTop (mkF m 4 #[.val (.ref ra)] [(.ref rb)])) _
    exact retOut X1 hx Bd.returns rfl (Or.inr (Or.inr (Or.inr (Or.inr ⟨rfl, rfl, rfl⟩)))) (hb hby d7_4) hr
  · show Q7 Z ra rb h0 n0 _ T1.heap _
    rw [e1]
    exact ⟨rfl, N0, rfl⟩
theorem ef_8 (m : MethodId) (ra : Addr) : entryFrame m #[(.ref ra)] 1 = mkF m 0 #[.val (.ref ra)] [] := by first | (simp [entryFrame, mkF, argsToLocals, Value.category]; done) | rfl
theorem d8_0 : decode prog_146_method_4_code 0 = .ok (.aload_n 0, 1) := by decide +kernel
theorem d8_1 : decode prog_146_method_4_code 1 = .ok (.getfield 13, 3) := by decide +kernel
theorem d8_4 : decode prog_146_method_4_code 4 = .ok (.ireturn, 1) := by decide +kernel
def Q8 (Z : State) (ra : Addr) (sz : Int32) (h0 : Heap) (n0 : Nat) (v : Option Value) (h : Heap) (L : List Loc) : Prop := v = some (.int sz) ∧ Fr n0 L ∧ h = h0
set_option maxRecDepth 65536 in
set_option maxHeartbeats 40000000 in
theorem rm8 (l : Launch) (Z : State) (a0 : Array Value) (hw : ∀ d ∈ tables_1, d.before a0 Z = true) (ws : List Jvm.Cond) (ra : Addr) (sz : Int32) (h0 : Heap) (n0 : Nat) (Z0 : n0 ≤ h0.size) (F_size_ra : Fld Z h0 ra "com/example/lockstep/lockstep/store/RecordBuffer" "size" "I" (.int sz)) :
    MetFree l (⟨"com/example/lockstep/lockstep/store/RecordBuffer", "size", "()I"⟩ : MethodName) (head1 (Jvm.Cond.code (⟨"com/example/lockstep/lockstep/store/RecordBuffer", "size", "()I"⟩ : MethodName) prog_146_method_4_code 1 (some .int) :: ws) ({ frames := 0, cells := 0, slots := 0, locals := 0 } : Room)) (fun a U => a = #[(.ref ra)] ∧ Z.Warmed39 U.vm ∧ U.heap = h0) (fun _ _ _ _ _ => True) (fun _ U o U' => ∃ v L, o = .returned v ∧ Q8 Z ra sz h0 n0 v U'.heap L ∧ FrameEnd U o U' L ({ frames := 0, cells := 0, slots := 0, locals := 0 } : Room).cells ({ frames := 0, cells := 0, slots := 0, locals := 0 } : Room).slots) := by
  refine MetFree.of_bodySF (plainFor_of_name pn_com_example_lockstep_lockstep_store_RecordBuffer) hisR ?_
  intro p e s m args below meth c s₁ Bd hml0 hP hK
  obtain ⟨rfl, hZ, hh⟩ := hP
  have hx := Bd.exec
  have hby := Bd.bytes
  have hml : c.maxLocals = 1 := hml0
  have hown : s.vm.findClass "com/example/lockstep/lockstep/store/RecordBuffer" = some m.cls := findClass_of_methodNamed Bd.named
  have hnm := (name_of_methodNamed Bd.named Bd.method).1
  have X0 : Stand p l e ({ frames := 0, cells := 0, slots := 0, locals := 0 } : Room) s m #[(.ref ra)] below meth c s₁ [] 0 0 := Stand.of_body Bd
  have e0 : s₁.heap = h0 := by rw [← hh, Bd.state]; rfl
  have N0 := Fr.nil n0
  have K0 : Keep h0 h0 [] := Keep.refl h0 _
  have pre0 : ∀ t, Steps p.tables e below (s₁.setTop (mkF m 0 #[.val (.ref ra)] [])) t → Steps p.tables e below (s₁.setTop (entryFrame m #[(.ref ra)] 1)) t := fun t k => castTop (ef_8 m ra) k
  obtain ⟨T1, X1, e1, st1⟩ := getF X0 hx hZ hown (host := "") (Or.inl (hw _ (List.mem_of_getElem? (i := 26) rfl))) Via.refl e0 F_size_ra (g := (mkF m 1 #[.val (.ref ra)] [(.ref ra)])) rfl rfl (hb hby d8_1)
  obtain ⟨fs, hr, hrun, hended, hW, hsame⟩ := X1.leave (v := some (.int sz)) (fun h => by rw [Bd.returns] at h; cases h)
  refine ⟨_, _, pre0 _ ?_, hrun, hended, _, _, rfl, ?_, ⟨_, rfl⟩, hW, hsame.mono (by decide) (by decide)⟩
  · show Steps p.tables e below (s₁.setTop (mkF m 0 #[.val (.ref ra)] [])) _
    refine XS.aloadN X0.here hx rfl (hb hby d8_0) rfl rfl ?_
    show Steps p.tables e below (s₁.setTop (mkF m 1 #[.val (.ref ra)] [(.ref ra)])) _
    refine st1 _ ?_
    show Steps p.tables e below (T1.setTop (mkF m 4 #[.val (.ref ra)] [(.int sz)])) _
    exact retI X1 hx Bd.returns (hb hby d8_4) hr
  · show Q8 Z ra sz h0 n0 _ T1.heap _
    rw [e1]
    exact ⟨rfl, N0, rfl⟩
theorem ef_10 (m : MethodId) (av : Int64) (bv : Int64) (po : Int32) (vv : Int32) (ii : Int32) : entryFrame m #[(.long av), (.long bv), (.int po), (.int vv), (.int ii)] 7 = mkF m 0 #[.val (.long av), .second, .val (.long bv), .second, .val (.int po), .val (.int vv), .val (.int ii)] [] := by first | (simp [entryFrame, mkF, argsToLocals, Value.category]; done) | rfl
theorem d10_0 : decode method_4_code 0 = .ok (.iload 6, 2) := by decide +kernel
theorem d10_2 : decode method_4_code 2 = .ok (.iload 4, 2) := by decide +kernel
theorem d10_4 : decode method_4_code 4 = .ok (.if_icmp .lt 28, 3) := by decide +kernel
theorem d10_32 : decode method_4_code 32 = .ok (.iload 6, 2) := by decide +kernel
theorem d10_34 : decode method_4_code 34 = .ok (.bipush 8, 2) := by decide +kernel
theorem d10_36 : decode method_4_code 36 = .ok (.if_icmp .ge 16, 3) := by decide +kernel
theorem d10_39 : decode method_4_code 39 = .ok (.lload_n 0, 1) := by decide +kernel
theorem d10_40 : decode method_4_code 40 = .ok (.bipush 56, 2) := by decide +kernel
theorem d10_42 : decode method_4_code 42 = .ok (.bipush 8, 2) := by decide +kernel
theorem d10_44 : decode method_4_code 44 = .ok (.iload 6, 2) := by decide +kernel
theorem d10_46 : decode method_4_code 46 = .ok (.imul, 1) := by decide +kernel
theorem d10_47 : decode method_4_code 47 = .ok (.isub, 1) := by decide +kernel
theorem d10_48 : decode method_4_code 48 = .ok (.lshr, 1) := by decide +kernel
theorem d10_49 : decode method_4_code 49 = .ok (.l2i, 1) := by decide +kernel
theorem d10_50 : decode method_4_code 50 = .ok (.i2b, 1) := by decide +kernel
theorem d10_51 : decode method_4_code 51 = .ok (.ireturn, 1) := by decide +kernel
theorem d10_52 : decode method_4_code 52 = .ok (.lload_n 2, 1) := by decide +kernel
theorem d10_53 : decode method_4_code 53 = .ok (.bipush 120, 2) := by decide +kernel
theorem d10_55 : decode method_4_code 55 = .ok (.bipush 8, 2) := by decide +kernel
theorem d10_57 : decode method_4_code 57 = .ok (.iload 6, 2) := by decide +kernel
theorem d10_59 : decode method_4_code 59 = .ok (.imul, 1) := by decide +kernel
theorem d10_60 : decode method_4_code 60 = .ok (.isub, 1) := by decide +kernel
theorem d10_61 : decode method_4_code 61 = .ok (.lshr, 1) := by decide +kernel
theorem d10_62 : decode method_4_code 62 = .ok (.l2i, 1) := by decide +kernel
theorem d10_63 : decode method_4_code 63 = .ok (.i2b, 1) := by decide +kernel
theorem d10_64 : decode method_4_code 64 = .ok (.ireturn, 1) := by decide +kernel
theorem d10_7 : decode method_4_code 7 = .ok (.iload 6, 2) := by decide +kernel
theorem d10_9 : decode method_4_code 9 = .ok (.iload 4, 2) := by decide +kernel
theorem d10_11 : decode method_4_code 11 = .ok (.iconst 4, 1) := by decide +kernel
theorem d10_12 : decode method_4_code 12 = .ok (.iadd, 1) := by decide +kernel
theorem d10_13 : decode method_4_code 13 = .ok (.if_icmp .ge 19, 3) := by decide +kernel
theorem d10_16 : decode method_4_code 16 = .ok (.iload 5, 2) := by decide +kernel
theorem d10_18 : decode method_4_code 18 = .ok (.bipush 24, 2) := by decide +kernel
theorem d10_20 : decode method_4_code 20 = .ok (.bipush 8, 2) := by decide +kernel
theorem d10_22 : decode method_4_code 22 = .ok (.iload 6, 2) := by decide +kernel
theorem d10_24 : decode method_4_code 24 = .ok (.iload 4, 2) := by decide +kernel
theorem d10_26 : decode method_4_code 26 = .ok (.isub, 1) := by decide +kernel
theorem d10_27 : decode method_4_code 27 = .ok (.imul, 1) := by decide +kernel
theorem d10_28 : decode method_4_code 28 = .ok (.isub, 1) := by decide +kernel
theorem d10_29 : decode method_4_code 29 = .ok (.ishr, 1) := by decide +kernel
theorem d10_30 : decode method_4_code 30 = .ok (.i2b, 1) := by decide +kernel
theorem d10_31 : decode method_4_code 31 = .ok (.ireturn, 1) := by decide +kernel
def r10_v (av : Int64) (bv : Int64) (po : Int32) (vv : Int32) (ii : Int32) : Int32 := (if ii < po then (if ii < (8 : Int32) then (nar .byte (((av >>> (((56 : Int32) - ((8 : Int32) * ii)) &&& 0x3f).toInt64).toInt32).toInt8.toInt32)) else (nar .byte (((bv >>> (((120 : Int32) - ((8 : Int32) * ii)) &&& 0x3f).toInt64).toInt32).toInt8.toInt32))) else (if ii < (po + (4 : Int32)) then (nar .byte ((vv >>> (((24 : Int32) - ((8 : Int32) * (ii - po))) &&& 31)).toInt8.toInt32)) else (if ii < (8 : Int32) then (nar .byte (((av >>> (((56 : Int32) - ((8 : Int32) * ii)) &&& 0x3f).toInt64).toInt32).toInt8.toInt32)) else (nar .byte (((bv >>> (((120 : Int32) - ((8 : Int32) * ii)) &&& 0x3f).toInt64).toInt32).toInt8.toInt32)))))
theorem pn_com_example_lockstep_lockstep_store_RecordBufferPutIntPinLaw : plainName "com/example/lockstep/lockstep/store/RecordBufferPutIntPinLaw" = true := by first | (simp [plainName, overriddenIn]; done) | decide +kernel
def Q10 (Z : State) (av : Int64) (bv : Int64) (po : Int32) (vv : Int32) (ii : Int32) (h0 : Heap) (n0 : Nat) (v : Option Value) (h : Heap) (L : List Loc) : Prop := v = some (.int (r10_v av bv po vv ii)) ∧ Fr n0 L ∧ h = h0
set_option maxRecDepth 65536 in
set_option maxHeartbeats 40000000 in
theorem rm10 (l : Launch) (Z : State) (a0 : Array Value) (hw : ∀ d ∈ tables_1, d.before a0 Z = true) (ws : List Jvm.Cond) (av : Int64) (bv : Int64) (po : Int32) (vv : Int32) (ii : Int32) (h0 : Heap) (n0 : Nat) (Z0 : n0 ≤ h0.size) :
    MetFree l (⟨"com/example/lockstep/lockstep/store/RecordBufferPutIntPinLaw", "expected", "(JJIII)B"⟩ : MethodName) (head1 (Jvm.Cond.code (⟨"com/example/lockstep/lockstep/store/RecordBufferPutIntPinLaw", "expected", "(JJIII)B"⟩ : MethodName) method_4_code 7 (some .byte) :: ws) ({ frames := 0, cells := 0, slots := 0, locals := 0 } : Room)) (fun a U => a = #[(.long av), (.long bv), (.int po), (.int vv), (.int ii)] ∧ Z.Warmed39 U.vm ∧ U.heap = h0) (fun _ _ _ _ _ => True) (fun _ U o U' => ∃ v L, o = .returned v ∧ Q10 Z av bv po vv ii h0 n0 v U'.heap L ∧ FrameEnd U o U' L ({ frames := 0, cells := 0, slots := 0, locals := 0 } : Room).cells ({ frames := 0, cells := 0, slots := 0, locals := 0 } : Room).slots) := by
  refine MetFree.of_bodySF (plainFor_of_name pn_com_example_lockstep_lockstep_store_RecordBufferPutIntPinLaw) hisR ?_
  intro p e s m args below meth c s₁ Bd hml0 hP hK
  obtain ⟨rfl, hZ, hh⟩ := hP
  have hx := Bd.exec
  have hby := Bd.bytes
  have hml : c.maxLocals = 7 := hml0
  have hown : s.vm.findClass "com/example/lockstep/lockstep/store/RecordBufferPutIntPinLaw" = some m.cls := findClass_of_methodNamed Bd.named
  have hnm := (name_of_methodNamed Bd.named Bd.method).1
  have X0 : Stand p l e ({ frames := 0, cells := 0, slots := 0, locals := 0 } : Room) s m #[(.long av), (.long bv), (.int po), (.int vv), (.int ii)] below meth c s₁ [] 0 0 := Stand.of_body Bd
  have e0 : s₁.heap = h0 := by rw [← hh, Bd.state]; rfl
  have N0 := Fr.nil n0
  have K0 : Keep h0 h0 [] := Keep.refl h0 _
  have pre0 : ∀ t, Steps p.tables e below (s₁.setTop (mkF m 0 #[.val (.long av), .second, .val (.long bv), .second, .val (.int po), .val (.int vv), .val (.int ii)] [])) t → Steps p.tables e below (s₁.setTop (entryFrame m #[(.long av), (.long bv), (.int po), (.int vv), (.int ii)] 7)) t := fun t k => castTop (ef_10 m av bv po vv ii) k
  have pre1 : ∀ t, Steps p.tables e below (s₁.setTop (mkF m 4 #[.val (.long av), .second, .val (.long bv), .second, .val (.int po), .val (.int vv), .val (.int ii)] [(.int po), (.int ii)])) t → Steps p.tables e below (s₁.setTop (entryFrame m #[(.long av), (.long bv), (.int po), (.int vv), (.int ii)] 7)) t := by
    intro t k
    refine pre0 _ ?_
    show Steps p.tables e below (s₁.setTop (mkF m 0 #[.val (.long av), .second, .val (.long bv), .second, .val (.int po), .val (.int vv), .val (.int ii)] [])) _
    refine XS.iload X0.here hx rfl (hb hby d10_0) rfl ?_
    show Steps p.tables e below (s₁.setTop (mkF m 2 #[.val (.long av), .second, .val (.long bv), .second, .val (.int po), .val (.int vv), .val (.int ii)] [(.int ii)])) _
    refine XS.iload X0.here hx rfl (hb hby d10_2) rfl ?_
    exact k
  by_cases hk2 : ii < po
  · have pre3 : ∀ t, Steps p.tables e below (s₁.setTop (mkF m 36 #[.val (.long av), .second, .val (.long bv), .second, .val (.int po), .val (.int vv), .val (.int ii)] [(.int (8 : Int32)), (.int ii)])) t → Steps p.tables e below (s₁.setTop (entryFrame m #[(.long av), (.long bv), (.int po), (.int vv), (.int ii)] 7)) t := by
      intro t k
      refine pre1 _ ?_
      show Steps p.tables e below (s₁.setTop (mkF m 4 #[.val (.long av), .second, .val (.long bv), .second, .val (.int po), .val (.int vv), .val (.int ii)] [(.int po), (.int ii)])) _
      refine XS.icmpYes X0.here hx rfl (pc0 := 4) (pc' := 32) rfl (hb hby d10_4) rfl (tlt hk2).1 (by decide) (by decide) ?_
      show Steps p.tables e below (s₁.setTop (mkF m 32 #[.val (.long av), .second, .val (.long bv), .second, .val (.int po), .val (.int vv), .val (.int ii)] [])) _
      refine XS.iload X0.here hx rfl (hb hby d10_32) rfl ?_
      show Steps p.tables e below (s₁.setTop (mkF m 34 #[.val (.long av), .second, .val (.long bv), .second, .val (.int po), .val (.int vv), .val (.int ii)] [(.int ii)])) _
      refine XS.bipush X0.here hx rfl (hb hby d10_34) ?_
      exact k
    by_cases hk4 : ii < (8 : Int32)
    · obtain ⟨fs, hr, hrun, hended, hW, hsame⟩ := X0.leave (v := some (.int (nar .byte (((av >>> (((56 : Int32) - ((8 : Int32) * ii)) &&& 0x3f).toInt64).toInt32).toInt8.toInt32)))) (fun h => by rw [Bd.returns] at h; cases h)
      refine ⟨_, _, pre3 _ ?_, hrun, hended, _, _, rfl, ?_, ⟨_, rfl⟩, hW, hsame.mono (by decide) (by decide)⟩
      · show Steps p.tables e below (s₁.setTop (mkF m 36 #[.val (.long av), .second, .val (.long bv), .second, .val (.int po), .val (.int vv), .val (.int ii)] [(.int (8 : Int32)), (.int ii)])) _
        refine XS.icmpNo X0.here hx rfl (hb hby d10_36) rfl (tlt hk4).2.1 ?_
        show Steps p.tables e below (s₁.setTop (mkF m 39 #[.val (.long av), .second, .val (.long bv), .second, .val (.int po), .val (.int vv), .val (.int ii)] [])) _
        refine XS.lloadN X0.here hx rfl (hb hby d10_39) rfl ?_
        show Steps p.tables e below (s₁.setTop (mkF m 40 #[.val (.long av), .second, .val (.long bv), .second, .val (.int po), .val (.int vv), .val (.int ii)] [(.long av)])) _
        refine XS.bipush X0.here hx rfl (hb hby d10_40) ?_
        show Steps p.tables e below (s₁.setTop (mkF m 42 #[.val (.long av), .second, .val (.long bv), .second, .val (.int po), .val (.int vv), .val (.int ii)] [(.int (56 : Int32)), (.long av)])) _
        refine XS.bipush X0.here hx rfl (hb hby d10_42) ?_
        show Steps p.tables e below (s₁.setTop (mkF m 44 #[.val (.long av), .second, .val (.long bv), .second, .val (.int po), .val (.int vv), .val (.int ii)] [(.int (8 : Int32)), (.int (56 : Int32)), (.long av)])) _
        refine XS.iload X0.here hx rfl (hb hby d10_44) rfl ?_
        show Steps p.tables e below (s₁.setTop (mkF m 46 #[.val (.long av), .second, .val (.long bv), .second, .val (.int po), .val (.int vv), .val (.int ii)] [(.int ii), (.int (8 : Int32)), (.int (56 : Int32)), (.long av)])) _
        refine XS.imul X0.here hx rfl (hb hby d10_46) rfl ?_
        show Steps p.tables e below (s₁.setTop (mkF m 47 #[.val (.long av), .second, .val (.long bv), .second, .val (.int po), .val (.int vv), .val (.int ii)] [(.int ((8 : Int32) * ii)), (.int (56 : Int32)), (.long av)])) _
        refine XS.isub X0.here hx rfl (hb hby d10_47) rfl ?_
        show Steps p.tables e below (s₁.setTop (mkF m 48 #[.val (.long av), .second, .val (.long bv), .second, .val (.int po), .val (.int vv), .val (.int ii)] [(.int ((56 : Int32) - ((8 : Int32) * ii))), (.long av)])) _
        refine XS.lshr X0.here hx rfl (hb hby d10_48) rfl ?_
        show Steps p.tables e below (s₁.setTop (mkF m 49 #[.val (.long av), .second, .val (.long bv), .second, .val (.int po), .val (.int vv), .val (.int ii)] [(.long (av >>> (((56 : Int32) - ((8 : Int32) * ii)) &&& 0x3f).toInt64))])) _
        refine XS.l2i X0.here hx rfl (hb hby d10_49) rfl ?_
        show Steps p.tables e below (s₁.setTop (mkF m 50 #[.val (.long av), .second, .val (.long bv), .second, .val (.int po), .val (.int vv), .val (.int ii)] [(.int ((av >>> (((56 : Int32) - ((8 : Int32) * ii)) &&& 0x3f).toInt64).toInt32))])) _
        refine XS.i2b X0.here hx rfl (hb hby d10_50) rfl ?_
        show Steps p.tables e below (s₁.setTop (mkF m 51 #[.val (.long av), .second, .val (.long bv), .second, .val (.int po), .val (.int vv), .val (.int ii)] [(.int (((av >>> (((56 : Int32) - ((8 : Int32) * ii)) &&& 0x3f).toInt64).toInt32).toInt8.toInt32))])) _
        exact retN X0 hx (t := .byte) Bd.returns (by simp) (hb hby d10_51) hr
      · show Q10 Z av bv po vv ii h0 n0 _ s₁.heap _
        rw [e0]
        have ev9 : (r10_v av bv po vv ii) = (nar .byte (((av >>> (((56 : Int32) - ((8 : Int32) * ii)) &&& 0x3f).toInt64).toInt32).toInt8.toInt32)) := by unfold r10_v; rw [if_pos hk2, if_pos hk4]
        exact ⟨(congrArg (fun z => some (Value.int z)) ev9.symm), N0, rfl⟩
    · obtain ⟨fs, hr, hrun, hended, hW, hsame⟩ := X0.leave (v := some (.int (nar .byte (((bv >>> (((120 : Int32) - ((8 : Int32) * ii)) &&& 0x3f).toInt64).toInt32).toInt8.toInt32)))) (fun h => by rw [Bd.returns] at h; cases h)
      refine ⟨_, _, pre3 _ ?_, hrun, hended, _, _, rfl, ?_, ⟨_, rfl⟩, hW, hsame.mono (by decide) (by decide)⟩
      · show Steps p.tables e below (s₁.setTop (mkF m 36 #[.val (.long av), .second, .val (.long bv), .second, .val (.int po), .val (.int vv), .val (.int ii)] [(.int (8 : Int32)), (.int ii)])) _
        refine XS.icmpYes X0.here hx rfl (pc0 := 36) (pc' := 52) rfl (hb hby d10_36) rfl (flt hk4).2.1 (by decide) (by decide) ?_
        show Steps p.tables e below (s₁.setTop (mkF m 52 #[.val (.long av), .second, .val (.long bv), .second, .val (.int po), .val (.int vv), .val (.int ii)] [])) _
        refine XS.lloadN X0.here hx rfl (hb hby d10_52) rfl ?_
        show Steps p.tables e below (s₁.setTop (mkF m 53 #[.val (.long av), .second, .val (.long bv), .second, .val (.int po), .val (.int vv), .val (.int ii)] [(.long bv)])) _
        refine XS.bipush X0.here hx rfl (hb hby d10_53) ?_
        show Steps p.tables e below (s₁.setTop (mkF m 55 #[.val (.long av), .second, .val (.long bv), .second, .val (.int po), .val (.int vv), .val (.int ii)] [(.int (120 : Int32)), (.long bv)])) _
        refine XS.bipush X0.here hx rfl (hb hby d10_55) ?_
        show Steps p.tables e below (s₁.setTop (mkF m 57 #[.val (.long av), .second, .val (.long bv), .second, .val (.int po), .val (.int vv), .val (.int ii)] [(.int (8 : Int32)), (.int (120 : Int32)), (.long bv)])) _
        refine XS.iload X0.here hx rfl (hb hby d10_57) rfl ?_
        show Steps p.tables e below (s₁.setTop (mkF m 59 #[.val (.long av), .second, .val (.long bv), .second, .val (.int po), .val (.int vv), .val (.int ii)] [(.int ii), (.int (8 : Int32)), (.int (120 : Int32)), (.long bv)])) _
        refine XS.imul X0.here hx rfl (hb hby d10_59) rfl ?_
        show Steps p.tables e below (s₁.setTop (mkF m 60 #[.val (.long av), .second, .val (.long bv), .second, .val (.int po), .val (.int vv), .val (.int ii)] [(.int ((8 : Int32) * ii)), (.int (120 : Int32)), (.long bv)])) _
        refine XS.isub X0.here hx rfl (hb hby d10_60) rfl ?_
        show Steps p.tables e below (s₁.setTop (mkF m 61 #[.val (.long av), .second, .val (.long bv), .second, .val (.int po), .val (.int vv), .val (.int ii)] [(.int ((120 : Int32) - ((8 : Int32) * ii))), (.long bv)])) _
        refine XS.lshr X0.here hx rfl (hb hby d10_61) rfl ?_
        show Steps p.tables e below (s₁.setTop (mkF m 62 #[.val (.long av), .second, .val (.long bv), .second, .val (.int po), .val (.int vv), .val (.int ii)] [(.long (bv >>> (((120 : Int32) - ((8 : Int32) * ii)) &&& 0x3f).toInt64))])) _
        refine XS.l2i X0.here hx rfl (hb hby d10_62) rfl ?_
        show Steps p.tables e below (s₁.setTop (mkF m 63 #[.val (.long av), .second, .val (.long bv), .second, .val (.int po), .val (.int vv), .val (.int ii)] [(.int ((bv >>> (((120 : Int32) - ((8 : Int32) * ii)) &&& 0x3f).toInt64).toInt32))])) _
        refine XS.i2b X0.here hx rfl (hb hby d10_63) rfl ?_
        show Steps p.tables e below (s₁.setTop (mkF m 64 #[.val (.long av), .second, .val (.long bv), .second, .val (.int po), .val (.int vv), .val (.int ii)] [(.int (((bv >>> (((120 : Int32) - ((8 : Int32) * ii)) &&& 0x3f).toInt64).toInt32).toInt8.toInt32))])) _
        exact retN X0 hx (t := .byte) Bd.returns (by simp) (hb hby d10_64) hr
      · show Q10 Z av bv po vv ii h0 n0 _ s₁.heap _
        rw [e0]
        have ev10 : (r10_v av bv po vv ii) = (nar .byte (((bv >>> (((120 : Int32) - ((8 : Int32) * ii)) &&& 0x3f).toInt64).toInt32).toInt8.toInt32)) := by unfold r10_v; rw [if_pos hk2, if_neg hk4]
        exact ⟨(congrArg (fun z => some (Value.int z)) ev10.symm), N0, rfl⟩
  · have pre5 : ∀ t, Steps p.tables e below (s₁.setTop (mkF m 13 #[.val (.long av), .second, .val (.long bv), .second, .val (.int po), .val (.int vv), .val (.int ii)] [(.int (po + (4 : Int32))), (.int ii)])) t → Steps p.tables e below (s₁.setTop (entryFrame m #[(.long av), (.long bv), (.int po), (.int vv), (.int ii)] 7)) t := by
      intro t k
      refine pre1 _ ?_
      show Steps p.tables e below (s₁.setTop (mkF m 4 #[.val (.long av), .second, .val (.long bv), .second, .val (.int po), .val (.int vv), .val (.int ii)] [(.int po), (.int ii)])) _
      refine XS.icmpNo X0.here hx rfl (hb hby d10_4) rfl (flt hk2).1 ?_
      show Steps p.tables e below (s₁.setTop (mkF m 7 #[.val (.long av), .second, .val (.long bv), .second, .val (.int po), .val (.int vv), .val (.int ii)] [])) _
      refine XS.iload X0.here hx rfl (hb hby d10_7) rfl ?_
      show Steps p.tables e below (s₁.setTop (mkF m 9 #[.val (.long av), .second, .val (.long bv), .second, .val (.int po), .val (.int vv), .val (.int ii)] [(.int ii)])) _
      refine XS.iload X0.here hx rfl (hb hby d10_9) rfl ?_
      show Steps p.tables e below (s₁.setTop (mkF m 11 #[.val (.long av), .second, .val (.long bv), .second, .val (.int po), .val (.int vv), .val (.int ii)] [(.int po), (.int ii)])) _
      refine XS.iconst X0.here hx rfl (hb hby d10_11) ?_
      show Steps p.tables e below (s₁.setTop (mkF m 12 #[.val (.long av), .second, .val (.long bv), .second, .val (.int po), .val (.int vv), .val (.int ii)] [(.int (4 : Int32)), (.int po), (.int ii)])) _
      refine XS.iadd X0.here hx rfl (hb hby d10_12) rfl ?_
      exact k
    by_cases hk6 : ii < (po + (4 : Int32))
    · obtain ⟨fs, hr, hrun, hended, hW, hsame⟩ := X0.leave (v := some (.int (nar .byte ((vv >>> (((24 : Int32) - ((8 : Int32) * (ii - po))) &&& 31)).toInt8.toInt32)))) (fun h => by rw [Bd.returns] at h; cases h)
      refine ⟨_, _, pre5 _ ?_, hrun, hended, _, _, rfl, ?_, ⟨_, rfl⟩, hW, hsame.mono (by decide) (by decide)⟩
      · show Steps p.tables e below (s₁.setTop (mkF m 13 #[.val (.long av), .second, .val (.long bv), .second, .val (.int po), .val (.int vv), .val (.int ii)] [(.int (po + (4 : Int32))), (.int ii)])) _
        refine XS.icmpNo X0.here hx rfl (hb hby d10_13) rfl (tlt hk6).2.1 ?_
        show Steps p.tables e below (s₁.setTop (mkF m 16 #[.val (.long av), .second, .val (.long bv), .second, .val (.int po), .val (.int vv), .val (.int ii)] [])) _
        refine XS.iload X0.here hx rfl (hb hby d10_16) rfl ?_
        show Steps p.tables e below (s₁.setTop (mkF m 18 #[.val (.long av), .second, .val (.long bv), .second, .val (.int po), .val (.int vv), .val (.int ii)] [(.int vv)])) _
        refine XS.bipush X0.here hx rfl (hb hby d10_18) ?_
        show Steps p.tables e below (s₁.setTop (mkF m 20 #[.val (.long av), .second, .val (.long bv), .second, .val (.int po), .val (.int vv), .val (.int ii)] [(.int (24 : Int32)), (.int vv)])) _
        refine XS.bipush X0.here hx rfl (hb hby d10_20) ?_
        show Steps p.tables e below (s₁.setTop (mkF m 22 #[.val (.long av), .second, .val (.long bv), .second, .val (.int po), .val (.int vv), .val (.int ii)] [(.int (8 : Int32)), (.int (24 : Int32)), (.int vv)])) _
        refine XS.iload X0.here hx rfl (hb hby d10_22) rfl ?_
        show Steps p.tables e below (s₁.setTop (mkF m 24 #[.val (.long av), .second, .val (.long bv), .second, .val (.int po), .val (.int vv), .val (.int ii)] [(.int ii), (.int (8 : Int32)), (.int (24 : Int32)), (.int vv)])) _
        refine XS.iload X0.here hx rfl (hb hby d10_24) rfl ?_
        show Steps p.tables e below (s₁.setTop (mkF m 26 #[.val (.long av), .second, .val (.long bv), .second, .val (.int po), .val (.int vv), .val (.int ii)] [(.int po), (.int ii), (.int (8 : Int32)), (.int (24 : Int32)), (.int vv)])) _
        refine XS.isub X0.here hx rfl (hb hby d10_26) rfl ?_
        show Steps p.tables e below (s₁.setTop (mkF m 27 #[.val (.long av), .second, .val (.long bv), .second, .val (.int po), .val (.int vv), .val (.int ii)] [(.int (ii - po)), (.int (8 : Int32)), (.int (24 : Int32)), (.int vv)])) _
        refine XS.imul X0.here hx rfl (hb hby d10_27) rfl ?_
        show Steps p.tables e below (s₁.setTop (mkF m 28 #[.val (.long av), .second, .val (.long bv), .second, .val (.int po), .val (.int vv), .val (.int ii)] [(.int ((8 : Int32) * (ii - po))), (.int (24 : Int32)), (.int vv)])) _
        refine XS.isub X0.here hx rfl (hb hby d10_28) rfl ?_
        show Steps p.tables e below (s₁.setTop (mkF m 29 #[.val (.long av), .second, .val (.long bv), .second, .val (.int po), .val (.int vv), .val (.int ii)] [(.int ((24 : Int32) - ((8 : Int32) * (ii - po)))), (.int vv)])) _
        refine XS.ishr X0.here hx rfl (hb hby d10_29) rfl ?_
        show Steps p.tables e below (s₁.setTop (mkF m 30 #[.val (.long av), .second, .val (.long bv), .second, .val (.int po), .val (.int vv), .val (.int ii)] [(.int (vv >>> (((24 : Int32) - ((8 : Int32) * (ii - po))) &&& 31)))])) _
        refine XS.i2b X0.here hx rfl (hb hby d10_30) rfl ?_
        show Steps p.tables e below (s₁.setTop (mkF m 31 #[.val (.long av), .second, .val (.long bv), .second, .val (.int po), .val (.int vv), .val (.int ii)] [(.int ((vv >>> (((24 : Int32) - ((8 : Int32) * (ii - po))) &&& 31)).toInt8.toInt32))])) _
        exact retN X0 hx (t := .byte) Bd.returns (by simp) (hb hby d10_31) hr
      · show Q10 Z av bv po vv ii h0 n0 _ s₁.heap _
        rw [e0]
        have ev11 : (r10_v av bv po vv ii) = (nar .byte ((vv >>> (((24 : Int32) - ((8 : Int32) * (ii - po))) &&& 31)).toInt8.toInt32)) := by unfold r10_v; rw [if_neg hk2, if_pos hk6]
        exact ⟨(congrArg (fun z => some (Value.int z)) ev11.symm), N0, rfl⟩
    · have pre7 : ∀ t, Steps p.tables e below (s₁.setTop (mkF m 36 #[.val (.long av), .second, .val (.long bv), .second, .val (.int po), .val (.int vv), .val (.int ii)] [(.int (8 : Int32)), (.int ii)])) t → Steps p.tables e below (s₁.setTop (entryFrame m #[(.long av), (.long bv), (.int po), (.int vv), (.int ii)] 7)) t := by
        intro t k
        refine pre5 _ ?_
        show Steps p.tables e below (s₁.setTop (mkF m 13 #[.val (.long av), .second, .val (.long bv), .second, .val (.int po), .val (.int vv), .val (.int ii)] [(.int (po + (4 : Int32))), (.int ii)])) _
        refine XS.icmpYes X0.here hx rfl (pc0 := 13) (pc' := 32) rfl (hb hby d10_13) rfl (flt hk6).2.1 (by decide) (by decide) ?_
        show Steps p.tables e below (s₁.setTop (mkF m 32 #[.val (.long av), .second, .val (.long bv), .second, .val (.int po), .val (.int vv), .val (.int ii)] [])) _
        refine XS.iload X0.here hx rfl (hb hby d10_32) rfl ?_
        show Steps p.tables e below (s₁.setTop (mkF m 34 #[.val (.long av), .second, .val (.long bv), .second, .val (.int po), .val (.int vv), .val (.int ii)] [(.int ii)])) _
        refine XS.bipush X0.here hx rfl (hb hby d10_34) ?_
        exact k
      by_cases hk8 : ii < (8 : Int32)
      · obtain ⟨fs, hr, hrun, hended, hW, hsame⟩ := X0.leave (v := some (.int (nar .byte (((av >>> (((56 : Int32) - ((8 : Int32) * ii)) &&& 0x3f).toInt64).toInt32).toInt8.toInt32)))) (fun h => by rw [Bd.returns] at h; cases h)
        refine ⟨_, _, pre7 _ ?_, hrun, hended, _, _, rfl, ?_, ⟨_, rfl⟩, hW, hsame.mono (by decide) (by decide)⟩
        · show Steps p.tables e below (s₁.setTop (mkF m 36 #[.val (.long av), .second, .val (.long bv), .second, .val (.int po), .val (.int vv), .val (.int ii)] [(.int (8 : Int32)), (.int ii)])) _
          refine XS.icmpNo X0.here hx rfl (hb hby d10_36) rfl (tlt hk8).2.1 ?_
          show Steps p.tables e below (s₁.setTop (mkF m 39 #[.val (.long av), .second, .val (.long bv), .second, .val (.int po), .val (.int vv), .val (.int ii)] [])) _
          refine XS.lloadN X0.here hx rfl (hb hby d10_39) rfl ?_
          show Steps p.tables e below (s₁.setTop (mkF m 40 #[.val (.long av), .second, .val (.long bv), .second, .val (.int po), .val (.int vv), .val (.int ii)] [(.long av)])) _
          refine XS.bipush X0.here hx rfl (hb hby d10_40) ?_
          show Steps p.tables e below (s₁.setTop (mkF m 42 #[.val (.long av), .second, .val (.long bv), .second, .val (.int po), .val (.int vv), .val (.int ii)] [(.int (56 : Int32)), (.long av)])) _
          refine XS.bipush X0.here hx rfl (hb hby d10_42) ?_
          show Steps p.tables e below (s₁.setTop (mkF m 44 #[.val (.long av), .second, .val (.long bv), .second, .val (.int po), .val (.int vv), .val (.int ii)] [(.int (8 : Int32)), (.int (56 : Int32)), (.long av)])) _
          refine XS.iload X0.here hx rfl (hb hby d10_44) rfl ?_
          show Steps p.tables e below (s₁.setTop (mkF m 46 #[.val (.long av), .second, .val (.long bv), .second, .val (.int po), .val (.int vv), .val (.int ii)] [(.int ii), (.int (8 : Int32)), (.int (56 : Int32)), (.long av)])) _
          refine XS.imul X0.here hx rfl (hb hby d10_46) rfl ?_
          show Steps p.tables e below (s₁.setTop (mkF m 47 #[.val (.long av), .second, .val (.long bv), .second, .val (.int po), .val (.int vv), .val (.int ii)] [(.int ((8 : Int32) * ii)), (.int (56 : Int32)), (.long av)])) _
          refine XS.isub X0.here hx rfl (hb hby d10_47) rfl ?_
          show Steps p.tables e below (s₁.setTop (mkF m 48 #[.val (.long av), .second, .val (.long bv), .second, .val (.int po), .val (.int vv), .val (.int ii)] [(.int ((56 : Int32) - ((8 : Int32) * ii))), (.long av)])) _
          refine XS.lshr X0.here hx rfl (hb hby d10_48) rfl ?_
          show Steps p.tables e below (s₁.setTop (mkF m 49 #[.val (.long av), .second, .val (.long bv), .second, .val (.int po), .val (.int vv), .val (.int ii)] [(.long (av >>> (((56 : Int32) - ((8 : Int32) * ii)) &&& 0x3f).toInt64))])) _
          refine XS.l2i X0.here hx rfl (hb hby d10_49) rfl ?_
          show Steps p.tables e below (s₁.setTop (mkF m 50 #[.val (.long av), .second, .val (.long bv), .second, .val (.int po), .val (.int vv), .val (.int ii)] [(.int ((av >>> (((56 : Int32) - ((8 : Int32) * ii)) &&& 0x3f).toInt64).toInt32))])) _
          refine XS.i2b X0.here hx rfl (hb hby d10_50) rfl ?_
          show Steps p.tables e below (s₁.setTop (mkF m 51 #[.val (.long av), .second, .val (.long bv), .second, .val (.int po), .val (.int vv), .val (.int ii)] [(.int (((av >>> (((56 : Int32) - ((8 : Int32) * ii)) &&& 0x3f).toInt64).toInt32).toInt8.toInt32))])) _
          exact retN X0 hx (t := .byte) Bd.returns (by simp) (hb hby d10_51) hr
        · show Q10 Z av bv po vv ii h0 n0 _ s₁.heap _
          rw [e0]
          have ev12 : (r10_v av bv po vv ii) = (nar .byte (((av >>> (((56 : Int32) - ((8 : Int32) * ii)) &&& 0x3f).toInt64).toInt32).toInt8.toInt32)) := by unfold r10_v; rw [if_neg hk2, if_neg hk6, if_pos hk8]
          exact ⟨(congrArg (fun z => some (Value.int z)) ev12.symm), N0, rfl⟩
      · obtain ⟨fs, hr, hrun, hended, hW, hsame⟩ := X0.leave (v := some (.int (nar .byte (((bv >>> (((120 : Int32) - ((8 : Int32) * ii)) &&& 0x3f).toInt64).toInt32).toInt8.toInt32)))) (fun h => by rw [Bd.returns] at h; cases h)
        refine ⟨_, _, pre7 _ ?_, hrun, hended, _, _, rfl, ?_, ⟨_, rfl⟩, hW, hsame.mono (by decide) (by decide)⟩
        · show Steps p.tables e below (s₁.setTop (mkF m 36 #[.val (.long av), .second, .val (.long bv), .second, .val (.int po), .val (.int vv), .val (.int ii)] [(.int (8 : Int32)), (.int ii)])) _
          refine XS.icmpYes X0.here hx rfl (pc0 := 36) (pc' := 52) rfl (hb hby d10_36) rfl (flt hk8).2.1 (by decide) (by decide) ?_
          show Steps p.tables e below (s₁.setTop (mkF m 52 #[.val (.long av), .second, .val (.long bv), .second, .val (.int po), .val (.int vv), .val (.int ii)] [])) _
          refine XS.lloadN X0.here hx rfl (hb hby d10_52) rfl ?_
          show Steps p.tables e below (s₁.setTop (mkF m 53 #[.val (.long av), .second, .val (.long bv), .second, .val (.int po), .val (.int vv), .val (.int ii)] [(.long bv)])) _
          refine XS.bipush X0.here hx rfl (hb hby d10_53) ?_
          show Steps p.tables e below (s₁.setTop (mkF m 55 #[.val (.long av), .second, .val (.long bv), .second, .val (.int po), .val (.int vv), .val (.int ii)] [(.int (120 : Int32)), (.long bv)])) _
          refine XS.bipush X0.here hx rfl (hb hby d10_55) ?_
          show Steps p.tables e below (s₁.setTop (mkF m 57 #[.val (.long av), .second, .val (.long bv), .second, .val (.int po), .val (.int vv), .val (.int ii)] [(.int (8 : Int32)), (.int (120 : Int32)), (.long bv)])) _
          refine XS.iload X0.here hx rfl (hb hby d10_57) rfl ?_
          show Steps p.tables e below (s₁.setTop (mkF m 59 #[.val (.long av), .second, .val (.long bv), .second, .val (.int po), .val (.int vv), .val (.int ii)] [(.int ii), (.int (8 : Int32)), (.int (120 : Int32)), (.long bv)])) _
          refine XS.imul X0.here hx rfl (hb hby d10_59) rfl ?_
          show Steps p.tables e below (s₁.setTop (mkF m 60 #[.val (.long av), .second, .val (.long bv), .second, .val (.int po), .val (.int vv), .val (.int ii)] [(.int ((8 : Int32) * ii)), (.int (120 : Int32)), (.long bv)])) _
          refine XS.isub X0.here hx rfl (hb hby d10_60) rfl ?_
          show Steps p.tables e below (s₁.setTop (mkF m 61 #[.val (.long av), .second, .val (.long bv), .second, .val (.int po), .val (.int vv), .val (.int ii)] [(.int ((120 : Int32) - ((8 : Int32) * ii))), (.long bv)])) _
          refine XS.lshr X0.here hx rfl (hb hby d10_61) rfl ?_
          show Steps p.tables e below (s₁.setTop (mkF m 62 #[.val (.long av), .second, .val (.long bv), .second, .val (.int po), .val (.int vv), .val (.int ii)] [(.long (bv >>> (((120 : Int32) - ((8 : Int32) * ii)) &&& 0x3f).toInt64))])) _
          refine XS.l2i X0.here hx rfl (hb hby d10_62) rfl ?_
          show Steps p.tables e below (s₁.setTop (mkF m 63 #[.val (.long av), .second, .val (.long bv), .second, .val (.int po), .val (.int vv), .val (.int ii)] [(.int ((bv >>> (((120 : Int32) - ((8 : Int32) * ii)) &&& 0x3f).toInt64).toInt32))])) _
          refine XS.i2b X0.here hx rfl (hb hby d10_63) rfl ?_
          show Steps p.tables e below (s₁.setTop (mkF m 64 #[.val (.long av), .second, .val (.long bv), .second, .val (.int po), .val (.int vv), .val (.int ii)] [(.int (((bv >>> (((120 : Int32) - ((8 : Int32) * ii)) &&& 0x3f).toInt64).toInt32).toInt8.toInt32))])) _
          exact retN X0 hx (t := .byte) Bd.returns (by simp) (hb hby d10_64) hr
        · show Q10 Z av bv po vv ii h0 n0 _ s₁.heap _
          rw [e0]
          have ev13 : (r10_v av bv po vv ii) = (nar .byte (((bv >>> (((120 : Int32) - ((8 : Int32) * ii)) &&& 0x3f).toInt64).toInt32).toInt8.toInt32)) := by unfold r10_v; rw [if_neg hk2, if_neg hk6, if_neg hk8]
          exact ⟨(congrArg (fun z => some (Value.int z)) ev13.symm), N0, rfl⟩
theorem ef_9 (m : MethodId) (ar : Addr) (av : Int64) (bv : Int64) (po : Int32) (vv : Int32) (ii : Int32) : entryFrame m #[(.ref ar), (.long av), (.long bv), (.int po), (.int vv), (.int ii)] 8 = mkF m 0 #[.val (.ref ar), .val (.long av), .second, .val (.long bv), .second, .val (.int po), .val (.int vv), .val (.int ii)] [] := by first | (simp [entryFrame, mkF, argsToLocals, Value.category]; done) | rfl
theorem d9_0 : decode method_3_code 0 = .ok (.aload_n 0, 1) := by decide +kernel
theorem d9_1 : decode method_3_code 1 = .ok (.iload 7, 2) := by decide +kernel
theorem d9_3 : decode method_3_code 3 = .ok (.baload, 1) := by decide +kernel
theorem d9_4 : decode method_3_code 4 = .ok (.lload_n 1, 1) := by decide +kernel
theorem d9_5 : decode method_3_code 5 = .ok (.lload_n 3, 1) := by decide +kernel
theorem d9_6 : decode method_3_code 6 = .ok (.iload 5, 2) := by decide +kernel
theorem d9_8 : decode method_3_code 8 = .ok (.iload 6, 2) := by decide +kernel
theorem d9_10 : decode method_3_code 10 = .ok (.iload 7, 2) := by decide +kernel
theorem pd_2 : parseMethodDescriptor "(JJIII)B" = some ⟨[.long, .long, .int, .int, .int], some .byte⟩ := by decide +kernel
theorem d9_12 : decode method_3_code 12 = .ok (.invokestatic 33, 3) := by decide +kernel
theorem d9_15 : decode method_3_code 15 = .ok (.if_icmp .ne 7, 3) := by decide +kernel
theorem d9_18 : decode method_3_code 18 = .ok (.iconst 1, 1) := by decide +kernel
theorem d9_19 : decode method_3_code 19 = .ok (.goto 4, 3) := by decide +kernel
theorem d9_23 : decode method_3_code 23 = .ok (.ireturn, 1) := by decide +kernel
theorem d9_22 : decode method_3_code 22 = .ok (.iconst 0, 1) := by decide +kernel
def r9_v (av : Int64) (bv : Int64) (po : Int32) (vv : Int32) (ii : Int32) (fb : Nat → Int32) (inn : Nat) : Int32 := (if (fb inn) = (r10_v av bv po vv ii) then (1 : Int32) else (0 : Int32))
def Q9 (Z : State) (ar : Addr) (av : Int64) (bv : Int64) (po : Int32) (vv : Int32) (ii : Int32) (fb : Nat → Int32) (inn : Nat) (h0 : Heap) (n0 : Nat) (v : Option Value) (h : Heap) (L : List Loc) : Prop := v = some (.int (r9_v av bv po vv ii fb inn)) ∧ Fr n0 L ∧ h = h0
set_option maxRecDepth 65536 in
set_option maxHeartbeats 40000000 in
theorem rm9 (l : Launch) (Z : State) (a0 : Array Value) (hw : ∀ d ∈ tables_1, d.before a0 Z = true) (ws : List Jvm.Cond) (ar : Addr) (av : Int64) (bv : Int64) (po : Int32) (vv : Int32) (ii : Int32) (fb : Nat → Int32) (inn : Nat) (h0 : Heap) (n0 : Nat) (Z0 : n0 ≤ h0.size) (A_ar : AI Z h0 ar .byte 256 fb) (hin : ii.toInt = inn) (hil : inn < 256) :
    MetFree l (⟨"com/example/lockstep/lockstep/store/RecordBufferPutIntPinLaw", "at", "([BJJIII)Z"⟩ : MethodName) (head1 (Jvm.Cond.code (⟨"com/example/lockstep/lockstep/store/RecordBufferPutIntPinLaw", "at", "([BJJIII)Z"⟩ : MethodName) method_3_code 8 (some .boolean) :: ws) ({ frames := 1, cells := 0, slots := 0, locals := 19 } : Room)) (fun a U => a = #[(.ref ar), (.long av), (.long bv), (.int po), (.int vv), (.int ii)] ∧ Z.Warmed39 U.vm ∧ U.heap = h0) (fun _ _ _ _ _ => True) (fun _ U o U' => ∃ v L, o = .returned v ∧ Q9 Z ar av bv po vv ii fb inn h0 n0 v U'.heap L ∧ FrameEnd U o U' L ({ frames := 1, cells := 0, slots := 0, locals := 19 } : Room).cells ({ frames := 1, cells := 0, slots := 0, locals := 19 } : Room).slots) := by
  refine MetFree.of_bodySF (plainFor_of_name pn_com_example_lockstep_lockstep_store_RecordBufferPutIntPinLaw) hisR ?_
  intro p e s m args below meth c s₁ Bd hml0 hP hK
  obtain ⟨rfl, hZ, hh⟩ := hP
  have hx := Bd.exec
  have hby := Bd.bytes
  have hml : c.maxLocals = 8 := hml0
  have hown : s.vm.findClass "com/example/lockstep/lockstep/store/RecordBufferPutIntPinLaw" = some m.cls := findClass_of_methodNamed Bd.named
  have hnm := (name_of_methodNamed Bd.named Bd.method).1
  have X0 : Stand p l e ({ frames := 1, cells := 0, slots := 0, locals := 19 } : Room) s m #[(.ref ar), (.long av), (.long bv), (.int po), (.int vv), (.int ii)] below meth c s₁ [] 0 0 := Stand.of_body Bd
  have e0 : s₁.heap = h0 := by rw [← hh, Bd.state]; rfl
  have N0 := Fr.nil n0
  have K0 : Keep h0 h0 [] := Keep.refl h0 _
  have pre0 : ∀ t, Steps p.tables e below (s₁.setTop (mkF m 0 #[.val (.ref ar), .val (.long av), .second, .val (.long bv), .second, .val (.int po), .val (.int vv), .val (.int ii)] [])) t → Steps p.tables e below (s₁.setTop (entryFrame m #[(.ref ar), (.long av), (.long bv), (.int po), (.int vv), (.int ii)] 8)) t := fun t k => castTop (ef_9 m ar av bv po vv ii) k
  obtain ⟨cl1, Arcl1, hincl1, hatcl1⟩ := AF.at A_ar (j := ii) inn hin hil
  obtain ⟨_, _, ⟨T2, L2, k2, n2⟩, -, X2, ⟨Lc2, hQ2, l2, y2, z2⟩, st2⟩ := Jvm.LawKit.callS X0 hx (y := (⟨"com/example/lockstep/lockstep/store/RecordBufferPutIntPinLaw", "expected", "(JJIII)B"⟩ : MethodName)) hown (mvT hZ (hw _ (List.mem_of_getElem? (i := 49) rfl))) (mvT hZ (hw _ (List.mem_of_getElem? (i := 50) rfl))) (mvT hZ (hw _ (List.mem_of_getElem? (i := 47) rfl))) (mvT hZ (hw _ (List.mem_of_getElem? (i := 51) rfl))) (by decide) (backOf (W := 1) (rm10 l Z a0 hw [] av bv po vv ii h0 n0 Z0 ) hZ (hw _ (List.mem_of_getElem? (i := 51) rfl)) (hw _ (List.mem_of_getElem? (i := 47) rfl)) (by decide) (by decide)) (g := (mkF m 12 #[.val (.ref ar), .val (.long av), .second, .val (.long bv), .second, .val (.int po), .val (.int vv), .val (.int ii)] [(.int ii), (.int vv), (.int po), (.long bv), (.long av), (.int (fb inn))])) rfl (by rw [hml]; rfl) (argsL := [(.long av), (.long bv), (.int po), (.int vv), (.int ii)]) (rest := [(.int (fb inn))]) (lenOf pd_2 rfl) rfl (by show 2 * 0 + _ ≤ _; exact Nat.le_of_eq rfl) (hb hby d9_12) (fun _ _ => ⟨rfl, e0, (by decide : 0 + 0 ≤ _), (by decide : 0 + 0 ≤ _)⟩)
  dsimp only [Pt.U, Pt.locs, Pt.cells, Pt.slots] at X2 l2 y2 z2 st2 hQ2
  subst l2 y2 z2
  obtain ⟨rfl, N2q, e2⟩ := hQ2
  have N2 := Fr.app N0 N2q
  have pre3 : ∀ t, Steps p.tables e below (T2.setTop (mkF m 15 #[.val (.ref ar), .val (.long av), .second, .val (.long bv), .second, .val (.int po), .val (.int vv), .val (.int ii)] [(.int (r10_v av bv po vv ii)), (.int (fb inn))])) t → Steps p.tables e below (s₁.setTop (entryFrame m #[(.ref ar), (.long av), (.long bv), (.int po), (.int vv), (.int ii)] 8)) t := by
    intro t k
    refine pre0 _ ?_
    show Steps p.tables e below (s₁.setTop (mkF m 0 #[.val (.ref ar), .val (.long av), .second, .val (.long bv), .second, .val (.int po), .val (.int vv), .val (.int ii)] [])) _
    refine XS.aloadN X0.here hx rfl (hb hby d9_0) rfl rfl ?_
    show Steps p.tables e below (s₁.setTop (mkF m 1 #[.val (.ref ar), .val (.long av), .second, .val (.long bv), .second, .val (.int po), .val (.int vv), .val (.int ii)] [(.ref ar)])) _
    refine XS.iload X0.here hx rfl (hb hby d9_1) rfl ?_
    show Steps p.tables e below (s₁.setTop (mkF m 3 #[.val (.ref ar), .val (.long av), .second, .val (.long bv), .second, .val (.int po), .val (.int vv), .val (.int ii)] [(.int ii), (.ref ar)])) _
    refine X0.baloadBytes hx (j := ii) (v := (.int (fb inn))) (by rw [e0]; exact Arcl1.1) (State.isArrayOf_alike hZ.alike Arcl1.2.1) Arcl1.2.2 hincl1 hatcl1 (g := (mkF m 3 #[.val (.ref ar), .val (.long av), .second, .val (.long bv), .second, .val (.int po), .val (.int vv), .val (.int ii)] [(.int ii), (.ref ar)])) rfl rfl (hb hby d9_3) _ ?_
    show Steps p.tables e below (s₁.setTop (mkF m 4 #[.val (.ref ar), .val (.long av), .second, .val (.long bv), .second, .val (.int po), .val (.int vv), .val (.int ii)] [(.int (fb inn))])) _
    refine XS.lloadN X0.here hx rfl (hb hby d9_4) rfl ?_
    show Steps p.tables e below (s₁.setTop (mkF m 5 #[.val (.ref ar), .val (.long av), .second, .val (.long bv), .second, .val (.int po), .val (.int vv), .val (.int ii)] [(.long av), (.int (fb inn))])) _
    refine XS.lloadN X0.here hx rfl (hb hby d9_5) rfl ?_
    show Steps p.tables e below (s₁.setTop (mkF m 6 #[.val (.ref ar), .val (.long av), .second, .val (.long bv), .second, .val (.int po), .val (.int vv), .val (.int ii)] [(.long bv), (.long av), (.int (fb inn))])) _
    refine XS.iload X0.here hx rfl (hb hby d9_6) rfl ?_
    show Steps p.tables e below (s₁.setTop (mkF m 8 #[.val (.ref ar), .val (.long av), .second, .val (.long bv), .second, .val (.int po), .val (.int vv), .val (.int ii)] [(.int po), (.long bv), (.long av), (.int (fb inn))])) _
    refine XS.iload X0.here hx rfl (hb hby d9_8) rfl ?_
    show Steps p.tables e below (s₁.setTop (mkF m 10 #[.val (.ref ar), .val (.long av), .second, .val (.long bv), .second, .val (.int po), .val (.int vv), .val (.int ii)] [(.int vv), (.int po), (.long bv), (.long av), (.int (fb inn))])) _
    refine XS.iload X0.here hx rfl (hb hby d9_10) rfl ?_
    show Steps p.tables e below (s₁.setTop (mkF m 12 #[.val (.ref ar), .val (.long av), .second, .val (.long bv), .second, .val (.int po), .val (.int vv), .val (.int ii)] [(.int ii), (.int vv), (.int po), (.long bv), (.long av), (.int (fb inn))])) _
    refine st2 _ ?_
    exact k
  by_cases hk4 : (fb inn) = (r10_v av bv po vv ii)
  · obtain ⟨fs, hr, hrun, hended, hW, hsame⟩ := X2.leave (v := some (.int (1 : Int32))) (fun h => by rw [Bd.returns] at h; cases h)
    refine ⟨_, _, pre3 _ ?_, hrun, hended, _, _, rfl, ?_, ⟨_, rfl⟩, hW, hsame.mono (by decide) (by decide)⟩
    · show Steps p.tables e below (T2.setTop (mkF m 15 #[.val (.ref ar), .val (.long av), .second, .val (.long bv), .second, .val (.int po), .val (.int vv), .val (.int ii)] [(.int (r10_v av bv po vv ii)), (.int (fb inn))])) _
      refine XS.icmpNo X2.here hx rfl (hb hby d9_15) rfl (teq hk4).2 ?_
      show Steps p.tables e below (T2.setTop (mkF m 18 #[.val (.ref ar), .val (.long av), .second, .val (.long bv), .second, .val (.int po), .val (.int vv), .val (.int ii)] [])) _
      refine XS.iconst X2.here hx rfl (hb hby d9_18) ?_
      show Steps p.tables e below (T2.setTop (mkF m 19 #[.val (.ref ar), .val (.long av), .second, .val (.long bv), .second, .val (.int po), .val (.int vv), .val (.int ii)] [(.int (1 : Int32))])) _
      refine XS.goto X2.here hx rfl (pc0 := 19) (pc' := 23) rfl (hb hby d9_19) (by decide) (by decide) ?_
      show Steps p.tables e below (T2.setTop (mkF m 23 #[.val (.ref ar), .val (.long av), .second, .val (.long bv), .second, .val (.int po), .val (.int vv), .val (.int ii)] [(.int (1 : Int32))])) _
      exact retN X2 hx (t := .boolean) Bd.returns (by simp) (hb hby d9_23) hr
    · show Q9 Z ar av bv po vv ii fb inn h0 n0 _ T2.heap _
      rw [e2]
      have ev5 : (r9_v av bv po vv ii fb inn) = (1 : Int32) := by unfold r9_v; rw [if_pos hk4]
      exact ⟨(congrArg (fun z => some (Value.int z)) ev5.symm), N2, rfl⟩
  · obtain ⟨fs, hr, hrun, hended, hW, hsame⟩ := X2.leave (v := some (.int (0 : Int32))) (fun h => by rw [Bd.returns] at h; cases h)
    refine ⟨_, _, pre3 _ ?_, hrun, hended, _, _, rfl, ?_, ⟨_, rfl⟩, hW, hsame.mono (by decide) (by decide)⟩
    · show Steps p.tables e below (T2.setTop (mkF m 15 #[.val (.ref ar), .val (.long av), .second, .val (.long bv), .second, .val (.int po), .val (.int vv), .val (.int ii)] [(.int (r10_v av bv po vv ii)), (.int (fb inn))])) _
      refine XS.icmpYes X2.here hx rfl (pc0 := 15) (pc' := 22) rfl (hb hby d9_15) rfl (feq hk4).2 (by decide) (by decide) ?_
      show Steps p.tables e below (T2.setTop (mkF m 22 #[.val (.ref ar), .val (.long av), .second, .val (.long bv), .second, .val (.int po), .val (.int vv), .val (.int ii)] [])) _
      refine XS.iconst X2.here hx rfl (hb hby d9_22) ?_
      show Steps p.tables e below (T2.setTop (mkF m 23 #[.val (.ref ar), .val (.long av), .second, .val (.long bv), .second, .val (.int po), .val (.int vv), .val (.int ii)] [(.int (0 : Int32))])) _
      exact retN X2 hx (t := .boolean) Bd.returns (by simp) (hb hby d9_23) hr
    · show Q9 Z ar av bv po vv ii fb inn h0 n0 _ T2.heap _
      rw [e2]
      have ev6 : (r9_v av bv po vv ii fb inn) = (0 : Int32) := by unfold r9_v; rw [if_neg hk4]
      exact ⟨(congrArg (fun z => some (Value.int z)) ev6.symm), N2, rfl⟩
theorem ef_0 (m : MethodId) (av : Int64) (bv : Int64) (pp : Int32) (vv : Int32) : entryFrame m #[(.long av), (.long bv), (.int pp), (.int vv)] maxLocals = mkF m 0 #[.val (.long av), .second, .val (.long bv), .second, .val (.int pp), .val (.int vv), .unset, .unset, .unset] [] := by first | (simp [entryFrame, mkF, argsToLocals, Value.category, maxLocals]; done) | rfl
theorem pd_3 : parseMethodDescriptor "()V" = some ⟨[], none⟩ := by decide +kernel
theorem pd_4 : parseMethodDescriptor "(J)V" = some ⟨[.long], none⟩ := by decide +kernel
theorem pd_5 : parseMethodDescriptor "()[B" = some ⟨[], some (.array .byte)⟩ := by decide +kernel
theorem pd_6 : parseMethodDescriptor "()I" = some ⟨[], some .int⟩ := by decide +kernel
theorem pd_7 : parseMethodDescriptor "([BJJIII)Z" = some ⟨[(.array .byte), .long, .long, .int, .int, .int], some .boolean⟩ := by decide +kernel
theorem own_pos (pp : Int32) : ∃ pn : Nat, ((pp &&& (2147483647 : Int32)) % (13 : Int32)).toInt = pn ∧ pn ≤ 12 := by
  have key : 0 ≤ ((pp &&& (2147483647 : Int32)) % (13 : Int32)).toInt ∧ ((pp &&& (2147483647 : Int32)) % (13 : Int32)).toInt ≤ 12 := by
    have : 0 ≤ (pp &&& (2147483647 : Int32)).toInt ∧ (pp &&& (2147483647 : Int32)).toInt ≤ 2147483647 := c_and pp (2147483647 : Int32) (by decide)
    generalize (pp &&& (2147483647 : Int32)) = u1_ at *
    first | have : (u1_ % (13 : Int32)).toInt = u1_.toInt % 13 := (c_irem u1_ (13 : Int32) 13 rfl).1 (by omega) | (have := c_irem u1_ (13 : Int32) 13 rfl; have := rng32 (u1_ % (13 : Int32)))
    generalize (u1_ % (13 : Int32)) = u2_ at *
    try simp only [Int32.reduceToInt, Int64.reduceToInt] at *
    omega
  exact ⟨((pp &&& (2147483647 : Int32)) % (13 : Int32)).toInt.toNat, by omega, by omega⟩
theorem own_v0 (vv : Int32) : (((vv.toUInt32 >>> ((24 : Int32) &&& 31).toUInt32).toInt32).toInt8.toInt32) = nar .byte (((vv >>> ((24 : Int32) &&& 31)).toInt8.toInt32)) := by
  rw [own_nb]
  have : ((vv.toUInt32 >>> ((24 : Int32) &&& 31).toUInt32).toInt32).toInt = (vv.toInt % 4294967296) / 16777216 := c_iushr vv (24 : Int32) 24 (by decide) (by decide)
  have := rng32 ((vv.toUInt32 >>> ((24 : Int32) &&& 31).toUInt32).toInt32)
  generalize ((vv.toUInt32 >>> ((24 : Int32) &&& 31).toUInt32).toInt32) = u1_ at *
  have := c_i2b u1_
  generalize (u1_.toInt8.toInt32) = u2_ at *
  have : (vv >>> ((24 : Int32) &&& 31)).toInt = vv.toInt / 16777216 := c_ishr vv (24 : Int32) 24 (by decide)
  have := rng32 (vv >>> ((24 : Int32) &&& 31))
  generalize (vv >>> ((24 : Int32) &&& 31)) = u3_ at *
  have := c_i2b u3_
  generalize (u3_.toInt8.toInt32) = u4_ at *
  try simp only [Int32.reduceToInt, Int64.reduceToInt] at *
  apply Int32.toInt_inj.mp
  omega
theorem own_v1 (vv : Int32) : (((vv.toUInt32 >>> ((16 : Int32) &&& 31).toUInt32).toInt32).toInt8.toInt32) = nar .byte (((vv >>> ((16 : Int32) &&& 31)).toInt8.toInt32)) := by
  rw [own_nb]
  have : ((vv.toUInt32 >>> ((16 : Int32) &&& 31).toUInt32).toInt32).toInt = (vv.toInt % 4294967296) / 65536 := c_iushr vv (16 : Int32) 16 (by decide) (by decide)
  have := rng32 ((vv.toUInt32 >>> ((16 : Int32) &&& 31).toUInt32).toInt32)
  generalize ((vv.toUInt32 >>> ((16 : Int32) &&& 31).toUInt32).toInt32) = u1_ at *
  have := c_i2b u1_
  generalize (u1_.toInt8.toInt32) = u2_ at *
  have : (vv >>> ((16 : Int32) &&& 31)).toInt = vv.toInt / 65536 := c_ishr vv (16 : Int32) 16 (by decide)
  have := rng32 (vv >>> ((16 : Int32) &&& 31))
  generalize (vv >>> ((16 : Int32) &&& 31)) = u3_ at *
  have := c_i2b u3_
  generalize (u3_.toInt8.toInt32) = u4_ at *
  try simp only [Int32.reduceToInt, Int64.reduceToInt] at *
  apply Int32.toInt_inj.mp
  omega
theorem own_v2 (vv : Int32) : (((vv.toUInt32 >>> ((8 : Int32) &&& 31).toUInt32).toInt32).toInt8.toInt32) = nar .byte (((vv >>> ((8 : Int32) &&& 31)).toInt8.toInt32)) := by
  rw [own_nb]
  have : ((vv.toUInt32 >>> ((8 : Int32) &&& 31).toUInt32).toInt32).toInt = (vv.toInt % 4294967296) / 256 := c_iushr vv (8 : Int32) 8 (by decide) (by decide)
  have := rng32 ((vv.toUInt32 >>> ((8 : Int32) &&& 31).toUInt32).toInt32)
  generalize ((vv.toUInt32 >>> ((8 : Int32) &&& 31).toUInt32).toInt32) = u1_ at *
  have := c_i2b u1_
  generalize (u1_.toInt8.toInt32) = u2_ at *
  have : (vv >>> ((8 : Int32) &&& 31)).toInt = vv.toInt / 256 := c_ishr vv (8 : Int32) 8 (by decide)
  have := rng32 (vv >>> ((8 : Int32) &&& 31))
  generalize (vv >>> ((8 : Int32) &&& 31)) = u3_ at *
  have := c_i2b u3_
  generalize (u3_.toInt8.toInt32) = u4_ at *
  try simp only [Int32.reduceToInt, Int64.reduceToInt] at *
  apply Int32.toInt_inj.mp
  omega
theorem own_v3 (vv : Int32) : (vv.toInt8.toInt32) = nar .byte (((vv >>> ((0 : Int32) &&& 31)).toInt8.toInt32)) := by
  rw [own_nb]
  have := c_i2b vv
  generalize (vv.toInt8.toInt32) = u1_ at *
  have : (vv >>> ((0 : Int32) &&& 31)).toInt = vv.toInt / 1 := c_ishr vv (0 : Int32) 0 (by decide)
  have := rng32 (vv >>> ((0 : Int32) &&& 31))
  generalize (vv >>> ((0 : Int32) &&& 31)) = u2_ at *
  have := c_i2b u2_
  generalize (u2_.toInt8.toInt32) = u3_ at *
  try simp only [Int32.reduceToInt, Int64.reduceToInt] at *
  apply Int32.toInt_inj.mp
  omega
theorem own_l0 (xv : Int64) : ((((((xv.toUInt64 >>> ((32 : Int32) &&& 0x3f).toInt64.toUInt64).toInt64).toInt32).toUInt32 >>> ((24 : Int32) &&& 31).toUInt32).toInt32).toInt8.toInt32) = nar .byte ((((xv >>> ((56 : Int32) &&& 0x3f).toInt64).toInt32).toInt8.toInt32)) := by
  rw [own_nb]
  have : ((xv.toUInt64 >>> ((32 : Int32) &&& 0x3f).toInt64.toUInt64).toInt64).toInt = (xv.toInt % 18446744073709551616) / 4294967296 := c_lushr xv (32 : Int32) 32 (by decide) (by decide)
  have := rng64 ((xv.toUInt64 >>> ((32 : Int32) &&& 0x3f).toInt64.toUInt64).toInt64)
  generalize ((xv.toUInt64 >>> ((32 : Int32) &&& 0x3f).toInt64.toUInt64).toInt64) = u1_ at *
  have := c_l2i u1_
  have := rng32 (u1_.toInt32)
  generalize (u1_.toInt32) = u2_ at *
  have : ((u2_.toUInt32 >>> ((24 : Int32) &&& 31).toUInt32).toInt32).toInt = (u2_.toInt % 4294967296) / 16777216 := c_iushr u2_ (24 : Int32) 24 (by decide) (by decide)
  have := rng32 ((u2_.toUInt32 >>> ((24 : Int32) &&& 31).toUInt32).toInt32)
  generalize ((u2_.toUInt32 >>> ((24 : Int32) &&& 31).toUInt32).toInt32) = u3_ at *
  have := c_i2b u3_
  generalize (u3_.toInt8.toInt32) = u4_ at *
  have : (xv >>> ((56 : Int32) &&& 0x3f).toInt64).toInt = xv.toInt / 72057594037927936 := c_lshr xv (56 : Int32) 56 (by decide)
  have := rng64 (xv >>> ((56 : Int32) &&& 0x3f).toInt64)
  generalize (xv >>> ((56 : Int32) &&& 0x3f).toInt64) = u5_ at *
  have := c_l2i u5_
  have := rng32 (u5_.toInt32)
  generalize (u5_.toInt32) = u6_ at *
  have := c_i2b u6_
  generalize (u6_.toInt8.toInt32) = u7_ at *
  try simp only [Int32.reduceToInt, Int64.reduceToInt] at *
  apply Int32.toInt_inj.mp
  omega
theorem own_l1 (xv : Int64) : ((((((xv.toUInt64 >>> ((32 : Int32) &&& 0x3f).toInt64.toUInt64).toInt64).toInt32).toUInt32 >>> ((16 : Int32) &&& 31).toUInt32).toInt32).toInt8.toInt32) = nar .byte ((((xv >>> ((48 : Int32) &&& 0x3f).toInt64).toInt32).toInt8.toInt32)) := by
  rw [own_nb]
  have : ((xv.toUInt64 >>> ((32 : Int32) &&& 0x3f).toInt64.toUInt64).toInt64).toInt = (xv.toInt % 18446744073709551616) / 4294967296 := c_lushr xv (32 : Int32) 32 (by decide) (by decide)
  have := rng64 ((xv.toUInt64 >>> ((32 : Int32) &&& 0x3f).toInt64.toUInt64).toInt64)
  generalize ((xv.toUInt64 >>> ((32 : Int32) &&& 0x3f).toInt64.toUInt64).toInt64) = u1_ at *
  have := c_l2i u1_
  have := rng32 (u1_.toInt32)
  generalize (u1_.toInt32) = u2_ at *
  have : ((u2_.toUInt32 >>> ((16 : Int32) &&& 31).toUInt32).toInt32).toInt = (u2_.toInt % 4294967296) / 65536 := c_iushr u2_ (16 : Int32) 16 (by decide) (by decide)
  have := rng32 ((u2_.toUInt32 >>> ((16 : Int32) &&& 31).toUInt32).toInt32)
  generalize ((u2_.toUInt32 >>> ((16 : Int32) &&& 31).toUInt32).toInt32) = u3_ at *
  have := c_i2b u3_
  generalize (u3_.toInt8.toInt32) = u4_ at *
  have : (xv >>> ((48 : Int32) &&& 0x3f).toInt64).toInt = xv.toInt / 281474976710656 := c_lshr xv (48 : Int32) 48 (by decide)
  have := rng64 (xv >>> ((48 : Int32) &&& 0x3f).toInt64)
  generalize (xv >>> ((48 : Int32) &&& 0x3f).toInt64) = u5_ at *
  have := c_l2i u5_
  have := rng32 (u5_.toInt32)
  generalize (u5_.toInt32) = u6_ at *
  have := c_i2b u6_
  generalize (u6_.toInt8.toInt32) = u7_ at *
  try simp only [Int32.reduceToInt, Int64.reduceToInt] at *
  apply Int32.toInt_inj.mp
  omega
theorem own_l2 (xv : Int64) : ((((((xv.toUInt64 >>> ((32 : Int32) &&& 0x3f).toInt64.toUInt64).toInt64).toInt32).toUInt32 >>> ((8 : Int32) &&& 31).toUInt32).toInt32).toInt8.toInt32) = nar .byte ((((xv >>> ((40 : Int32) &&& 0x3f).toInt64).toInt32).toInt8.toInt32)) := by
  rw [own_nb]
  have : ((xv.toUInt64 >>> ((32 : Int32) &&& 0x3f).toInt64.toUInt64).toInt64).toInt = (xv.toInt % 18446744073709551616) / 4294967296 := c_lushr xv (32 : Int32) 32 (by decide) (by decide)
  have := rng64 ((xv.toUInt64 >>> ((32 : Int32) &&& 0x3f).toInt64.toUInt64).toInt64)
  generalize ((xv.toUInt64 >>> ((32 : Int32) &&& 0x3f).toInt64.toUInt64).toInt64) = u1_ at *
  have := c_l2i u1_
  have := rng32 (u1_.toInt32)
  generalize (u1_.toInt32) = u2_ at *
  have : ((u2_.toUInt32 >>> ((8 : Int32) &&& 31).toUInt32).toInt32).toInt = (u2_.toInt % 4294967296) / 256 := c_iushr u2_ (8 : Int32) 8 (by decide) (by decide)
  have := rng32 ((u2_.toUInt32 >>> ((8 : Int32) &&& 31).toUInt32).toInt32)
  generalize ((u2_.toUInt32 >>> ((8 : Int32) &&& 31).toUInt32).toInt32) = u3_ at *
  have := c_i2b u3_
  generalize (u3_.toInt8.toInt32) = u4_ at *
  have : (xv >>> ((40 : Int32) &&& 0x3f).toInt64).toInt = xv.toInt / 1099511627776 := c_lshr xv (40 : Int32) 40 (by decide)
  have := rng64 (xv >>> ((40 : Int32) &&& 0x3f).toInt64)
  generalize (xv >>> ((40 : Int32) &&& 0x3f).toInt64) = u5_ at *
  have := c_l2i u5_
  have := rng32 (u5_.toInt32)
  generalize (u5_.toInt32) = u6_ at *
  have := c_i2b u6_
  generalize (u6_.toInt8.toInt32) = u7_ at *
  try simp only [Int32.reduceToInt, Int64.reduceToInt] at *
  apply Int32.toInt_inj.mp
  omega
theorem own_l3 (xv : Int64) : ((((xv.toUInt64 >>> ((32 : Int32) &&& 0x3f).toInt64.toUInt64).toInt64).toInt32).toInt8.toInt32) = nar .byte ((((xv >>> ((32 : Int32) &&& 0x3f).toInt64).toInt32).toInt8.toInt32)) := by
  rw [own_nb]
  have : ((xv.toUInt64 >>> ((32 : Int32) &&& 0x3f).toInt64.toUInt64).toInt64).toInt = (xv.toInt % 18446744073709551616) / 4294967296 := c_lushr xv (32 : Int32) 32 (by decide) (by decide)
  have := rng64 ((xv.toUInt64 >>> ((32 : Int32) &&& 0x3f).toInt64.toUInt64).toInt64)
  generalize ((xv.toUInt64 >>> ((32 : Int32) &&& 0x3f).toInt64.toUInt64).toInt64) = u1_ at *
  have := c_l2i u1_
  have := rng32 (u1_.toInt32)
  generalize (u1_.toInt32) = u2_ at *
  have := c_i2b u2_
  generalize (u2_.toInt8.toInt32) = u3_ at *
  have : (xv >>> ((32 : Int32) &&& 0x3f).toInt64).toInt = xv.toInt / 4294967296 := c_lshr xv (32 : Int32) 32 (by decide)
  have := rng64 (xv >>> ((32 : Int32) &&& 0x3f).toInt64)
  generalize (xv >>> ((32 : Int32) &&& 0x3f).toInt64) = u4_ at *
  have := c_l2i u4_
  have := rng32 (u4_.toInt32)
  generalize (u4_.toInt32) = u5_ at *
  have := c_i2b u5_
  generalize (u5_.toInt8.toInt32) = u6_ at *
  try simp only [Int32.reduceToInt, Int64.reduceToInt] at *
  apply Int32.toInt_inj.mp
  omega
theorem own_l4 (xv : Int64) : ((((xv.toInt32).toUInt32 >>> ((24 : Int32) &&& 31).toUInt32).toInt32).toInt8.toInt32) = nar .byte ((((xv >>> ((24 : Int32) &&& 0x3f).toInt64).toInt32).toInt8.toInt32)) := by
  rw [own_nb]
  have := c_l2i xv
  have := rng32 (xv.toInt32)
  generalize (xv.toInt32) = u1_ at *
  have : ((u1_.toUInt32 >>> ((24 : Int32) &&& 31).toUInt32).toInt32).toInt = (u1_.toInt % 4294967296) / 16777216 := c_iushr u1_ (24 : Int32) 24 (by decide) (by decide)
  have := rng32 ((u1_.toUInt32 >>> ((24 : Int32) &&& 31).toUInt32).toInt32)
  generalize ((u1_.toUInt32 >>> ((24 : Int32) &&& 31).toUInt32).toInt32) = u2_ at *
  have := c_i2b u2_
  generalize (u2_.toInt8.toInt32) = u3_ at *
  have : (xv >>> ((24 : Int32) &&& 0x3f).toInt64).toInt = xv.toInt / 16777216 := c_lshr xv (24 : Int32) 24 (by decide)
  have := rng64 (xv >>> ((24 : Int32) &&& 0x3f).toInt64)
  generalize (xv >>> ((24 : Int32) &&& 0x3f).toInt64) = u4_ at *
  have := c_l2i u4_
  have := rng32 (u4_.toInt32)
  generalize (u4_.toInt32) = u5_ at *
  have := c_i2b u5_
  generalize (u5_.toInt8.toInt32) = u6_ at *
  try simp only [Int32.reduceToInt, Int64.reduceToInt] at *
  apply Int32.toInt_inj.mp
  omega
theorem own_l5 (xv : Int64) : ((((xv.toInt32).toUInt32 >>> ((16 : Int32) &&& 31).toUInt32).toInt32).toInt8.toInt32) = nar .byte ((((xv >>> ((16 : Int32) &&& 0x3f).toInt64).toInt32).toInt8.toInt32)) := by
  rw [own_nb]
  have := c_l2i xv
  have := rng32 (xv.toInt32)
  generalize (xv.toInt32) = u1_ at *
  have : ((u1_.toUInt32 >>> ((16 : Int32) &&& 31).toUInt32).toInt32).toInt = (u1_.toInt % 4294967296) / 65536 := c_iushr u1_ (16 : Int32) 16 (by decide) (by decide)
  have := rng32 ((u1_.toUInt32 >>> ((16 : Int32) &&& 31).toUInt32).toInt32)
  generalize ((u1_.toUInt32 >>> ((16 : Int32) &&& 31).toUInt32).toInt32) = u2_ at *
  have := c_i2b u2_
  generalize (u2_.toInt8.toInt32) = u3_ at *
  have : (xv >>> ((16 : Int32) &&& 0x3f).toInt64).toInt = xv.toInt / 65536 := c_lshr xv (16 : Int32) 16 (by decide)
  have := rng64 (xv >>> ((16 : Int32) &&& 0x3f).toInt64)
  generalize (xv >>> ((16 : Int32) &&& 0x3f).toInt64) = u4_ at *
  have := c_l2i u4_
  have := rng32 (u4_.toInt32)
  generalize (u4_.toInt32) = u5_ at *
  have := c_i2b u5_
  generalize (u5_.toInt8.toInt32) = u6_ at *
  try simp only [Int32.reduceToInt, Int64.reduceToInt] at *
  apply Int32.toInt_inj.mp
  omega
theorem own_l6 (xv : Int64) : ((((xv.toInt32).toUInt32 >>> ((8 : Int32) &&& 31).toUInt32).toInt32).toInt8.toInt32) = nar .byte ((((xv >>> ((8 : Int32) &&& 0x3f).toInt64).toInt32).toInt8.toInt32)) := by
  rw [own_nb]
  have := c_l2i xv
  have := rng32 (xv.toInt32)
  generalize (xv.toInt32) = u1_ at *
  have : ((u1_.toUInt32 >>> ((8 : Int32) &&& 31).toUInt32).toInt32).toInt = (u1_.toInt % 4294967296) / 256 := c_iushr u1_ (8 : Int32) 8 (by decide) (by decide)
  have := rng32 ((u1_.toUInt32 >>> ((8 : Int32) &&& 31).toUInt32).toInt32)
  generalize ((u1_.toUInt32 >>> ((8 : Int32) &&& 31).toUInt32).toInt32) = u2_ at *
  have := c_i2b u2_
  generalize (u2_.toInt8.toInt32) = u3_ at *
  have : (xv >>> ((8 : Int32) &&& 0x3f).toInt64).toInt = xv.toInt / 256 := c_lshr xv (8 : Int32) 8 (by decide)
  have := rng64 (xv >>> ((8 : Int32) &&& 0x3f).toInt64)
  generalize (xv >>> ((8 : Int32) &&& 0x3f).toInt64) = u4_ at *
  have := c_l2i u4_
  have := rng32 (u4_.toInt32)
  generalize (u4_.toInt32) = u5_ at *
  have := c_i2b u5_
  generalize (u5_.toInt8.toInt32) = u6_ at *
  try simp only [Int32.reduceToInt, Int64.reduceToInt] at *
  apply Int32.toInt_inj.mp
  omega
theorem own_l7 (xv : Int64) : ((xv.toInt32).toInt8.toInt32) = nar .byte ((((xv >>> ((0 : Int32) &&& 0x3f).toInt64).toInt32).toInt8.toInt32)) := by
  rw [own_nb]
  have := c_l2i xv
  have := rng32 (xv.toInt32)
  generalize (xv.toInt32) = u1_ at *
  have := c_i2b u1_
  generalize (u1_.toInt8.toInt32) = u2_ at *
  have : (xv >>> ((0 : Int32) &&& 0x3f).toInt64).toInt = xv.toInt / 1 := c_lshr xv (0 : Int32) 0 (by decide)
  have := rng64 (xv >>> ((0 : Int32) &&& 0x3f).toInt64)
  generalize (xv >>> ((0 : Int32) &&& 0x3f).toInt64) = u3_ at *
  have := c_l2i u3_
  have := rng32 (u3_.toInt32)
  generalize (u3_.toInt32) = u4_ at *
  have := c_i2b u4_
  generalize (u4_.toInt8.toInt32) = u5_ at *
  try simp only [Int32.reduceToInt, Int64.reduceToInt] at *
  apply Int32.toInt_inj.mp
  omega
theorem own_ne {x y : Int32} (h : x = y) : ¬ ((if x = y then (1 : Int32) else (0 : Int32)) = (0 : Int32)) := by rw [if_pos h]; decide
theorem own_at0 (av bv : Int64) (pp vv : Int32) (pn : Nat) (hpn : ((pp &&& (2147483647 : Int32)) % (13 : Int32)).toInt = pn) (hpl : pn ≤ 12) : ¬ ((r9_v av bv ((pp &&& (2147483647 : Int32)) % (13 : Int32)) vv (0 : Int32) (r6_arr vv (r6_arr (bv.toInt32) (r6_arr (((bv.toUInt64 >>> ((32 : Int32) &&& 0x3f).toInt64.toUInt64).toInt64).toInt32) (r6_arr (av.toInt32) (r6_arr (((av.toUInt64 >>> ((32 : Int32) &&& 0x3f).toInt64.toUInt64).toInt64).toInt32) zI 0) (0 + 4)) 8) (8 + 4)) pn) 0) = (0 : Int32)) := by
  generalize ((pp &&& (2147483647 : Int32)) % (13 : Int32)) = po at *
  have hc : pn = 0 ∨ pn = 1 ∨ pn = 2 ∨ pn = 3 ∨ pn = 4 ∨ pn = 5 ∨ pn = 6 ∨ pn = 7 ∨ pn = 8 ∨ pn = 9 ∨ pn = 10 ∨ pn = 11 ∨ pn = 12 := by omega
  rcases hc with rfl | rfl | rfl | rfl | rfl | rfl | rfl | rfl | rfl | rfl | rfl | rfl | rfl
  · obtain rfl : po = (0 : Int32) := Int32.toInt_inj.mp hpn
    exact own_ne (own_v0 vv)
  · obtain rfl : po = (1 : Int32) := Int32.toInt_inj.mp hpn
    exact own_ne (own_l0 av)
  · obtain rfl : po = (2 : Int32) := Int32.toInt_inj.mp hpn
    exact own_ne (own_l0 av)
  · obtain rfl : po = (3 : Int32) := Int32.toInt_inj.mp hpn
    exact own_ne (own_l0 av)
  · obtain rfl : po = (4 : Int32) := Int32.toInt_inj.mp hpn
    exact own_ne (own_l0 av)
  · obtain rfl : po = (5 : Int32) := Int32.toInt_inj.mp hpn
    exact own_ne (own_l0 av)
  · obtain rfl : po = (6 : Int32) := Int32.toInt_inj.mp hpn
    exact own_ne (own_l0 av)
  · obtain rfl : po = (7 : Int32) := Int32.toInt_inj.mp hpn
    exact own_ne (own_l0 av)
  · obtain rfl : po = (8 : Int32) := Int32.toInt_inj.mp hpn
    exact own_ne (own_l0 av)
  · obtain rfl : po = (9 : Int32) := Int32.toInt_inj.mp hpn
    exact own_ne (own_l0 av)
  · obtain rfl : po = (10 : Int32) := Int32.toInt_inj.mp hpn
    exact own_ne (own_l0 av)
  · obtain rfl : po = (11 : Int32) := Int32.toInt_inj.mp hpn
    exact own_ne (own_l0 av)
  · obtain rfl : po = (12 : Int32) := Int32.toInt_inj.mp hpn
    exact own_ne (own_l0 av)
theorem own_at1 (av bv : Int64) (pp vv : Int32) (pn : Nat) (hpn : ((pp &&& (2147483647 : Int32)) % (13 : Int32)).toInt = pn) (hpl : pn ≤ 12) : ¬ ((r9_v av bv ((pp &&& (2147483647 : Int32)) % (13 : Int32)) vv (1 : Int32) (r6_arr vv (r6_arr (bv.toInt32) (r6_arr (((bv.toUInt64 >>> ((32 : Int32) &&& 0x3f).toInt64.toUInt64).toInt64).toInt32) (r6_arr (av.toInt32) (r6_arr (((av.toUInt64 >>> ((32 : Int32) &&& 0x3f).toInt64.toUInt64).toInt64).toInt32) zI 0) (0 + 4)) 8) (8 + 4)) pn) 1) = (0 : Int32)) := by
  generalize ((pp &&& (2147483647 : Int32)) % (13 : Int32)) = po at *
  have hc : pn = 0 ∨ pn = 1 ∨ pn = 2 ∨ pn = 3 ∨ pn = 4 ∨ pn = 5 ∨ pn = 6 ∨ pn = 7 ∨ pn = 8 ∨ pn = 9 ∨ pn = 10 ∨ pn = 11 ∨ pn = 12 := by omega
  rcases hc with rfl | rfl | rfl | rfl | rfl | rfl | rfl | rfl | rfl | rfl | rfl | rfl | rfl
  · obtain rfl : po = (0 : Int32) := Int32.toInt_inj.mp hpn
    exact own_ne (own_v1 vv)
  · obtain rfl : po = (1 : Int32) := Int32.toInt_inj.mp hpn
    exact own_ne (own_v0 vv)
  · obtain rfl : po = (2 : Int32) := Int32.toInt_inj.mp hpn
    exact own_ne (own_l1 av)
  · obtain rfl : po = (3 : Int32) := Int32.toInt_inj.mp hpn
    exact own_ne (own_l1 av)
  · obtain rfl : po = (4 : Int32) := Int32.toInt_inj.mp hpn
    exact own_ne (own_l1 av)
  · obtain rfl : po = (5 : Int32) := Int32.toInt_inj.mp hpn
    exact own_ne (own_l1 av)
  · obtain rfl : po = (6 : Int32) := Int32.toInt_inj.mp hpn
    exact own_ne (own_l1 av)
  · obtain rfl : po = (7 : Int32) := Int32.toInt_inj.mp hpn
    exact own_ne (own_l1 av)
  · obtain rfl : po = (8 : Int32) := Int32.toInt_inj.mp hpn
    exact own_ne (own_l1 av)
  · obtain rfl : po = (9 : Int32) := Int32.toInt_inj.mp hpn
    exact own_ne (own_l1 av)
  · obtain rfl : po = (10 : Int32) := Int32.toInt_inj.mp hpn
    exact own_ne (own_l1 av)
  · obtain rfl : po = (11 : Int32) := Int32.toInt_inj.mp hpn
    exact own_ne (own_l1 av)
  · obtain rfl : po = (12 : Int32) := Int32.toInt_inj.mp hpn
    exact own_ne (own_l1 av)
theorem own_at2 (av bv : Int64) (pp vv : Int32) (pn : Nat) (hpn : ((pp &&& (2147483647 : Int32)) % (13 : Int32)).toInt = pn) (hpl : pn ≤ 12) : ¬ ((r9_v av bv ((pp &&& (2147483647 : Int32)) % (13 : Int32)) vv (2 : Int32) (r6_arr vv (r6_arr (bv.toInt32) (r6_arr (((bv.toUInt64 >>> ((32 : Int32) &&& 0x3f).toInt64.toUInt64).toInt64).toInt32) (r6_arr (av.toInt32) (r6_arr (((av.toUInt64 >>> ((32 : Int32) &&& 0x3f).toInt64.toUInt64).toInt64).toInt32) zI 0) (0 + 4)) 8) (8 + 4)) pn) 2) = (0 : Int32)) := by
  generalize ((pp &&& (2147483647 : Int32)) % (13 : Int32)) = po at *
  have hc : pn = 0 ∨ pn = 1 ∨ pn = 2 ∨ pn = 3 ∨ pn = 4 ∨ pn = 5 ∨ pn = 6 ∨ pn = 7 ∨ pn = 8 ∨ pn = 9 ∨ pn = 10 ∨ pn = 11 ∨ pn = 12 := by omega
  rcases hc with rfl | rfl | rfl | rfl | rfl | rfl | rfl | rfl | rfl | rfl | rfl | rfl | rfl
  · obtain rfl : po = (0 : Int32) := Int32.toInt_inj.mp hpn
    exact own_ne (own_v2 vv)
  · obtain rfl : po = (1 : Int32) := Int32.toInt_inj.mp hpn
    exact own_ne (own_v1 vv)
  · obtain rfl : po = (2 : Int32) := Int32.toInt_inj.mp hpn
    exact own_ne (own_v0 vv)
  · obtain rfl : po = (3 : Int32) := Int32.toInt_inj.mp hpn
    exact own_ne (own_l2 av)
  · obtain rfl : po = (4 : Int32) := Int32.toInt_inj.mp hpn
    exact own_ne (own_l2 av)
  · obtain rfl : po = (5 : Int32) := Int32.toInt_inj.mp hpn
    exact own_ne (own_l2 av)
  · obtain rfl : po = (6 : Int32) := Int32.toInt_inj.mp hpn
    exact own_ne (own_l2 av)
  · obtain rfl : po = (7 : Int32) := Int32.toInt_inj.mp hpn
    exact own_ne (own_l2 av)
  · obtain rfl : po = (8 : Int32) := Int32.toInt_inj.mp hpn
    exact own_ne (own_l2 av)
  · obtain rfl : po = (9 : Int32) := Int32.toInt_inj.mp hpn
    exact own_ne (own_l2 av)
  · obtain rfl : po = (10 : Int32) := Int32.toInt_inj.mp hpn
    exact own_ne (own_l2 av)
  · obtain rfl : po = (11 : Int32) := Int32.toInt_inj.mp hpn
    exact own_ne (own_l2 av)
  · obtain rfl : po = (12 : Int32) := Int32.toInt_inj.mp hpn
    exact own_ne (own_l2 av)
theorem own_at3 (av bv : Int64) (pp vv : Int32) (pn : Nat) (hpn : ((pp &&& (2147483647 : Int32)) % (13 : Int32)).toInt = pn) (hpl : pn ≤ 12) : ¬ ((r9_v av bv ((pp &&& (2147483647 : Int32)) % (13 : Int32)) vv (3 : Int32) (r6_arr vv (r6_arr (bv.toInt32) (r6_arr (((bv.toUInt64 >>> ((32 : Int32) &&& 0x3f).toInt64.toUInt64).toInt64).toInt32) (r6_arr (av.toInt32) (r6_arr (((av.toUInt64 >>> ((32 : Int32) &&& 0x3f).toInt64.toUInt64).toInt64).toInt32) zI 0) (0 + 4)) 8) (8 + 4)) pn) 3) = (0 : Int32)) := by
  generalize ((pp &&& (2147483647 : Int32)) % (13 : Int32)) = po at *
  have hc : pn = 0 ∨ pn = 1 ∨ pn = 2 ∨ pn = 3 ∨ pn = 4 ∨ pn = 5 ∨ pn = 6 ∨ pn = 7 ∨ pn = 8 ∨ pn = 9 ∨ pn = 10 ∨ pn = 11 ∨ pn = 12 := by omega
  rcases hc with rfl | rfl | rfl | rfl | rfl | rfl | rfl | rfl | rfl | rfl | rfl | rfl | rfl
  · obtain rfl : po = (0 : Int32) := Int32.toInt_inj.mp hpn
    exact own_ne (own_v3 vv)
  · obtain rfl : po = (1 : Int32) := Int32.toInt_inj.mp hpn
    exact own_ne (own_v2 vv)
  · obtain rfl : po = (2 : Int32) := Int32.toInt_inj.mp hpn
    exact own_ne (own_v1 vv)
  · obtain rfl : po = (3 : Int32) := Int32.toInt_inj.mp hpn
    exact own_ne (own_v0 vv)
  · obtain rfl : po = (4 : Int32) := Int32.toInt_inj.mp hpn
    exact own_ne (own_l3 av)
  · obtain rfl : po = (5 : Int32) := Int32.toInt_inj.mp hpn
    exact own_ne (own_l3 av)
  · obtain rfl : po = (6 : Int32) := Int32.toInt_inj.mp hpn
    exact own_ne (own_l3 av)
  · obtain rfl : po = (7 : Int32) := Int32.toInt_inj.mp hpn
    exact own_ne (own_l3 av)
  · obtain rfl : po = (8 : Int32) := Int32.toInt_inj.mp hpn
    exact own_ne (own_l3 av)
  · obtain rfl : po = (9 : Int32) := Int32.toInt_inj.mp hpn
    exact own_ne (own_l3 av)
  · obtain rfl : po = (10 : Int32) := Int32.toInt_inj.mp hpn
    exact own_ne (own_l3 av)
  · obtain rfl : po = (11 : Int32) := Int32.toInt_inj.mp hpn
    exact own_ne (own_l3 av)
  · obtain rfl : po = (12 : Int32) := Int32.toInt_inj.mp hpn
    exact own_ne (own_l3 av)
theorem own_at4 (av bv : Int64) (pp vv : Int32) (pn : Nat) (hpn : ((pp &&& (2147483647 : Int32)) % (13 : Int32)).toInt = pn) (hpl : pn ≤ 12) : ¬ ((r9_v av bv ((pp &&& (2147483647 : Int32)) % (13 : Int32)) vv (4 : Int32) (r6_arr vv (r6_arr (bv.toInt32) (r6_arr (((bv.toUInt64 >>> ((32 : Int32) &&& 0x3f).toInt64.toUInt64).toInt64).toInt32) (r6_arr (av.toInt32) (r6_arr (((av.toUInt64 >>> ((32 : Int32) &&& 0x3f).toInt64.toUInt64).toInt64).toInt32) zI 0) (0 + 4)) 8) (8 + 4)) pn) 4) = (0 : Int32)) := by
  generalize ((pp &&& (2147483647 : Int32)) % (13 : Int32)) = po at *
  have hc : pn = 0 ∨ pn = 1 ∨ pn = 2 ∨ pn = 3 ∨ pn = 4 ∨ pn = 5 ∨ pn = 6 ∨ pn = 7 ∨ pn = 8 ∨ pn = 9 ∨ pn = 10 ∨ pn = 11 ∨ pn = 12 := by omega
  rcases hc with rfl | rfl | rfl | rfl | rfl | rfl | rfl | rfl | rfl | rfl | rfl | rfl | rfl
  · obtain rfl : po = (0 : Int32) := Int32.toInt_inj.mp hpn
    exact own_ne (own_l4 av)
  · obtain rfl : po = (1 : Int32) := Int32.toInt_inj.mp hpn
    exact own_ne (own_v3 vv)
  · obtain rfl : po = (2 : Int32) := Int32.toInt_inj.mp hpn
    exact own_ne (own_v2 vv)
  · obtain rfl : po = (3 : Int32) := Int32.toInt_inj.mp hpn
    exact own_ne (own_v1 vv)
  · obtain rfl : po = (4 : Int32) := Int32.toInt_inj.mp hpn
    exact own_ne (own_v0 vv)
  · obtain rfl : po = (5 : Int32) := Int32.toInt_inj.mp hpn
    exact own_ne (own_l4 av)
  · obtain rfl : po = (6 : Int32) := Int32.toInt_inj.mp hpn
    exact own_ne (own_l4 av)
  · obtain rfl : po = (7 : Int32) := Int32.toInt_inj.mp hpn
    exact own_ne (own_l4 av)
  · obtain rfl : po = (8 : Int32) := Int32.toInt_inj.mp hpn
    exact own_ne (own_l4 av)
  · obtain rfl : po = (9 : Int32) := Int32.toInt_inj.mp hpn
    exact own_ne (own_l4 av)
  · obtain rfl : po = (10 : Int32) := Int32.toInt_inj.mp hpn
    exact own_ne (own_l4 av)
  · obtain rfl : po = (11 : Int32) := Int32.toInt_inj.mp hpn
    exact own_ne (own_l4 av)
  · obtain rfl : po = (12 : Int32) := Int32.toInt_inj.mp hpn
    exact own_ne (own_l4 av)
theorem own_at5 (av bv : Int64) (pp vv : Int32) (pn : Nat) (hpn : ((pp &&& (2147483647 : Int32)) % (13 : Int32)).toInt = pn) (hpl : pn ≤ 12) : ¬ ((r9_v av bv ((pp &&& (2147483647 : Int32)) % (13 : Int32)) vv (5 : Int32) (r6_arr vv (r6_arr (bv.toInt32) (r6_arr (((bv.toUInt64 >>> ((32 : Int32) &&& 0x3f).toInt64.toUInt64).toInt64).toInt32) (r6_arr (av.toInt32) (r6_arr (((av.toUInt64 >>> ((32 : Int32) &&& 0x3f).toInt64.toUInt64).toInt64).toInt32) zI 0) (0 + 4)) 8) (8 + 4)) pn) 5) = (0 : Int32)) := by
  generalize ((pp &&& (2147483647 : Int32)) % (13 : Int32)) = po at *
  have hc : pn = 0 ∨ pn = 1 ∨ pn = 2 ∨ pn = 3 ∨ pn = 4 ∨ pn = 5 ∨ pn = 6 ∨ pn = 7 ∨ pn = 8 ∨ pn = 9 ∨ pn = 10 ∨ pn = 11 ∨ pn = 12 := by omega
  rcases hc with rfl | rfl | rfl | rfl | rfl | rfl | rfl | rfl | rfl | rfl | rfl | rfl | rfl
  · obtain rfl : po = (0 : Int32) := Int32.toInt_inj.mp hpn
    exact own_ne (own_l5 av)
  · obtain rfl : po = (1 : Int32) := Int32.toInt_inj.mp hpn
    exact own_ne (own_l5 av)
  · obtain rfl : po = (2 : Int32) := Int32.toInt_inj.mp hpn
    exact own_ne (own_v3 vv)
  · obtain rfl : po = (3 : Int32) := Int32.toInt_inj.mp hpn
    exact own_ne (own_v2 vv)
  · obtain rfl : po = (4 : Int32) := Int32.toInt_inj.mp hpn
    exact own_ne (own_v1 vv)
  · obtain rfl : po = (5 : Int32) := Int32.toInt_inj.mp hpn
    exact own_ne (own_v0 vv)
  · obtain rfl : po = (6 : Int32) := Int32.toInt_inj.mp hpn
    exact own_ne (own_l5 av)
  · obtain rfl : po = (7 : Int32) := Int32.toInt_inj.mp hpn
    exact own_ne (own_l5 av)
  · obtain rfl : po = (8 : Int32) := Int32.toInt_inj.mp hpn
    exact own_ne (own_l5 av)
  · obtain rfl : po = (9 : Int32) := Int32.toInt_inj.mp hpn
    exact own_ne (own_l5 av)
  · obtain rfl : po = (10 : Int32) := Int32.toInt_inj.mp hpn
    exact own_ne (own_l5 av)
  · obtain rfl : po = (11 : Int32) := Int32.toInt_inj.mp hpn
    exact own_ne (own_l5 av)
  · obtain rfl : po = (12 : Int32) := Int32.toInt_inj.mp hpn
    exact own_ne (own_l5 av)
theorem own_at6 (av bv : Int64) (pp vv : Int32) (pn : Nat) (hpn : ((pp &&& (2147483647 : Int32)) % (13 : Int32)).toInt = pn) (hpl : pn ≤ 12) : ¬ ((r9_v av bv ((pp &&& (2147483647 : Int32)) % (13 : Int32)) vv (6 : Int32) (r6_arr vv (r6_arr (bv.toInt32) (r6_arr (((bv.toUInt64 >>> ((32 : Int32) &&& 0x3f).toInt64.toUInt64).toInt64).toInt32) (r6_arr (av.toInt32) (r6_arr (((av.toUInt64 >>> ((32 : Int32) &&& 0x3f).toInt64.toUInt64).toInt64).toInt32) zI 0) (0 + 4)) 8) (8 + 4)) pn) 6) = (0 : Int32)) := by
  generalize ((pp &&& (2147483647 : Int32)) % (13 : Int32)) = po at *
  have hc : pn = 0 ∨ pn = 1 ∨ pn = 2 ∨ pn = 3 ∨ pn = 4 ∨ pn = 5 ∨ pn = 6 ∨ pn = 7 ∨ pn = 8 ∨ pn = 9 ∨ pn = 10 ∨ pn = 11 ∨ pn = 12 := by omega
  rcases hc with rfl | rfl | rfl | rfl | rfl | rfl | rfl | rfl | rfl | rfl | rfl | rfl | rfl
  · obtain rfl : po = (0 : Int32) := Int32.toInt_inj.mp hpn
    exact own_ne (own_l6 av)
  · obtain rfl : po = (1 : Int32) := Int32.toInt_inj.mp hpn
    exact own_ne (own_l6 av)
  · obtain rfl : po = (2 : Int32) := Int32.toInt_inj.mp hpn
    exact own_ne (own_l6 av)
  · obtain rfl : po = (3 : Int32) := Int32.toInt_inj.mp hpn
    exact own_ne (own_v3 vv)
  · obtain rfl : po = (4 : Int32) := Int32.toInt_inj.mp hpn
    exact own_ne (own_v2 vv)
  · obtain rfl : po = (5 : Int32) := Int32.toInt_inj.mp hpn
    exact own_ne (own_v1 vv)
  · obtain rfl : po = (6 : Int32) := Int32.toInt_inj.mp hpn
    exact own_ne (own_v0 vv)
  · obtain rfl : po = (7 : Int32) := Int32.toInt_inj.mp hpn
    exact own_ne (own_l6 av)
  · obtain rfl : po = (8 : Int32) := Int32.toInt_inj.mp hpn
    exact own_ne (own_l6 av)
  · obtain rfl : po = (9 : Int32) := Int32.toInt_inj.mp hpn
    exact own_ne (own_l6 av)
  · obtain rfl : po = (10 : Int32) := Int32.toInt_inj.mp hpn
    exact own_ne (own_l6 av)
  · obtain rfl : po = (11 : Int32) := Int32.toInt_inj.mp hpn
    exact own_ne (own_l6 av)
  · obtain rfl : po = (12 : Int32) := Int32.toInt_inj.mp hpn
    exact own_ne (own_l6 av)
theorem own_at7 (av bv : Int64) (pp vv : Int32) (pn : Nat) (hpn : ((pp &&& (2147483647 : Int32)) % (13 : Int32)).toInt = pn) (hpl : pn ≤ 12) : ¬ ((r9_v av bv ((pp &&& (2147483647 : Int32)) % (13 : Int32)) vv (7 : Int32) (r6_arr vv (r6_arr (bv.toInt32) (r6_arr (((bv.toUInt64 >>> ((32 : Int32) &&& 0x3f).toInt64.toUInt64).toInt64).toInt32) (r6_arr (av.toInt32) (r6_arr (((av.toUInt64 >>> ((32 : Int32) &&& 0x3f).toInt64.toUInt64).toInt64).toInt32) zI 0) (0 + 4)) 8) (8 + 4)) pn) 7) = (0 : Int32)) := by
  generalize ((pp &&& (2147483647 : Int32)) % (13 : Int32)) = po at *
  have hc : pn = 0 ∨ pn = 1 ∨ pn = 2 ∨ pn = 3 ∨ pn = 4 ∨ pn = 5 ∨ pn = 6 ∨ pn = 7 ∨ pn = 8 ∨ pn = 9 ∨ pn = 10 ∨ pn = 11 ∨ pn = 12 := by omega
  rcases hc with rfl | rfl | rfl | rfl | rfl | rfl | rfl | rfl | rfl | rfl | rfl | rfl | rfl
  · obtain rfl : po = (0 : Int32) := Int32.toInt_inj.mp hpn
    exact own_ne (own_l7 av)
  · obtain rfl : po = (1 : Int32) := Int32.toInt_inj.mp hpn
    exact own_ne (own_l7 av)
  · obtain rfl : po = (2 : Int32) := Int32.toInt_inj.mp hpn
    exact own_ne (own_l7 av)
  · obtain rfl : po = (3 : Int32) := Int32.toInt_inj.mp hpn
    exact own_ne (own_l7 av)
  · obtain rfl : po = (4 : Int32) := Int32.toInt_inj.mp hpn
    exact own_ne (own_v3 vv)
  · obtain rfl : po = (5 : Int32) := Int32.toInt_inj.mp hpn
    exact own_ne (own_v2 vv)
  · obtain rfl : po = (6 : Int32) := Int32.toInt_inj.mp hpn
    exact own_ne (own_v1 vv)
  · obtain rfl : po = (7 : Int32) := Int32.toInt_inj.mp hpn
    exact own_ne (own_v0 vv)
  · obtain rfl : po = (8 : Int32) := Int32.toInt_inj.mp hpn
    exact own_ne (own_l7 av)
  · obtain rfl : po = (9 : Int32) := Int32.toInt_inj.mp hpn
    exact own_ne (own_l7 av)
  · obtain rfl : po = (10 : Int32) := Int32.toInt_inj.mp hpn
    exact own_ne (own_l7 av)
  · obtain rfl : po = (11 : Int32) := Int32.toInt_inj.mp hpn
    exact own_ne (own_l7 av)
  · obtain rfl : po = (12 : Int32) := Int32.toInt_inj.mp hpn
    exact own_ne (own_l7 av)
theorem own_at8 (av bv : Int64) (pp vv : Int32) (pn : Nat) (hpn : ((pp &&& (2147483647 : Int32)) % (13 : Int32)).toInt = pn) (hpl : pn ≤ 12) : ¬ ((r9_v av bv ((pp &&& (2147483647 : Int32)) % (13 : Int32)) vv (8 : Int32) (r6_arr vv (r6_arr (bv.toInt32) (r6_arr (((bv.toUInt64 >>> ((32 : Int32) &&& 0x3f).toInt64.toUInt64).toInt64).toInt32) (r6_arr (av.toInt32) (r6_arr (((av.toUInt64 >>> ((32 : Int32) &&& 0x3f).toInt64.toUInt64).toInt64).toInt32) zI 0) (0 + 4)) 8) (8 + 4)) pn) 8) = (0 : Int32)) := by
  generalize ((pp &&& (2147483647 : Int32)) % (13 : Int32)) = po at *
  have hc : pn = 0 ∨ pn = 1 ∨ pn = 2 ∨ pn = 3 ∨ pn = 4 ∨ pn = 5 ∨ pn = 6 ∨ pn = 7 ∨ pn = 8 ∨ pn = 9 ∨ pn = 10 ∨ pn = 11 ∨ pn = 12 := by omega
  rcases hc with rfl | rfl | rfl | rfl | rfl | rfl | rfl | rfl | rfl | rfl | rfl | rfl | rfl
  · obtain rfl : po = (0 : Int32) := Int32.toInt_inj.mp hpn
    exact own_ne (own_l0 bv)
  · obtain rfl : po = (1 : Int32) := Int32.toInt_inj.mp hpn
    exact own_ne (own_l0 bv)
  · obtain rfl : po = (2 : Int32) := Int32.toInt_inj.mp hpn
    exact own_ne (own_l0 bv)
  · obtain rfl : po = (3 : Int32) := Int32.toInt_inj.mp hpn
    exact own_ne (own_l0 bv)
  · obtain rfl : po = (4 : Int32) := Int32.toInt_inj.mp hpn
    exact own_ne (own_l0 bv)
  · obtain rfl : po = (5 : Int32) := Int32.toInt_inj.mp hpn
    exact own_ne (own_v3 vv)
  · obtain rfl : po = (6 : Int32) := Int32.toInt_inj.mp hpn
    exact own_ne (own_v2 vv)
  · obtain rfl : po = (7 : Int32) := Int32.toInt_inj.mp hpn
    exact own_ne (own_v1 vv)
  · obtain rfl : po = (8 : Int32) := Int32.toInt_inj.mp hpn
    exact own_ne (own_v0 vv)
  · obtain rfl : po = (9 : Int32) := Int32.toInt_inj.mp hpn
    exact own_ne (own_l0 bv)
  · obtain rfl : po = (10 : Int32) := Int32.toInt_inj.mp hpn
    exact own_ne (own_l0 bv)
  · obtain rfl : po = (11 : Int32) := Int32.toInt_inj.mp hpn
    exact own_ne (own_l0 bv)
  · obtain rfl : po = (12 : Int32) := Int32.toInt_inj.mp hpn
    exact own_ne (own_l0 bv)
theorem own_at9 (av bv : Int64) (pp vv : Int32) (pn : Nat) (hpn : ((pp &&& (2147483647 : Int32)) % (13 : Int32)).toInt = pn) (hpl : pn ≤ 12) : ¬ ((r9_v av bv ((pp &&& (2147483647 : Int32)) % (13 : Int32)) vv (9 : Int32) (r6_arr vv (r6_arr (bv.toInt32) (r6_arr (((bv.toUInt64 >>> ((32 : Int32) &&& 0x3f).toInt64.toUInt64).toInt64).toInt32) (r6_arr (av.toInt32) (r6_arr (((av.toUInt64 >>> ((32 : Int32) &&& 0x3f).toInt64.toUInt64).toInt64).toInt32) zI 0) (0 + 4)) 8) (8 + 4)) pn) 9) = (0 : Int32)) := by
  generalize ((pp &&& (2147483647 : Int32)) % (13 : Int32)) = po at *
  have hc : pn = 0 ∨ pn = 1 ∨ pn = 2 ∨ pn = 3 ∨ pn = 4 ∨ pn = 5 ∨ pn = 6 ∨ pn = 7 ∨ pn = 8 ∨ pn = 9 ∨ pn = 10 ∨ pn = 11 ∨ pn = 12 := by omega
  rcases hc with rfl | rfl | rfl | rfl | rfl | rfl | rfl | rfl | rfl | rfl | rfl | rfl | rfl
  · obtain rfl : po = (0 : Int32) := Int32.toInt_inj.mp hpn
    exact own_ne (own_l1 bv)
  · obtain rfl : po = (1 : Int32) := Int32.toInt_inj.mp hpn
    exact own_ne (own_l1 bv)
  · obtain rfl : po = (2 : Int32) := Int32.toInt_inj.mp hpn
    exact own_ne (own_l1 bv)
  · obtain rfl : po = (3 : Int32) := Int32.toInt_inj.mp hpn
    exact own_ne (own_l1 bv)
  · obtain rfl : po = (4 : Int32) := Int32.toInt_inj.mp hpn
    exact own_ne (own_l1 bv)
  · obtain rfl : po = (5 : Int32) := Int32.toInt_inj.mp hpn
    exact own_ne (own_l1 bv)
  · obtain rfl : po = (6 : Int32) := Int32.toInt_inj.mp hpn
    exact own_ne (own_v3 vv)
  · obtain rfl : po = (7 : Int32) := Int32.toInt_inj.mp hpn
    exact own_ne (own_v2 vv)
  · obtain rfl : po = (8 : Int32) := Int32.toInt_inj.mp hpn
    exact own_ne (own_v1 vv)
  · obtain rfl : po = (9 : Int32) := Int32.toInt_inj.mp hpn
    exact own_ne (own_v0 vv)
  · obtain rfl : po = (10 : Int32) := Int32.toInt_inj.mp hpn
    exact own_ne (own_l1 bv)
  · obtain rfl : po = (11 : Int32) := Int32.toInt_inj.mp hpn
    exact own_ne (own_l1 bv)
  · obtain rfl : po = (12 : Int32) := Int32.toInt_inj.mp hpn
    exact own_ne (own_l1 bv)
theorem own_at10 (av bv : Int64) (pp vv : Int32) (pn : Nat) (hpn : ((pp &&& (2147483647 : Int32)) % (13 : Int32)).toInt = pn) (hpl : pn ≤ 12) : ¬ ((r9_v av bv ((pp &&& (2147483647 : Int32)) % (13 : Int32)) vv (10 : Int32) (r6_arr vv (r6_arr (bv.toInt32) (r6_arr (((bv.toUInt64 >>> ((32 : Int32) &&& 0x3f).toInt64.toUInt64).toInt64).toInt32) (r6_arr (av.toInt32) (r6_arr (((av.toUInt64 >>> ((32 : Int32) &&& 0x3f).toInt64.toUInt64).toInt64).toInt32) zI 0) (0 + 4)) 8) (8 + 4)) pn) 10) = (0 : Int32)) := by
  generalize ((pp &&& (2147483647 : Int32)) % (13 : Int32)) = po at *
  have hc : pn = 0 ∨ pn = 1 ∨ pn = 2 ∨ pn = 3 ∨ pn = 4 ∨ pn = 5 ∨ pn = 6 ∨ pn = 7 ∨ pn = 8 ∨ pn = 9 ∨ pn = 10 ∨ pn = 11 ∨ pn = 12 := by omega
  rcases hc with rfl | rfl | rfl | rfl | rfl | rfl | rfl | rfl | rfl | rfl | rfl | rfl | rfl
  · obtain rfl : po = (0 : Int32) := Int32.toInt_inj.mp hpn
    exact own_ne (own_l2 bv)
  · obtain rfl : po = (1 : Int32) := Int32.toInt_inj.mp hpn
    exact own_ne (own_l2 bv)
  · obtain rfl : po = (2 : Int32) := Int32.toInt_inj.mp hpn
    exact own_ne (own_l2 bv)
  · obtain rfl : po = (3 : Int32) := Int32.toInt_inj.mp hpn
    exact own_ne (own_l2 bv)
  · obtain rfl : po = (4 : Int32) := Int32.toInt_inj.mp hpn
    exact own_ne (own_l2 bv)
  · obtain rfl : po = (5 : Int32) := Int32.toInt_inj.mp hpn
    exact own_ne (own_l2 bv)
  · obtain rfl : po = (6 : Int32) := Int32.toInt_inj.mp hpn
    exact own_ne (own_l2 bv)
  · obtain rfl : po = (7 : Int32) := Int32.toInt_inj.mp hpn
    exact own_ne (own_v3 vv)
  · obtain rfl : po = (8 : Int32) := Int32.toInt_inj.mp hpn
    exact own_ne (own_v2 vv)
  · obtain rfl : po = (9 : Int32) := Int32.toInt_inj.mp hpn
    exact own_ne (own_v1 vv)
  · obtain rfl : po = (10 : Int32) := Int32.toInt_inj.mp hpn
    exact own_ne (own_v0 vv)
  · obtain rfl : po = (11 : Int32) := Int32.toInt_inj.mp hpn
    exact own_ne (own_l2 bv)
  · obtain rfl : po = (12 : Int32) := Int32.toInt_inj.mp hpn
    exact own_ne (own_l2 bv)
theorem own_at11 (av bv : Int64) (pp vv : Int32) (pn : Nat) (hpn : ((pp &&& (2147483647 : Int32)) % (13 : Int32)).toInt = pn) (hpl : pn ≤ 12) : ¬ ((r9_v av bv ((pp &&& (2147483647 : Int32)) % (13 : Int32)) vv (11 : Int32) (r6_arr vv (r6_arr (bv.toInt32) (r6_arr (((bv.toUInt64 >>> ((32 : Int32) &&& 0x3f).toInt64.toUInt64).toInt64).toInt32) (r6_arr (av.toInt32) (r6_arr (((av.toUInt64 >>> ((32 : Int32) &&& 0x3f).toInt64.toUInt64).toInt64).toInt32) zI 0) (0 + 4)) 8) (8 + 4)) pn) 11) = (0 : Int32)) := by
  generalize ((pp &&& (2147483647 : Int32)) % (13 : Int32)) = po at *
  have hc : pn = 0 ∨ pn = 1 ∨ pn = 2 ∨ pn = 3 ∨ pn = 4 ∨ pn = 5 ∨ pn = 6 ∨ pn = 7 ∨ pn = 8 ∨ pn = 9 ∨ pn = 10 ∨ pn = 11 ∨ pn = 12 := by omega
  rcases hc with rfl | rfl | rfl | rfl | rfl | rfl | rfl | rfl | rfl | rfl | rfl | rfl | rfl
  · obtain rfl : po = (0 : Int32) := Int32.toInt_inj.mp hpn
    exact own_ne (own_l3 bv)
  · obtain rfl : po = (1 : Int32) := Int32.toInt_inj.mp hpn
    exact own_ne (own_l3 bv)
  · obtain rfl : po = (2 : Int32) := Int32.toInt_inj.mp hpn
    exact own_ne (own_l3 bv)
  · obtain rfl : po = (3 : Int32) := Int32.toInt_inj.mp hpn
    exact own_ne (own_l3 bv)
  · obtain rfl : po = (4 : Int32) := Int32.toInt_inj.mp hpn
    exact own_ne (own_l3 bv)
  · obtain rfl : po = (5 : Int32) := Int32.toInt_inj.mp hpn
    exact own_ne (own_l3 bv)
  · obtain rfl : po = (6 : Int32) := Int32.toInt_inj.mp hpn
    exact own_ne (own_l3 bv)
  · obtain rfl : po = (7 : Int32) := Int32.toInt_inj.mp hpn
    exact own_ne (own_l3 bv)
  · obtain rfl : po = (8 : Int32) := Int32.toInt_inj.mp hpn
    exact own_ne (own_v3 vv)
  · obtain rfl : po = (9 : Int32) := Int32.toInt_inj.mp hpn
    exact own_ne (own_v2 vv)
  · obtain rfl : po = (10 : Int32) := Int32.toInt_inj.mp hpn
    exact own_ne (own_v1 vv)
  · obtain rfl : po = (11 : Int32) := Int32.toInt_inj.mp hpn
    exact own_ne (own_v0 vv)
  · obtain rfl : po = (12 : Int32) := Int32.toInt_inj.mp hpn
    exact own_ne (own_l3 bv)
theorem own_at12 (av bv : Int64) (pp vv : Int32) (pn : Nat) (hpn : ((pp &&& (2147483647 : Int32)) % (13 : Int32)).toInt = pn) (hpl : pn ≤ 12) : ¬ ((r9_v av bv ((pp &&& (2147483647 : Int32)) % (13 : Int32)) vv (12 : Int32) (r6_arr vv (r6_arr (bv.toInt32) (r6_arr (((bv.toUInt64 >>> ((32 : Int32) &&& 0x3f).toInt64.toUInt64).toInt64).toInt32) (r6_arr (av.toInt32) (r6_arr (((av.toUInt64 >>> ((32 : Int32) &&& 0x3f).toInt64.toUInt64).toInt64).toInt32) zI 0) (0 + 4)) 8) (8 + 4)) pn) 12) = (0 : Int32)) := by
  generalize ((pp &&& (2147483647 : Int32)) % (13 : Int32)) = po at *
  have hc : pn = 0 ∨ pn = 1 ∨ pn = 2 ∨ pn = 3 ∨ pn = 4 ∨ pn = 5 ∨ pn = 6 ∨ pn = 7 ∨ pn = 8 ∨ pn = 9 ∨ pn = 10 ∨ pn = 11 ∨ pn = 12 := by omega
  rcases hc with rfl | rfl | rfl | rfl | rfl | rfl | rfl | rfl | rfl | rfl | rfl | rfl | rfl
  · obtain rfl : po = (0 : Int32) := Int32.toInt_inj.mp hpn
    exact own_ne (own_l4 bv)
  · obtain rfl : po = (1 : Int32) := Int32.toInt_inj.mp hpn
    exact own_ne (own_l4 bv)
  · obtain rfl : po = (2 : Int32) := Int32.toInt_inj.mp hpn
    exact own_ne (own_l4 bv)
  · obtain rfl : po = (3 : Int32) := Int32.toInt_inj.mp hpn
    exact own_ne (own_l4 bv)
  · obtain rfl : po = (4 : Int32) := Int32.toInt_inj.mp hpn
    exact own_ne (own_l4 bv)
  · obtain rfl : po = (5 : Int32) := Int32.toInt_inj.mp hpn
    exact own_ne (own_l4 bv)
  · obtain rfl : po = (6 : Int32) := Int32.toInt_inj.mp hpn
    exact own_ne (own_l4 bv)
  · obtain rfl : po = (7 : Int32) := Int32.toInt_inj.mp hpn
    exact own_ne (own_l4 bv)
  · obtain rfl : po = (8 : Int32) := Int32.toInt_inj.mp hpn
    exact own_ne (own_l4 bv)
  · obtain rfl : po = (9 : Int32) := Int32.toInt_inj.mp hpn
    exact own_ne (own_v3 vv)
  · obtain rfl : po = (10 : Int32) := Int32.toInt_inj.mp hpn
    exact own_ne (own_v2 vv)
  · obtain rfl : po = (11 : Int32) := Int32.toInt_inj.mp hpn
    exact own_ne (own_v1 vv)
  · obtain rfl : po = (12 : Int32) := Int32.toInt_inj.mp hpn
    exact own_ne (own_v0 vv)
theorem own_at13 (av bv : Int64) (pp vv : Int32) (pn : Nat) (hpn : ((pp &&& (2147483647 : Int32)) % (13 : Int32)).toInt = pn) (hpl : pn ≤ 12) : ¬ ((r9_v av bv ((pp &&& (2147483647 : Int32)) % (13 : Int32)) vv (13 : Int32) (r6_arr vv (r6_arr (bv.toInt32) (r6_arr (((bv.toUInt64 >>> ((32 : Int32) &&& 0x3f).toInt64.toUInt64).toInt64).toInt32) (r6_arr (av.toInt32) (r6_arr (((av.toUInt64 >>> ((32 : Int32) &&& 0x3f).toInt64.toUInt64).toInt64).toInt32) zI 0) (0 + 4)) 8) (8 + 4)) pn) 13) = (0 : Int32)) := by
  generalize ((pp &&& (2147483647 : Int32)) % (13 : Int32)) = po at *
  have hc : pn = 0 ∨ pn = 1 ∨ pn = 2 ∨ pn = 3 ∨ pn = 4 ∨ pn = 5 ∨ pn = 6 ∨ pn = 7 ∨ pn = 8 ∨ pn = 9 ∨ pn = 10 ∨ pn = 11 ∨ pn = 12 := by omega
  rcases hc with rfl | rfl | rfl | rfl | rfl | rfl | rfl | rfl | rfl | rfl | rfl | rfl | rfl
  · obtain rfl : po = (0 : Int32) := Int32.toInt_inj.mp hpn
    exact own_ne (own_l5 bv)
  · obtain rfl : po = (1 : Int32) := Int32.toInt_inj.mp hpn
    exact own_ne (own_l5 bv)
  · obtain rfl : po = (2 : Int32) := Int32.toInt_inj.mp hpn
    exact own_ne (own_l5 bv)
  · obtain rfl : po = (3 : Int32) := Int32.toInt_inj.mp hpn
    exact own_ne (own_l5 bv)
  · obtain rfl : po = (4 : Int32) := Int32.toInt_inj.mp hpn
    exact own_ne (own_l5 bv)
  · obtain rfl : po = (5 : Int32) := Int32.toInt_inj.mp hpn
    exact own_ne (own_l5 bv)
  · obtain rfl : po = (6 : Int32) := Int32.toInt_inj.mp hpn
    exact own_ne (own_l5 bv)
  · obtain rfl : po = (7 : Int32) := Int32.toInt_inj.mp hpn
    exact own_ne (own_l5 bv)
  · obtain rfl : po = (8 : Int32) := Int32.toInt_inj.mp hpn
    exact own_ne (own_l5 bv)
  · obtain rfl : po = (9 : Int32) := Int32.toInt_inj.mp hpn
    exact own_ne (own_l5 bv)
  · obtain rfl : po = (10 : Int32) := Int32.toInt_inj.mp hpn
    exact own_ne (own_v3 vv)
  · obtain rfl : po = (11 : Int32) := Int32.toInt_inj.mp hpn
    exact own_ne (own_v2 vv)
  · obtain rfl : po = (12 : Int32) := Int32.toInt_inj.mp hpn
    exact own_ne (own_v1 vv)
theorem own_at14 (av bv : Int64) (pp vv : Int32) (pn : Nat) (hpn : ((pp &&& (2147483647 : Int32)) % (13 : Int32)).toInt = pn) (hpl : pn ≤ 12) : ¬ ((r9_v av bv ((pp &&& (2147483647 : Int32)) % (13 : Int32)) vv (14 : Int32) (r6_arr vv (r6_arr (bv.toInt32) (r6_arr (((bv.toUInt64 >>> ((32 : Int32) &&& 0x3f).toInt64.toUInt64).toInt64).toInt32) (r6_arr (av.toInt32) (r6_arr (((av.toUInt64 >>> ((32 : Int32) &&& 0x3f).toInt64.toUInt64).toInt64).toInt32) zI 0) (0 + 4)) 8) (8 + 4)) pn) 14) = (0 : Int32)) := by
  generalize ((pp &&& (2147483647 : Int32)) % (13 : Int32)) = po at *
  have hc : pn = 0 ∨ pn = 1 ∨ pn = 2 ∨ pn = 3 ∨ pn = 4 ∨ pn = 5 ∨ pn = 6 ∨ pn = 7 ∨ pn = 8 ∨ pn = 9 ∨ pn = 10 ∨ pn = 11 ∨ pn = 12 := by omega
  rcases hc with rfl | rfl | rfl | rfl | rfl | rfl | rfl | rfl | rfl | rfl | rfl | rfl | rfl
  · obtain rfl : po = (0 : Int32) := Int32.toInt_inj.mp hpn
    exact own_ne (own_l6 bv)
  · obtain rfl : po = (1 : Int32) := Int32.toInt_inj.mp hpn
    exact own_ne (own_l6 bv)
  · obtain rfl : po = (2 : Int32) := Int32.toInt_inj.mp hpn
    exact own_ne (own_l6 bv)
  · obtain rfl : po = (3 : Int32) := Int32.toInt_inj.mp hpn
    exact own_ne (own_l6 bv)
  · obtain rfl : po = (4 : Int32) := Int32.toInt_inj.mp hpn
    exact own_ne (own_l6 bv)
  · obtain rfl : po = (5 : Int32) := Int32.toInt_inj.mp hpn
    exact own_ne (own_l6 bv)
  · obtain rfl : po = (6 : Int32) := Int32.toInt_inj.mp hpn
    exact own_ne (own_l6 bv)
  · obtain rfl : po = (7 : Int32) := Int32.toInt_inj.mp hpn
    exact own_ne (own_l6 bv)
  · obtain rfl : po = (8 : Int32) := Int32.toInt_inj.mp hpn
    exact own_ne (own_l6 bv)
  · obtain rfl : po = (9 : Int32) := Int32.toInt_inj.mp hpn
    exact own_ne (own_l6 bv)
  · obtain rfl : po = (10 : Int32) := Int32.toInt_inj.mp hpn
    exact own_ne (own_l6 bv)
  · obtain rfl : po = (11 : Int32) := Int32.toInt_inj.mp hpn
    exact own_ne (own_v3 vv)
  · obtain rfl : po = (12 : Int32) := Int32.toInt_inj.mp hpn
    exact own_ne (own_v2 vv)
theorem own_at15 (av bv : Int64) (pp vv : Int32) (pn : Nat) (hpn : ((pp &&& (2147483647 : Int32)) % (13 : Int32)).toInt = pn) (hpl : pn ≤ 12) : ¬ ((r9_v av bv ((pp &&& (2147483647 : Int32)) % (13 : Int32)) vv (15 : Int32) (r6_arr vv (r6_arr (bv.toInt32) (r6_arr (((bv.toUInt64 >>> ((32 : Int32) &&& 0x3f).toInt64.toUInt64).toInt64).toInt32) (r6_arr (av.toInt32) (r6_arr (((av.toUInt64 >>> ((32 : Int32) &&& 0x3f).toInt64.toUInt64).toInt64).toInt32) zI 0) (0 + 4)) 8) (8 + 4)) pn) 15) = (0 : Int32)) := by
  generalize ((pp &&& (2147483647 : Int32)) % (13 : Int32)) = po at *
  have hc : pn = 0 ∨ pn = 1 ∨ pn = 2 ∨ pn = 3 ∨ pn = 4 ∨ pn = 5 ∨ pn = 6 ∨ pn = 7 ∨ pn = 8 ∨ pn = 9 ∨ pn = 10 ∨ pn = 11 ∨ pn = 12 := by omega
  rcases hc with rfl | rfl | rfl | rfl | rfl | rfl | rfl | rfl | rfl | rfl | rfl | rfl | rfl
  · obtain rfl : po = (0 : Int32) := Int32.toInt_inj.mp hpn
    exact own_ne (own_l7 bv)
  · obtain rfl : po = (1 : Int32) := Int32.toInt_inj.mp hpn
    exact own_ne (own_l7 bv)
  · obtain rfl : po = (2 : Int32) := Int32.toInt_inj.mp hpn
    exact own_ne (own_l7 bv)
  · obtain rfl : po = (3 : Int32) := Int32.toInt_inj.mp hpn
    exact own_ne (own_l7 bv)
  · obtain rfl : po = (4 : Int32) := Int32.toInt_inj.mp hpn
    exact own_ne (own_l7 bv)
  · obtain rfl : po = (5 : Int32) := Int32.toInt_inj.mp hpn
    exact own_ne (own_l7 bv)
  · obtain rfl : po = (6 : Int32) := Int32.toInt_inj.mp hpn
    exact own_ne (own_l7 bv)
  · obtain rfl : po = (7 : Int32) := Int32.toInt_inj.mp hpn
    exact own_ne (own_l7 bv)
  · obtain rfl : po = (8 : Int32) := Int32.toInt_inj.mp hpn
    exact own_ne (own_l7 bv)
  · obtain rfl : po = (9 : Int32) := Int32.toInt_inj.mp hpn
    exact own_ne (own_l7 bv)
  · obtain rfl : po = (10 : Int32) := Int32.toInt_inj.mp hpn
    exact own_ne (own_l7 bv)
  · obtain rfl : po = (11 : Int32) := Int32.toInt_inj.mp hpn
    exact own_ne (own_l7 bv)
  · obtain rfl : po = (12 : Int32) := Int32.toInt_inj.mp hpn
    exact own_ne (own_v3 vv)
theorem own_z (av bv : Int64) (pp vv : Int32) (pn : Nat) (hpl : pn ≤ 12) : ((r6_arr vv (r6_arr (bv.toInt32) (r6_arr (((bv.toUInt64 >>> ((32 : Int32) &&& 0x3f).toInt64.toUInt64).toInt64).toInt32) (r6_arr (av.toInt32) (r6_arr (((av.toUInt64 >>> ((32 : Int32) &&& 0x3f).toInt64.toUInt64).toInt64).toInt32) zI 0) (0 + 4)) 8) (8 + 4)) pn) 16) = (0 : Int32) := by
  have hc : pn = 0 ∨ pn = 1 ∨ pn = 2 ∨ pn = 3 ∨ pn = 4 ∨ pn = 5 ∨ pn = 6 ∨ pn = 7 ∨ pn = 8 ∨ pn = 9 ∨ pn = 10 ∨ pn = 11 ∨ pn = 12 := by omega
  rcases hc with rfl | rfl | rfl | rfl | rfl | rfl | rfl | rfl | rfl | rfl | rfl | rfl | rfl
  all_goals rfl
def Q0 (Z : State) (av : Int64) (bv : Int64) (pp : Int32) (vv : Int32) (h0 : Heap) (n0 : Nat) (v : Option Value) (h : Heap) (L : List Loc) : Prop := v = some (.int (1 : Int32)) ∧ Fr n0 L
set_option maxRecDepth 65536 in
set_option maxHeartbeats 40000000 in
theorem rm0 (l : Launch) (Z : State) (a0 : Array Value) (hw : ∀ d ∈ tables_1, d.before a0 Z = true) (ws : List Jvm.Cond) (av : Int64) (bv : Int64) (pp : Int32) (vv : Int32) (h0 : Heap) (n0 : Nat) (Z0 : n0 ≤ h0.size) :
    MetFree l x (head1 (Jvm.Cond.code x code maxLocals ret :: ws) room_1) (fun a U => a = #[(.long av), (.long bv), (.int pp), (.int vv)] ∧ Z.Warmed39 U.vm ∧ U.heap = h0) (fun _ _ _ _ _ => True) (fun _ U o U' => ∃ v L, o = .returned v ∧ Q0 Z av bv pp vv h0 n0 v U'.heap L ∧ FrameEnd U o U' L room_1.cells room_1.slots) := by
  refine MetFree.of_bodySF (plainFor_of_name pn_com_example_lockstep_lockstep_store_RecordBufferPutIntPinLaw) hisR ?_
  intro p e s m args below meth c s₁ Bd hml0 hP hK
  obtain ⟨rfl, hZ, hh⟩ := hP
  have hx := Bd.exec
  have hby := Bd.bytes
  have hml : c.maxLocals = 9 := hml0
  have hown : s.vm.findClass "com/example/lockstep/lockstep/store/RecordBufferPutIntPinLaw" = some m.cls := findClass_of_methodNamed Bd.named
  have hnm := (name_of_methodNamed Bd.named Bd.method).1
  have X0 : Stand p l e room_1 s m #[(.long av), (.long bv), (.int pp), (.int vv)] below meth c s₁ [] 0 0 := Stand.of_body Bd
  have e0 : s₁.heap = h0 := by rw [← hh, Bd.state]; rfl
  have N0 := Fr.nil n0
  have K0 : Keep h0 h0 [] := Keep.refl h0 _
  have pre0 : ∀ t, Steps p.tables e below (s₁.setTop (mkF m 0 #[.val (.long av), .second, .val (.long bv), .second, .val (.int pp), .val (.int vv), .unset, .unset, .unset] [])) t → Steps p.tables e below (s₁.setTop (entryFrame m #[(.long av), (.long bv), (.int pp), (.int vv)] maxLocals)) t := fun t k => castTop (ef_0 m av bv pp vv) k
  obtain ⟨T1, h1, X1, e1, E1, A1, D1, -, st1⟩ := newO X0 hx hZ hown (hw _ (List.mem_of_getElem? (i := 0) rfl)) (hw _ (List.mem_of_getElem? (i := 1) rfl)) (hw _ (List.mem_of_getElem? (i := 2) rfl)) e0 (g := (mkF m 0 #[.val (.long av), .second, .val (.long bv), .second, .val (.int pp), .val (.int vv), .unset, .unset, .unset] [])) rfl (hb hby at_0) (by decide) (by decide)
  obtain ⟨b1, g1⟩ : ∃ z, z = h0.size := ⟨_, rfl⟩
  rw [← g1] at A1 D1 st1
  have gg1 : n0 ≤ b1 := Nat.le_trans Z0 (Nat.le_of_eq g1.symm)
  have Z1 : n0 ≤ h1.size := Nat.le_trans Z0 E1.1
  have f2 : Fld Z h1 b1 "com/example/lockstep/lockstep/store/RecordBuffer" "bytes" "[B" .null := D1 (Or.inl (hw _ (List.mem_of_getElem? (i := 11) rfl))) (ty := (.array .byte)) (by decide)
  have f3 : Fld Z h1 b1 "com/example/lockstep/lockstep/store/RecordBuffer" "size" "I" (.int (0 : Int32)) := D1 (Or.inl (hw _ (List.mem_of_getElem? (i := 27) rfl))) (ty := .int) (by decide)
  obtain ⟨_, _, ⟨T4, L4, k4, n4⟩, -, X4, ⟨Lc4, hQ4, l4, y4, z4⟩, st4⟩ := X1.specialBack hx (y := (⟨"com/example/lockstep/lockstep/store/RecordBuffer", "<init>", "()V"⟩ : MethodName)) rfl hown (mvT hZ (hw _ (List.mem_of_getElem? (i := 3) rfl))) (mvT hZ (hw _ (List.mem_of_getElem? (i := 4) rfl))) (mvT hZ (hw _ (List.mem_of_getElem? (i := 5) rfl))) (by decide) (backOf (W := 1) (rm1 l Z a0 hw [] b1 h1 n0 Z1 A1 f2 f3 gg1) hZ (hw _ (List.mem_of_getElem? (i := 5) rfl)) (hw _ (List.mem_of_getElem? (i := 2) rfl)) (by decide) (by decide)) (g := (mkF m 4 #[.val (.long av), .second, .val (.long bv), .second, .val (.int pp), .val (.int vv), .unset, .unset, .unset] [(.ref b1), (.ref b1)])) rfl (by rw [hml]; rfl) (Steps.refl _) (a := b1) (argsL := []) (rest := [(.ref b1)]) (lenOf pd_3 rfl) rfl (by show 2 * 0 + _ ≤ _; exact Nat.le_of_eq rfl) (hb hby at_4) (fun _ _ => ⟨rfl, e1, (by decide : 1 + 1 ≤ _), (by decide : 2 + 256 ≤ _)⟩)
  dsimp only [Pt.U, Pt.locs, Pt.cells, Pt.slots] at X4 l4 y4 z4 st4 hQ4
  subst l4 y4 z4
  obtain ⟨b5, ggb5, szb5, rfl, N4q, K4c, f6, f7, f8⟩ := hQ4
  have N4 := Fr.app N0 N4q
  have ne9 : b1 ≠ b5 := Nat.ne_of_lt (Nat.lt_of_lt_of_le A1.lt szb5)
  have f10 : Exa Z T4.heap b1 "com/example/lockstep/lockstep/store/RecordBuffer" := A1.keep K4c
  have Z4 : n0 ≤ T4.heap.size := Nat.le_trans Z1 K4c.1
  obtain ⟨cq11, kq11, q11a, q11b, q11c⟩ := isOf hZ rfl f10
  obtain ⟨_, _, ⟨T11, L11, k11, n11⟩, -, X11, ⟨Lc11, hQ11, l11, y11, z11⟩, st11⟩ := X4.virtualBack hx (y := (⟨"com/example/lockstep/lockstep/store/RecordBuffer", "writeLong", "(J)V"⟩ : MethodName)) (z := (⟨"com/example/lockstep/lockstep/store/RecordBuffer", "writeLong", "(J)V"⟩ : MethodName)) hown (mvT hZ (hw _ (List.mem_of_getElem? (i := 12) rfl))) (mvT hZ (hw _ (List.mem_of_getElem? (i := 13) rfl))) (notFace_of_selects (args := #[]) (mvT hZ (hw _ (List.mem_of_getElem? (i := 15) rfl)))) (mvT hZ (hw _ (List.mem_of_getElem? (i := 15) rfl))) (mvT hZ (hw _ (List.mem_of_getElem? (i := 14) rfl))) (by decide) (backOf (W := 0) (rm3 l Z a0 hw [] b1 av b5 zI (0 : Int32) 0 T4.heap n0 Z4 f6 f8 f7 f10 ne9 (rfl) (by decide) ggb5 gg1) hZ (hw _ (List.mem_of_getElem? (i := 16) rfl)) (hw _ (List.mem_of_getElem? (i := 2) rfl)) (by decide) (by decide)) q11a q11c (g := (mkF m 12 #[.val (.long av), .second, .val (.long bv), .second, .val (.int pp), .val (.int vv), .val (.ref b1), .unset, .unset] [(.long av), (.ref b1)])) rfl (by rw [hml]; rfl) (Steps.refl _) (argsL := [(.long av)]) (rest := []) (lenOf pd_4 rfl) rfl (by show 2 * 0 + _ ≤ _; exact Nat.le_of_eq rfl) (hb hby at_12) (fun _ _ => ⟨rfl, rfl, (by decide : 2 + 0 ≤ _), (by decide : 258 + 0 ≤ _)⟩)
  dsimp only [Pt.U, Pt.locs, Pt.cells, Pt.slots] at X11 l11 y11 z11 st11 hQ11
  subst l11 y11 z11
  obtain ⟨rfl, N11q, K11c, f12, f13, f14⟩ := hQ11
  have N11 := Fr.app N4 N11q
  have f15 : Exa Z T11.heap b1 "com/example/lockstep/lockstep/store/RecordBuffer" := f10.keep K11c
  have Z11 : n0 ≤ T11.heap.size := Nat.le_trans Z4 K11c.1
  obtain ⟨cq16, kq16, q16a, q16b, q16c⟩ := isOf hZ rfl f15
  obtain ⟨_, _, ⟨T16, L16, k16, n16⟩, -, X16, ⟨Lc16, hQ16, l16, y16, z16⟩, st16⟩ := X11.virtualBack hx (y := (⟨"com/example/lockstep/lockstep/store/RecordBuffer", "writeLong", "(J)V"⟩ : MethodName)) (z := (⟨"com/example/lockstep/lockstep/store/RecordBuffer", "writeLong", "(J)V"⟩ : MethodName)) hown (mvT hZ (hw _ (List.mem_of_getElem? (i := 12) rfl))) (mvT hZ (hw _ (List.mem_of_getElem? (i := 13) rfl))) (notFace_of_selects (args := #[]) (mvT hZ (hw _ (List.mem_of_getElem? (i := 15) rfl)))) (mvT hZ (hw _ (List.mem_of_getElem? (i := 15) rfl))) (mvT hZ (hw _ (List.mem_of_getElem? (i := 14) rfl))) (by decide) (backOf (W := 0) (rm3 l Z a0 hw [] b1 bv b5 (r6_arr (av.toInt32) (r6_arr (((av.toUInt64 >>> ((32 : Int32) &&& 0x3f).toInt64.toUInt64).toInt64).toInt32) zI 0) (0 + 4)) (((0 : Int32) + (4 : Int32)) + (4 : Int32)) 8 T11.heap n0 Z11 f12 f14 f13 f15 ne9 (rfl) (by decide) ggb5 gg1) hZ (hw _ (List.mem_of_getElem? (i := 16) rfl)) (hw _ (List.mem_of_getElem? (i := 2) rfl)) (by decide) (by decide)) q16a q16c (g := (mkF m 18 #[.val (.long av), .second, .val (.long bv), .second, .val (.int pp), .val (.int vv), .val (.ref b1), .unset, .unset] [(.long bv), (.ref b1)])) rfl (by rw [hml]; rfl) (Steps.refl _) (argsL := [(.long bv)]) (rest := []) (lenOf pd_4 rfl) rfl (by show 2 * 0 + _ ≤ _; exact Nat.le_of_eq rfl) (hb hby at_18) (fun _ _ => ⟨rfl, rfl, (by decide : 2 + 0 ≤ _), (by decide : 258 + 0 ≤ _)⟩)
  dsimp only [Pt.U, Pt.locs, Pt.cells, Pt.slots] at X16 l16 y16 z16 st16 hQ16
  subst l16 y16 z16
  obtain ⟨rfl, N16q, K16c, f17, f18, f19⟩ := hQ16
  have N16 := Fr.app N11 N16q
  have f20 : Exa Z T16.heap b1 "com/example/lockstep/lockstep/store/RecordBuffer" := f15.keep K16c
  have Z16 : n0 ≤ T16.heap.size := Nat.le_trans Z11 K16c.1
  obtain ⟨pn, hpn, hpl⟩ := own_pos pp
  obtain ⟨cq21, kq21, q21a, q21b, q21c⟩ := isOf hZ rfl f20
  obtain ⟨_, _, ⟨T21, L21, k21, n21⟩, -, X21, ⟨Lc21, hQ21, l21, y21, z21⟩, st21⟩ := X16.virtualBack hx (y := (⟨"com/example/lockstep/lockstep/store/RecordBuffer", "putInt", "(II)V"⟩ : MethodName)) (z := (⟨"com/example/lockstep/lockstep/store/RecordBuffer", "putInt", "(II)V"⟩ : MethodName)) hown (mvT hZ (hw _ (List.mem_of_getElem? (i := 34) rfl))) (mvT hZ (hw _ (List.mem_of_getElem? (i := 29) rfl))) (notFace_of_selects (args := #[]) (mvT hZ (hw _ (List.mem_of_getElem? (i := 31) rfl)))) (mvT hZ (hw _ (List.mem_of_getElem? (i := 31) rfl))) (mvT hZ (hw _ (List.mem_of_getElem? (i := 30) rfl))) (by decide) (backOf (W := 0) (rm6 l Z a0 hw [] b1 ((pp &&& (2147483647 : Int32)) % (13 : Int32)) vv b5 (r6_arr (bv.toInt32) (r6_arr (((bv.toUInt64 >>> ((32 : Int32) &&& 0x3f).toInt64.toUInt64).toInt64).toInt32) (r6_arr (av.toInt32) (r6_arr (((av.toUInt64 >>> ((32 : Int32) &&& 0x3f).toInt64.toUInt64).toInt64).toInt32) zI 0) (0 + 4)) 8) (8 + 4)) pn T16.heap n0 Z16 f17 f19 ne9 (hpn) (by omega) ggb5) hZ (hw _ (List.mem_of_getElem? (i := 32) rfl)) (hw _ (List.mem_of_getElem? (i := 2) rfl)) (by decide) (by decide)) q21a q21c (g := (mkF m 37 #[.val (.long av), .second, .val (.long bv), .second, .val (.int pp), .val (.int vv), .val (.ref b1), .val (.int ((pp &&& (2147483647 : Int32)) % (13 : Int32))), .unset] [(.int vv), (.int ((pp &&& (2147483647 : Int32)) % (13 : Int32))), (.ref b1)])) rfl (by rw [hml]; rfl) (Steps.refl _) (argsL := [(.int ((pp &&& (2147483647 : Int32)) % (13 : Int32))), (.int vv)]) (rest := []) (lenOf pd_1 rfl) rfl (by show 2 * 0 + _ ≤ _; exact Nat.le_of_eq rfl) (hb hby at_37) (fun _ _ => ⟨rfl, rfl, (by decide : 2 + 0 ≤ _), (by decide : 258 + 0 ≤ _)⟩)
  dsimp only [Pt.U, Pt.locs, Pt.cells, Pt.slots] at X21 l21 y21 z21 st21 hQ21
  subst l21 y21 z21
  obtain ⟨rfl, N21q, K21c, f22⟩ := hQ21
  have N21 := Fr.app N16 N21q
  have f23 : Exa Z T21.heap b1 "com/example/lockstep/lockstep/store/RecordBuffer" := f20.keep K21c
  have f24 : Fld Z T21.heap b1 "com/example/lockstep/lockstep/store/RecordBuffer" "bytes" "[B" (.ref b5) := f17.keep K21c (ninS ne9 nin0)
  have f25 : Fld Z T21.heap b1 "com/example/lockstep/lockstep/store/RecordBuffer" "size" "I" (.int (((((0 : Int32) + (4 : Int32)) + (4 : Int32)) + (4 : Int32)) + (4 : Int32))) := f18.keep K21c (ninS ne9 nin0)
  have Z21 : n0 ≤ T21.heap.size := Nat.le_trans Z16 K21c.1
  obtain ⟨cq26, kq26, q26a, q26b, q26c⟩ := isOf hZ rfl f23
  obtain ⟨_, _, ⟨T26, L26, k26, n26⟩, -, X26, ⟨Lc26, hQ26, l26, y26, z26⟩, st26⟩ := X21.virtualBack hx (y := (⟨"com/example/lockstep/lockstep/store/RecordBuffer", "bytes", "()[B"⟩ : MethodName)) (z := (⟨"com/example/lockstep/lockstep/store/RecordBuffer", "bytes", "()[B"⟩ : MethodName)) hown (mvT hZ (hw _ (List.mem_of_getElem? (i := 35) rfl))) (mvT hZ (hw _ (List.mem_of_getElem? (i := 36) rfl))) (notFace_of_selects (args := #[]) (mvT hZ (hw _ (List.mem_of_getElem? (i := 38) rfl)))) (mvT hZ (hw _ (List.mem_of_getElem? (i := 38) rfl))) (mvT hZ (hw _ (List.mem_of_getElem? (i := 37) rfl))) (by decide) (backOf (W := 0) (rm7 l Z a0 hw [] b1 b5 T21.heap n0 Z21 f24) hZ (hw _ (List.mem_of_getElem? (i := 39) rfl)) (hw _ (List.mem_of_getElem? (i := 2) rfl)) (by decide) (by decide)) q26a q26c (g := (mkF m 42 #[.val (.long av), .second, .val (.long bv), .second, .val (.int pp), .val (.int vv), .val (.ref b1), .val (.int ((pp &&& (2147483647 : Int32)) % (13 : Int32))), .unset] [(.ref b1)])) rfl (by rw [hml]; rfl) (Steps.refl _) (argsL := []) (rest := []) (lenOf pd_5 rfl) rfl (by show 2 * 0 + _ ≤ _; exact Nat.le_of_eq rfl) (hb hby at_42) (fun _ _ => ⟨rfl, rfl, (by decide : 2 + 0 ≤ _), (by decide : 258 + 0 ≤ _)⟩)
  dsimp only [Pt.U, Pt.locs, Pt.cells, Pt.slots] at X26 l26 y26 z26 st26 hQ26
  subst l26 y26 z26
  obtain ⟨rfl, N26q, e26⟩ := hQ26
  have N26 := Fr.app N21 N26q
  obtain ⟨cq27, kq27, q27a, q27b, q27c⟩ := isOf hZ e26 f23
  obtain ⟨_, _, ⟨T27, L27, k27, n27⟩, -, X27, ⟨Lc27, hQ27, l27, y27, z27⟩, st27⟩ := X26.virtualBack hx (y := (⟨"com/example/lockstep/lockstep/store/RecordBuffer", "size", "()I"⟩ : MethodName)) (z := (⟨"com/example/lockstep/lockstep/store/RecordBuffer", "size", "()I"⟩ : MethodName)) hown (mvT hZ (hw _ (List.mem_of_getElem? (i := 40) rfl))) (mvT hZ (hw _ (List.mem_of_getElem? (i := 41) rfl))) (notFace_of_selects (args := #[]) (mvT hZ (hw _ (List.mem_of_getElem? (i := 43) rfl)))) (mvT hZ (hw _ (List.mem_of_getElem? (i := 43) rfl))) (mvT hZ (hw _ (List.mem_of_getElem? (i := 42) rfl))) (by decide) (backOf (W := 0) (rm8 l Z a0 hw [] b1 (((((0 : Int32) + (4 : Int32)) + (4 : Int32)) + (4 : Int32)) + (4 : Int32)) T21.heap n0 Z21 f25) hZ (hw _ (List.mem_of_getElem? (i := 44) rfl)) (hw _ (List.mem_of_getElem? (i := 2) rfl)) (by decide) (by decide)) q27a q27c (g := (mkF m 49 #[.val (.long av), .second, .val (.long bv), .second, .val (.int pp), .val (.int vv), .val (.ref b1), .val (.int ((pp &&& (2147483647 : Int32)) % (13 : Int32))), .val (.ref b5)] [(.ref b1)])) rfl (by rw [hml]; rfl) (Steps.refl _) (argsL := []) (rest := []) (lenOf pd_6 rfl) rfl (by show 2 * 0 + _ ≤ _; exact Nat.le_of_eq rfl) (hb hby at_49) (fun _ _ => ⟨rfl, e26, (by decide : 2 + 0 ≤ _), (by decide : 258 + 0 ≤ _)⟩)
  dsimp only [Pt.U, Pt.locs, Pt.cells, Pt.slots] at X27 l27 y27 z27 st27 hQ27
  subst l27 y27 z27
  obtain ⟨rfl, N27q, e27⟩ := hQ27
  have N27 := Fr.app N26 N27q
  obtain ⟨cl28, Arcl28, Szcl28⟩ := AF.len f22
  obtain ⟨_, _, ⟨T29, L29, k29, n29⟩, -, X29, ⟨Lc29, hQ29, l29, y29, z29⟩, st29⟩ := Jvm.LawKit.callS X27 hx (y := (⟨"com/example/lockstep/lockstep/store/RecordBufferPutIntPinLaw", "at", "([BJJIII)Z"⟩ : MethodName)) hown (mvT hZ (hw _ (List.mem_of_getElem? (i := 45) rfl))) (mvT hZ (hw _ (List.mem_of_getElem? (i := 46) rfl))) (mvT hZ (hw _ (List.mem_of_getElem? (i := 47) rfl))) (mvT hZ (hw _ (List.mem_of_getElem? (i := 48) rfl))) (by decide) (backOf (W := 0) (rm9 l Z a0 hw [] b5 av bv ((pp &&& (2147483647 : Int32)) % (13 : Int32)) vv (0 : Int32) (r6_arr vv (r6_arr (bv.toInt32) (r6_arr (((bv.toUInt64 >>> ((32 : Int32) &&& 0x3f).toInt64.toUInt64).toInt64).toInt32) (r6_arr (av.toInt32) (r6_arr (((av.toUInt64 >>> ((32 : Int32) &&& 0x3f).toInt64.toUInt64).toInt64).toInt32) zI 0) (0 + 4)) 8) (8 + 4)) pn) 0 T21.heap n0 Z21 f22 (rfl) (by decide)) hZ (hw _ (List.mem_of_getElem? (i := 48) rfl)) (hw _ (List.mem_of_getElem? (i := 47) rfl)) (by decide) (by decide)) (g := (mkF m 78 #[.val (.long av), .second, .val (.long bv), .second, .val (.int pp), .val (.int vv), .val (.ref b1), .val (.int ((pp &&& (2147483647 : Int32)) % (13 : Int32))), .val (.ref b5)] [(.int (0 : Int32)), (.int vv), (.int ((pp &&& (2147483647 : Int32)) % (13 : Int32))), (.long bv), (.long av), (.ref b5)])) rfl (by rw [hml]; rfl) (argsL := [(.ref b5), (.long av), (.long bv), (.int ((pp &&& (2147483647 : Int32)) % (13 : Int32))), (.int vv), (.int (0 : Int32))]) (rest := []) (lenOf pd_7 rfl) rfl (by show 2 * 0 + _ ≤ _; exact Nat.le_of_eq rfl) (hb hby at_78) (fun _ _ => ⟨rfl, e27, (by decide : 2 + 0 ≤ _), (by decide : 258 + 0 ≤ _)⟩)
  dsimp only [Pt.U, Pt.locs, Pt.cells, Pt.slots] at X29 l29 y29 z29 st29 hQ29
  subst l29 y29 z29
  obtain ⟨rfl, N29q, e29⟩ := hQ29
  have N29 := Fr.app N27 N29q
  obtain ⟨_, _, ⟨T30, L30, k30, n30⟩, -, X30, ⟨Lc30, hQ30, l30, y30, z30⟩, st30⟩ := Jvm.LawKit.callS X29 hx (y := (⟨"com/example/lockstep/lockstep/store/RecordBufferPutIntPinLaw", "at", "([BJJIII)Z"⟩ : MethodName)) hown (mvT hZ (hw _ (List.mem_of_getElem? (i := 45) rfl))) (mvT hZ (hw _ (List.mem_of_getElem? (i := 46) rfl))) (mvT hZ (hw _ (List.mem_of_getElem? (i := 47) rfl))) (mvT hZ (hw _ (List.mem_of_getElem? (i := 48) rfl))) (by decide) (backOf (W := 0) (rm9 l Z a0 hw [] b5 av bv ((pp &&& (2147483647 : Int32)) % (13 : Int32)) vv (1 : Int32) (r6_arr vv (r6_arr (bv.toInt32) (r6_arr (((bv.toUInt64 >>> ((32 : Int32) &&& 0x3f).toInt64.toUInt64).toInt64).toInt32) (r6_arr (av.toInt32) (r6_arr (((av.toUInt64 >>> ((32 : Int32) &&& 0x3f).toInt64.toUInt64).toInt64).toInt32) zI 0) (0 + 4)) 8) (8 + 4)) pn) 1 T21.heap n0 Z21 f22 (rfl) (by decide)) hZ (hw _ (List.mem_of_getElem? (i := 48) rfl)) (hw _ (List.mem_of_getElem? (i := 47) rfl)) (by decide) (by decide)) (g := (mkF m 93 #[.val (.long av), .second, .val (.long bv), .second, .val (.int pp), .val (.int vv), .val (.ref b1), .val (.int ((pp &&& (2147483647 : Int32)) % (13 : Int32))), .val (.ref b5)] [(.int (1 : Int32)), (.int vv), (.int ((pp &&& (2147483647 : Int32)) % (13 : Int32))), (.long bv), (.long av), (.ref b5)])) rfl (by rw [hml]; rfl) (argsL := [(.ref b5), (.long av), (.long bv), (.int ((pp &&& (2147483647 : Int32)) % (13 : Int32))), (.int vv), (.int (1 : Int32))]) (rest := []) (lenOf pd_7 rfl) rfl (by show 2 * 0 + _ ≤ _; exact Nat.le_of_eq rfl) (hb hby at_93) (fun _ _ => ⟨rfl, e29, (by decide : 2 + 0 ≤ _), (by decide : 258 + 0 ≤ _)⟩)
  dsimp only [Pt.U, Pt.locs, Pt.cells, Pt.slots] at X30 l30 y30 z30 st30 hQ30
  subst l30 y30 z30
  obtain ⟨rfl, N30q, e30⟩ := hQ30
  have N30 := Fr.app N29 N30q
  obtain ⟨_, _, ⟨T31, L31, k31, n31⟩, -, X31, ⟨Lc31, hQ31, l31, y31, z31⟩, st31⟩ := Jvm.LawKit.callS X30 hx (y := (⟨"com/example/lockstep/lockstep/store/RecordBufferPutIntPinLaw", "at", "([BJJIII)Z"⟩ : MethodName)) hown (mvT hZ (hw _ (List.mem_of_getElem? (i := 45) rfl))) (mvT hZ (hw _ (List.mem_of_getElem? (i := 46) rfl))) (mvT hZ (hw _ (List.mem_of_getElem? (i := 47) rfl))) (mvT hZ (hw _ (List.mem_of_getElem? (i := 48) rfl))) (by decide) (backOf (W := 0) (rm9 l Z a0 hw [] b5 av bv ((pp &&& (2147483647 : Int32)) % (13 : Int32)) vv (2 : Int32) (r6_arr vv (r6_arr (bv.toInt32) (r6_arr (((bv.toUInt64 >>> ((32 : Int32) &&& 0x3f).toInt64.toUInt64).toInt64).toInt32) (r6_arr (av.toInt32) (r6_arr (((av.toUInt64 >>> ((32 : Int32) &&& 0x3f).toInt64.toUInt64).toInt64).toInt32) zI 0) (0 + 4)) 8) (8 + 4)) pn) 2 T21.heap n0 Z21 f22 (rfl) (by decide)) hZ (hw _ (List.mem_of_getElem? (i := 48) rfl)) (hw _ (List.mem_of_getElem? (i := 47) rfl)) (by decide) (by decide)) (g := (mkF m 108 #[.val (.long av), .second, .val (.long bv), .second, .val (.int pp), .val (.int vv), .val (.ref b1), .val (.int ((pp &&& (2147483647 : Int32)) % (13 : Int32))), .val (.ref b5)] [(.int (2 : Int32)), (.int vv), (.int ((pp &&& (2147483647 : Int32)) % (13 : Int32))), (.long bv), (.long av), (.ref b5)])) rfl (by rw [hml]; rfl) (argsL := [(.ref b5), (.long av), (.long bv), (.int ((pp &&& (2147483647 : Int32)) % (13 : Int32))), (.int vv), (.int (2 : Int32))]) (rest := []) (lenOf pd_7 rfl) rfl (by show 2 * 0 + _ ≤ _; exact Nat.le_of_eq rfl) (hb hby at_108) (fun _ _ => ⟨rfl, e30, (by decide : 2 + 0 ≤ _), (by decide : 258 + 0 ≤ _)⟩)
  dsimp only [Pt.U, Pt.locs, Pt.cells, Pt.slots] at X31 l31 y31 z31 st31 hQ31
  subst l31 y31 z31
  obtain ⟨rfl, N31q, e31⟩ := hQ31
  have N31 := Fr.app N30 N31q
  obtain ⟨_, _, ⟨T32, L32, k32, n32⟩, -, X32, ⟨Lc32, hQ32, l32, y32, z32⟩, st32⟩ := Jvm.LawKit.callS X31 hx (y := (⟨"com/example/lockstep/lockstep/store/RecordBufferPutIntPinLaw", "at", "([BJJIII)Z"⟩ : MethodName)) hown (mvT hZ (hw _ (List.mem_of_getElem? (i := 45) rfl))) (mvT hZ (hw _ (List.mem_of_getElem? (i := 46) rfl))) (mvT hZ (hw _ (List.mem_of_getElem? (i := 47) rfl))) (mvT hZ (hw _ (List.mem_of_getElem? (i := 48) rfl))) (by decide) (backOf (W := 0) (rm9 l Z a0 hw [] b5 av bv ((pp &&& (2147483647 : Int32)) % (13 : Int32)) vv (3 : Int32) (r6_arr vv (r6_arr (bv.toInt32) (r6_arr (((bv.toUInt64 >>> ((32 : Int32) &&& 0x3f).toInt64.toUInt64).toInt64).toInt32) (r6_arr (av.toInt32) (r6_arr (((av.toUInt64 >>> ((32 : Int32) &&& 0x3f).toInt64.toUInt64).toInt64).toInt32) zI 0) (0 + 4)) 8) (8 + 4)) pn) 3 T21.heap n0 Z21 f22 (rfl) (by decide)) hZ (hw _ (List.mem_of_getElem? (i := 48) rfl)) (hw _ (List.mem_of_getElem? (i := 47) rfl)) (by decide) (by decide)) (g := (mkF m 123 #[.val (.long av), .second, .val (.long bv), .second, .val (.int pp), .val (.int vv), .val (.ref b1), .val (.int ((pp &&& (2147483647 : Int32)) % (13 : Int32))), .val (.ref b5)] [(.int (3 : Int32)), (.int vv), (.int ((pp &&& (2147483647 : Int32)) % (13 : Int32))), (.long bv), (.long av), (.ref b5)])) rfl (by rw [hml]; rfl) (argsL := [(.ref b5), (.long av), (.long bv), (.int ((pp &&& (2147483647 : Int32)) % (13 : Int32))), (.int vv), (.int (3 : Int32))]) (rest := []) (lenOf pd_7 rfl) rfl (by show 2 * 0 + _ ≤ _; exact Nat.le_of_eq rfl) (hb hby at_123) (fun _ _ => ⟨rfl, e31, (by decide : 2 + 0 ≤ _), (by decide : 258 + 0 ≤ _)⟩)
  dsimp only [Pt.U, Pt.locs, Pt.cells, Pt.slots] at X32 l32 y32 z32 st32 hQ32
  subst l32 y32 z32
  obtain ⟨rfl, N32q, e32⟩ := hQ32
  have N32 := Fr.app N31 N32q
  obtain ⟨_, _, ⟨T33, L33, k33, n33⟩, -, X33, ⟨Lc33, hQ33, l33, y33, z33⟩, st33⟩ := Jvm.LawKit.callS X32 hx (y := (⟨"com/example/lockstep/lockstep/store/RecordBufferPutIntPinLaw", "at", "([BJJIII)Z"⟩ : MethodName)) hown (mvT hZ (hw _ (List.mem_of_getElem? (i := 45) rfl))) (mvT hZ (hw _ (List.mem_of_getElem? (i := 46) rfl))) (mvT hZ (hw _ (List.mem_of_getElem? (i := 47) rfl))) (mvT hZ (hw _ (List.mem_of_getElem? (i := 48) rfl))) (by decide) (backOf (W := 0) (rm9 l Z a0 hw [] b5 av bv ((pp &&& (2147483647 : Int32)) % (13 : Int32)) vv (4 : Int32) (r6_arr vv (r6_arr (bv.toInt32) (r6_arr (((bv.toUInt64 >>> ((32 : Int32) &&& 0x3f).toInt64.toUInt64).toInt64).toInt32) (r6_arr (av.toInt32) (r6_arr (((av.toUInt64 >>> ((32 : Int32) &&& 0x3f).toInt64.toUInt64).toInt64).toInt32) zI 0) (0 + 4)) 8) (8 + 4)) pn) 4 T21.heap n0 Z21 f22 (rfl) (by decide)) hZ (hw _ (List.mem_of_getElem? (i := 48) rfl)) (hw _ (List.mem_of_getElem? (i := 47) rfl)) (by decide) (by decide)) (g := (mkF m 138 #[.val (.long av), .second, .val (.long bv), .second, .val (.int pp), .val (.int vv), .val (.ref b1), .val (.int ((pp &&& (2147483647 : Int32)) % (13 : Int32))), .val (.ref b5)] [(.int (4 : Int32)), (.int vv), (.int ((pp &&& (2147483647 : Int32)) % (13 : Int32))), (.long bv), (.long av), (.ref b5)])) rfl (by rw [hml]; rfl) (argsL := [(.ref b5), (.long av), (.long bv), (.int ((pp &&& (2147483647 : Int32)) % (13 : Int32))), (.int vv), (.int (4 : Int32))]) (rest := []) (lenOf pd_7 rfl) rfl (by show 2 * 0 + _ ≤ _; exact Nat.le_of_eq rfl) (hb hby at_138) (fun _ _ => ⟨rfl, e32, (by decide : 2 + 0 ≤ _), (by decide : 258 + 0 ≤ _)⟩)
  dsimp only [Pt.U, Pt.locs, Pt.cells, Pt.slots] at X33 l33 y33 z33 st33 hQ33
  subst l33 y33 z33
  obtain ⟨rfl, N33q, e33⟩ := hQ33
  have N33 := Fr.app N32 N33q
  obtain ⟨_, _, ⟨T34, L34, k34, n34⟩, -, X34, ⟨Lc34, hQ34, l34, y34, z34⟩, st34⟩ := Jvm.LawKit.callS X33 hx (y := (⟨"com/example/lockstep/lockstep/store/RecordBufferPutIntPinLaw", "at", "([BJJIII)Z"⟩ : MethodName)) hown (mvT hZ (hw _ (List.mem_of_getElem? (i := 45) rfl))) (mvT hZ (hw _ (List.mem_of_getElem? (i := 46) rfl))) (mvT hZ (hw _ (List.mem_of_getElem? (i := 47) rfl))) (mvT hZ (hw _ (List.mem_of_getElem? (i := 48) rfl))) (by decide) (backOf (W := 0) (rm9 l Z a0 hw [] b5 av bv ((pp &&& (2147483647 : Int32)) % (13 : Int32)) vv (5 : Int32) (r6_arr vv (r6_arr (bv.toInt32) (r6_arr (((bv.toUInt64 >>> ((32 : Int32) &&& 0x3f).toInt64.toUInt64).toInt64).toInt32) (r6_arr (av.toInt32) (r6_arr (((av.toUInt64 >>> ((32 : Int32) &&& 0x3f).toInt64.toUInt64).toInt64).toInt32) zI 0) (0 + 4)) 8) (8 + 4)) pn) 5 T21.heap n0 Z21 f22 (rfl) (by decide)) hZ (hw _ (List.mem_of_getElem? (i := 48) rfl)) (hw _ (List.mem_of_getElem? (i := 47) rfl)) (by decide) (by decide)) (g := (mkF m 153 #[.val (.long av), .second, .val (.long bv), .second, .val (.int pp), .val (.int vv), .val (.ref b1), .val (.int ((pp &&& (2147483647 : Int32)) % (13 : Int32))), .val (.ref b5)] [(.int (5 : Int32)), (.int vv), (.int ((pp &&& (2147483647 : Int32)) % (13 : Int32))), (.long bv), (.long av), (.ref b5)])) rfl (by rw [hml]; rfl) (argsL := [(.ref b5), (.long av), (.long bv), (.int ((pp &&& (2147483647 : Int32)) % (13 : Int32))), (.int vv), (.int (5 : Int32))]) (rest := []) (lenOf pd_7 rfl) rfl (by show 2 * 0 + _ ≤ _; exact Nat.le_of_eq rfl) (hb hby at_153) (fun _ _ => ⟨rfl, e33, (by decide : 2 + 0 ≤ _), (by decide : 258 + 0 ≤ _)⟩)
  dsimp only [Pt.U, Pt.locs, Pt.cells, Pt.slots] at X34 l34 y34 z34 st34 hQ34
  subst l34 y34 z34
  obtain ⟨rfl, N34q, e34⟩ := hQ34
  have N34 := Fr.app N33 N34q
  obtain ⟨_, _, ⟨T35, L35, k35, n35⟩, -, X35, ⟨Lc35, hQ35, l35, y35, z35⟩, st35⟩ := Jvm.LawKit.callS X34 hx (y := (⟨"com/example/lockstep/lockstep/store/RecordBufferPutIntPinLaw", "at", "([BJJIII)Z"⟩ : MethodName)) hown (mvT hZ (hw _ (List.mem_of_getElem? (i := 45) rfl))) (mvT hZ (hw _ (List.mem_of_getElem? (i := 46) rfl))) (mvT hZ (hw _ (List.mem_of_getElem? (i := 47) rfl))) (mvT hZ (hw _ (List.mem_of_getElem? (i := 48) rfl))) (by decide) (backOf (W := 0) (rm9 l Z a0 hw [] b5 av bv ((pp &&& (2147483647 : Int32)) % (13 : Int32)) vv (6 : Int32) (r6_arr vv (r6_arr (bv.toInt32) (r6_arr (((bv.toUInt64 >>> ((32 : Int32) &&& 0x3f).toInt64.toUInt64).toInt64).toInt32) (r6_arr (av.toInt32) (r6_arr (((av.toUInt64 >>> ((32 : Int32) &&& 0x3f).toInt64.toUInt64).toInt64).toInt32) zI 0) (0 + 4)) 8) (8 + 4)) pn) 6 T21.heap n0 Z21 f22 (rfl) (by decide)) hZ (hw _ (List.mem_of_getElem? (i := 48) rfl)) (hw _ (List.mem_of_getElem? (i := 47) rfl)) (by decide) (by decide)) (g := (mkF m 169 #[.val (.long av), .second, .val (.long bv), .second, .val (.int pp), .val (.int vv), .val (.ref b1), .val (.int ((pp &&& (2147483647 : Int32)) % (13 : Int32))), .val (.ref b5)] [(.int (6 : Int32)), (.int vv), (.int ((pp &&& (2147483647 : Int32)) % (13 : Int32))), (.long bv), (.long av), (.ref b5)])) rfl (by rw [hml]; rfl) (argsL := [(.ref b5), (.long av), (.long bv), (.int ((pp &&& (2147483647 : Int32)) % (13 : Int32))), (.int vv), (.int (6 : Int32))]) (rest := []) (lenOf pd_7 rfl) rfl (by show 2 * 0 + _ ≤ _; exact Nat.le_of_eq rfl) (hb hby at_169) (fun _ _ => ⟨rfl, e34, (by decide : 2 + 0 ≤ _), (by decide : 258 + 0 ≤ _)⟩)
  dsimp only [Pt.U, Pt.locs, Pt.cells, Pt.slots] at X35 l35 y35 z35 st35 hQ35
  subst l35 y35 z35
  obtain ⟨rfl, N35q, e35⟩ := hQ35
  have N35 := Fr.app N34 N35q
  obtain ⟨_, _, ⟨T36, L36, k36, n36⟩, -, X36, ⟨Lc36, hQ36, l36, y36, z36⟩, st36⟩ := Jvm.LawKit.callS X35 hx (y := (⟨"com/example/lockstep/lockstep/store/RecordBufferPutIntPinLaw", "at", "([BJJIII)Z"⟩ : MethodName)) hown (mvT hZ (hw _ (List.mem_of_getElem? (i := 45) rfl))) (mvT hZ (hw _ (List.mem_of_getElem? (i := 46) rfl))) (mvT hZ (hw _ (List.mem_of_getElem? (i := 47) rfl))) (mvT hZ (hw _ (List.mem_of_getElem? (i := 48) rfl))) (by decide) (backOf (W := 0) (rm9 l Z a0 hw [] b5 av bv ((pp &&& (2147483647 : Int32)) % (13 : Int32)) vv (7 : Int32) (r6_arr vv (r6_arr (bv.toInt32) (r6_arr (((bv.toUInt64 >>> ((32 : Int32) &&& 0x3f).toInt64.toUInt64).toInt64).toInt32) (r6_arr (av.toInt32) (r6_arr (((av.toUInt64 >>> ((32 : Int32) &&& 0x3f).toInt64.toUInt64).toInt64).toInt32) zI 0) (0 + 4)) 8) (8 + 4)) pn) 7 T21.heap n0 Z21 f22 (rfl) (by decide)) hZ (hw _ (List.mem_of_getElem? (i := 48) rfl)) (hw _ (List.mem_of_getElem? (i := 47) rfl)) (by decide) (by decide)) (g := (mkF m 185 #[.val (.long av), .second, .val (.long bv), .second, .val (.int pp), .val (.int vv), .val (.ref b1), .val (.int ((pp &&& (2147483647 : Int32)) % (13 : Int32))), .val (.ref b5)] [(.int (7 : Int32)), (.int vv), (.int ((pp &&& (2147483647 : Int32)) % (13 : Int32))), (.long bv), (.long av), (.ref b5)])) rfl (by rw [hml]; rfl) (argsL := [(.ref b5), (.long av), (.long bv), (.int ((pp &&& (2147483647 : Int32)) % (13 : Int32))), (.int vv), (.int (7 : Int32))]) (rest := []) (lenOf pd_7 rfl) rfl (by show 2 * 0 + _ ≤ _; exact Nat.le_of_eq rfl) (hb hby at_185) (fun _ _ => ⟨rfl, e35, (by decide : 2 + 0 ≤ _), (by decide : 258 + 0 ≤ _)⟩)
  dsimp only [Pt.U, Pt.locs, Pt.cells, Pt.slots] at X36 l36 y36 z36 st36 hQ36
  subst l36 y36 z36
  obtain ⟨rfl, N36q, e36⟩ := hQ36
  have N36 := Fr.app N35 N36q
  obtain ⟨_, _, ⟨T37, L37, k37, n37⟩, -, X37, ⟨Lc37, hQ37, l37, y37, z37⟩, st37⟩ := Jvm.LawKit.callS X36 hx (y := (⟨"com/example/lockstep/lockstep/store/RecordBufferPutIntPinLaw", "at", "([BJJIII)Z"⟩ : MethodName)) hown (mvT hZ (hw _ (List.mem_of_getElem? (i := 45) rfl))) (mvT hZ (hw _ (List.mem_of_getElem? (i := 46) rfl))) (mvT hZ (hw _ (List.mem_of_getElem? (i := 47) rfl))) (mvT hZ (hw _ (List.mem_of_getElem? (i := 48) rfl))) (by decide) (backOf (W := 0) (rm9 l Z a0 hw [] b5 av bv ((pp &&& (2147483647 : Int32)) % (13 : Int32)) vv (8 : Int32) (r6_arr vv (r6_arr (bv.toInt32) (r6_arr (((bv.toUInt64 >>> ((32 : Int32) &&& 0x3f).toInt64.toUInt64).toInt64).toInt32) (r6_arr (av.toInt32) (r6_arr (((av.toUInt64 >>> ((32 : Int32) &&& 0x3f).toInt64.toUInt64).toInt64).toInt32) zI 0) (0 + 4)) 8) (8 + 4)) pn) 8 T21.heap n0 Z21 f22 (rfl) (by decide)) hZ (hw _ (List.mem_of_getElem? (i := 48) rfl)) (hw _ (List.mem_of_getElem? (i := 47) rfl)) (by decide) (by decide)) (g := (mkF m 201 #[.val (.long av), .second, .val (.long bv), .second, .val (.int pp), .val (.int vv), .val (.ref b1), .val (.int ((pp &&& (2147483647 : Int32)) % (13 : Int32))), .val (.ref b5)] [(.int (8 : Int32)), (.int vv), (.int ((pp &&& (2147483647 : Int32)) % (13 : Int32))), (.long bv), (.long av), (.ref b5)])) rfl (by rw [hml]; rfl) (argsL := [(.ref b5), (.long av), (.long bv), (.int ((pp &&& (2147483647 : Int32)) % (13 : Int32))), (.int vv), (.int (8 : Int32))]) (rest := []) (lenOf pd_7 rfl) rfl (by show 2 * 0 + _ ≤ _; exact Nat.le_of_eq rfl) (hb hby at_201) (fun _ _ => ⟨rfl, e36, (by decide : 2 + 0 ≤ _), (by decide : 258 + 0 ≤ _)⟩)
  dsimp only [Pt.U, Pt.locs, Pt.cells, Pt.slots] at X37 l37 y37 z37 st37 hQ37
  subst l37 y37 z37
  obtain ⟨rfl, N37q, e37⟩ := hQ37
  have N37 := Fr.app N36 N37q
  obtain ⟨_, _, ⟨T38, L38, k38, n38⟩, -, X38, ⟨Lc38, hQ38, l38, y38, z38⟩, st38⟩ := Jvm.LawKit.callS X37 hx (y := (⟨"com/example/lockstep/lockstep/store/RecordBufferPutIntPinLaw", "at", "([BJJIII)Z"⟩ : MethodName)) hown (mvT hZ (hw _ (List.mem_of_getElem? (i := 45) rfl))) (mvT hZ (hw _ (List.mem_of_getElem? (i := 46) rfl))) (mvT hZ (hw _ (List.mem_of_getElem? (i := 47) rfl))) (mvT hZ (hw _ (List.mem_of_getElem? (i := 48) rfl))) (by decide) (backOf (W := 0) (rm9 l Z a0 hw [] b5 av bv ((pp &&& (2147483647 : Int32)) % (13 : Int32)) vv (9 : Int32) (r6_arr vv (r6_arr (bv.toInt32) (r6_arr (((bv.toUInt64 >>> ((32 : Int32) &&& 0x3f).toInt64.toUInt64).toInt64).toInt32) (r6_arr (av.toInt32) (r6_arr (((av.toUInt64 >>> ((32 : Int32) &&& 0x3f).toInt64.toUInt64).toInt64).toInt32) zI 0) (0 + 4)) 8) (8 + 4)) pn) 9 T21.heap n0 Z21 f22 (rfl) (by decide)) hZ (hw _ (List.mem_of_getElem? (i := 48) rfl)) (hw _ (List.mem_of_getElem? (i := 47) rfl)) (by decide) (by decide)) (g := (mkF m 217 #[.val (.long av), .second, .val (.long bv), .second, .val (.int pp), .val (.int vv), .val (.ref b1), .val (.int ((pp &&& (2147483647 : Int32)) % (13 : Int32))), .val (.ref b5)] [(.int (9 : Int32)), (.int vv), (.int ((pp &&& (2147483647 : Int32)) % (13 : Int32))), (.long bv), (.long av), (.ref b5)])) rfl (by rw [hml]; rfl) (argsL := [(.ref b5), (.long av), (.long bv), (.int ((pp &&& (2147483647 : Int32)) % (13 : Int32))), (.int vv), (.int (9 : Int32))]) (rest := []) (lenOf pd_7 rfl) rfl (by show 2 * 0 + _ ≤ _; exact Nat.le_of_eq rfl) (hb hby at_217) (fun _ _ => ⟨rfl, e37, (by decide : 2 + 0 ≤ _), (by decide : 258 + 0 ≤ _)⟩)
  dsimp only [Pt.U, Pt.locs, Pt.cells, Pt.slots] at X38 l38 y38 z38 st38 hQ38
  subst l38 y38 z38
  obtain ⟨rfl, N38q, e38⟩ := hQ38
  have N38 := Fr.app N37 N38q
  obtain ⟨_, _, ⟨T39, L39, k39, n39⟩, -, X39, ⟨Lc39, hQ39, l39, y39, z39⟩, st39⟩ := Jvm.LawKit.callS X38 hx (y := (⟨"com/example/lockstep/lockstep/store/RecordBufferPutIntPinLaw", "at", "([BJJIII)Z"⟩ : MethodName)) hown (mvT hZ (hw _ (List.mem_of_getElem? (i := 45) rfl))) (mvT hZ (hw _ (List.mem_of_getElem? (i := 46) rfl))) (mvT hZ (hw _ (List.mem_of_getElem? (i := 47) rfl))) (mvT hZ (hw _ (List.mem_of_getElem? (i := 48) rfl))) (by decide) (backOf (W := 0) (rm9 l Z a0 hw [] b5 av bv ((pp &&& (2147483647 : Int32)) % (13 : Int32)) vv (10 : Int32) (r6_arr vv (r6_arr (bv.toInt32) (r6_arr (((bv.toUInt64 >>> ((32 : Int32) &&& 0x3f).toInt64.toUInt64).toInt64).toInt32) (r6_arr (av.toInt32) (r6_arr (((av.toUInt64 >>> ((32 : Int32) &&& 0x3f).toInt64.toUInt64).toInt64).toInt32) zI 0) (0 + 4)) 8) (8 + 4)) pn) 10 T21.heap n0 Z21 f22 (rfl) (by decide)) hZ (hw _ (List.mem_of_getElem? (i := 48) rfl)) (hw _ (List.mem_of_getElem? (i := 47) rfl)) (by decide) (by decide)) (g := (mkF m 233 #[.val (.long av), .second, .val (.long bv), .second, .val (.int pp), .val (.int vv), .val (.ref b1), .val (.int ((pp &&& (2147483647 : Int32)) % (13 : Int32))), .val (.ref b5)] [(.int (10 : Int32)), (.int vv), (.int ((pp &&& (2147483647 : Int32)) % (13 : Int32))), (.long bv), (.long av), (.ref b5)])) rfl (by rw [hml]; rfl) (argsL := [(.ref b5), (.long av), (.long bv), (.int ((pp &&& (2147483647 : Int32)) % (13 : Int32))), (.int vv), (.int (10 : Int32))]) (rest := []) (lenOf pd_7 rfl) rfl (by show 2 * 0 + _ ≤ _; exact Nat.le_of_eq rfl) (hb hby at_233) (fun _ _ => ⟨rfl, e38, (by decide : 2 + 0 ≤ _), (by decide : 258 + 0 ≤ _)⟩)
  dsimp only [Pt.U, Pt.locs, Pt.cells, Pt.slots] at X39 l39 y39 z39 st39 hQ39
  subst l39 y39 z39
  obtain ⟨rfl, N39q, e39⟩ := hQ39
  have N39 := Fr.app N38 N39q
  obtain ⟨_, _, ⟨T40, L40, k40, n40⟩, -, X40, ⟨Lc40, hQ40, l40, y40, z40⟩, st40⟩ := Jvm.LawKit.callS X39 hx (y := (⟨"com/example/lockstep/lockstep/store/RecordBufferPutIntPinLaw", "at", "([BJJIII)Z"⟩ : MethodName)) hown (mvT hZ (hw _ (List.mem_of_getElem? (i := 45) rfl))) (mvT hZ (hw _ (List.mem_of_getElem? (i := 46) rfl))) (mvT hZ (hw _ (List.mem_of_getElem? (i := 47) rfl))) (mvT hZ (hw _ (List.mem_of_getElem? (i := 48) rfl))) (by decide) (backOf (W := 0) (rm9 l Z a0 hw [] b5 av bv ((pp &&& (2147483647 : Int32)) % (13 : Int32)) vv (11 : Int32) (r6_arr vv (r6_arr (bv.toInt32) (r6_arr (((bv.toUInt64 >>> ((32 : Int32) &&& 0x3f).toInt64.toUInt64).toInt64).toInt32) (r6_arr (av.toInt32) (r6_arr (((av.toUInt64 >>> ((32 : Int32) &&& 0x3f).toInt64.toUInt64).toInt64).toInt32) zI 0) (0 + 4)) 8) (8 + 4)) pn) 11 T21.heap n0 Z21 f22 (rfl) (by decide)) hZ (hw _ (List.mem_of_getElem? (i := 48) rfl)) (hw _ (List.mem_of_getElem? (i := 47) rfl)) (by decide) (by decide)) (g := (mkF m 249 #[.val (.long av), .second, .val (.long bv), .second, .val (.int pp), .val (.int vv), .val (.ref b1), .val (.int ((pp &&& (2147483647 : Int32)) % (13 : Int32))), .val (.ref b5)] [(.int (11 : Int32)), (.int vv), (.int ((pp &&& (2147483647 : Int32)) % (13 : Int32))), (.long bv), (.long av), (.ref b5)])) rfl (by rw [hml]; rfl) (argsL := [(.ref b5), (.long av), (.long bv), (.int ((pp &&& (2147483647 : Int32)) % (13 : Int32))), (.int vv), (.int (11 : Int32))]) (rest := []) (lenOf pd_7 rfl) rfl (by show 2 * 0 + _ ≤ _; exact Nat.le_of_eq rfl) (hb hby at_249) (fun _ _ => ⟨rfl, e39, (by decide : 2 + 0 ≤ _), (by decide : 258 + 0 ≤ _)⟩)
  dsimp only [Pt.U, Pt.locs, Pt.cells, Pt.slots] at X40 l40 y40 z40 st40 hQ40
  subst l40 y40 z40
  obtain ⟨rfl, N40q, e40⟩ := hQ40
  have N40 := Fr.app N39 N40q
  obtain ⟨_, _, ⟨T41, L41, k41, n41⟩, -, X41, ⟨Lc41, hQ41, l41, y41, z41⟩, st41⟩ := Jvm.LawKit.callS X40 hx (y := (⟨"com/example/lockstep/lockstep/store/RecordBufferPutIntPinLaw", "at", "([BJJIII)Z"⟩ : MethodName)) hown (mvT hZ (hw _ (List.mem_of_getElem? (i := 45) rfl))) (mvT hZ (hw _ (List.mem_of_getElem? (i := 46) rfl))) (mvT hZ (hw _ (List.mem_of_getElem? (i := 47) rfl))) (mvT hZ (hw _ (List.mem_of_getElem? (i := 48) rfl))) (by decide) (backOf (W := 0) (rm9 l Z a0 hw [] b5 av bv ((pp &&& (2147483647 : Int32)) % (13 : Int32)) vv (12 : Int32) (r6_arr vv (r6_arr (bv.toInt32) (r6_arr (((bv.toUInt64 >>> ((32 : Int32) &&& 0x3f).toInt64.toUInt64).toInt64).toInt32) (r6_arr (av.toInt32) (r6_arr (((av.toUInt64 >>> ((32 : Int32) &&& 0x3f).toInt64.toUInt64).toInt64).toInt32) zI 0) (0 + 4)) 8) (8 + 4)) pn) 12 T21.heap n0 Z21 f22 (rfl) (by decide)) hZ (hw _ (List.mem_of_getElem? (i := 48) rfl)) (hw _ (List.mem_of_getElem? (i := 47) rfl)) (by decide) (by decide)) (g := (mkF m 265 #[.val (.long av), .second, .val (.long bv), .second, .val (.int pp), .val (.int vv), .val (.ref b1), .val (.int ((pp &&& (2147483647 : Int32)) % (13 : Int32))), .val (.ref b5)] [(.int (12 : Int32)), (.int vv), (.int ((pp &&& (2147483647 : Int32)) % (13 : Int32))), (.long bv), (.long av), (.ref b5)])) rfl (by rw [hml]; rfl) (argsL := [(.ref b5), (.long av), (.long bv), (.int ((pp &&& (2147483647 : Int32)) % (13 : Int32))), (.int vv), (.int (12 : Int32))]) (rest := []) (lenOf pd_7 rfl) rfl (by show 2 * 0 + _ ≤ _; exact Nat.le_of_eq rfl) (hb hby at_265) (fun _ _ => ⟨rfl, e40, (by decide : 2 + 0 ≤ _), (by decide : 258 + 0 ≤ _)⟩)
  dsimp only [Pt.U, Pt.locs, Pt.cells, Pt.slots] at X41 l41 y41 z41 st41 hQ41
  subst l41 y41 z41
  obtain ⟨rfl, N41q, e41⟩ := hQ41
  have N41 := Fr.app N40 N41q
  obtain ⟨_, _, ⟨T42, L42, k42, n42⟩, -, X42, ⟨Lc42, hQ42, l42, y42, z42⟩, st42⟩ := Jvm.LawKit.callS X41 hx (y := (⟨"com/example/lockstep/lockstep/store/RecordBufferPutIntPinLaw", "at", "([BJJIII)Z"⟩ : MethodName)) hown (mvT hZ (hw _ (List.mem_of_getElem? (i := 45) rfl))) (mvT hZ (hw _ (List.mem_of_getElem? (i := 46) rfl))) (mvT hZ (hw _ (List.mem_of_getElem? (i := 47) rfl))) (mvT hZ (hw _ (List.mem_of_getElem? (i := 48) rfl))) (by decide) (backOf (W := 0) (rm9 l Z a0 hw [] b5 av bv ((pp &&& (2147483647 : Int32)) % (13 : Int32)) vv (13 : Int32) (r6_arr vv (r6_arr (bv.toInt32) (r6_arr (((bv.toUInt64 >>> ((32 : Int32) &&& 0x3f).toInt64.toUInt64).toInt64).toInt32) (r6_arr (av.toInt32) (r6_arr (((av.toUInt64 >>> ((32 : Int32) &&& 0x3f).toInt64.toUInt64).toInt64).toInt32) zI 0) (0 + 4)) 8) (8 + 4)) pn) 13 T21.heap n0 Z21 f22 (rfl) (by decide)) hZ (hw _ (List.mem_of_getElem? (i := 48) rfl)) (hw _ (List.mem_of_getElem? (i := 47) rfl)) (by decide) (by decide)) (g := (mkF m 281 #[.val (.long av), .second, .val (.long bv), .second, .val (.int pp), .val (.int vv), .val (.ref b1), .val (.int ((pp &&& (2147483647 : Int32)) % (13 : Int32))), .val (.ref b5)] [(.int (13 : Int32)), (.int vv), (.int ((pp &&& (2147483647 : Int32)) % (13 : Int32))), (.long bv), (.long av), (.ref b5)])) rfl (by rw [hml]; rfl) (argsL := [(.ref b5), (.long av), (.long bv), (.int ((pp &&& (2147483647 : Int32)) % (13 : Int32))), (.int vv), (.int (13 : Int32))]) (rest := []) (lenOf pd_7 rfl) rfl (by show 2 * 0 + _ ≤ _; exact Nat.le_of_eq rfl) (hb hby at_281) (fun _ _ => ⟨rfl, e41, (by decide : 2 + 0 ≤ _), (by decide : 258 + 0 ≤ _)⟩)
  dsimp only [Pt.U, Pt.locs, Pt.cells, Pt.slots] at X42 l42 y42 z42 st42 hQ42
  subst l42 y42 z42
  obtain ⟨rfl, N42q, e42⟩ := hQ42
  have N42 := Fr.app N41 N42q
  obtain ⟨_, _, ⟨T43, L43, k43, n43⟩, -, X43, ⟨Lc43, hQ43, l43, y43, z43⟩, st43⟩ := Jvm.LawKit.callS X42 hx (y := (⟨"com/example/lockstep/lockstep/store/RecordBufferPutIntPinLaw", "at", "([BJJIII)Z"⟩ : MethodName)) hown (mvT hZ (hw _ (List.mem_of_getElem? (i := 45) rfl))) (mvT hZ (hw _ (List.mem_of_getElem? (i := 46) rfl))) (mvT hZ (hw _ (List.mem_of_getElem? (i := 47) rfl))) (mvT hZ (hw _ (List.mem_of_getElem? (i := 48) rfl))) (by decide) (backOf (W := 0) (rm9 l Z a0 hw [] b5 av bv ((pp &&& (2147483647 : Int32)) % (13 : Int32)) vv (14 : Int32) (r6_arr vv (r6_arr (bv.toInt32) (r6_arr (((bv.toUInt64 >>> ((32 : Int32) &&& 0x3f).toInt64.toUInt64).toInt64).toInt32) (r6_arr (av.toInt32) (r6_arr (((av.toUInt64 >>> ((32 : Int32) &&& 0x3f).toInt64.toUInt64).toInt64).toInt32) zI 0) (0 + 4)) 8) (8 + 4)) pn) 14 T21.heap n0 Z21 f22 (rfl) (by decide)) hZ (hw _ (List.mem_of_getElem? (i := 48) rfl)) (hw _ (List.mem_of_getElem? (i := 47) rfl)) (by decide) (by decide)) (g := (mkF m 297 #[.val (.long av), .second, .val (.long bv), .second, .val (.int pp), .val (.int vv), .val (.ref b1), .val (.int ((pp &&& (2147483647 : Int32)) % (13 : Int32))), .val (.ref b5)] [(.int (14 : Int32)), (.int vv), (.int ((pp &&& (2147483647 : Int32)) % (13 : Int32))), (.long bv), (.long av), (.ref b5)])) rfl (by rw [hml]; rfl) (argsL := [(.ref b5), (.long av), (.long bv), (.int ((pp &&& (2147483647 : Int32)) % (13 : Int32))), (.int vv), (.int (14 : Int32))]) (rest := []) (lenOf pd_7 rfl) rfl (by show 2 * 0 + _ ≤ _; exact Nat.le_of_eq rfl) (hb hby at_297) (fun _ _ => ⟨rfl, e42, (by decide : 2 + 0 ≤ _), (by decide : 258 + 0 ≤ _)⟩)
  dsimp only [Pt.U, Pt.locs, Pt.cells, Pt.slots] at X43 l43 y43 z43 st43 hQ43
  subst l43 y43 z43
  obtain ⟨rfl, N43q, e43⟩ := hQ43
  have N43 := Fr.app N42 N43q
  obtain ⟨_, _, ⟨T44, L44, k44, n44⟩, -, X44, ⟨Lc44, hQ44, l44, y44, z44⟩, st44⟩ := Jvm.LawKit.callS X43 hx (y := (⟨"com/example/lockstep/lockstep/store/RecordBufferPutIntPinLaw", "at", "([BJJIII)Z"⟩ : MethodName)) hown (mvT hZ (hw _ (List.mem_of_getElem? (i := 45) rfl))) (mvT hZ (hw _ (List.mem_of_getElem? (i := 46) rfl))) (mvT hZ (hw _ (List.mem_of_getElem? (i := 47) rfl))) (mvT hZ (hw _ (List.mem_of_getElem? (i := 48) rfl))) (by decide) (backOf (W := 0) (rm9 l Z a0 hw [] b5 av bv ((pp &&& (2147483647 : Int32)) % (13 : Int32)) vv (15 : Int32) (r6_arr vv (r6_arr (bv.toInt32) (r6_arr (((bv.toUInt64 >>> ((32 : Int32) &&& 0x3f).toInt64.toUInt64).toInt64).toInt32) (r6_arr (av.toInt32) (r6_arr (((av.toUInt64 >>> ((32 : Int32) &&& 0x3f).toInt64.toUInt64).toInt64).toInt32) zI 0) (0 + 4)) 8) (8 + 4)) pn) 15 T21.heap n0 Z21 f22 (rfl) (by decide)) hZ (hw _ (List.mem_of_getElem? (i := 48) rfl)) (hw _ (List.mem_of_getElem? (i := 47) rfl)) (by decide) (by decide)) (g := (mkF m 313 #[.val (.long av), .second, .val (.long bv), .second, .val (.int pp), .val (.int vv), .val (.ref b1), .val (.int ((pp &&& (2147483647 : Int32)) % (13 : Int32))), .val (.ref b5)] [(.int (15 : Int32)), (.int vv), (.int ((pp &&& (2147483647 : Int32)) % (13 : Int32))), (.long bv), (.long av), (.ref b5)])) rfl (by rw [hml]; rfl) (argsL := [(.ref b5), (.long av), (.long bv), (.int ((pp &&& (2147483647 : Int32)) % (13 : Int32))), (.int vv), (.int (15 : Int32))]) (rest := []) (lenOf pd_7 rfl) rfl (by show 2 * 0 + _ ≤ _; exact Nat.le_of_eq rfl) (hb hby at_313) (fun _ _ => ⟨rfl, e43, (by decide : 2 + 0 ≤ _), (by decide : 258 + 0 ≤ _)⟩)
  dsimp only [Pt.U, Pt.locs, Pt.cells, Pt.slots] at X44 l44 y44 z44 st44 hQ44
  subst l44 y44 z44
  obtain ⟨rfl, N44q, e44⟩ := hQ44
  have N44 := Fr.app N43 N44q
  obtain ⟨cl45, Arcl45, hincl45, hatcl45⟩ := AF.at f22 (j := (16 : Int32)) 16 (by decide) (by decide)
  obtain ⟨fs, hr, hrun, hended, hW, hsame⟩ := X44.leave (v := some (.int (1 : Int32))) (fun h => by rw [Bd.returns] at h; cases h)
  refine ⟨_, _, pre0 _ ?_, hrun, hended, _, _, rfl, ?_, ⟨_, rfl⟩, hW, hsame.mono (by decide) (by decide)⟩
  · show Steps p.tables e below (s₁.setTop (mkF m 0 #[.val (.long av), .second, .val (.long bv), .second, .val (.int pp), .val (.int vv), .unset, .unset, .unset] [])) _
    refine st1 _ ?_
    show Steps p.tables e below (T1.setTop (mkF m 3 #[.val (.long av), .second, .val (.long bv), .second, .val (.int pp), .val (.int vv), .unset, .unset, .unset] [(.ref b1)])) _
    refine XS.dup X1.here hx rfl (hb hby at_3) rfl rfl ?_
    show Steps p.tables e below (T1.setTop (mkF m 4 #[.val (.long av), .second, .val (.long bv), .second, .val (.int pp), .val (.int vv), .unset, .unset, .unset] [(.ref b1), (.ref b1)])) _
    refine st4.trans ?_
    show Steps p.tables e below (T4.setTop (mkF m 7 #[.val (.long av), .second, .val (.long bv), .second, .val (.int pp), .val (.int vv), .unset, .unset, .unset] [(.ref b1)])) _
    refine XS.astore X4.here hx rfl (hb hby at_7) rfl rfl (l' := #[.val (.long av), .second, .val (.long bv), .second, .val (.int pp), .val (.int vv), .val (.ref b1), .unset, .unset]) rfl ?_
    show Steps p.tables e below (T4.setTop (mkF m 9 #[.val (.long av), .second, .val (.long bv), .second, .val (.int pp), .val (.int vv), .val (.ref b1), .unset, .unset] [])) _
    refine XS.aload X4.here hx rfl (hb hby at_9) rfl rfl ?_
    show Steps p.tables e below (T4.setTop (mkF m 11 #[.val (.long av), .second, .val (.long bv), .second, .val (.int pp), .val (.int vv), .val (.ref b1), .unset, .unset] [(.ref b1)])) _
    refine XS.lloadN X4.here hx rfl (hb hby at_11) rfl ?_
    show Steps p.tables e below (T4.setTop (mkF m 12 #[.val (.long av), .second, .val (.long bv), .second, .val (.int pp), .val (.int vv), .val (.ref b1), .unset, .unset] [(.long av), (.ref b1)])) _
    refine st11.trans ?_
    show Steps p.tables e below (T11.setTop (mkF m 15 #[.val (.long av), .second, .val (.long bv), .second, .val (.int pp), .val (.int vv), .val (.ref b1), .unset, .unset] [])) _
    refine XS.aload X11.here hx rfl (hb hby at_15) rfl rfl ?_
    show Steps p.tables e below (T11.setTop (mkF m 17 #[.val (.long av), .second, .val (.long bv), .second, .val (.int pp), .val (.int vv), .val (.ref b1), .unset, .unset] [(.ref b1)])) _
    refine XS.lloadN X11.here hx rfl (hb hby at_17) rfl ?_
    show Steps p.tables e below (T11.setTop (mkF m 18 #[.val (.long av), .second, .val (.long bv), .second, .val (.int pp), .val (.int vv), .val (.ref b1), .unset, .unset] [(.long bv), (.ref b1)])) _
    refine st16.trans ?_
    show Steps p.tables e below (T16.setTop (mkF m 21 #[.val (.long av), .second, .val (.long bv), .second, .val (.int pp), .val (.int vv), .val (.ref b1), .unset, .unset] [])) _
    refine XS.iload X16.here hx rfl (hb hby at_21) rfl ?_
    show Steps p.tables e below (T16.setTop (mkF m 23 #[.val (.long av), .second, .val (.long bv), .second, .val (.int pp), .val (.int vv), .val (.ref b1), .unset, .unset] [(.int pp)])) _
    refine X16.ldcInt hx hown (mvT hZ (hw _ (List.mem_of_getElem? (i := 33) rfl))) (g := (mkF m 23 #[.val (.long av), .second, .val (.long bv), .second, .val (.int pp), .val (.int vv), .val (.ref b1), .unset, .unset] [(.int pp)])) rfl (hb hby at_23) _ ?_
    show Steps p.tables e below (T16.setTop (mkF m 25 #[.val (.long av), .second, .val (.long bv), .second, .val (.int pp), .val (.int vv), .val (.ref b1), .unset, .unset] [(.int (2147483647 : Int32)), (.int pp)])) _
    refine XS.iand X16.here hx rfl (hb hby at_25) rfl ?_
    show Steps p.tables e below (T16.setTop (mkF m 26 #[.val (.long av), .second, .val (.long bv), .second, .val (.int pp), .val (.int vv), .val (.ref b1), .unset, .unset] [(.int (pp &&& (2147483647 : Int32)))])) _
    refine XS.bipush X16.here hx rfl (hb hby at_26) ?_
    show Steps p.tables e below (T16.setTop (mkF m 28 #[.val (.long av), .second, .val (.long bv), .second, .val (.int pp), .val (.int vv), .val (.ref b1), .unset, .unset] [(.int (13 : Int32)), (.int (pp &&& (2147483647 : Int32)))])) _
    refine iremM X16 hx rfl (hb hby at_28) rfl (by decide) ?_
    show Steps p.tables e below (T16.setTop (mkF m 29 #[.val (.long av), .second, .val (.long bv), .second, .val (.int pp), .val (.int vv), .val (.ref b1), .unset, .unset] [(.int ((pp &&& (2147483647 : Int32)) % (13 : Int32)))])) _
    refine XS.istore X16.here hx rfl (hb hby at_29) rfl (l' := #[.val (.long av), .second, .val (.long bv), .second, .val (.int pp), .val (.int vv), .val (.ref b1), .val (.int ((pp &&& (2147483647 : Int32)) % (13 : Int32))), .unset]) rfl ?_
    show Steps p.tables e below (T16.setTop (mkF m 31 #[.val (.long av), .second, .val (.long bv), .second, .val (.int pp), .val (.int vv), .val (.ref b1), .val (.int ((pp &&& (2147483647 : Int32)) % (13 : Int32))), .unset] [])) _
    refine XS.aload X16.here hx rfl (hb hby at_31) rfl rfl ?_
    show Steps p.tables e below (T16.setTop (mkF m 33 #[.val (.long av), .second, .val (.long bv), .second, .val (.int pp), .val (.int vv), .val (.ref b1), .val (.int ((pp &&& (2147483647 : Int32)) % (13 : Int32))), .unset] [(.ref b1)])) _
    refine XS.iload X16.here hx rfl (hb hby at_33) rfl ?_
    show Steps p.tables e below (T16.setTop (mkF m 35 #[.val (.long av), .second, .val (.long bv), .second, .val (.int pp), .val (.int vv), .val (.ref b1), .val (.int ((pp &&& (2147483647 : Int32)) % (13 : Int32))), .unset] [(.int ((pp &&& (2147483647 : Int32)) % (13 : Int32))), (.ref b1)])) _
    refine XS.iload X16.here hx rfl (hb hby at_35) rfl ?_
    show Steps p.tables e below (T16.setTop (mkF m 37 #[.val (.long av), .second, .val (.long bv), .second, .val (.int pp), .val (.int vv), .val (.ref b1), .val (.int ((pp &&& (2147483647 : Int32)) % (13 : Int32))), .unset] [(.int vv), (.int ((pp &&& (2147483647 : Int32)) % (13 : Int32))), (.ref b1)])) _
    refine st21.trans ?_
    show Steps p.tables e below (T21.setTop (mkF m 40 #[.val (.long av), .second, .val (.long bv), .second, .val (.int pp), .val (.int vv), .val (.ref b1), .val (.int ((pp &&& (2147483647 : Int32)) % (13 : Int32))), .unset] [])) _
    refine XS.aload X21.here hx rfl (hb hby at_40) rfl rfl ?_
    show Steps p.tables e below (T21.setTop (mkF m 42 #[.val (.long av), .second, .val (.long bv), .second, .val (.int pp), .val (.int vv), .val (.ref b1), .val (.int ((pp &&& (2147483647 : Int32)) % (13 : Int32))), .unset] [(.ref b1)])) _
    refine st26.trans ?_
    show Steps p.tables e below (T26.setTop (mkF m 45 #[.val (.long av), .second, .val (.long bv), .second, .val (.int pp), .val (.int vv), .val (.ref b1), .val (.int ((pp &&& (2147483647 : Int32)) % (13 : Int32))), .unset] [(.ref b5)])) _
    refine XS.astore X26.here hx rfl (hb hby at_45) rfl rfl (l' := #[.val (.long av), .second, .val (.long bv), .second, .val (.int pp), .val (.int vv), .val (.ref b1), .val (.int ((pp &&& (2147483647 : Int32)) % (13 : Int32))), .val (.ref b5)]) rfl ?_
    show Steps p.tables e below (T26.setTop (mkF m 47 #[.val (.long av), .second, .val (.long bv), .second, .val (.int pp), .val (.int vv), .val (.ref b1), .val (.int ((pp &&& (2147483647 : Int32)) % (13 : Int32))), .val (.ref b5)] [])) _
    refine XS.aload X26.here hx rfl (hb hby at_47) rfl rfl ?_
    show Steps p.tables e below (T26.setTop (mkF m 49 #[.val (.long av), .second, .val (.long bv), .second, .val (.int pp), .val (.int vv), .val (.ref b1), .val (.int ((pp &&& (2147483647 : Int32)) % (13 : Int32))), .val (.ref b5)] [(.ref b1)])) _
    refine st27.trans ?_
    show Steps p.tables e below (T27.setTop (mkF m 52 #[.val (.long av), .second, .val (.long bv), .second, .val (.int pp), .val (.int vv), .val (.ref b1), .val (.int ((pp &&& (2147483647 : Int32)) % (13 : Int32))), .val (.ref b5)] [(.int (((((0 : Int32) + (4 : Int32)) + (4 : Int32)) + (4 : Int32)) + (4 : Int32)))])) _
    refine XS.bipush X27.here hx rfl (hb hby at_52) ?_
    show Steps p.tables e below (T27.setTop (mkF m 54 #[.val (.long av), .second, .val (.long bv), .second, .val (.int pp), .val (.int vv), .val (.ref b1), .val (.int ((pp &&& (2147483647 : Int32)) % (13 : Int32))), .val (.ref b5)] [(.int (16 : Int32)), (.int (((((0 : Int32) + (4 : Int32)) + (4 : Int32)) + (4 : Int32)) + (4 : Int32)))])) _
    refine XS.icmpYes X27.here hx rfl (pc0 := 54) (pc' := 59) rfl (hb hby at_54) rfl (teq (by decide : ((((((0 : Int32) + (4 : Int32)) + (4 : Int32)) + (4 : Int32)) + (4 : Int32)) = (16 : Int32)))).1 (by decide) (by decide) ?_
    show Steps p.tables e below (T27.setTop (mkF m 59 #[.val (.long av), .second, .val (.long bv), .second, .val (.int pp), .val (.int vv), .val (.ref b1), .val (.int ((pp &&& (2147483647 : Int32)) % (13 : Int32))), .val (.ref b5)] [])) _
    refine XS.aload X27.here hx rfl (hb hby at_59) rfl rfl ?_
    show Steps p.tables e below (T27.setTop (mkF m 61 #[.val (.long av), .second, .val (.long bv), .second, .val (.int pp), .val (.int vv), .val (.ref b1), .val (.int ((pp &&& (2147483647 : Int32)) % (13 : Int32))), .val (.ref b5)] [(.ref b5)])) _
    refine X27.arraylength hx (by rw [e27]; exact Arcl28.1) (State.isArrayOf_alike hZ.alike Arcl28.2.1) (g := (mkF m 61 #[.val (.long av), .second, .val (.long bv), .second, .val (.int pp), .val (.int vv), .val (.ref b1), .val (.int ((pp &&& (2147483647 : Int32)) % (13 : Int32))), .val (.ref b5)] [(.ref b5)])) rfl rfl (hb hby at_61) _ ?_
    rw [Szcl28]
    show Steps p.tables e below (T27.setTop (mkF m 62 #[.val (.long av), .second, .val (.long bv), .second, .val (.int pp), .val (.int vv), .val (.ref b1), .val (.int ((pp &&& (2147483647 : Int32)) % (13 : Int32))), .val (.ref b5)] [(.int (256 : Int32))])) _
    refine XS.bipush X27.here hx rfl (hb hby at_62) ?_
    show Steps p.tables e below (T27.setTop (mkF m 64 #[.val (.long av), .second, .val (.long bv), .second, .val (.int pp), .val (.int vv), .val (.ref b1), .val (.int ((pp &&& (2147483647 : Int32)) % (13 : Int32))), .val (.ref b5)] [(.int (17 : Int32)), (.int (256 : Int32))])) _
    refine XS.icmpYes X27.here hx rfl (pc0 := 64) (pc' := 69) rfl (hb hby at_64) rfl (flt (by decide : ¬ ((256 : Int32) < (17 : Int32)))).2.1 (by decide) (by decide) ?_
    show Steps p.tables e below (T27.setTop (mkF m 69 #[.val (.long av), .second, .val (.long bv), .second, .val (.int pp), .val (.int vv), .val (.ref b1), .val (.int ((pp &&& (2147483647 : Int32)) % (13 : Int32))), .val (.ref b5)] [])) _
    refine XS.aload X27.here hx rfl (hb hby at_69) rfl rfl ?_
    show Steps p.tables e below (T27.setTop (mkF m 71 #[.val (.long av), .second, .val (.long bv), .second, .val (.int pp), .val (.int vv), .val (.ref b1), .val (.int ((pp &&& (2147483647 : Int32)) % (13 : Int32))), .val (.ref b5)] [(.ref b5)])) _
    refine XS.lloadN X27.here hx rfl (hb hby at_71) rfl ?_
    show Steps p.tables e below (T27.setTop (mkF m 72 #[.val (.long av), .second, .val (.long bv), .second, .val (.int pp), .val (.int vv), .val (.ref b1), .val (.int ((pp &&& (2147483647 : Int32)) % (13 : Int32))), .val (.ref b5)] [(.long av), (.ref b5)])) _
    refine XS.lloadN X27.here hx rfl (hb hby at_72) rfl ?_
    show Steps p.tables e below (T27.setTop (mkF m 73 #[.val (.long av), .second, .val (.long bv), .second, .val (.int pp), .val (.int vv), .val (.ref b1), .val (.int ((pp &&& (2147483647 : Int32)) % (13 : Int32))), .val (.ref b5)] [(.long bv), (.long av), (.ref b5)])) _
    refine XS.iload X27.here hx rfl (hb hby at_73) rfl ?_
    show Steps p.tables e below (T27.setTop (mkF m 75 #[.val (.long av), .second, .val (.long bv), .second, .val (.int pp), .val (.int vv), .val (.ref b1), .val (.int ((pp &&& (2147483647 : Int32)) % (13 : Int32))), .val (.ref b5)] [(.int ((pp &&& (2147483647 : Int32)) % (13 : Int32))), (.long bv), (.long av), (.ref b5)])) _
    refine XS.iload X27.here hx rfl (hb hby at_75) rfl ?_
    show Steps p.tables e below (T27.setTop (mkF m 77 #[.val (.long av), .second, .val (.long bv), .second, .val (.int pp), .val (.int vv), .val (.ref b1), .val (.int ((pp &&& (2147483647 : Int32)) % (13 : Int32))), .val (.ref b5)] [(.int vv), (.int ((pp &&& (2147483647 : Int32)) % (13 : Int32))), (.long bv), (.long av), (.ref b5)])) _
    refine XS.iconst X27.here hx rfl (hb hby at_77) ?_
    show Steps p.tables e below (T27.setTop (mkF m 78 #[.val (.long av), .second, .val (.long bv), .second, .val (.int pp), .val (.int vv), .val (.ref b1), .val (.int ((pp &&& (2147483647 : Int32)) % (13 : Int32))), .val (.ref b5)] [(.int (0 : Int32)), (.int vv), (.int ((pp &&& (2147483647 : Int32)) % (13 : Int32))), (.long bv), (.long av), (.ref b5)])) _
    refine st29 _ ?_
    show Steps p.tables e below (T29.setTop (mkF m 81 #[.val (.long av), .second, .val (.long bv), .second, .val (.int pp), .val (.int vv), .val (.ref b1), .val (.int ((pp &&& (2147483647 : Int32)) % (13 : Int32))), .val (.ref b5)] [(.int (r9_v av bv ((pp &&& (2147483647 : Int32)) % (13 : Int32)) vv (0 : Int32) (r6_arr vv (r6_arr (bv.toInt32) (r6_arr (((bv.toUInt64 >>> ((32 : Int32) &&& 0x3f).toInt64.toUInt64).toInt64).toInt32) (r6_arr (av.toInt32) (r6_arr (((av.toUInt64 >>> ((32 : Int32) &&& 0x3f).toInt64.toUInt64).toInt64).toInt32) zI 0) (0 + 4)) 8) (8 + 4)) pn) 0))])) _
    refine XS.ifNo X29.here hx rfl (hb hby at_81) rfl ((if0 _ _).trans (feq (own_at0 av bv pp vv pn hpn hpl : ¬ ((r9_v av bv ((pp &&& (2147483647 : Int32)) % (13 : Int32)) vv (0 : Int32) (r6_arr vv (r6_arr (bv.toInt32) (r6_arr (((bv.toUInt64 >>> ((32 : Int32) &&& 0x3f).toInt64.toUInt64).toInt64).toInt32) (r6_arr (av.toInt32) (r6_arr (((av.toUInt64 >>> ((32 : Int32) &&& 0x3f).toInt64.toUInt64).toInt64).toInt32) zI 0) (0 + 4)) 8) (8 + 4)) pn) 0) = (0 : Int32)))).1) ?_
    show Steps p.tables e below (T29.setTop (mkF m 84 #[.val (.long av), .second, .val (.long bv), .second, .val (.int pp), .val (.int vv), .val (.ref b1), .val (.int ((pp &&& (2147483647 : Int32)) % (13 : Int32))), .val (.ref b5)] [])) _
    refine XS.aload X29.here hx rfl (hb hby at_84) rfl rfl ?_
    show Steps p.tables e below (T29.setTop (mkF m 86 #[.val (.long av), .second, .val (.long bv), .second, .val (.int pp), .val (.int vv), .val (.ref b1), .val (.int ((pp &&& (2147483647 : Int32)) % (13 : Int32))), .val (.ref b5)] [(.ref b5)])) _
    refine XS.lloadN X29.here hx rfl (hb hby at_86) rfl ?_
    show Steps p.tables e below (T29.setTop (mkF m 87 #[.val (.long av), .second, .val (.long bv), .second, .val (.int pp), .val (.int vv), .val (.ref b1), .val (.int ((pp &&& (2147483647 : Int32)) % (13 : Int32))), .val (.ref b5)] [(.long av), (.ref b5)])) _
    refine XS.lloadN X29.here hx rfl (hb hby at_87) rfl ?_
    show Steps p.tables e below (T29.setTop (mkF m 88 #[.val (.long av), .second, .val (.long bv), .second, .val (.int pp), .val (.int vv), .val (.ref b1), .val (.int ((pp &&& (2147483647 : Int32)) % (13 : Int32))), .val (.ref b5)] [(.long bv), (.long av), (.ref b5)])) _
    refine XS.iload X29.here hx rfl (hb hby at_88) rfl ?_
    show Steps p.tables e below (T29.setTop (mkF m 90 #[.val (.long av), .second, .val (.long bv), .second, .val (.int pp), .val (.int vv), .val (.ref b1), .val (.int ((pp &&& (2147483647 : Int32)) % (13 : Int32))), .val (.ref b5)] [(.int ((pp &&& (2147483647 : Int32)) % (13 : Int32))), (.long bv), (.long av), (.ref b5)])) _
    refine XS.iload X29.here hx rfl (hb hby at_90) rfl ?_
    show Steps p.tables e below (T29.setTop (mkF m 92 #[.val (.long av), .second, .val (.long bv), .second, .val (.int pp), .val (.int vv), .val (.ref b1), .val (.int ((pp &&& (2147483647 : Int32)) % (13 : Int32))), .val (.ref b5)] [(.int vv), (.int ((pp &&& (2147483647 : Int32)) % (13 : Int32))), (.long bv), (.long av), (.ref b5)])) _
    refine XS.iconst X29.here hx rfl (hb hby at_92) ?_
    show Steps p.tables e below (T29.setTop (mkF m 93 #[.val (.long av), .second, .val (.long bv), .second, .val (.int pp), .val (.int vv), .val (.ref b1), .val (.int ((pp &&& (2147483647 : Int32)) % (13 : Int32))), .val (.ref b5)] [(.int (1 : Int32)), (.int vv), (.int ((pp &&& (2147483647 : Int32)) % (13 : Int32))), (.long bv), (.long av), (.ref b5)])) _
    refine st30 _ ?_
    show Steps p.tables e below (T30.setTop (mkF m 96 #[.val (.long av), .second, .val (.long bv), .second, .val (.int pp), .val (.int vv), .val (.ref b1), .val (.int ((pp &&& (2147483647 : Int32)) % (13 : Int32))), .val (.ref b5)] [(.int (r9_v av bv ((pp &&& (2147483647 : Int32)) % (13 : Int32)) vv (1 : Int32) (r6_arr vv (r6_arr (bv.toInt32) (r6_arr (((bv.toUInt64 >>> ((32 : Int32) &&& 0x3f).toInt64.toUInt64).toInt64).toInt32) (r6_arr (av.toInt32) (r6_arr (((av.toUInt64 >>> ((32 : Int32) &&& 0x3f).toInt64.toUInt64).toInt64).toInt32) zI 0) (0 + 4)) 8) (8 + 4)) pn) 1))])) _
    refine XS.ifNo X30.here hx rfl (hb hby at_96) rfl ((if0 _ _).trans (feq (own_at1 av bv pp vv pn hpn hpl : ¬ ((r9_v av bv ((pp &&& (2147483647 : Int32)) % (13 : Int32)) vv (1 : Int32) (r6_arr vv (r6_arr (bv.toInt32) (r6_arr (((bv.toUInt64 >>> ((32 : Int32) &&& 0x3f).toInt64.toUInt64).toInt64).toInt32) (r6_arr (av.toInt32) (r6_arr (((av.toUInt64 >>> ((32 : Int32) &&& 0x3f).toInt64.toUInt64).toInt64).toInt32) zI 0) (0 + 4)) 8) (8 + 4)) pn) 1) = (0 : Int32)))).1) ?_
    show Steps p.tables e below (T30.setTop (mkF m 99 #[.val (.long av), .second, .val (.long bv), .second, .val (.int pp), .val (.int vv), .val (.ref b1), .val (.int ((pp &&& (2147483647 : Int32)) % (13 : Int32))), .val (.ref b5)] [])) _
    refine XS.aload X30.here hx rfl (hb hby at_99) rfl rfl ?_
    show Steps p.tables e below (T30.setTop (mkF m 101 #[.val (.long av), .second, .val (.long bv), .second, .val (.int pp), .val (.int vv), .val (.ref b1), .val (.int ((pp &&& (2147483647 : Int32)) % (13 : Int32))), .val (.ref b5)] [(.ref b5)])) _
    refine XS.lloadN X30.here hx rfl (hb hby at_101) rfl ?_
    show Steps p.tables e below (T30.setTop (mkF m 102 #[.val (.long av), .second, .val (.long bv), .second, .val (.int pp), .val (.int vv), .val (.ref b1), .val (.int ((pp &&& (2147483647 : Int32)) % (13 : Int32))), .val (.ref b5)] [(.long av), (.ref b5)])) _
    refine XS.lloadN X30.here hx rfl (hb hby at_102) rfl ?_
    show Steps p.tables e below (T30.setTop (mkF m 103 #[.val (.long av), .second, .val (.long bv), .second, .val (.int pp), .val (.int vv), .val (.ref b1), .val (.int ((pp &&& (2147483647 : Int32)) % (13 : Int32))), .val (.ref b5)] [(.long bv), (.long av), (.ref b5)])) _
    refine XS.iload X30.here hx rfl (hb hby at_103) rfl ?_
    show Steps p.tables e below (T30.setTop (mkF m 105 #[.val (.long av), .second, .val (.long bv), .second, .val (.int pp), .val (.int vv), .val (.ref b1), .val (.int ((pp &&& (2147483647 : Int32)) % (13 : Int32))), .val (.ref b5)] [(.int ((pp &&& (2147483647 : Int32)) % (13 : Int32))), (.long bv), (.long av), (.ref b5)])) _
    refine XS.iload X30.here hx rfl (hb hby at_105) rfl ?_
    show Steps p.tables e below (T30.setTop (mkF m 107 #[.val (.long av), .second, .val (.long bv), .second, .val (.int pp), .val (.int vv), .val (.ref b1), .val (.int ((pp &&& (2147483647 : Int32)) % (13 : Int32))), .val (.ref b5)] [(.int vv), (.int ((pp &&& (2147483647 : Int32)) % (13 : Int32))), (.long bv), (.long av), (.ref b5)])) _
    refine XS.iconst X30.here hx rfl (hb hby at_107) ?_
    show Steps p.tables e below (T30.setTop (mkF m 108 #[.val (.long av), .second, .val (.long bv), .second, .val (.int pp), .val (.int vv), .val (.ref b1), .val (.int ((pp &&& (2147483647 : Int32)) % (13 : Int32))), .val (.ref b5)] [(.int (2 : Int32)), (.int vv), (.int ((pp &&& (2147483647 : Int32)) % (13 : Int32))), (.long bv), (.long av), (.ref b5)])) _
    refine st31 _ ?_
    show Steps p.tables e below (T31.setTop (mkF m 111 #[.val (.long av), .second, .val (.long bv), .second, .val (.int pp), .val (.int vv), .val (.ref b1), .val (.int ((pp &&& (2147483647 : Int32)) % (13 : Int32))), .val (.ref b5)] [(.int (r9_v av bv ((pp &&& (2147483647 : Int32)) % (13 : Int32)) vv (2 : Int32) (r6_arr vv (r6_arr (bv.toInt32) (r6_arr (((bv.toUInt64 >>> ((32 : Int32) &&& 0x3f).toInt64.toUInt64).toInt64).toInt32) (r6_arr (av.toInt32) (r6_arr (((av.toUInt64 >>> ((32 : Int32) &&& 0x3f).toInt64.toUInt64).toInt64).toInt32) zI 0) (0 + 4)) 8) (8 + 4)) pn) 2))])) _
    refine XS.ifNo X31.here hx rfl (hb hby at_111) rfl ((if0 _ _).trans (feq (own_at2 av bv pp vv pn hpn hpl : ¬ ((r9_v av bv ((pp &&& (2147483647 : Int32)) % (13 : Int32)) vv (2 : Int32) (r6_arr vv (r6_arr (bv.toInt32) (r6_arr (((bv.toUInt64 >>> ((32 : Int32) &&& 0x3f).toInt64.toUInt64).toInt64).toInt32) (r6_arr (av.toInt32) (r6_arr (((av.toUInt64 >>> ((32 : Int32) &&& 0x3f).toInt64.toUInt64).toInt64).toInt32) zI 0) (0 + 4)) 8) (8 + 4)) pn) 2) = (0 : Int32)))).1) ?_
    show Steps p.tables e below (T31.setTop (mkF m 114 #[.val (.long av), .second, .val (.long bv), .second, .val (.int pp), .val (.int vv), .val (.ref b1), .val (.int ((pp &&& (2147483647 : Int32)) % (13 : Int32))), .val (.ref b5)] [])) _
    refine XS.aload X31.here hx rfl (hb hby at_114) rfl rfl ?_
    show Steps p.tables e below (T31.setTop (mkF m 116 #[.val (.long av), .second, .val (.long bv), .second, .val (.int pp), .val (.int vv), .val (.ref b1), .val (.int ((pp &&& (2147483647 : Int32)) % (13 : Int32))), .val (.ref b5)] [(.ref b5)])) _
    refine XS.lloadN X31.here hx rfl (hb hby at_116) rfl ?_
    show Steps p.tables e below (T31.setTop (mkF m 117 #[.val (.long av), .second, .val (.long bv), .second, .val (.int pp), .val (.int vv), .val (.ref b1), .val (.int ((pp &&& (2147483647 : Int32)) % (13 : Int32))), .val (.ref b5)] [(.long av), (.ref b5)])) _
    refine XS.lloadN X31.here hx rfl (hb hby at_117) rfl ?_
    show Steps p.tables e below (T31.setTop (mkF m 118 #[.val (.long av), .second, .val (.long bv), .second, .val (.int pp), .val (.int vv), .val (.ref b1), .val (.int ((pp &&& (2147483647 : Int32)) % (13 : Int32))), .val (.ref b5)] [(.long bv), (.long av), (.ref b5)])) _
    refine XS.iload X31.here hx rfl (hb hby at_118) rfl ?_
    show Steps p.tables e below (T31.setTop (mkF m 120 #[.val (.long av), .second, .val (.long bv), .second, .val (.int pp), .val (.int vv), .val (.ref b1), .val (.int ((pp &&& (2147483647 : Int32)) % (13 : Int32))), .val (.ref b5)] [(.int ((pp &&& (2147483647 : Int32)) % (13 : Int32))), (.long bv), (.long av), (.ref b5)])) _
    refine XS.iload X31.here hx rfl (hb hby at_120) rfl ?_
    show Steps p.tables e below (T31.setTop (mkF m 122 #[.val (.long av), .second, .val (.long bv), .second, .val (.int pp), .val (.int vv), .val (.ref b1), .val (.int ((pp &&& (2147483647 : Int32)) % (13 : Int32))), .val (.ref b5)] [(.int vv), (.int ((pp &&& (2147483647 : Int32)) % (13 : Int32))), (.long bv), (.long av), (.ref b5)])) _
    refine XS.iconst X31.here hx rfl (hb hby at_122) ?_
    show Steps p.tables e below (T31.setTop (mkF m 123 #[.val (.long av), .second, .val (.long bv), .second, .val (.int pp), .val (.int vv), .val (.ref b1), .val (.int ((pp &&& (2147483647 : Int32)) % (13 : Int32))), .val (.ref b5)] [(.int (3 : Int32)), (.int vv), (.int ((pp &&& (2147483647 : Int32)) % (13 : Int32))), (.long bv), (.long av), (.ref b5)])) _
    refine st32 _ ?_
    show Steps p.tables e below (T32.setTop (mkF m 126 #[.val (.long av), .second, .val (.long bv), .second, .val (.int pp), .val (.int vv), .val (.ref b1), .val (.int ((pp &&& (2147483647 : Int32)) % (13 : Int32))), .val (.ref b5)] [(.int (r9_v av bv ((pp &&& (2147483647 : Int32)) % (13 : Int32)) vv (3 : Int32) (r6_arr vv (r6_arr (bv.toInt32) (r6_arr (((bv.toUInt64 >>> ((32 : Int32) &&& 0x3f).toInt64.toUInt64).toInt64).toInt32) (r6_arr (av.toInt32) (r6_arr (((av.toUInt64 >>> ((32 : Int32) &&& 0x3f).toInt64.toUInt64).toInt64).toInt32) zI 0) (0 + 4)) 8) (8 + 4)) pn) 3))])) _
    refine XS.ifNo X32.here hx rfl (hb hby at_126) rfl ((if0 _ _).trans (feq (own_at3 av bv pp vv pn hpn hpl : ¬ ((r9_v av bv ((pp &&& (2147483647 : Int32)) % (13 : Int32)) vv (3 : Int32) (r6_arr vv (r6_arr (bv.toInt32) (r6_arr (((bv.toUInt64 >>> ((32 : Int32) &&& 0x3f).toInt64.toUInt64).toInt64).toInt32) (r6_arr (av.toInt32) (r6_arr (((av.toUInt64 >>> ((32 : Int32) &&& 0x3f).toInt64.toUInt64).toInt64).toInt32) zI 0) (0 + 4)) 8) (8 + 4)) pn) 3) = (0 : Int32)))).1) ?_
    show Steps p.tables e below (T32.setTop (mkF m 129 #[.val (.long av), .second, .val (.long bv), .second, .val (.int pp), .val (.int vv), .val (.ref b1), .val (.int ((pp &&& (2147483647 : Int32)) % (13 : Int32))), .val (.ref b5)] [])) _
    refine XS.aload X32.here hx rfl (hb hby at_129) rfl rfl ?_
    show Steps p.tables e below (T32.setTop (mkF m 131 #[.val (.long av), .second, .val (.long bv), .second, .val (.int pp), .val (.int vv), .val (.ref b1), .val (.int ((pp &&& (2147483647 : Int32)) % (13 : Int32))), .val (.ref b5)] [(.ref b5)])) _
    refine XS.lloadN X32.here hx rfl (hb hby at_131) rfl ?_
    show Steps p.tables e below (T32.setTop (mkF m 132 #[.val (.long av), .second, .val (.long bv), .second, .val (.int pp), .val (.int vv), .val (.ref b1), .val (.int ((pp &&& (2147483647 : Int32)) % (13 : Int32))), .val (.ref b5)] [(.long av), (.ref b5)])) _
    refine XS.lloadN X32.here hx rfl (hb hby at_132) rfl ?_
    show Steps p.tables e below (T32.setTop (mkF m 133 #[.val (.long av), .second, .val (.long bv), .second, .val (.int pp), .val (.int vv), .val (.ref b1), .val (.int ((pp &&& (2147483647 : Int32)) % (13 : Int32))), .val (.ref b5)] [(.long bv), (.long av), (.ref b5)])) _
    refine XS.iload X32.here hx rfl (hb hby at_133) rfl ?_
    show Steps p.tables e below (T32.setTop (mkF m 135 #[.val (.long av), .second, .val (.long bv), .second, .val (.int pp), .val (.int vv), .val (.ref b1), .val (.int ((pp &&& (2147483647 : Int32)) % (13 : Int32))), .val (.ref b5)] [(.int ((pp &&& (2147483647 : Int32)) % (13 : Int32))), (.long bv), (.long av), (.ref b5)])) _
    refine XS.iload X32.here hx rfl (hb hby at_135) rfl ?_
    show Steps p.tables e below (T32.setTop (mkF m 137 #[.val (.long av), .second, .val (.long bv), .second, .val (.int pp), .val (.int vv), .val (.ref b1), .val (.int ((pp &&& (2147483647 : Int32)) % (13 : Int32))), .val (.ref b5)] [(.int vv), (.int ((pp &&& (2147483647 : Int32)) % (13 : Int32))), (.long bv), (.long av), (.ref b5)])) _
    refine XS.iconst X32.here hx rfl (hb hby at_137) ?_
    show Steps p.tables e below (T32.setTop (mkF m 138 #[.val (.long av), .second, .val (.long bv), .second, .val (.int pp), .val (.int vv), .val (.ref b1), .val (.int ((pp &&& (2147483647 : Int32)) % (13 : Int32))), .val (.ref b5)] [(.int (4 : Int32)), (.int vv), (.int ((pp &&& (2147483647 : Int32)) % (13 : Int32))), (.long bv), (.long av), (.ref b5)])) _
    refine st33 _ ?_
    show Steps p.tables e below (T33.setTop (mkF m 141 #[.val (.long av), .second, .val (.long bv), .second, .val (.int pp), .val (.int vv), .val (.ref b1), .val (.int ((pp &&& (2147483647 : Int32)) % (13 : Int32))), .val (.ref b5)] [(.int (r9_v av bv ((pp &&& (2147483647 : Int32)) % (13 : Int32)) vv (4 : Int32) (r6_arr vv (r6_arr (bv.toInt32) (r6_arr (((bv.toUInt64 >>> ((32 : Int32) &&& 0x3f).toInt64.toUInt64).toInt64).toInt32) (r6_arr (av.toInt32) (r6_arr (((av.toUInt64 >>> ((32 : Int32) &&& 0x3f).toInt64.toUInt64).toInt64).toInt32) zI 0) (0 + 4)) 8) (8 + 4)) pn) 4))])) _
    refine XS.ifNo X33.here hx rfl (hb hby at_141) rfl ((if0 _ _).trans (feq (own_at4 av bv pp vv pn hpn hpl : ¬ ((r9_v av bv ((pp &&& (2147483647 : Int32)) % (13 : Int32)) vv (4 : Int32) (r6_arr vv (r6_arr (bv.toInt32) (r6_arr (((bv.toUInt64 >>> ((32 : Int32) &&& 0x3f).toInt64.toUInt64).toInt64).toInt32) (r6_arr (av.toInt32) (r6_arr (((av.toUInt64 >>> ((32 : Int32) &&& 0x3f).toInt64.toUInt64).toInt64).toInt32) zI 0) (0 + 4)) 8) (8 + 4)) pn) 4) = (0 : Int32)))).1) ?_
    show Steps p.tables e below (T33.setTop (mkF m 144 #[.val (.long av), .second, .val (.long bv), .second, .val (.int pp), .val (.int vv), .val (.ref b1), .val (.int ((pp &&& (2147483647 : Int32)) % (13 : Int32))), .val (.ref b5)] [])) _
    refine XS.aload X33.here hx rfl (hb hby at_144) rfl rfl ?_
    show Steps p.tables e below (T33.setTop (mkF m 146 #[.val (.long av), .second, .val (.long bv), .second, .val (.int pp), .val (.int vv), .val (.ref b1), .val (.int ((pp &&& (2147483647 : Int32)) % (13 : Int32))), .val (.ref b5)] [(.ref b5)])) _
    refine XS.lloadN X33.here hx rfl (hb hby at_146) rfl ?_
    show Steps p.tables e below (T33.setTop (mkF m 147 #[.val (.long av), .second, .val (.long bv), .second, .val (.int pp), .val (.int vv), .val (.ref b1), .val (.int ((pp &&& (2147483647 : Int32)) % (13 : Int32))), .val (.ref b5)] [(.long av), (.ref b5)])) _
    refine XS.lloadN X33.here hx rfl (hb hby at_147) rfl ?_
    show Steps p.tables e below (T33.setTop (mkF m 148 #[.val (.long av), .second, .val (.long bv), .second, .val (.int pp), .val (.int vv), .val (.ref b1), .val (.int ((pp &&& (2147483647 : Int32)) % (13 : Int32))), .val (.ref b5)] [(.long bv), (.long av), (.ref b5)])) _
    refine XS.iload X33.here hx rfl (hb hby at_148) rfl ?_
    show Steps p.tables e below (T33.setTop (mkF m 150 #[.val (.long av), .second, .val (.long bv), .second, .val (.int pp), .val (.int vv), .val (.ref b1), .val (.int ((pp &&& (2147483647 : Int32)) % (13 : Int32))), .val (.ref b5)] [(.int ((pp &&& (2147483647 : Int32)) % (13 : Int32))), (.long bv), (.long av), (.ref b5)])) _
    refine XS.iload X33.here hx rfl (hb hby at_150) rfl ?_
    show Steps p.tables e below (T33.setTop (mkF m 152 #[.val (.long av), .second, .val (.long bv), .second, .val (.int pp), .val (.int vv), .val (.ref b1), .val (.int ((pp &&& (2147483647 : Int32)) % (13 : Int32))), .val (.ref b5)] [(.int vv), (.int ((pp &&& (2147483647 : Int32)) % (13 : Int32))), (.long bv), (.long av), (.ref b5)])) _
    refine XS.iconst X33.here hx rfl (hb hby at_152) ?_
    show Steps p.tables e below (T33.setTop (mkF m 153 #[.val (.long av), .second, .val (.long bv), .second, .val (.int pp), .val (.int vv), .val (.ref b1), .val (.int ((pp &&& (2147483647 : Int32)) % (13 : Int32))), .val (.ref b5)] [(.int (5 : Int32)), (.int vv), (.int ((pp &&& (2147483647 : Int32)) % (13 : Int32))), (.long bv), (.long av), (.ref b5)])) _
    refine st34 _ ?_
    show Steps p.tables e below (T34.setTop (mkF m 156 #[.val (.long av), .second, .val (.long bv), .second, .val (.int pp), .val (.int vv), .val (.ref b1), .val (.int ((pp &&& (2147483647 : Int32)) % (13 : Int32))), .val (.ref b5)] [(.int (r9_v av bv ((pp &&& (2147483647 : Int32)) % (13 : Int32)) vv (5 : Int32) (r6_arr vv (r6_arr (bv.toInt32) (r6_arr (((bv.toUInt64 >>> ((32 : Int32) &&& 0x3f).toInt64.toUInt64).toInt64).toInt32) (r6_arr (av.toInt32) (r6_arr (((av.toUInt64 >>> ((32 : Int32) &&& 0x3f).toInt64.toUInt64).toInt64).toInt32) zI 0) (0 + 4)) 8) (8 + 4)) pn) 5))])) _
    refine XS.ifNo X34.here hx rfl (hb hby at_156) rfl ((if0 _ _).trans (feq (own_at5 av bv pp vv pn hpn hpl : ¬ ((r9_v av bv ((pp &&& (2147483647 : Int32)) % (13 : Int32)) vv (5 : Int32) (r6_arr vv (r6_arr (bv.toInt32) (r6_arr (((bv.toUInt64 >>> ((32 : Int32) &&& 0x3f).toInt64.toUInt64).toInt64).toInt32) (r6_arr (av.toInt32) (r6_arr (((av.toUInt64 >>> ((32 : Int32) &&& 0x3f).toInt64.toUInt64).toInt64).toInt32) zI 0) (0 + 4)) 8) (8 + 4)) pn) 5) = (0 : Int32)))).1) ?_
    show Steps p.tables e below (T34.setTop (mkF m 159 #[.val (.long av), .second, .val (.long bv), .second, .val (.int pp), .val (.int vv), .val (.ref b1), .val (.int ((pp &&& (2147483647 : Int32)) % (13 : Int32))), .val (.ref b5)] [])) _
    refine XS.aload X34.here hx rfl (hb hby at_159) rfl rfl ?_
    show Steps p.tables e below (T34.setTop (mkF m 161 #[.val (.long av), .second, .val (.long bv), .second, .val (.int pp), .val (.int vv), .val (.ref b1), .val (.int ((pp &&& (2147483647 : Int32)) % (13 : Int32))), .val (.ref b5)] [(.ref b5)])) _
    refine XS.lloadN X34.here hx rfl (hb hby at_161) rfl ?_
    show Steps p.tables e below (T34.setTop (mkF m 162 #[.val (.long av), .second, .val (.long bv), .second, .val (.int pp), .val (.int vv), .val (.ref b1), .val (.int ((pp &&& (2147483647 : Int32)) % (13 : Int32))), .val (.ref b5)] [(.long av), (.ref b5)])) _
    refine XS.lloadN X34.here hx rfl (hb hby at_162) rfl ?_
    show Steps p.tables e below (T34.setTop (mkF m 163 #[.val (.long av), .second, .val (.long bv), .second, .val (.int pp), .val (.int vv), .val (.ref b1), .val (.int ((pp &&& (2147483647 : Int32)) % (13 : Int32))), .val (.ref b5)] [(.long bv), (.long av), (.ref b5)])) _
    refine XS.iload X34.here hx rfl (hb hby at_163) rfl ?_
    show Steps p.tables e below (T34.setTop (mkF m 165 #[.val (.long av), .second, .val (.long bv), .second, .val (.int pp), .val (.int vv), .val (.ref b1), .val (.int ((pp &&& (2147483647 : Int32)) % (13 : Int32))), .val (.ref b5)] [(.int ((pp &&& (2147483647 : Int32)) % (13 : Int32))), (.long bv), (.long av), (.ref b5)])) _
    refine XS.iload X34.here hx rfl (hb hby at_165) rfl ?_
    show Steps p.tables e below (T34.setTop (mkF m 167 #[.val (.long av), .second, .val (.long bv), .second, .val (.int pp), .val (.int vv), .val (.ref b1), .val (.int ((pp &&& (2147483647 : Int32)) % (13 : Int32))), .val (.ref b5)] [(.int vv), (.int ((pp &&& (2147483647 : Int32)) % (13 : Int32))), (.long bv), (.long av), (.ref b5)])) _
    refine XS.bipush X34.here hx rfl (hb hby at_167) ?_
    show Steps p.tables e below (T34.setTop (mkF m 169 #[.val (.long av), .second, .val (.long bv), .second, .val (.int pp), .val (.int vv), .val (.ref b1), .val (.int ((pp &&& (2147483647 : Int32)) % (13 : Int32))), .val (.ref b5)] [(.int (6 : Int32)), (.int vv), (.int ((pp &&& (2147483647 : Int32)) % (13 : Int32))), (.long bv), (.long av), (.ref b5)])) _
    refine st35 _ ?_
    show Steps p.tables e below (T35.setTop (mkF m 172 #[.val (.long av), .second, .val (.long bv), .second, .val (.int pp), .val (.int vv), .val (.ref b1), .val (.int ((pp &&& (2147483647 : Int32)) % (13 : Int32))), .val (.ref b5)] [(.int (r9_v av bv ((pp &&& (2147483647 : Int32)) % (13 : Int32)) vv (6 : Int32) (r6_arr vv (r6_arr (bv.toInt32) (r6_arr (((bv.toUInt64 >>> ((32 : Int32) &&& 0x3f).toInt64.toUInt64).toInt64).toInt32) (r6_arr (av.toInt32) (r6_arr (((av.toUInt64 >>> ((32 : Int32) &&& 0x3f).toInt64.toUInt64).toInt64).toInt32) zI 0) (0 + 4)) 8) (8 + 4)) pn) 6))])) _
    refine XS.ifNo X35.here hx rfl (hb hby at_172) rfl ((if0 _ _).trans (feq (own_at6 av bv pp vv pn hpn hpl : ¬ ((r9_v av bv ((pp &&& (2147483647 : Int32)) % (13 : Int32)) vv (6 : Int32) (r6_arr vv (r6_arr (bv.toInt32) (r6_arr (((bv.toUInt64 >>> ((32 : Int32) &&& 0x3f).toInt64.toUInt64).toInt64).toInt32) (r6_arr (av.toInt32) (r6_arr (((av.toUInt64 >>> ((32 : Int32) &&& 0x3f).toInt64.toUInt64).toInt64).toInt32) zI 0) (0 + 4)) 8) (8 + 4)) pn) 6) = (0 : Int32)))).1) ?_
    show Steps p.tables e below (T35.setTop (mkF m 175 #[.val (.long av), .second, .val (.long bv), .second, .val (.int pp), .val (.int vv), .val (.ref b1), .val (.int ((pp &&& (2147483647 : Int32)) % (13 : Int32))), .val (.ref b5)] [])) _
    refine XS.aload X35.here hx rfl (hb hby at_175) rfl rfl ?_
    show Steps p.tables e below (T35.setTop (mkF m 177 #[.val (.long av), .second, .val (.long bv), .second, .val (.int pp), .val (.int vv), .val (.ref b1), .val (.int ((pp &&& (2147483647 : Int32)) % (13 : Int32))), .val (.ref b5)] [(.ref b5)])) _
    refine XS.lloadN X35.here hx rfl (hb hby at_177) rfl ?_
    show Steps p.tables e below (T35.setTop (mkF m 178 #[.val (.long av), .second, .val (.long bv), .second, .val (.int pp), .val (.int vv), .val (.ref b1), .val (.int ((pp &&& (2147483647 : Int32)) % (13 : Int32))), .val (.ref b5)] [(.long av), (.ref b5)])) _
    refine XS.lloadN X35.here hx rfl (hb hby at_178) rfl ?_
    show Steps p.tables e below (T35.setTop (mkF m 179 #[.val (.long av), .second, .val (.long bv), .second, .val (.int pp), .val (.int vv), .val (.ref b1), .val (.int ((pp &&& (2147483647 : Int32)) % (13 : Int32))), .val (.ref b5)] [(.long bv), (.long av), (.ref b5)])) _
    refine XS.iload X35.here hx rfl (hb hby at_179) rfl ?_
    show Steps p.tables e below (T35.setTop (mkF m 181 #[.val (.long av), .second, .val (.long bv), .second, .val (.int pp), .val (.int vv), .val (.ref b1), .val (.int ((pp &&& (2147483647 : Int32)) % (13 : Int32))), .val (.ref b5)] [(.int ((pp &&& (2147483647 : Int32)) % (13 : Int32))), (.long bv), (.long av), (.ref b5)])) _
    refine XS.iload X35.here hx rfl (hb hby at_181) rfl ?_
    show Steps p.tables e below (T35.setTop (mkF m 183 #[.val (.long av), .second, .val (.long bv), .second, .val (.int pp), .val (.int vv), .val (.ref b1), .val (.int ((pp &&& (2147483647 : Int32)) % (13 : Int32))), .val (.ref b5)] [(.int vv), (.int ((pp &&& (2147483647 : Int32)) % (13 : Int32))), (.long bv), (.long av), (.ref b5)])) _
    refine XS.bipush X35.here hx rfl (hb hby at_183) ?_
    show Steps p.tables e below (T35.setTop (mkF m 185 #[.val (.long av), .second, .val (.long bv), .second, .val (.int pp), .val (.int vv), .val (.ref b1), .val (.int ((pp &&& (2147483647 : Int32)) % (13 : Int32))), .val (.ref b5)] [(.int (7 : Int32)), (.int vv), (.int ((pp &&& (2147483647 : Int32)) % (13 : Int32))), (.long bv), (.long av), (.ref b5)])) _
    refine st36 _ ?_
    show Steps p.tables e below (T36.setTop (mkF m 188 #[.val (.long av), .second, .val (.long bv), .second, .val (.int pp), .val (.int vv), .val (.ref b1), .val (.int ((pp &&& (2147483647 : Int32)) % (13 : Int32))), .val (.ref b5)] [(.int (r9_v av bv ((pp &&& (2147483647 : Int32)) % (13 : Int32)) vv (7 : Int32) (r6_arr vv (r6_arr (bv.toInt32) (r6_arr (((bv.toUInt64 >>> ((32 : Int32) &&& 0x3f).toInt64.toUInt64).toInt64).toInt32) (r6_arr (av.toInt32) (r6_arr (((av.toUInt64 >>> ((32 : Int32) &&& 0x3f).toInt64.toUInt64).toInt64).toInt32) zI 0) (0 + 4)) 8) (8 + 4)) pn) 7))])) _
    refine XS.ifNo X36.here hx rfl (hb hby at_188) rfl ((if0 _ _).trans (feq (own_at7 av bv pp vv pn hpn hpl : ¬ ((r9_v av bv ((pp &&& (2147483647 : Int32)) % (13 : Int32)) vv (7 : Int32) (r6_arr vv (r6_arr (bv.toInt32) (r6_arr (((bv.toUInt64 >>> ((32 : Int32) &&& 0x3f).toInt64.toUInt64).toInt64).toInt32) (r6_arr (av.toInt32) (r6_arr (((av.toUInt64 >>> ((32 : Int32) &&& 0x3f).toInt64.toUInt64).toInt64).toInt32) zI 0) (0 + 4)) 8) (8 + 4)) pn) 7) = (0 : Int32)))).1) ?_
    show Steps p.tables e below (T36.setTop (mkF m 191 #[.val (.long av), .second, .val (.long bv), .second, .val (.int pp), .val (.int vv), .val (.ref b1), .val (.int ((pp &&& (2147483647 : Int32)) % (13 : Int32))), .val (.ref b5)] [])) _
    refine XS.aload X36.here hx rfl (hb hby at_191) rfl rfl ?_
    show Steps p.tables e below (T36.setTop (mkF m 193 #[.val (.long av), .second, .val (.long bv), .second, .val (.int pp), .val (.int vv), .val (.ref b1), .val (.int ((pp &&& (2147483647 : Int32)) % (13 : Int32))), .val (.ref b5)] [(.ref b5)])) _
    refine XS.lloadN X36.here hx rfl (hb hby at_193) rfl ?_
    show Steps p.tables e below (T36.setTop (mkF m 194 #[.val (.long av), .second, .val (.long bv), .second, .val (.int pp), .val (.int vv), .val (.ref b1), .val (.int ((pp &&& (2147483647 : Int32)) % (13 : Int32))), .val (.ref b5)] [(.long av), (.ref b5)])) _
    refine XS.lloadN X36.here hx rfl (hb hby at_194) rfl ?_
    show Steps p.tables e below (T36.setTop (mkF m 195 #[.val (.long av), .second, .val (.long bv), .second, .val (.int pp), .val (.int vv), .val (.ref b1), .val (.int ((pp &&& (2147483647 : Int32)) % (13 : Int32))), .val (.ref b5)] [(.long bv), (.long av), (.ref b5)])) _
    refine XS.iload X36.here hx rfl (hb hby at_195) rfl ?_
    show Steps p.tables e below (T36.setTop (mkF m 197 #[.val (.long av), .second, .val (.long bv), .second, .val (.int pp), .val (.int vv), .val (.ref b1), .val (.int ((pp &&& (2147483647 : Int32)) % (13 : Int32))), .val (.ref b5)] [(.int ((pp &&& (2147483647 : Int32)) % (13 : Int32))), (.long bv), (.long av), (.ref b5)])) _
    refine XS.iload X36.here hx rfl (hb hby at_197) rfl ?_
    show Steps p.tables e below (T36.setTop (mkF m 199 #[.val (.long av), .second, .val (.long bv), .second, .val (.int pp), .val (.int vv), .val (.ref b1), .val (.int ((pp &&& (2147483647 : Int32)) % (13 : Int32))), .val (.ref b5)] [(.int vv), (.int ((pp &&& (2147483647 : Int32)) % (13 : Int32))), (.long bv), (.long av), (.ref b5)])) _
    refine XS.bipush X36.here hx rfl (hb hby at_199) ?_
    show Steps p.tables e below (T36.setTop (mkF m 201 #[.val (.long av), .second, .val (.long bv), .second, .val (.int pp), .val (.int vv), .val (.ref b1), .val (.int ((pp &&& (2147483647 : Int32)) % (13 : Int32))), .val (.ref b5)] [(.int (8 : Int32)), (.int vv), (.int ((pp &&& (2147483647 : Int32)) % (13 : Int32))), (.long bv), (.long av), (.ref b5)])) _
    refine st37 _ ?_
    show Steps p.tables e below (T37.setTop (mkF m 204 #[.val (.long av), .second, .val (.long bv), .second, .val (.int pp), .val (.int vv), .val (.ref b1), .val (.int ((pp &&& (2147483647 : Int32)) % (13 : Int32))), .val (.ref b5)] [(.int (r9_v av bv ((pp &&& (2147483647 : Int32)) % (13 : Int32)) vv (8 : Int32) (r6_arr vv (r6_arr (bv.toInt32) (r6_arr (((bv.toUInt64 >>> ((32 : Int32) &&& 0x3f).toInt64.toUInt64).toInt64).toInt32) (r6_arr (av.toInt32) (r6_arr (((av.toUInt64 >>> ((32 : Int32) &&& 0x3f).toInt64.toUInt64).toInt64).toInt32) zI 0) (0 + 4)) 8) (8 + 4)) pn) 8))])) _
    refine XS.ifNo X37.here hx rfl (hb hby at_204) rfl ((if0 _ _).trans (feq (own_at8 av bv pp vv pn hpn hpl : ¬ ((r9_v av bv ((pp &&& (2147483647 : Int32)) % (13 : Int32)) vv (8 : Int32) (r6_arr vv (r6_arr (bv.toInt32) (r6_arr (((bv.toUInt64 >>> ((32 : Int32) &&& 0x3f).toInt64.toUInt64).toInt64).toInt32) (r6_arr (av.toInt32) (r6_arr (((av.toUInt64 >>> ((32 : Int32) &&& 0x3f).toInt64.toUInt64).toInt64).toInt32) zI 0) (0 + 4)) 8) (8 + 4)) pn) 8) = (0 : Int32)))).1) ?_
    show Steps p.tables e below (T37.setTop (mkF m 207 #[.val (.long av), .second, .val (.long bv), .second, .val (.int pp), .val (.int vv), .val (.ref b1), .val (.int ((pp &&& (2147483647 : Int32)) % (13 : Int32))), .val (.ref b5)] [])) _
    refine XS.aload X37.here hx rfl (hb hby at_207) rfl rfl ?_
    show Steps p.tables e below (T37.setTop (mkF m 209 #[.val (.long av), .second, .val (.long bv), .second, .val (.int pp), .val (.int vv), .val (.ref b1), .val (.int ((pp &&& (2147483647 : Int32)) % (13 : Int32))), .val (.ref b5)] [(.ref b5)])) _
    refine XS.lloadN X37.here hx rfl (hb hby at_209) rfl ?_
    show Steps p.tables e below (T37.setTop (mkF m 210 #[.val (.long av), .second, .val (.long bv), .second, .val (.int pp), .val (.int vv), .val (.ref b1), .val (.int ((pp &&& (2147483647 : Int32)) % (13 : Int32))), .val (.ref b5)] [(.long av), (.ref b5)])) _
    refine XS.lloadN X37.here hx rfl (hb hby at_210) rfl ?_
    show Steps p.tables e below (T37.setTop (mkF m 211 #[.val (.long av), .second, .val (.long bv), .second, .val (.int pp), .val (.int vv), .val (.ref b1), .val (.int ((pp &&& (2147483647 : Int32)) % (13 : Int32))), .val (.ref b5)] [(.long bv), (.long av), (.ref b5)])) _
    refine XS.iload X37.here hx rfl (hb hby at_211) rfl ?_
    show Steps p.tables e below (T37.setTop (mkF m 213 #[.val (.long av), .second, .val (.long bv), .second, .val (.int pp), .val (.int vv), .val (.ref b1), .val (.int ((pp &&& (2147483647 : Int32)) % (13 : Int32))), .val (.ref b5)] [(.int ((pp &&& (2147483647 : Int32)) % (13 : Int32))), (.long bv), (.long av), (.ref b5)])) _
    refine XS.iload X37.here hx rfl (hb hby at_213) rfl ?_
    show Steps p.tables e below (T37.setTop (mkF m 215 #[.val (.long av), .second, .val (.long bv), .second, .val (.int pp), .val (.int vv), .val (.ref b1), .val (.int ((pp &&& (2147483647 : Int32)) % (13 : Int32))), .val (.ref b5)] [(.int vv), (.int ((pp &&& (2147483647 : Int32)) % (13 : Int32))), (.long bv), (.long av), (.ref b5)])) _
    refine XS.bipush X37.here hx rfl (hb hby at_215) ?_
    show Steps p.tables e below (T37.setTop (mkF m 217 #[.val (.long av), .second, .val (.long bv), .second, .val (.int pp), .val (.int vv), .val (.ref b1), .val (.int ((pp &&& (2147483647 : Int32)) % (13 : Int32))), .val (.ref b5)] [(.int (9 : Int32)), (.int vv), (.int ((pp &&& (2147483647 : Int32)) % (13 : Int32))), (.long bv), (.long av), (.ref b5)])) _
    refine st38 _ ?_
    show Steps p.tables e below (T38.setTop (mkF m 220 #[.val (.long av), .second, .val (.long bv), .second, .val (.int pp), .val (.int vv), .val (.ref b1), .val (.int ((pp &&& (2147483647 : Int32)) % (13 : Int32))), .val (.ref b5)] [(.int (r9_v av bv ((pp &&& (2147483647 : Int32)) % (13 : Int32)) vv (9 : Int32) (r6_arr vv (r6_arr (bv.toInt32) (r6_arr (((bv.toUInt64 >>> ((32 : Int32) &&& 0x3f).toInt64.toUInt64).toInt64).toInt32) (r6_arr (av.toInt32) (r6_arr (((av.toUInt64 >>> ((32 : Int32) &&& 0x3f).toInt64.toUInt64).toInt64).toInt32) zI 0) (0 + 4)) 8) (8 + 4)) pn) 9))])) _
    refine XS.ifNo X38.here hx rfl (hb hby at_220) rfl ((if0 _ _).trans (feq (own_at9 av bv pp vv pn hpn hpl : ¬ ((r9_v av bv ((pp &&& (2147483647 : Int32)) % (13 : Int32)) vv (9 : Int32) (r6_arr vv (r6_arr (bv.toInt32) (r6_arr (((bv.toUInt64 >>> ((32 : Int32) &&& 0x3f).toInt64.toUInt64).toInt64).toInt32) (r6_arr (av.toInt32) (r6_arr (((av.toUInt64 >>> ((32 : Int32) &&& 0x3f).toInt64.toUInt64).toInt64).toInt32) zI 0) (0 + 4)) 8) (8 + 4)) pn) 9) = (0 : Int32)))).1) ?_
    show Steps p.tables e below (T38.setTop (mkF m 223 #[.val (.long av), .second, .val (.long bv), .second, .val (.int pp), .val (.int vv), .val (.ref b1), .val (.int ((pp &&& (2147483647 : Int32)) % (13 : Int32))), .val (.ref b5)] [])) _
    refine XS.aload X38.here hx rfl (hb hby at_223) rfl rfl ?_
    show Steps p.tables e below (T38.setTop (mkF m 225 #[.val (.long av), .second, .val (.long bv), .second, .val (.int pp), .val (.int vv), .val (.ref b1), .val (.int ((pp &&& (2147483647 : Int32)) % (13 : Int32))), .val (.ref b5)] [(.ref b5)])) _
    refine XS.lloadN X38.here hx rfl (hb hby at_225) rfl ?_
    show Steps p.tables e below (T38.setTop (mkF m 226 #[.val (.long av), .second, .val (.long bv), .second, .val (.int pp), .val (.int vv), .val (.ref b1), .val (.int ((pp &&& (2147483647 : Int32)) % (13 : Int32))), .val (.ref b5)] [(.long av), (.ref b5)])) _
    refine XS.lloadN X38.here hx rfl (hb hby at_226) rfl ?_
    show Steps p.tables e below (T38.setTop (mkF m 227 #[.val (.long av), .second, .val (.long bv), .second, .val (.int pp), .val (.int vv), .val (.ref b1), .val (.int ((pp &&& (2147483647 : Int32)) % (13 : Int32))), .val (.ref b5)] [(.long bv), (.long av), (.ref b5)])) _
    refine XS.iload X38.here hx rfl (hb hby at_227) rfl ?_
    show Steps p.tables e below (T38.setTop (mkF m 229 #[.val (.long av), .second, .val (.long bv), .second, .val (.int pp), .val (.int vv), .val (.ref b1), .val (.int ((pp &&& (2147483647 : Int32)) % (13 : Int32))), .val (.ref b5)] [(.int ((pp &&& (2147483647 : Int32)) % (13 : Int32))), (.long bv), (.long av), (.ref b5)])) _
    refine XS.iload X38.here hx rfl (hb hby at_229) rfl ?_
    show Steps p.tables e below (T38.setTop (mkF m 231 #[.val (.long av), .second, .val (.long bv), .second, .val (.int pp), .val (.int vv), .val (.ref b1), .val (.int ((pp &&& (2147483647 : Int32)) % (13 : Int32))), .val (.ref b5)] [(.int vv), (.int ((pp &&& (2147483647 : Int32)) % (13 : Int32))), (.long bv), (.long av), (.ref b5)])) _
    refine XS.bipush X38.here hx rfl (hb hby at_231) ?_
    show Steps p.tables e below (T38.setTop (mkF m 233 #[.val (.long av), .second, .val (.long bv), .second, .val (.int pp), .val (.int vv), .val (.ref b1), .val (.int ((pp &&& (2147483647 : Int32)) % (13 : Int32))), .val (.ref b5)] [(.int (10 : Int32)), (.int vv), (.int ((pp &&& (2147483647 : Int32)) % (13 : Int32))), (.long bv), (.long av), (.ref b5)])) _
    refine st39 _ ?_
    show Steps p.tables e below (T39.setTop (mkF m 236 #[.val (.long av), .second, .val (.long bv), .second, .val (.int pp), .val (.int vv), .val (.ref b1), .val (.int ((pp &&& (2147483647 : Int32)) % (13 : Int32))), .val (.ref b5)] [(.int (r9_v av bv ((pp &&& (2147483647 : Int32)) % (13 : Int32)) vv (10 : Int32) (r6_arr vv (r6_arr (bv.toInt32) (r6_arr (((bv.toUInt64 >>> ((32 : Int32) &&& 0x3f).toInt64.toUInt64).toInt64).toInt32) (r6_arr (av.toInt32) (r6_arr (((av.toUInt64 >>> ((32 : Int32) &&& 0x3f).toInt64.toUInt64).toInt64).toInt32) zI 0) (0 + 4)) 8) (8 + 4)) pn) 10))])) _
    refine XS.ifNo X39.here hx rfl (hb hby at_236) rfl ((if0 _ _).trans (feq (own_at10 av bv pp vv pn hpn hpl : ¬ ((r9_v av bv ((pp &&& (2147483647 : Int32)) % (13 : Int32)) vv (10 : Int32) (r6_arr vv (r6_arr (bv.toInt32) (r6_arr (((bv.toUInt64 >>> ((32 : Int32) &&& 0x3f).toInt64.toUInt64).toInt64).toInt32) (r6_arr (av.toInt32) (r6_arr (((av.toUInt64 >>> ((32 : Int32) &&& 0x3f).toInt64.toUInt64).toInt64).toInt32) zI 0) (0 + 4)) 8) (8 + 4)) pn) 10) = (0 : Int32)))).1) ?_
    show Steps p.tables e below (T39.setTop (mkF m 239 #[.val (.long av), .second, .val (.long bv), .second, .val (.int pp), .val (.int vv), .val (.ref b1), .val (.int ((pp &&& (2147483647 : Int32)) % (13 : Int32))), .val (.ref b5)] [])) _
    refine XS.aload X39.here hx rfl (hb hby at_239) rfl rfl ?_
    show Steps p.tables e below (T39.setTop (mkF m 241 #[.val (.long av), .second, .val (.long bv), .second, .val (.int pp), .val (.int vv), .val (.ref b1), .val (.int ((pp &&& (2147483647 : Int32)) % (13 : Int32))), .val (.ref b5)] [(.ref b5)])) _
    refine XS.lloadN X39.here hx rfl (hb hby at_241) rfl ?_
    show Steps p.tables e below (T39.setTop (mkF m 242 #[.val (.long av), .second, .val (.long bv), .second, .val (.int pp), .val (.int vv), .val (.ref b1), .val (.int ((pp &&& (2147483647 : Int32)) % (13 : Int32))), .val (.ref b5)] [(.long av), (.ref b5)])) _
    refine XS.lloadN X39.here hx rfl (hb hby at_242) rfl ?_
    show Steps p.tables e below (T39.setTop (mkF m 243 #[.val (.long av), .second, .val (.long bv), .second, .val (.int pp), .val (.int vv), .val (.ref b1), .val (.int ((pp &&& (2147483647 : Int32)) % (13 : Int32))), .val (.ref b5)] [(.long bv), (.long av), (.ref b5)])) _
    refine XS.iload X39.here hx rfl (hb hby at_243) rfl ?_
    show Steps p.tables e below (T39.setTop (mkF m 245 #[.val (.long av), .second, .val (.long bv), .second, .val (.int pp), .val (.int vv), .val (.ref b1), .val (.int ((pp &&& (2147483647 : Int32)) % (13 : Int32))), .val (.ref b5)] [(.int ((pp &&& (2147483647 : Int32)) % (13 : Int32))), (.long bv), (.long av), (.ref b5)])) _
    refine XS.iload X39.here hx rfl (hb hby at_245) rfl ?_
    show Steps p.tables e below (T39.setTop (mkF m 247 #[.val (.long av), .second, .val (.long bv), .second, .val (.int pp), .val (.int vv), .val (.ref b1), .val (.int ((pp &&& (2147483647 : Int32)) % (13 : Int32))), .val (.ref b5)] [(.int vv), (.int ((pp &&& (2147483647 : Int32)) % (13 : Int32))), (.long bv), (.long av), (.ref b5)])) _
    refine XS.bipush X39.here hx rfl (hb hby at_247) ?_
    show Steps p.tables e below (T39.setTop (mkF m 249 #[.val (.long av), .second, .val (.long bv), .second, .val (.int pp), .val (.int vv), .val (.ref b1), .val (.int ((pp &&& (2147483647 : Int32)) % (13 : Int32))), .val (.ref b5)] [(.int (11 : Int32)), (.int vv), (.int ((pp &&& (2147483647 : Int32)) % (13 : Int32))), (.long bv), (.long av), (.ref b5)])) _
    refine st40 _ ?_
    show Steps p.tables e below (T40.setTop (mkF m 252 #[.val (.long av), .second, .val (.long bv), .second, .val (.int pp), .val (.int vv), .val (.ref b1), .val (.int ((pp &&& (2147483647 : Int32)) % (13 : Int32))), .val (.ref b5)] [(.int (r9_v av bv ((pp &&& (2147483647 : Int32)) % (13 : Int32)) vv (11 : Int32) (r6_arr vv (r6_arr (bv.toInt32) (r6_arr (((bv.toUInt64 >>> ((32 : Int32) &&& 0x3f).toInt64.toUInt64).toInt64).toInt32) (r6_arr (av.toInt32) (r6_arr (((av.toUInt64 >>> ((32 : Int32) &&& 0x3f).toInt64.toUInt64).toInt64).toInt32) zI 0) (0 + 4)) 8) (8 + 4)) pn) 11))])) _
    refine XS.ifNo X40.here hx rfl (hb hby at_252) rfl ((if0 _ _).trans (feq (own_at11 av bv pp vv pn hpn hpl : ¬ ((r9_v av bv ((pp &&& (2147483647 : Int32)) % (13 : Int32)) vv (11 : Int32) (r6_arr vv (r6_arr (bv.toInt32) (r6_arr (((bv.toUInt64 >>> ((32 : Int32) &&& 0x3f).toInt64.toUInt64).toInt64).toInt32) (r6_arr (av.toInt32) (r6_arr (((av.toUInt64 >>> ((32 : Int32) &&& 0x3f).toInt64.toUInt64).toInt64).toInt32) zI 0) (0 + 4)) 8) (8 + 4)) pn) 11) = (0 : Int32)))).1) ?_
    show Steps p.tables e below (T40.setTop (mkF m 255 #[.val (.long av), .second, .val (.long bv), .second, .val (.int pp), .val (.int vv), .val (.ref b1), .val (.int ((pp &&& (2147483647 : Int32)) % (13 : Int32))), .val (.ref b5)] [])) _
    refine XS.aload X40.here hx rfl (hb hby at_255) rfl rfl ?_
    show Steps p.tables e below (T40.setTop (mkF m 257 #[.val (.long av), .second, .val (.long bv), .second, .val (.int pp), .val (.int vv), .val (.ref b1), .val (.int ((pp &&& (2147483647 : Int32)) % (13 : Int32))), .val (.ref b5)] [(.ref b5)])) _
    refine XS.lloadN X40.here hx rfl (hb hby at_257) rfl ?_
    show Steps p.tables e below (T40.setTop (mkF m 258 #[.val (.long av), .second, .val (.long bv), .second, .val (.int pp), .val (.int vv), .val (.ref b1), .val (.int ((pp &&& (2147483647 : Int32)) % (13 : Int32))), .val (.ref b5)] [(.long av), (.ref b5)])) _
    refine XS.lloadN X40.here hx rfl (hb hby at_258) rfl ?_
    show Steps p.tables e below (T40.setTop (mkF m 259 #[.val (.long av), .second, .val (.long bv), .second, .val (.int pp), .val (.int vv), .val (.ref b1), .val (.int ((pp &&& (2147483647 : Int32)) % (13 : Int32))), .val (.ref b5)] [(.long bv), (.long av), (.ref b5)])) _
    refine XS.iload X40.here hx rfl (hb hby at_259) rfl ?_
    show Steps p.tables e below (T40.setTop (mkF m 261 #[.val (.long av), .second, .val (.long bv), .second, .val (.int pp), .val (.int vv), .val (.ref b1), .val (.int ((pp &&& (2147483647 : Int32)) % (13 : Int32))), .val (.ref b5)] [(.int ((pp &&& (2147483647 : Int32)) % (13 : Int32))), (.long bv), (.long av), (.ref b5)])) _
    refine XS.iload X40.here hx rfl (hb hby at_261) rfl ?_
    show Steps p.tables e below (T40.setTop (mkF m 263 #[.val (.long av), .second, .val (.long bv), .second, .val (.int pp), .val (.int vv), .val (.ref b1), .val (.int ((pp &&& (2147483647 : Int32)) % (13 : Int32))), .val (.ref b5)] [(.int vv), (.int ((pp &&& (2147483647 : Int32)) % (13 : Int32))), (.long bv), (.long av), (.ref b5)])) _
    refine XS.bipush X40.here hx rfl (hb hby at_263) ?_
    show Steps p.tables e below (T40.setTop (mkF m 265 #[.val (.long av), .second, .val (.long bv), .second, .val (.int pp), .val (.int vv), .val (.ref b1), .val (.int ((pp &&& (2147483647 : Int32)) % (13 : Int32))), .val (.ref b5)] [(.int (12 : Int32)), (.int vv), (.int ((pp &&& (2147483647 : Int32)) % (13 : Int32))), (.long bv), (.long av), (.ref b5)])) _
    refine st41 _ ?_
    show Steps p.tables e below (T41.setTop (mkF m 268 #[.val (.long av), .second, .val (.long bv), .second, .val (.int pp), .val (.int vv), .val (.ref b1), .val (.int ((pp &&& (2147483647 : Int32)) % (13 : Int32))), .val (.ref b5)] [(.int (r9_v av bv ((pp &&& (2147483647 : Int32)) % (13 : Int32)) vv (12 : Int32) (r6_arr vv (r6_arr (bv.toInt32) (r6_arr (((bv.toUInt64 >>> ((32 : Int32) &&& 0x3f).toInt64.toUInt64).toInt64).toInt32) (r6_arr (av.toInt32) (r6_arr (((av.toUInt64 >>> ((32 : Int32) &&& 0x3f).toInt64.toUInt64).toInt64).toInt32) zI 0) (0 + 4)) 8) (8 + 4)) pn) 12))])) _
    refine XS.ifNo X41.here hx rfl (hb hby at_268) rfl ((if0 _ _).trans (feq (own_at12 av bv pp vv pn hpn hpl : ¬ ((r9_v av bv ((pp &&& (2147483647 : Int32)) % (13 : Int32)) vv (12 : Int32) (r6_arr vv (r6_arr (bv.toInt32) (r6_arr (((bv.toUInt64 >>> ((32 : Int32) &&& 0x3f).toInt64.toUInt64).toInt64).toInt32) (r6_arr (av.toInt32) (r6_arr (((av.toUInt64 >>> ((32 : Int32) &&& 0x3f).toInt64.toUInt64).toInt64).toInt32) zI 0) (0 + 4)) 8) (8 + 4)) pn) 12) = (0 : Int32)))).1) ?_
    show Steps p.tables e below (T41.setTop (mkF m 271 #[.val (.long av), .second, .val (.long bv), .second, .val (.int pp), .val (.int vv), .val (.ref b1), .val (.int ((pp &&& (2147483647 : Int32)) % (13 : Int32))), .val (.ref b5)] [])) _
    refine XS.aload X41.here hx rfl (hb hby at_271) rfl rfl ?_
    show Steps p.tables e below (T41.setTop (mkF m 273 #[.val (.long av), .second, .val (.long bv), .second, .val (.int pp), .val (.int vv), .val (.ref b1), .val (.int ((pp &&& (2147483647 : Int32)) % (13 : Int32))), .val (.ref b5)] [(.ref b5)])) _
    refine XS.lloadN X41.here hx rfl (hb hby at_273) rfl ?_
    show Steps p.tables e below (T41.setTop (mkF m 274 #[.val (.long av), .second, .val (.long bv), .second, .val (.int pp), .val (.int vv), .val (.ref b1), .val (.int ((pp &&& (2147483647 : Int32)) % (13 : Int32))), .val (.ref b5)] [(.long av), (.ref b5)])) _
    refine XS.lloadN X41.here hx rfl (hb hby at_274) rfl ?_
    show Steps p.tables e below (T41.setTop (mkF m 275 #[.val (.long av), .second, .val (.long bv), .second, .val (.int pp), .val (.int vv), .val (.ref b1), .val (.int ((pp &&& (2147483647 : Int32)) % (13 : Int32))), .val (.ref b5)] [(.long bv), (.long av), (.ref b5)])) _
    refine XS.iload X41.here hx rfl (hb hby at_275) rfl ?_
    show Steps p.tables e below (T41.setTop (mkF m 277 #[.val (.long av), .second, .val (.long bv), .second, .val (.int pp), .val (.int vv), .val (.ref b1), .val (.int ((pp &&& (2147483647 : Int32)) % (13 : Int32))), .val (.ref b5)] [(.int ((pp &&& (2147483647 : Int32)) % (13 : Int32))), (.long bv), (.long av), (.ref b5)])) _
    refine XS.iload X41.here hx rfl (hb hby at_277) rfl ?_
    show Steps p.tables e below (T41.setTop (mkF m 279 #[.val (.long av), .second, .val (.long bv), .second, .val (.int pp), .val (.int vv), .val (.ref b1), .val (.int ((pp &&& (2147483647 : Int32)) % (13 : Int32))), .val (.ref b5)] [(.int vv), (.int ((pp &&& (2147483647 : Int32)) % (13 : Int32))), (.long bv), (.long av), (.ref b5)])) _
    refine XS.bipush X41.here hx rfl (hb hby at_279) ?_
    show Steps p.tables e below (T41.setTop (mkF m 281 #[.val (.long av), .second, .val (.long bv), .second, .val (.int pp), .val (.int vv), .val (.ref b1), .val (.int ((pp &&& (2147483647 : Int32)) % (13 : Int32))), .val (.ref b5)] [(.int (13 : Int32)), (.int vv), (.int ((pp &&& (2147483647 : Int32)) % (13 : Int32))), (.long bv), (.long av), (.ref b5)])) _
    refine st42 _ ?_
    show Steps p.tables e below (T42.setTop (mkF m 284 #[.val (.long av), .second, .val (.long bv), .second, .val (.int pp), .val (.int vv), .val (.ref b1), .val (.int ((pp &&& (2147483647 : Int32)) % (13 : Int32))), .val (.ref b5)] [(.int (r9_v av bv ((pp &&& (2147483647 : Int32)) % (13 : Int32)) vv (13 : Int32) (r6_arr vv (r6_arr (bv.toInt32) (r6_arr (((bv.toUInt64 >>> ((32 : Int32) &&& 0x3f).toInt64.toUInt64).toInt64).toInt32) (r6_arr (av.toInt32) (r6_arr (((av.toUInt64 >>> ((32 : Int32) &&& 0x3f).toInt64.toUInt64).toInt64).toInt32) zI 0) (0 + 4)) 8) (8 + 4)) pn) 13))])) _
    refine XS.ifNo X42.here hx rfl (hb hby at_284) rfl ((if0 _ _).trans (feq (own_at13 av bv pp vv pn hpn hpl : ¬ ((r9_v av bv ((pp &&& (2147483647 : Int32)) % (13 : Int32)) vv (13 : Int32) (r6_arr vv (r6_arr (bv.toInt32) (r6_arr (((bv.toUInt64 >>> ((32 : Int32) &&& 0x3f).toInt64.toUInt64).toInt64).toInt32) (r6_arr (av.toInt32) (r6_arr (((av.toUInt64 >>> ((32 : Int32) &&& 0x3f).toInt64.toUInt64).toInt64).toInt32) zI 0) (0 + 4)) 8) (8 + 4)) pn) 13) = (0 : Int32)))).1) ?_
    show Steps p.tables e below (T42.setTop (mkF m 287 #[.val (.long av), .second, .val (.long bv), .second, .val (.int pp), .val (.int vv), .val (.ref b1), .val (.int ((pp &&& (2147483647 : Int32)) % (13 : Int32))), .val (.ref b5)] [])) _
    refine XS.aload X42.here hx rfl (hb hby at_287) rfl rfl ?_
    show Steps p.tables e below (T42.setTop (mkF m 289 #[.val (.long av), .second, .val (.long bv), .second, .val (.int pp), .val (.int vv), .val (.ref b1), .val (.int ((pp &&& (2147483647 : Int32)) % (13 : Int32))), .val (.ref b5)] [(.ref b5)])) _
    refine XS.lloadN X42.here hx rfl (hb hby at_289) rfl ?_
    show Steps p.tables e below (T42.setTop (mkF m 290 #[.val (.long av), .second, .val (.long bv), .second, .val (.int pp), .val (.int vv), .val (.ref b1), .val (.int ((pp &&& (2147483647 : Int32)) % (13 : Int32))), .val (.ref b5)] [(.long av), (.ref b5)])) _
    refine XS.lloadN X42.here hx rfl (hb hby at_290) rfl ?_
    show Steps p.tables e below (T42.setTop (mkF m 291 #[.val (.long av), .second, .val (.long bv), .second, .val (.int pp), .val (.int vv), .val (.ref b1), .val (.int ((pp &&& (2147483647 : Int32)) % (13 : Int32))), .val (.ref b5)] [(.long bv), (.long av), (.ref b5)])) _
    refine XS.iload X42.here hx rfl (hb hby at_291) rfl ?_
    show Steps p.tables e below (T42.setTop (mkF m 293 #[.val (.long av), .second, .val (.long bv), .second, .val (.int pp), .val (.int vv), .val (.ref b1), .val (.int ((pp &&& (2147483647 : Int32)) % (13 : Int32))), .val (.ref b5)] [(.int ((pp &&& (2147483647 : Int32)) % (13 : Int32))), (.long bv), (.long av), (.ref b5)])) _
    refine XS.iload X42.here hx rfl (hb hby at_293) rfl ?_
    show Steps p.tables e below (T42.setTop (mkF m 295 #[.val (.long av), .second, .val (.long bv), .second, .val (.int pp), .val (.int vv), .val (.ref b1), .val (.int ((pp &&& (2147483647 : Int32)) % (13 : Int32))), .val (.ref b5)] [(.int vv), (.int ((pp &&& (2147483647 : Int32)) % (13 : Int32))), (.long bv), (.long av), (.ref b5)])) _
    refine XS.bipush X42.here hx rfl (hb hby at_295) ?_
    show Steps p.tables e below (T42.setTop (mkF m 297 #[.val (.long av), .second, .val (.long bv), .second, .val (.int pp), .val (.int vv), .val (.ref b1), .val (.int ((pp &&& (2147483647 : Int32)) % (13 : Int32))), .val (.ref b5)] [(.int (14 : Int32)), (.int vv), (.int ((pp &&& (2147483647 : Int32)) % (13 : Int32))), (.long bv), (.long av), (.ref b5)])) _
    refine st43 _ ?_
    show Steps p.tables e below (T43.setTop (mkF m 300 #[.val (.long av), .second, .val (.long bv), .second, .val (.int pp), .val (.int vv), .val (.ref b1), .val (.int ((pp &&& (2147483647 : Int32)) % (13 : Int32))), .val (.ref b5)] [(.int (r9_v av bv ((pp &&& (2147483647 : Int32)) % (13 : Int32)) vv (14 : Int32) (r6_arr vv (r6_arr (bv.toInt32) (r6_arr (((bv.toUInt64 >>> ((32 : Int32) &&& 0x3f).toInt64.toUInt64).toInt64).toInt32) (r6_arr (av.toInt32) (r6_arr (((av.toUInt64 >>> ((32 : Int32) &&& 0x3f).toInt64.toUInt64).toInt64).toInt32) zI 0) (0 + 4)) 8) (8 + 4)) pn) 14))])) _
    refine XS.ifNo X43.here hx rfl (hb hby at_300) rfl ((if0 _ _).trans (feq (own_at14 av bv pp vv pn hpn hpl : ¬ ((r9_v av bv ((pp &&& (2147483647 : Int32)) % (13 : Int32)) vv (14 : Int32) (r6_arr vv (r6_arr (bv.toInt32) (r6_arr (((bv.toUInt64 >>> ((32 : Int32) &&& 0x3f).toInt64.toUInt64).toInt64).toInt32) (r6_arr (av.toInt32) (r6_arr (((av.toUInt64 >>> ((32 : Int32) &&& 0x3f).toInt64.toUInt64).toInt64).toInt32) zI 0) (0 + 4)) 8) (8 + 4)) pn) 14) = (0 : Int32)))).1) ?_
    show Steps p.tables e below (T43.setTop (mkF m 303 #[.val (.long av), .second, .val (.long bv), .second, .val (.int pp), .val (.int vv), .val (.ref b1), .val (.int ((pp &&& (2147483647 : Int32)) % (13 : Int32))), .val (.ref b5)] [])) _
    refine XS.aload X43.here hx rfl (hb hby at_303) rfl rfl ?_
    show Steps p.tables e below (T43.setTop (mkF m 305 #[.val (.long av), .second, .val (.long bv), .second, .val (.int pp), .val (.int vv), .val (.ref b1), .val (.int ((pp &&& (2147483647 : Int32)) % (13 : Int32))), .val (.ref b5)] [(.ref b5)])) _
    refine XS.lloadN X43.here hx rfl (hb hby at_305) rfl ?_
    show Steps p.tables e below (T43.setTop (mkF m 306 #[.val (.long av), .second, .val (.long bv), .second, .val (.int pp), .val (.int vv), .val (.ref b1), .val (.int ((pp &&& (2147483647 : Int32)) % (13 : Int32))), .val (.ref b5)] [(.long av), (.ref b5)])) _
    refine XS.lloadN X43.here hx rfl (hb hby at_306) rfl ?_
    show Steps p.tables e below (T43.setTop (mkF m 307 #[.val (.long av), .second, .val (.long bv), .second, .val (.int pp), .val (.int vv), .val (.ref b1), .val (.int ((pp &&& (2147483647 : Int32)) % (13 : Int32))), .val (.ref b5)] [(.long bv), (.long av), (.ref b5)])) _
    refine XS.iload X43.here hx rfl (hb hby at_307) rfl ?_
    show Steps p.tables e below (T43.setTop (mkF m 309 #[.val (.long av), .second, .val (.long bv), .second, .val (.int pp), .val (.int vv), .val (.ref b1), .val (.int ((pp &&& (2147483647 : Int32)) % (13 : Int32))), .val (.ref b5)] [(.int ((pp &&& (2147483647 : Int32)) % (13 : Int32))), (.long bv), (.long av), (.ref b5)])) _
    refine XS.iload X43.here hx rfl (hb hby at_309) rfl ?_
    show Steps p.tables e below (T43.setTop (mkF m 311 #[.val (.long av), .second, .val (.long bv), .second, .val (.int pp), .val (.int vv), .val (.ref b1), .val (.int ((pp &&& (2147483647 : Int32)) % (13 : Int32))), .val (.ref b5)] [(.int vv), (.int ((pp &&& (2147483647 : Int32)) % (13 : Int32))), (.long bv), (.long av), (.ref b5)])) _
    refine XS.bipush X43.here hx rfl (hb hby at_311) ?_
    show Steps p.tables e below (T43.setTop (mkF m 313 #[.val (.long av), .second, .val (.long bv), .second, .val (.int pp), .val (.int vv), .val (.ref b1), .val (.int ((pp &&& (2147483647 : Int32)) % (13 : Int32))), .val (.ref b5)] [(.int (15 : Int32)), (.int vv), (.int ((pp &&& (2147483647 : Int32)) % (13 : Int32))), (.long bv), (.long av), (.ref b5)])) _
    refine st44 _ ?_
    show Steps p.tables e below (T44.setTop (mkF m 316 #[.val (.long av), .second, .val (.long bv), .second, .val (.int pp), .val (.int vv), .val (.ref b1), .val (.int ((pp &&& (2147483647 : Int32)) % (13 : Int32))), .val (.ref b5)] [(.int (r9_v av bv ((pp &&& (2147483647 : Int32)) % (13 : Int32)) vv (15 : Int32) (r6_arr vv (r6_arr (bv.toInt32) (r6_arr (((bv.toUInt64 >>> ((32 : Int32) &&& 0x3f).toInt64.toUInt64).toInt64).toInt32) (r6_arr (av.toInt32) (r6_arr (((av.toUInt64 >>> ((32 : Int32) &&& 0x3f).toInt64.toUInt64).toInt64).toInt32) zI 0) (0 + 4)) 8) (8 + 4)) pn) 15))])) _
    refine XS.ifNo X44.here hx rfl (hb hby at_316) rfl ((if0 _ _).trans (feq (own_at15 av bv pp vv pn hpn hpl : ¬ ((r9_v av bv ((pp &&& (2147483647 : Int32)) % (13 : Int32)) vv (15 : Int32) (r6_arr vv (r6_arr (bv.toInt32) (r6_arr (((bv.toUInt64 >>> ((32 : Int32) &&& 0x3f).toInt64.toUInt64).toInt64).toInt32) (r6_arr (av.toInt32) (r6_arr (((av.toUInt64 >>> ((32 : Int32) &&& 0x3f).toInt64.toUInt64).toInt64).toInt32) zI 0) (0 + 4)) 8) (8 + 4)) pn) 15) = (0 : Int32)))).1) ?_
    show Steps p.tables e below (T44.setTop (mkF m 319 #[.val (.long av), .second, .val (.long bv), .second, .val (.int pp), .val (.int vv), .val (.ref b1), .val (.int ((pp &&& (2147483647 : Int32)) % (13 : Int32))), .val (.ref b5)] [])) _
    refine XS.aload X44.here hx rfl (hb hby at_319) rfl rfl ?_
    show Steps p.tables e below (T44.setTop (mkF m 321 #[.val (.long av), .second, .val (.long bv), .second, .val (.int pp), .val (.int vv), .val (.ref b1), .val (.int ((pp &&& (2147483647 : Int32)) % (13 : Int32))), .val (.ref b5)] [(.ref b5)])) _
    refine XS.bipush X44.here hx rfl (hb hby at_321) ?_
    show Steps p.tables e below (T44.setTop (mkF m 323 #[.val (.long av), .second, .val (.long bv), .second, .val (.int pp), .val (.int vv), .val (.ref b1), .val (.int ((pp &&& (2147483647 : Int32)) % (13 : Int32))), .val (.ref b5)] [(.int (16 : Int32)), (.ref b5)])) _
    refine X44.baloadBytes hx (j := (16 : Int32)) (v := (.int ((r6_arr vv (r6_arr (bv.toInt32) (r6_arr (((bv.toUInt64 >>> ((32 : Int32) &&& 0x3f).toInt64.toUInt64).toInt64).toInt32) (r6_arr (av.toInt32) (r6_arr (((av.toUInt64 >>> ((32 : Int32) &&& 0x3f).toInt64.toUInt64).toInt64).toInt32) zI 0) (0 + 4)) 8) (8 + 4)) pn) 16))) (by rw [e44]; exact Arcl45.1) (State.isArrayOf_alike hZ.alike Arcl45.2.1) Arcl45.2.2 hincl45 hatcl45 (g := (mkF m 323 #[.val (.long av), .second, .val (.long bv), .second, .val (.int pp), .val (.int vv), .val (.ref b1), .val (.int ((pp &&& (2147483647 : Int32)) % (13 : Int32))), .val (.ref b5)] [(.int (16 : Int32)), (.ref b5)])) rfl rfl (hb hby at_323) _ ?_
    show Steps p.tables e below (T44.setTop (mkF m 324 #[.val (.long av), .second, .val (.long bv), .second, .val (.int pp), .val (.int vv), .val (.ref b1), .val (.int ((pp &&& (2147483647 : Int32)) % (13 : Int32))), .val (.ref b5)] [(.int ((r6_arr vv (r6_arr (bv.toInt32) (r6_arr (((bv.toUInt64 >>> ((32 : Int32) &&& 0x3f).toInt64.toUInt64).toInt64).toInt32) (r6_arr (av.toInt32) (r6_arr (((av.toUInt64 >>> ((32 : Int32) &&& 0x3f).toInt64.toUInt64).toInt64).toInt32) zI 0) (0 + 4)) 8) (8 + 4)) pn) 16))])) _
    refine XS.ifNo X44.here hx rfl (hb hby at_324) rfl ((if0 _ _).trans (teq (own_z av bv pp vv pn hpl : (((r6_arr vv (r6_arr (bv.toInt32) (r6_arr (((bv.toUInt64 >>> ((32 : Int32) &&& 0x3f).toInt64.toUInt64).toInt64).toInt32) (r6_arr (av.toInt32) (r6_arr (((av.toUInt64 >>> ((32 : Int32) &&& 0x3f).toInt64.toUInt64).toInt64).toInt32) zI 0) (0 + 4)) 8) (8 + 4)) pn) 16) = (0 : Int32)))).2) ?_
    show Steps p.tables e below (T44.setTop (mkF m 327 #[.val (.long av), .second, .val (.long bv), .second, .val (.int pp), .val (.int vv), .val (.ref b1), .val (.int ((pp &&& (2147483647 : Int32)) % (13 : Int32))), .val (.ref b5)] [])) _
    refine XS.iconst X44.here hx rfl (hb hby at_327) ?_
    show Steps p.tables e below (T44.setTop (mkF m 328 #[.val (.long av), .second, .val (.long bv), .second, .val (.int pp), .val (.int vv), .val (.ref b1), .val (.int ((pp &&& (2147483647 : Int32)) % (13 : Int32))), .val (.ref b5)] [(.int (1 : Int32))])) _
    refine XS.goto X44.here hx rfl (pc0 := 328) (pc' := 332) rfl (hb hby at_328) (by decide) (by decide) ?_
    show Steps p.tables e below (T44.setTop (mkF m 332 #[.val (.long av), .second, .val (.long bv), .second, .val (.int pp), .val (.int vv), .val (.ref b1), .val (.int ((pp &&& (2147483647 : Int32)) % (13 : Int32))), .val (.ref b5)] [(.int (1 : Int32))])) _
    exact retN X44 hx (t := .boolean) Bd.returns (by simp) (hb hby at_332) hr
  · show Q0 Z av bv pp vv h0 n0 _ T44.heap _
    rw [e44]
    exact ⟨rfl, N44⟩
set_option maxRecDepth 65536 in
set_option maxHeartbeats 40000000 in
theorem comes_1 {Post : Tables → Env → Array Value → State → Outcome → State → Prop} (hpost : ∀ tb e args s v u, (limb_1_1.after args s (.returned v) u = true ∧ limb_1_2.after args s (.returned v) u = true ∧ True) → FrameEnd s (.returned v) u (Jvm.fieldLocs frame_1_writes args s ++ Jvm.arrayLocs frame_1_arrays args s ++ Jvm.staticLocs frame_1_statics s) 16 640 → Post tb e args s (.returned v) u) :
    ArmFor flags0 classFile x code maxLocals ret World_1 tables_1 room_1 Calls_1 rest_1 Pre_1 Post := by
  intro l hfl _ _ p e ha hc hk s m args below hf hA hF happ hP
  obtain ⟨hcalls, hrest, hpre⟩ := hP
  obtain ⟨-, -, -, hnamed, -, -, -, hat⟩ := (Spec.applies_iff hf).mp happ
  obtain ⟨hg, hn⟩ := and_e (Cond.before_iff.mp (show (Jvm.Cond.and given_1 narrow_1).before args s = true from hpre))
  obtain ⟨gv1, gv2⟩ := and_e hg
  obtain ⟨gv3, gv4⟩ := and_e gv2
  obtain ⟨gv5, gv6⟩ := and_e gv4
  obtain ⟨gv7, gv8⟩ := and_e gv6
  obtain ⟨w0, w1, w2, w3, rfl⟩ : ∃ w0 w1 w2 w3 : Value, args = #[w0, w1, w2, w3] := by
    have hs : args.size = 4 := by simpa [Cond.value, given_1] using gv1
    obtain ⟨L⟩ := args
    match L, hs with
    | [w0, w1, w2, w3], _ => exact ⟨w0, w1, w2, w3, rfl⟩
  have hw := fun d (hd : d ∈ tables_1) => atoms_spec (ws := Jvm.Cond.code x code maxLocals ret :: tables_1) hat d (List.mem_cons_of_mem _ hd)
  have hfit : Fit s := fun {y c} hc i hi => by
    obtain ⟨ha, rfl⟩ := Array.getElem?_eq_some_iff.mp hc
    have q := List.all_eq_true.mp ((Array.all_eq_true_iff_forall_mem.mp hF) _ (Array.getElem_mem ha)) i (List.mem_range.mpr hi)
    simpa [Array.getElem?_eq_getElem hi] using q
  obtain ⟨i0, ei0⟩ := isL_v gv3
  obtain rfl : w0 = (.long i0) := Option.some.inj ei0
  obtain ⟨i1, ei1⟩ := isL_v gv5
  obtain rfl : w1 = (.long i1) := Option.some.inj ei1
  obtain ⟨i2, ei2⟩ := is_v gv7
  obtain rfl : w2 = (.int i2) := Option.some.inj ei2
  obtain ⟨i3, ei3⟩ := is_v gv8
  obtain rfl : w3 = (.int i3) := Option.some.inj ei3
  obtain ⟨n, o, h1, h2, h3, _, L, rfl, ⟨rfl, N⟩, hq⟩ := rm0 l s _ hw tables_1 i0 i1 i2 i3 s.heap s.heap.size (Nat.le_refl _) p e ha hc hk s m _ below hf ((Spec.applies_iff_loose hf).mp happ).1 ⟨rfl, State.Warmed39.refl s, rfl⟩ trivial
  refine ⟨n, _, h1, h2, h3, hpost _ _ _ _ _ _ ⟨Cond.after_iff.mpr rfl, Cond.after_iff.mpr (eq_i res_at (Term.int_eval (1)) rfl), trivial⟩ ⟨hq.1, hq.2.1, (hq.2.2.sift fun y hy => Or.inr (N y hy)).mono (by decide) (by decide)⟩⟩
theorem main_1_1 : Claimed_1_1 := comes_1 fun _ _ _ _ _ _ h hF => ⟨h.1, hF⟩
theorem main_1_2 : Claimed_1_2 := comes_1 fun _ _ _ _ _ _ h hF => ⟨h.2.1, hF⟩
end Jvm.Pilot.@@N@@
namespace Jvm.Pilot.@@N@@
open Jvm Jvm.ClassFile Sem Op Lib Jvm.Free Jvm.Stand Jvm.Pilot.@@N@@.Jvm.D
/-! MADE BY PROGRAM (witnessworld.py) out of the Statement's table words and the real class files: 9 classes; the members and pool entries that the words name. The judged class is class 1, her method 1. -/
namespace start1
open Jvm.ClassFile
def u (s : String) : CpInfo := .utf8 (stringToUtf16 s)
/-- a pool by its gaps: so many unusable entries, then the entry; so many at the end -/
def gap : Nat → List CpInfo → List CpInfo
  | 0, r => r
  | n + 1, r => .unusable :: gap n r
def poolList (es : List (Nat × CpInfo)) (last : Nat) : List CpInfo := es.foldr (fun e r => gap e.1 (e.2 :: r)) (gap last [])
def pool (es : List (Nat × CpInfo)) (last : Nat) : Array CpInfo := ⟨poolList es last⟩
def fileOf (pool : Array CpInfo) (this : Nat) (attrs : Array Attribute := #[]) (ms : Array MethodInfo := #[]) (fl : Nat := 33) (sup : Nat := 0) (ifs : Array Nat := #[]) (fds : Array FieldInfo := #[]) : ClassFile where
  minorVersion := 0
  majorVersion := 65
  constantPool := pool
  accessFlags := fl
  thisClass := this
  superClass := sup
  interfaces := ifs
  fields := fds
  methods := ms
  attributes := attrs
def plain (name : String) (sup : Option ClassId) : Class where
  name := name
  kind := .ordinary
  loader := none
  accessFlags := 33
  super := sup
  interfaces := #[]
  cf := none
  fields := #[]
  methods := #[]
  instanceTypes := #[]
  staticTypes := #[]
  resolved := #[]
  callSites := []
  init := .initialized
  statics := none
  mirror := none

def pool0 : Array CpInfo := pool [(5, u "<init>"), (0, u "()V"), (1, .class_ 10), (1, u "java/lang/Object")] 113

def k0c0 : Code := { maxStack := 0, maxLocals := 1, code := object_method_1_code, exceptionTable := #[], attributes := #[] }
def k0m0 : Method := { name := "<init>", desc := "()V", sig := { parameters := [], returnType := none }, accessFlags := 1, code := some k0c0 }
/-- java/lang/Object -/
def k0 : Class := { plain "java/lang/Object" none with
  accessFlags := 33
  interfaces := #[]
  cf := some (fileOf pool0 8 #[] #[{ accessFlags := 1, nameIndex := 5, descriptorIndex := 6, attributes := #[] }] 33 0 #[] #[])
  fields := #[]
  methods := #[k0m0]
  instanceTypes := #[]
  staticTypes := #[]
  resolved := Array.replicate 124 none
  statics := none }

def pool1 : Array CpInfo := pool [(2, .class_ 4), (0, .nameAndType 5 6), (0, u "java/lang/Object"), (0, u "<init>"), (0, u "()V"), (0, .class_ 8), (0, u "com/example/lockstep/lockstep/store/RecordBuffer"), (0, .methodref 7 3), (0, .methodref 7 11), (0, .nameAndType 12 13), (0, u "writeLong"), (0, u "(J)V"), (0, .integer 2147483647), (0, .methodref 7 16), (0, .nameAndType 17 18), (0, u "putInt"), (0, u "(II)V"), (0, .methodref 7 20), (0, .nameAndType 21 22), (0, u "bytes"), (0, u "()[B"), (0, .methodref 7 24), (0, .nameAndType 25 26), (0, u "size"), (0, u "()I"), (0, .methodref 28 29), (0, .class_ 30), (0, .nameAndType 31 32), (0, u "com/example/lockstep/lockstep/store/RecordBufferPutIntPinLaw"), (0, u "at"), (0, u "([BJJIII)Z"), (0, .methodref 28 34), (0, .nameAndType 35 36), (0, u "expected"), (0, u "(JJIII)B"), (2, u "law"), (0, u "(JJII)Z")] 5

def k1m0 : Method := { name := "<init>", desc := "()V", sig := { parameters := [], returnType := none }, accessFlags := 1, code := none }
def k1c1 : Code := { maxStack := 8, maxLocals := 9, code := code, exceptionTable := #[], attributes := #[] }
def k1m1 : Method := { name := "law", desc := "(JJII)Z", sig := { parameters := [.long, .long, .int, .int], returnType := some .boolean }, accessFlags := 9, code := some k1c1 }
def k1c2 : Code := { maxStack := 8, maxLocals := 8, code := method_3_code, exceptionTable := #[], attributes := #[] }
def k1m2 : Method := { name := "at", desc := "([BJJIII)Z", sig := { parameters := [(.array .byte), .long, .long, .int, .int, .int], returnType := some .boolean }, accessFlags := 10, code := some k1c2 }
def k1c3 : Code := { maxStack := 5, maxLocals := 7, code := method_4_code, exceptionTable := #[], attributes := #[] }
def k1m3 : Method := { name := "expected", desc := "(JJIII)B", sig := { parameters := [.long, .long, .int, .int, .int], returnType := some .byte }, accessFlags := 10, code := some k1c3 }
/-- com/example/lockstep/lockstep/store/RecordBufferPutIntPinLaw -/
def k1 : Class := { plain "com/example/lockstep/lockstep/store/RecordBufferPutIntPinLaw" (some 0) with
  accessFlags := 49
  interfaces := #[]
  cf := some (fileOf pool1 28 #[] #[{ accessFlags := 1, nameIndex := 5, descriptorIndex := 6, attributes := #[] }, { accessFlags := 9, nameIndex := 39, descriptorIndex := 40, attributes := #[] }, { accessFlags := 10, nameIndex := 31, descriptorIndex := 32, attributes := #[] }, { accessFlags := 10, nameIndex := 35, descriptorIndex := 36, attributes := #[] }] 49 2 #[] #[])
  fields := #[]
  methods := #[k1m0, k1m1, k1m2, k1m3]
  instanceTypes := #[]
  staticTypes := #[]
  resolved := Array.replicate 46 none
  statics := none }

def pool2 : Array CpInfo := pool [(1, .methodref 2 3), (0, .class_ 4), (0, .nameAndType 5 6), (0, u "java/lang/Object"), (0, u "<init>"), (0, u "()V"), (0, .class_ 8), (0, u "com/example/lockstep/lockstep/store/RecordBuffer"), (0, .fieldref 7 10), (0, .nameAndType 11 12), (0, u "bytes"), (0, u "[B"), (0, .fieldref 7 14), (0, .nameAndType 15 16), (0, u "size"), (0, u "I"), (1, .methodref 7 19), (0, .nameAndType 20 21), (0, u "grow"), (0, u "(I)V"), (0, .methodref 7 23), (0, .nameAndType 24 25), (0, u "putInt"), (0, u "(II)V"), (0, .methodref 7 27), (0, .nameAndType 28 21), (0, u "writeInt"), (12, u "INITIAL"), (2, u "KEPT"), (4, u "()[B"), (0, u "()I"), (1, u "writeLong"), (0, u "(J)V")] 2

def k2c0 : Code := { maxStack := 2, maxLocals := 1, code := prog_146_method_1_code, exceptionTable := #[], attributes := #[] }
def k2m0 : Method := { name := "<init>", desc := "()V", sig := { parameters := [], returnType := none }, accessFlags := 0, code := some k2c0 }
def k2c1 : Code := { maxStack := 1, maxLocals := 1, code := prog_146_method_3_code, exceptionTable := #[], attributes := #[] }
def k2m1 : Method := { name := "bytes", desc := "()[B", sig := { parameters := [], returnType := some (.array .byte) }, accessFlags := 0, code := some k2c1 }
def k2c2 : Code := { maxStack := 1, maxLocals := 1, code := prog_146_method_4_code, exceptionTable := #[], attributes := #[] }
def k2m2 : Method := { name := "size", desc := "()I", sig := { parameters := [], returnType := some .int }, accessFlags := 0, code := some k2c2 }
def k2c3 : Code := { maxStack := 3, maxLocals := 2, code := prog_146_method_6_code, exceptionTable := #[], attributes := #[] }
def k2m3 : Method := { name := "writeInt", desc := "(I)V", sig := { parameters := [.int], returnType := none }, accessFlags := 0, code := some k2c3 }
def k2c4 : Code := { maxStack := 4, maxLocals := 3, code := prog_146_method_7_code, exceptionTable := #[], attributes := #[] }
def k2m4 : Method := { name := "writeLong", desc := "(J)V", sig := { parameters := [.long], returnType := none }, accessFlags := 0, code := some k2c4 }
def k2c5 : Code := { maxStack := 4, maxLocals := 3, code := prog_146_method_8_code, exceptionTable := #[], attributes := #[] }
def k2m5 : Method := { name := "putInt", desc := "(II)V", sig := { parameters := [.int, .int], returnType := none }, accessFlags := 0, code := some k2c5 }
def k2c6 : Code := { maxStack := 5, maxLocals := 2, code := prog_146_method_9_code, exceptionTable := #[], attributes := #[] }
def k2m6 : Method := { name := "grow", desc := "(I)V", sig := { parameters := [.int], returnType := none }, accessFlags := 2, code := some k2c6 }
/-- com/example/lockstep/lockstep/store/RecordBuffer -/
def k2 : Class := { plain "com/example/lockstep/lockstep/store/RecordBuffer" (some 0) with
  accessFlags := 48
  interfaces := #[]
  cf := some (fileOf pool2 7 #[] #[{ accessFlags := 0, nameIndex := 5, descriptorIndex := 6, attributes := #[] }, { accessFlags := 0, nameIndex := 11, descriptorIndex := 49, attributes := #[] }, { accessFlags := 0, nameIndex := 15, descriptorIndex := 50, attributes := #[] }, { accessFlags := 0, nameIndex := 28, descriptorIndex := 21, attributes := #[] }, { accessFlags := 0, nameIndex := 52, descriptorIndex := 53, attributes := #[] }, { accessFlags := 0, nameIndex := 24, descriptorIndex := 25, attributes := #[] }, { accessFlags := 2, nameIndex := 20, descriptorIndex := 21, attributes := #[] }] 48 2 #[] #[{ accessFlags := 26, nameIndex := 41, descriptorIndex := 16, attributes := #[] }, { accessFlags := 26, nameIndex := 44, descriptorIndex := 16, attributes := #[] }, { accessFlags := 2, nameIndex := 11, descriptorIndex := 12, attributes := #[] }, { accessFlags := 2, nameIndex := 15, descriptorIndex := 16, attributes := #[] }])
  fields := #[{ name := "INITIAL", type := .int, accessFlags := 26, slot := 0, constantValue := 0 }, { name := "KEPT", type := .int, accessFlags := 26, slot := 1, constantValue := 0 }, { name := "bytes", type := (.array .byte), accessFlags := 2, slot := 0, constantValue := 0 }, { name := "size", type := .int, accessFlags := 2, slot := 1, constantValue := 0 }]
  methods := #[k2m0, k2m1, k2m2, k2m3, k2m4, k2m5, k2m6]
  instanceTypes := #[(.array .byte), .int]
  staticTypes := #[.int, .int]
  resolved := Array.replicate 56 none
  statics := none }

def pool3 : Array CpInfo := pool [(1, u "java/lang/Cloneable"), (0, .class_ 1), (0, u "java/lang/Object"), (0, .class_ 3)] 3

/-- java/lang/Cloneable -/
def k3 : Class := { plain "java/lang/Cloneable" (some 0) with
  accessFlags := 1537
  interfaces := #[]
  cf := some (fileOf pool3 2 #[] #[] 1537 4 #[] #[])
  fields := #[]
  methods := #[]
  instanceTypes := #[]
  staticTypes := #[]
  resolved := Array.replicate 8 none
  statics := none }

def pool4 : Array CpInfo := pool [(1, u "java/io/Serializable"), (0, .class_ 1), (0, u "java/lang/Object"), (0, .class_ 3)] 3

/-- java/io/Serializable -/
def k4 : Class := { plain "java/io/Serializable" (some 0) with
  accessFlags := 1537
  interfaces := #[]
  cf := some (fileOf pool4 2 #[] #[] 1537 4 #[] #[])
  fields := #[]
  methods := #[]
  instanceTypes := #[]
  staticTypes := #[]
  resolved := Array.replicate 8 none
  statics := none }

/-- the primitive byte -/
def k5 : Class := { plain "byte" none with kind := .primitive 'B', accessFlags := 0x411 }
/-- [B -/
def k6 : Class := { plain "[B" (some 0) with kind := .array 5 .byte, interfaces := #[3, 4], accessFlags := 1041 }

/-- the primitive int -/
def k7 : Class := { plain "int" none with kind := .primitive 'I', accessFlags := 0x411 }
/-- [I -/
def k8 : Class := { plain "[I" (some 0) with kind := .array 7 .int, interfaces := #[3, 4], accessFlags := 1041 }

def heap : Heap := #[]
def classes : Array Class := #[k0, k1, k2, k3, k4, k5, k6, k7, k8]
def interned : List (Array UInt16 × Addr) := []
def slotsUsed : Nat := 0
def theMethod : MethodId := ⟨1, 1⟩
def args0 : Array Value := #[.long 1234567890123, .long 77, .int 5, .int 99]
def aboutOver (below : List Frame) : State where
  vm := { classes := classes, interned := interned.toArray }
  heap := heap
  slotsUsed := slotsUsed
  threads := #[{ frames := .invoking theMethod args0 :: below }]
def below0 : List Frame := [.native { method := ⟨0, 0⟩, args := #[] }]
def about1 : State := aboutOver below0
def p0 : Program := .bare "" "" ""
def e0 : Env := launch0.env 0 0 0
theorem w_frames : about1.frames = Frame.invoking theMethod args0 :: below0 := rfl
set_option maxRecDepth 65536 in
theorem w_args : argsFit about1.vm theMethod args0 = true := by decide +kernel
set_option maxRecDepth 65536 in
theorem w_heap : heapFits about1 = true := by decide +kernel
set_option maxRecDepth 65536 in
theorem w_runnable : about1.curStatus? = some .runnable := by decide +kernel
set_option maxRecDepth 65536 in
theorem w_alone : about1.alone = true := by decide +kernel
set_option maxRecDepth 65536 in
theorem w_named : about1.methodNamed? x = some theMethod := by decide +kernel
set_option maxRecDepth 65536 in
theorem w_hears : about1.hears theMethod below0 = true := by decide +kernel
set_option maxRecDepth 65536 in
theorem w_ripe : about1.ripe theMethod args0 below0 = true := by decide +kernel
theorem w_running : about1.status = .running := rfl
set_option maxRecDepth 65536 in
theorem w_room : about1.hasRoom e0.platform room_1 = true :=
  launch0.hasRoom_least _ room_1 (by decide +kernel) (by decide +kernel) (by decide +kernel) (by decide +kernel) (by decide +kernel) (by decide +kernel)
theorem allAtoms_all (ts : List Jvm.Cond) (a : Array Jvm.Value) (st : Jvm.State) : (allAtoms ts).before a st = ts.all (fun c => c.before a st) := by
  induction ts with
  | nil => rfl
  | cons c t ih =>
    show (Jvm.Cond.and c (allAtoms t)).before a st = _
    rw [Jvm.Cond.before_and, ih, List.all_cons]
def words1 : List Jvm.Cond := Jvm.Cond.code x code maxLocals ret :: tables_1
/-- a 'code' word, met by the world's own term for the bytes: nothing is compared byte by byte -/
theorem code_word {y : MethodName} {bytes : ByteArray} {mx : Nat} {rt : Option FieldType} {a : Array Value} {s : State} {m : MethodId} {meth : Method} {c : Code} (h1 : s.methodNamed? y = some m) (h2 : s.vm.method? m = some meth) (h3 : meth.code = some c) (h4 : c.code = bytes)
    (h5 : (c.maxLocals == mx && c.exceptionTable.isEmpty && decide (c.maxStack ≤ mostOperands) && decide (meth.sig.returnType = rt) && !meth.locks && decide (parseMethodDescriptor y.desc = some meth.sig)) = true) : (Jvm.Cond.code y bytes mx rt).before a s = true := by
  simp only [Bool.and_eq_true, beq_iff_eq, Bool.not_eq_true', decide_eq_true_eq] at h5
  obtain ⟨⟨⟨⟨⟨g1, g2⟩, g3⟩, g4⟩, g5⟩, g6⟩ := h5
  simp [Cond.before, Cond.holds, Cond.value, h1, h2, h3, h4, g1, g2, g3, g4, g5, g6]
def isCode : Jvm.Cond → Bool
  | .code _ _ _ _ => true
  | _ => false
theorem all_split {L : List Jvm.Cond} {P : Jvm.Cond → Bool} (h1 : L.all (fun c => isCode c || P c) = true) (h2 : ∀ c ∈ L.filter isCode, P c = true) : L.all P = true := by
  refine List.all_eq_true.mpr fun c hc => ?_
  have h := List.all_eq_true.mp h1 c hc
  rcases Bool.eq_false_or_eq_true (isCode c) with hi | hi
  · exact h2 c (List.mem_filter.mpr ⟨hc, hi⟩)
  · simpa [hi] using h
set_option maxRecDepth 65536 in
theorem w_c0 : (Jvm.Cond.code x code maxLocals ret).before args0 about1 = true := code_word (m := ⟨1, 1⟩) (meth := k1m1) (c := k1c1) (by decide +kernel) rfl rfl rfl (by decide +kernel)
set_option maxRecDepth 65536 in
theorem w_c1 : (Jvm.Cond.code ({ cls := "com/example/lockstep/lockstep/store/RecordBuffer", name := "<init>", desc := "()V" } : Jvm.MethodName) prog_146_method_1_code (1 : Nat) (Option.none : Option Jvm.ClassFile.FieldType)).before args0 about1 = true := code_word (m := ⟨2, 0⟩) (meth := k2m0) (c := k2c0) (by decide +kernel) rfl rfl rfl (by decide +kernel)
set_option maxRecDepth 65536 in
theorem w_c2 : (Jvm.Cond.code ({ cls := "java/lang/Object", name := "<init>", desc := "()V" } : Jvm.MethodName) object_method_1_code (1 : Nat) (Option.none : Option Jvm.ClassFile.FieldType)).before args0 about1 = true := code_word (m := ⟨0, 0⟩) (meth := k0m0) (c := k0c0) (by decide +kernel) rfl rfl rfl (by decide +kernel)
set_option maxRecDepth 65536 in
theorem w_c3 : (Jvm.Cond.code ({ cls := "com/example/lockstep/lockstep/store/RecordBuffer", name := "writeLong", desc := "(J)V" } : Jvm.MethodName) prog_146_method_7_code (3 : Nat) (Option.none : Option Jvm.ClassFile.FieldType)).before args0 about1 = true := code_word (m := ⟨2, 4⟩) (meth := k2m4) (c := k2c4) (by decide +kernel) rfl rfl rfl (by decide +kernel)
set_option maxRecDepth 65536 in
theorem w_c4 : (Jvm.Cond.code ({ cls := "com/example/lockstep/lockstep/store/RecordBuffer", name := "writeInt", desc := "(I)V" } : Jvm.MethodName) prog_146_method_6_code (2 : Nat) (Option.none : Option Jvm.ClassFile.FieldType)).before args0 about1 = true := code_word (m := ⟨2, 3⟩) (meth := k2m3) (c := k2c3) (by decide +kernel) rfl rfl rfl (by decide +kernel)
set_option maxRecDepth 65536 in
theorem w_c5 : (Jvm.Cond.code ({ cls := "com/example/lockstep/lockstep/store/RecordBuffer", name := "grow", desc := "(I)V" } : Jvm.MethodName) prog_146_method_9_code (2 : Nat) (Option.none : Option Jvm.ClassFile.FieldType)).before args0 about1 = true := code_word (m := ⟨2, 6⟩) (meth := k2m6) (c := k2c6) (by decide +kernel) rfl rfl rfl (by decide +kernel)
set_option maxRecDepth 65536 in
theorem w_c6 : (Jvm.Cond.code ({ cls := "com/example/lockstep/lockstep/store/RecordBuffer", name := "putInt", desc := "(II)V" } : Jvm.MethodName) prog_146_method_8_code (3 : Nat) (Option.none : Option Jvm.ClassFile.FieldType)).before args0 about1 = true := code_word (m := ⟨2, 5⟩) (meth := k2m5) (c := k2c5) (by decide +kernel) rfl rfl rfl (by decide +kernel)
set_option maxRecDepth 65536 in
theorem w_c7 : (Jvm.Cond.code ({ cls := "com/example/lockstep/lockstep/store/RecordBuffer", name := "bytes", desc := "()[B" } : Jvm.MethodName) prog_146_method_3_code (1 : Nat) (Option.some (Jvm.ClassFile.FieldType.array Jvm.ClassFile.FieldType.byte))).before args0 about1 = true := code_word (m := ⟨2, 1⟩) (meth := k2m1) (c := k2c1) (by decide +kernel) rfl rfl rfl (by decide +kernel)
set_option maxRecDepth 65536 in
theorem w_c8 : (Jvm.Cond.code ({ cls := "com/example/lockstep/lockstep/store/RecordBuffer", name := "size", desc := "()I" } : Jvm.MethodName) prog_146_method_4_code (1 : Nat) (Option.some Jvm.ClassFile.FieldType.int)).before args0 about1 = true := code_word (m := ⟨2, 2⟩) (meth := k2m2) (c := k2c2) (by decide +kernel) rfl rfl rfl (by decide +kernel)
set_option maxRecDepth 65536 in
theorem w_c9 : (Jvm.Cond.code ({ cls := "com/example/lockstep/lockstep/store/RecordBufferPutIntPinLaw", name := "at", desc := "([BJJIII)Z" } : Jvm.MethodName) method_3_code (8 : Nat) (Option.some Jvm.ClassFile.FieldType.boolean)).before args0 about1 = true := code_word (m := ⟨1, 2⟩) (meth := k1m2) (c := k1c2) (by decide +kernel) rfl rfl rfl (by decide +kernel)
set_option maxRecDepth 65536 in
theorem w_c10 : (Jvm.Cond.code ({ cls := "com/example/lockstep/lockstep/store/RecordBufferPutIntPinLaw", name := "expected", desc := "(JJIII)B" } : Jvm.MethodName) method_4_code (7 : Nat) (Option.some Jvm.ClassFile.FieldType.byte)).before args0 about1 = true := code_word (m := ⟨1, 3⟩) (meth := k1m3) (c := k1c3) (by decide +kernel) rfl rfl rfl (by decide +kernel)
def codes1 : List Jvm.Cond := [Jvm.Cond.code x code maxLocals ret, Jvm.Cond.code ({ cls := "com/example/lockstep/lockstep/store/RecordBuffer", name := "<init>", desc := "()V" } : Jvm.MethodName) prog_146_method_1_code (1 : Nat) (Option.none : Option Jvm.ClassFile.FieldType), Jvm.Cond.code ({ cls := "java/lang/Object", name := "<init>", desc := "()V" } : Jvm.MethodName) object_method_1_code (1 : Nat) (Option.none : Option Jvm.ClassFile.FieldType), Jvm.Cond.code ({ cls := "com/example/lockstep/lockstep/store/RecordBuffer", name := "writeLong", desc := "(J)V" } : Jvm.MethodName) prog_146_method_7_code (3 : Nat) (Option.none : Option Jvm.ClassFile.FieldType), Jvm.Cond.code ({ cls := "com/example/lockstep/lockstep/store/RecordBuffer", name := "writeInt", desc := "(I)V" } : Jvm.MethodName) prog_146_method_6_code (2 : Nat) (Option.none : Option Jvm.ClassFile.FieldType), Jvm.Cond.code ({ cls := "com/example/lockstep/lockstep/store/RecordBuffer", name := "grow", desc := "(I)V" } : Jvm.MethodName) prog_146_method_9_code (2 : Nat) (Option.none : Option Jvm.ClassFile.FieldType), Jvm.Cond.code ({ cls := "com/example/lockstep/lockstep/store/RecordBuffer", name := "putInt", desc := "(II)V" } : Jvm.MethodName) prog_146_method_8_code (3 : Nat) (Option.none : Option Jvm.ClassFile.FieldType), Jvm.Cond.code ({ cls := "com/example/lockstep/lockstep/store/RecordBuffer", name := "bytes", desc := "()[B" } : Jvm.MethodName) prog_146_method_3_code (1 : Nat) (Option.some (Jvm.ClassFile.FieldType.array Jvm.ClassFile.FieldType.byte)), Jvm.Cond.code ({ cls := "com/example/lockstep/lockstep/store/RecordBuffer", name := "size", desc := "()I" } : Jvm.MethodName) prog_146_method_4_code (1 : Nat) (Option.some Jvm.ClassFile.FieldType.int), Jvm.Cond.code ({ cls := "com/example/lockstep/lockstep/store/RecordBufferPutIntPinLaw", name := "at", desc := "([BJJIII)Z" } : Jvm.MethodName) method_3_code (8 : Nat) (Option.some Jvm.ClassFile.FieldType.boolean), Jvm.Cond.code ({ cls := "com/example/lockstep/lockstep/store/RecordBufferPutIntPinLaw", name := "expected", desc := "(JJIII)B" } : Jvm.MethodName) method_4_code (7 : Nat) (Option.some Jvm.ClassFile.FieldType.byte)]
set_option maxRecDepth 65536 in
theorem codes_eq : words1.filter isCode = codes1 := rfl
theorem w_codes : ∀ c ∈ words1.filter isCode, c.before args0 about1 = true := by
  rw [codes_eq]
  intro c hc
  simp only [codes1, List.mem_cons, List.not_mem_nil, or_false] at hc
  rcases hc with rfl | rfl | rfl | rfl | rfl | rfl | rfl | rfl | rfl | rfl | rfl
  · exact w_c0
  · exact w_c1
  · exact w_c2
  · exact w_c3
  · exact w_c4
  · exact w_c5
  · exact w_c6
  · exact w_c7
  · exact w_c8
  · exact w_c9
  · exact w_c10
set_option maxRecDepth 65536 in
theorem w_t1 : (words1.take 24).all (fun c => isCode c || c.before args0 about1) = true := by decide +kernel
set_option maxRecDepth 65536 in
theorem w_t2 : ((words1.drop 24).take 24).all (fun c => isCode c || c.before args0 about1) = true := by decide +kernel
set_option maxRecDepth 65536 in
theorem w_t3 : ((words1.drop 24).drop 24).all (fun c => isCode c || c.before args0 about1) = true := by decide +kernel
theorem w_tables : (allAtoms (Jvm.Cond.code x code maxLocals ret :: tables_1)).before args0 about1 = true := by
  rw [allAtoms_all]
  show words1.all (fun c => c.before args0 about1) = true
  refine all_split ?_ w_codes
  rw [← List.take_append_drop 24 words1, List.all_append, w_t1, ← List.take_append_drop 24 (words1.drop 24), List.all_append, w_t2, w_t3]
  rfl
set_option maxRecDepth 65536 in
theorem w_case : (Jvm.Cond.and given_1 narrow_1).before args0 about1 = true := by decide +kernel
theorem w_applies : (headSpec (Jvm.Cond.code x code maxLocals ret :: tables_1) room_1).applies x e0.platform about1 = true :=
  (Spec.applies_iff w_frames).mpr ⟨w_running, w_runnable, w_alone, w_named, w_hears, w_ripe, w_room, w_tables⟩
theorem atStart : AtStart classFile x code maxLocals ret World_1 tables_1 room_1 Calls_1 rest_1 Pre_1 launch0 p0 e0 about1 theMethod args0 below0 :=
  ⟨lists_1, trivial, launch0.admits_env _ _ _, launch0.least_env, fairChoices_fair.cas, fairChoices_fair.clock, w_frames, w_args, w_heap, w_applies, trivial, trivial, w_case⟩
end start1
theorem witness_1 : WitnessClaimed_1 := ⟨start1.p0, start1.e0, start1.about1, start1.theMethod, start1.args0, start1.below0, start1.atStart⟩
end Jvm.Pilot.@@N@@
