import JvmDerived
import JvmDerived.Pilot.@@N@@Statement
import JvmDerived.Pilot.@@N@@Code
set_option linter.unusedVariables false
set_option linter.unusedSimpArgs false
namespace Jvm.RoadKit
open Sem ClassFile Op Lib Jvm.Stand Jvm.Free Jvm.LawKit
section New
variable {p : Program} {l : Launch} {e : Env} {R : Room} {s : State} {m : MethodId} {args : Array Value} {below : List Frame} {meth : Method} {c : Code} {T : State} {locs : List Loc} {cells slots : Nat}
theorem retI (X : Stand p l e R s m args below meth c T locs cells slots) (hx : p.tables.exec = Jvm.exec) {pc : Nat} {Ls : Array Slot} {z : Int32} {rest : List Value} (hret : meth.sig.returnType = some .int) (hd : decode c.code pc = .ok (.ireturn, 1)) {fs : List Frame}
    (hl : ∀ (f : JFrame) (acts : List Action), f.method = m → f.locked = none → f.entered = [] → (doReturn e (T.setTop f) acts (some (.int z))).1 = T.setFrames fs) : Steps p.tables e below (T.setTop (mkF m pc Ls (.int z :: rest))) (T.setFrames fs) := by
  have hm' : T.vm.method? m = some meth := X.method'
  have hn : narrow .int (.int z) = .int z := rfl
  show Steps p.tables e below (T.setTop { method := m, pc := pc, locals := Ls, stack := _ :: rest, locked := none }) _
  jvm_step X.here [X.here.top, hx, hd, hm', hret, hn]
  first | (intro acts; rw [hl _ acts rfl rfl rfl]) | rw [hl _ _ rfl rfl rfl]
  exact Steps.refl _
end New
/-! own: a long's comparison, an array by a function -/
theorem own_tltL {x y : Int64} (h : x < y) : ifCond.holds .lt (lcmpW x y) = true ∧ ifCond.holds .ge (lcmpW x y) = false ∧ ifCond.holds .gt (lcmpW y x) = true ∧ ifCond.holds .le (lcmpW y x) = false := by
  have h1 := (lc_lt x y).mpr h
  have h2 := (lc_gt y x).mpr h
  rw [← lcW] at h1 h2
  simp only [if0]
  exact ⟨(tlt h1).1, (tlt h1).2.1, (tlt h2).2.2.1, (tlt h2).2.2.2⟩
theorem own_fltL {x y : Int64} (h : ¬ x < y) : ifCond.holds .lt (lcmpW x y) = false ∧ ifCond.holds .ge (lcmpW x y) = true ∧ ifCond.holds .gt (lcmpW y x) = false ∧ ifCond.holds .le (lcmpW y x) = true := by
  have h1 := mt (lc_lt x y).mp h
  have h2 := mt (lc_gt y x).mp h
  rw [← lcW] at h1 h2
  simp only [if0]
  exact ⟨(flt h1).1, (flt h1).2.1, (flt h2).2.2.1, (flt h2).2.2.2⟩
theorem own_teqL {x y : Int64} (h : x = y) : ifCond.holds .eq (lcmpW x y) = true ∧ ifCond.holds .ne (lcmpW x y) = false := by
  have h1 := (lc_eq x y).mpr h
  rw [← lcW] at h1
  simp only [if0]
  exact teq h1
theorem own_feqL {x y : Int64} (h : ¬ x = y) : ifCond.holds .eq (lcmpW x y) = false ∧ ifCond.holds .ne (lcmpW x y) = true := by
  have h1 := mt (lc_eq x y).mp h
  rw [← lcW] at h1
  simp only [if0]
  exact feq h1
theorem own_iadd {x y : Int32} {X Y : Int} (hx : x.toInt = X) (hy : y.toInt = Y) (h1 : -2147483648 ≤ X + Y) (h2 : X + Y < 2147483648) : (x + y).toInt = X + Y := by
  have := c_iadd x y; have := rng32 (x + y); omega
theorem own_isub {x y : Int32} {X Y : Int} (hx : x.toInt = X) (hy : y.toInt = Y) (h1 : -2147483648 ≤ X - Y) (h2 : X - Y < 2147483648) : (x - y).toInt = X - Y := by
  have := c_isub x y; have := rng32 (x - y); omega
theorem own_imul {x y : Int32} {X Y : Int} (hx : x.toInt = X) (hy : y.toInt = Y) (h1 : -2147483648 ≤ X * Y) (h2 : X * Y < 2147483648) : (x * y).toInt = X * Y := by
  have := c_imul x y; have := rng32 (x * y); subst hx hy; omega
theorem own_ladd {x y : Int64} {X Y : Int} (hx : x.toInt = X) (hy : y.toInt = Y) (h1 : -9223372036854775808 ≤ X + Y) (h2 : X + Y < 9223372036854775808) : (x + y).toInt = X + Y := by
  have := c_ladd x y; have := rng64 (x + y); omega
theorem own_lsub {x y : Int64} {X Y : Int} (hx : x.toInt = X) (hy : y.toInt = Y) (h1 : -9223372036854775808 ≤ X - Y) (h2 : X - Y < 9223372036854775808) : (x - y).toInt = X - Y := by
  have := c_lsub x y; have := rng64 (x - y); omega
theorem own_lmul {x y : Int64} {X Y : Int} (hx : x.toInt = X) (hy : y.toInt = Y) (h1 : -9223372036854775808 ≤ X * Y) (h2 : X * Y < 9223372036854775808) : (x * y).toInt = X * Y := by
  have := c_lmul x y; have := rng64 (x * y); subst hx hy; omega
theorem own_maskL (x m : Int64) (k : Nat) (M : Int) (hM : m.toInt = M) (hk : k ≤ 63) (hm : m.toBitVec.toNat = 2 ^ k - 1) : 0 ≤ (x &&& m).toInt ∧ (x &&& m).toInt ≤ M := by
  have h := c_maskL x m k hk hm
  have h2 := c_maskL m m k hk hm
  have e : m &&& m = m := by simp
  rw [e] at h2
  have p : (0 : Int) < ((2 ^ k : Nat) : Int) := by have := Nat.two_pow_pos k; omega
  have a1 := Int.emod_nonneg x.toInt (show ((2 ^ k : Nat) : Int) ≠ 0 by omega)
  have a2 := Int.emod_lt_of_pos x.toInt p
  have hmi : m.toInt = ((2 ^ k - 1 : Nat) : Int) := by
    have h3 : m.toInt = (m.toBitVec.toNat : Int) := by
      show m.toBitVec.toInt = _
      rw [BitVec.toInt_eq_toNat_cond, hm]
      have : 2 ^ k ≤ 2 ^ 63 := Nat.pow_le_pow_right (by decide) hk
      split <;> omega
    rw [h3, hm]
  omega
theorem own_nb (x : Int32) : nar .byte (x.toInt8.toInt32) = x.toInt8.toInt32 := by
  show (x.toInt8.toInt32).toInt8.toInt32 = _
  simp
theorem own_sel {args : Array Value} {s : State} {y z : MethodName} (hi : (Cond.instanceMethod y).before args s = true) (hp : (Cond.privateMethod y).before args s = true) (h2 : (Cond.selects y.cls z z).before args s = true) (hc : z.cls = y.cls)
    (hy : y.cls ≠ "java/lang/invoke/MethodHandle" ∧ y.cls ≠ "java/lang/invoke/VarHandle") : (Cond.selects y.cls y y).before args s = true := by
  obtain ⟨mk, meth, hn, hm, -, -⟩ := Cond.instanceMethod_spec hi
  obtain ⟨c, r, m2, -, -, f3, -, k, f4, f5⟩ := Cond.selects_spec h2
  have e1 := findClass_of_methodNamed hn
  have e2 := findClass_of_methodNamed f3
  rw [hc, e1] at e2
  have e3 : m2.cls = mk.cls := (Option.some.inj e2).symm
  have e4 := State.methodFound?_of_named hn hy
  have e5 := selectMethod_private (p := {}) (c := mk.cls) hm (Cond.privateMethod_at hp mk meth hn hm)
  rw [e3] at f4
  simp [Cond.before, Cond.holds, Cond.value, e1, e4, hn, e5, f4, f5]
def AF (Z : State) (h : Heap) (a : Addr) (ty : FieldType) (n : Nat) (g : Nat → Value) : Prop := ∃ c : Cell, Arr Z h a c ty ∧ c.slots.size = n ∧ ∀ j, j < n → c.slots[j]? = some (g j)
abbrev AI (Z : State) (h : Heap) (a : Addr) (ty : FieldType) (n : Nat) (f : Nat → Int32) : Prop := AF Z h a ty n (fun j => .int (f j))
abbrev AJ (Z : State) (h : Heap) (a : Addr) (ty : FieldType) (n : Nat) (f : Nat → Int64) : Prop := AF Z h a ty n (fun j => .long (f j))
abbrev AD (Z : State) (h : Heap) (a : Addr) (ty : FieldType) (n : Nat) (f : Nat → UInt64) : Prop := AF Z h a ty n (fun j => .double (f j))
def up {α : Type} (f : Nat → α) (i : Nat) (v : α) : Nat → α := fun j => if j = i then v else f j
def zI : Nat → Int32 := fun _ => 0
def zJ : Nat → Int64 := fun _ => 0
section Arrs
variable {Z : State} {h h' : Heap} {a b : Addr} {ty : FieldType} {n : Nat} {g g' : Nat → Value}
theorem AF.lt (F : AF Z h a ty n g) : a < h.size := by obtain ⟨c, A, -⟩ := F; exact A.lt
theorem AF.ext (F : AF Z h a ty n g) (E : Ext h h') : AF Z h' a ty n g := by obtain ⟨c, A, r⟩ := F; exact ⟨c, A.ext E, r⟩
theorem AF.other {sl : Nat} {v : Value} (F : AF Z h b ty n g) (W : Wr h h' a sl v) (q : b ≠ a) : AF Z h' b ty n g := by obtain ⟨c, A, r⟩ := F; exact ⟨c, A.other W q, r⟩
theorem AF.keep {ws : List Addr} (F : AF Z h a ty n g) (K : Keep h h' ws) (q : a ∉ ws) : AF Z h' a ty n g := by obtain ⟨c, A, r⟩ := F; exact ⟨c, ⟨K.2.1 a c A.1 q, A.2⟩, r⟩
theorem AF.re (F : AF Z h a ty n g) (q : ∀ j, j < n → g j = g' j) : AF Z h a ty n g' := by obtain ⟨c, A, S, H⟩ := F; exact ⟨c, A, S, fun j hj => by rw [H j hj, q j hj]⟩
theorem AF.at (F : AF Z h a ty n g) {j : Int32} (i : Nat) (hj : j.toInt = i) (hi : i < n) : ∃ c : Cell, Arr Z h a c ty ∧ ¬ (j < 0 ∨ c.slots.size ≤ j.toNatClampNeg) ∧ c.slots[j.toNatClampNeg]? = some (g i) := by
  obtain ⟨c, A, S, H⟩ := F
  have e : j.toNatClampNeg = i := by simp only [Int32.toNatClampNeg, hj]; omega
  refine ⟨c, A, ?_, by rw [e]; exact H i hi⟩
  rw [e, S, Int32.lt_iff_toInt_lt, hj]
  have : (0 : Int32).toInt = 0 := rfl
  omega
theorem AF.len (F : AF Z h a ty n g) : ∃ c : Cell, Arr Z h a c ty ∧ c.slots.size = n := by obtain ⟨c, A, S, -⟩ := F; exact ⟨c, A, S⟩
theorem AF.set {k : Nat} {v : Value} (F : AF Z h a ty n g) (W : Wr h h' a k v) : AF Z h' a ty n (fun j => if j = k then v else g j) := by
  obtain ⟨c, A, S, H⟩ := F
  refine ⟨_, A.same W, by rw [sz_set]; exact S, fun j hj => ?_⟩
  by_cases q : j = k
  · subst q; simp [Cell.setSlot, S, hj]
  · show _ = some (if j = k then v else g j)
    rw [if_neg q]; have := H j hj; simp only [Cell.setSlot] at this ⊢; rw [Array.getElem?_setIfInBounds_ne (Ne.symm q)]; exact this
theorem own_tn {j : Int32} {i : Nat} (hj : j.toInt = i) : j.toNatClampNeg = i := by simp only [Int32.toNatClampNeg, hj]; omega
theorem AF.setI {f : Nat → Int32} {j : Int32} {v : Int32} (F : AI Z h a ty n f) (W : Wr h h' a j.toNatClampNeg (.int v)) (i : Nat) (hj : j.toInt = i) : AI Z h' a ty n (up f i v) := by
  rw [own_tn hj] at W
  exact (AF.set F W).re fun k _ => by by_cases q : k = i <;> simp [up, q]
theorem AF.setJ {f : Nat → Int64} {j : Int32} {v : Int64} (F : AJ Z h a ty n f) (W : Wr h h' a j.toNatClampNeg (.long v)) (i : Nat) (hj : j.toInt = i) : AJ Z h' a ty n (up f i v) := by
  rw [own_tn hj] at W
  exact (AF.set F W).re fun k _ => by by_cases q : k = i <;> simp [up, q]
theorem AF.setD {f : Nat → UInt64} {j : Int32} {v : UInt64} (F : AD Z h a ty n f) (W : Wr h h' a j.toNatClampNeg (.double v)) (i : Nat) (hj : j.toInt = i) : AD Z h' a ty n (up f i v) := by
  rw [own_tn hj] at W
  exact (AF.set F W).re fun k _ => by by_cases q : k = i <;> simp [up, q]
theorem AF.new {k : ClassId} {z : Int32} (A : Arr Z h a (newA k ty z) ty) (hz : z.toInt = n) : AF Z h a ty n (fun _ => defaultValue ty) :=
  ⟨_, A, by rw [sz_new]; exact own_tn hz, fun j hj => by simp [newA, own_tn hz, hj]⟩
end Arrs
end Jvm.RoadKit
namespace Jvm.Pilot.@@N@@
open Jvm Jvm.ClassFile Sem Op Lib Jvm.Free Jvm.Stand Jvm.LawKit Jvm.RoadKit Bundle Jvm.Pilot.@@N@@.Jvm.D
theorem ef_2 (m : MethodId) (xa : Int32) (xb : Int32) : entryFrame m #[(.int xa), (.int xb)] 2 = mkF m 0 #[.val (.int xa), .val (.int xb)] [] := by first | (simp [entryFrame, mkF, argsToLocals, Value.category]; done) | rfl
theorem d2_0 : decode jdk_29_method_65_code 0 = .ok (.iload_n 0, 1) := by decide +kernel
theorem d2_1 : decode jdk_29_method_65_code 1 = .ok (.iload_n 1, 1) := by decide +kernel
theorem d2_2 : decode jdk_29_method_65_code 2 = .ok (.if_icmp .lt 7, 3) := by decide +kernel
theorem d2_9 : decode jdk_29_method_65_code 9 = .ok (.iload_n 1, 1) := by decide +kernel
theorem d2_10 : decode jdk_29_method_65_code 10 = .ok (.ireturn, 1) := by decide +kernel
theorem d2_5 : decode jdk_29_method_65_code 5 = .ok (.iload_n 0, 1) := by decide +kernel
theorem d2_6 : decode jdk_29_method_65_code 6 = .ok (.goto 4, 3) := by decide +kernel
def r2_v (xa : Int32) (xb : Int32) : Int32 := (if xa < xb then xb else xa)
def Q2 (Z : State) (xa : Int32) (xb : Int32) (h0 : Heap) (n0 : Nat) (v : Option Value) (h : Heap) (L : List Loc) : Prop := v = some (.int (r2_v xa xb)) ∧ Fr n0 L ∧ h = h0
set_option maxRecDepth 65536 in
set_option maxHeartbeats 40000000 in
theorem rm2 (l : Launch) (Z : State) (a0 : Array Value) (hw : ∀ d ∈ tables_1, d.before a0 Z = true) (ws : List Jvm.Cond) (xa : Int32) (xb : Int32) (h0 : Heap) (n0 : Nat) (Z0 : n0 ≤ h0.size) :
    MetFree l (⟨"java/lang/Math", "max", "(II)I"⟩ : MethodName) (head1 (Jvm.Cond.code (⟨"java/lang/Math", "max", "(II)I"⟩ : MethodName) jdk_29_method_65_code 2 (some .int) :: ws) ({ frames := 0, cells := 0, slots := 0, locals := 0 } : Room)) (fun a U => a = #[(.int xa), (.int xb)] ∧ Z.Warmed39 U.vm ∧ U.heap = h0) (fun _ _ _ _ _ => True) (fun _ U o U' => ∃ v L, o = .returned v ∧ Q2 Z xa xb h0 n0 v U'.heap L ∧ FrameEnd U o U' L ({ frames := 0, cells := 0, slots := 0, locals := 0 } : Room).cells ({ frames := 0, cells := 0, slots := 0, locals := 0 } : Room).slots) := by
  refine MetFree.of_bodySF (Jvm.Free.JP.mathPlain rfl (by decide +kernel)) hisR ?_
  intro p e s m args below meth c s₁ Bd hml0 hP hK
  obtain ⟨rfl, hZ, hh⟩ := hP
  have hx := Bd.exec
  have hby := Bd.bytes
  have hml : c.maxLocals = 2 := hml0
  have hown : s.vm.findClass "java/lang/Math" = some m.cls := findClass_of_methodNamed Bd.named
  have hnm := (name_of_methodNamed Bd.named Bd.method).1
  have X0 : Stand p l e ({ frames := 0, cells := 0, slots := 0, locals := 0 } : Room) s m #[(.int xa), (.int xb)] below meth c s₁ [] 0 0 := Stand.of_body Bd
  have e0 : s₁.heap = h0 := by rw [← hh, Bd.state]; rfl
  have N0 := Fr.nil n0
  have K0 : Keep h0 h0 [] := Keep.refl h0 _
  have pre0 : ∀ t, Steps p.tables e below (s₁.setTop (mkF m 0 #[.val (.int xa), .val (.int xb)] [])) t → Steps p.tables e below (s₁.setTop (entryFrame m #[(.int xa), (.int xb)] 2)) t := fun t k => castTop (ef_2 m xa xb) k
  have pre1 : ∀ t, Steps p.tables e below (s₁.setTop (mkF m 2 #[.val (.int xa), .val (.int xb)] [(.int xb), (.int xa)])) t → Steps p.tables e below (s₁.setTop (entryFrame m #[(.int xa), (.int xb)] 2)) t := by
    intro t k
    refine pre0 _ ?_
    show Steps p.tables e below (s₁.setTop (mkF m 0 #[.val (.int xa), .val (.int xb)] [])) _
    refine XS.iloadN X0.here hx rfl (hb hby d2_0) rfl ?_
    show Steps p.tables e below (s₁.setTop (mkF m 1 #[.val (.int xa), .val (.int xb)] [(.int xa)])) _
    refine XS.iloadN X0.here hx rfl (hb hby d2_1) rfl ?_
    exact k
  by_cases hk2 : xa < xb
  · obtain ⟨fs, hr, hrun, hended, hW, hsame⟩ := X0.leave (v := some (.int xb)) (fun h => by rw [Bd.returns] at h; cases h)
    refine ⟨_, _, pre1 _ ?_, hrun, hended, _, _, rfl, ?_, ⟨_, rfl⟩, hW, hsame.mono (by decide) (by decide)⟩
    · show Steps p.tables e below (s₁.setTop (mkF m 2 #[.val (.int xa), .val (.int xb)] [(.int xb), (.int xa)])) _
      refine XS.icmpYes X0.here hx rfl (pc0 := 2) (pc' := 9) rfl (hb hby d2_2) rfl (tlt hk2).1 (by decide) (by decide) ?_
      show Steps p.tables e below (s₁.setTop (mkF m 9 #[.val (.int xa), .val (.int xb)] [])) _
      refine XS.iloadN X0.here hx rfl (hb hby d2_9) rfl ?_
      show Steps p.tables e below (s₁.setTop (mkF m 10 #[.val (.int xa), .val (.int xb)] [(.int xb)])) _
      exact retI X0 hx Bd.returns (hb hby d2_10) hr
    · show Q2 Z xa xb h0 n0 _ s₁.heap _
      rw [e0]
      have ev3 : (r2_v xa xb) = xb := by unfold r2_v; rw [if_pos hk2]
      exact ⟨(congrArg (fun z => some (Value.int z)) ev3.symm), N0, rfl⟩
  · obtain ⟨fs, hr, hrun, hended, hW, hsame⟩ := X0.leave (v := some (.int xa)) (fun h => by rw [Bd.returns] at h; cases h)
    refine ⟨_, _, pre1 _ ?_, hrun, hended, _, _, rfl, ?_, ⟨_, rfl⟩, hW, hsame.mono (by decide) (by decide)⟩
    · show Steps p.tables e below (s₁.setTop (mkF m 2 #[.val (.int xa), .val (.int xb)] [(.int xb), (.int xa)])) _
      refine XS.icmpNo X0.here hx rfl (hb hby d2_2) rfl (flt hk2).1 ?_
      show Steps p.tables e below (s₁.setTop (mkF m 5 #[.val (.int xa), .val (.int xb)] [])) _
      refine XS.iloadN X0.here hx rfl (hb hby d2_5) rfl ?_
      show Steps p.tables e below (s₁.setTop (mkF m 6 #[.val (.int xa), .val (.int xb)] [(.int xa)])) _
      refine XS.goto X0.here hx rfl (pc0 := 6) (pc' := 10) rfl (hb hby d2_6) (by decide) (by decide) ?_
      show Steps p.tables e below (s₁.setTop (mkF m 10 #[.val (.int xa), .val (.int xb)] [(.int xa)])) _
      exact retI X0 hx Bd.returns (hb hby d2_10) hr
    · show Q2 Z xa xb h0 n0 _ s₁.heap _
      rw [e0]
      have ev4 : (r2_v xa xb) = xa := by unfold r2_v; rw [if_neg hk2]
      exact ⟨(congrArg (fun z => some (Value.int z)) ev4.symm), N0, rfl⟩
theorem ef_1 (m : MethodId) (xv : Int32) (mo : Int32) : entryFrame m #[(.int xv), (.int mo)] 3 = mkF m 0 #[.val (.int xv), .val (.int mo), .unset] [] := by first | (simp [entryFrame, mkF, argsToLocals, Value.category]; done) | rfl
theorem d1_0 : decode method_3_code 0 = .ok (.iload_n 1, 1) := by decide +kernel
theorem d1_1 : decode method_3_code 1 = .ok (.iconst 3, 1) := by decide +kernel
theorem d1_2 : decode method_3_code 2 = .ok (.iand, 1) := by decide +kernel
theorem d1_3 : decode method_3_code 3 = .ok (.istore_n 2, 1) := by decide +kernel
theorem d1_4 : decode method_3_code 4 = .ok (.iload_n 2, 1) := by decide +kernel
theorem d1_5 : decode method_3_code 5 = .ok (.ifCond .ne 10, 3) := by decide +kernel
theorem d1_8 : decode method_3_code 8 = .ok (.iload_n 0, 1) := by decide +kernel
theorem d1_9 : decode method_3_code 9 = .ok (.bipush 63, 2) := by decide +kernel
theorem d1_11 : decode method_3_code 11 = .ok (.iand, 1) := by decide +kernel
theorem d1_12 : decode method_3_code 12 = .ok (.iconst 1, 1) := by decide +kernel
theorem d1_13 : decode method_3_code 13 = .ok (.iadd, 1) := by decide +kernel
theorem d1_14 : decode method_3_code 14 = .ok (.ireturn, 1) := by decide +kernel
theorem d1_15 : decode method_3_code 15 = .ok (.iload_n 2, 1) := by decide +kernel
theorem d1_16 : decode method_3_code 16 = .ok (.iconst 1, 1) := by decide +kernel
theorem d1_17 : decode method_3_code 17 = .ok (.if_icmp .ne 11, 3) := by decide +kernel
theorem d1_20 : decode method_3_code 20 = .ok (.bipush 30, 2) := by decide +kernel
theorem d1_22 : decode method_3_code 22 = .ok (.iload_n 0, 1) := by decide +kernel
theorem d1_23 : decode method_3_code 23 = .ok (.bipush 7, 2) := by decide +kernel
theorem d1_25 : decode method_3_code 25 = .ok (.iand, 1) := by decide +kernel
theorem d1_26 : decode method_3_code 26 = .ok (.iadd, 1) := by decide +kernel
theorem d1_27 : decode method_3_code 27 = .ok (.ireturn, 1) := by decide +kernel
theorem d1_28 : decode method_3_code 28 = .ok (.iload_n 2, 1) := by decide +kernel
theorem d1_29 : decode method_3_code 29 = .ok (.iconst 2, 1) := by decide +kernel
theorem d1_30 : decode method_3_code 30 = .ok (.if_icmp .ne 12, 3) := by decide +kernel
theorem d1_33 : decode method_3_code 33 = .ok (.iconst 1, 1) := by decide +kernel
theorem d1_34 : decode method_3_code 34 = .ok (.iload_n 0, 1) := by decide +kernel
theorem d1_35 : decode method_3_code 35 = .ok (.ldc 29, 2) := by decide +kernel
theorem d1_37 : decode method_3_code 37 = .ok (.iand, 1) := by decide +kernel
theorem pd_0 : parseMethodDescriptor "(II)I" = some ⟨[.int, .int], some .int⟩ := by decide +kernel
theorem d1_38 : decode method_3_code 38 = .ok (.invokestatic 30, 3) := by decide +kernel
theorem d1_41 : decode method_3_code 41 = .ok (.ireturn, 1) := by decide +kernel
theorem d1_42 : decode method_3_code 42 = .ok (.ldc 29, 2) := by decide +kernel
theorem d1_44 : decode method_3_code 44 = .ok (.iload_n 0, 1) := by decide +kernel
theorem d1_45 : decode method_3_code 45 = .ok (.bipush 15, 2) := by decide +kernel
theorem d1_47 : decode method_3_code 47 = .ok (.iand, 1) := by decide +kernel
theorem d1_48 : decode method_3_code 48 = .ok (.isub, 1) := by decide +kernel
theorem d1_49 : decode method_3_code 49 = .ok (.ireturn, 1) := by decide +kernel
def r1_v (xv : Int32) (mo : Int32) : Int32 := (if (mo &&& (3 : Int32)) = (0 : Int32) then ((xv &&& (63 : Int32)) + (1 : Int32)) else (if (mo &&& (3 : Int32)) = (1 : Int32) then ((30 : Int32) + (xv &&& (7 : Int32))) else (if (mo &&& (3 : Int32)) = (2 : Int32) then (r2_v (1 : Int32) (xv &&& (2147483647 : Int32))) else ((2147483647 : Int32) - (xv &&& (15 : Int32))))))
theorem pn_com_example_partlint_partlint_model_ApiLevelIsSdkFormPinLaw : plainName "com/example/partlint/partlint/model/ApiLevelIsSdkFormPinLaw" = true := by first | (simp [plainName, overriddenIn]; done) | decide +kernel
def Q1 (Z : State) (xv : Int32) (mo : Int32) (h0 : Heap) (n0 : Nat) (v : Option Value) (h : Heap) (L : List Loc) : Prop := v = some (.int (r1_v xv mo)) ∧ Fr n0 L ∧ h = h0
set_option maxRecDepth 65536 in
set_option maxHeartbeats 40000000 in
theorem rm1 (l : Launch) (Z : State) (a0 : Array Value) (hw : ∀ d ∈ tables_1, d.before a0 Z = true) (ws : List Jvm.Cond) (xv : Int32) (mo : Int32) (h0 : Heap) (n0 : Nat) (Z0 : n0 ≤ h0.size) :
    MetFree l (⟨"com/example/partlint/partlint/model/ApiLevelIsSdkFormPinLaw", "pick", "(II)I"⟩ : MethodName) (head1 (Jvm.Cond.code (⟨"com/example/partlint/partlint/model/ApiLevelIsSdkFormPinLaw", "pick", "(II)I"⟩ : MethodName) method_3_code 3 (some .int) :: ws) ({ frames := 1, cells := 0, slots := 0, locals := 13 } : Room)) (fun a U => a = #[(.int xv), (.int mo)] ∧ Z.Warmed39 U.vm ∧ U.heap = h0) (fun _ _ _ _ _ => True) (fun _ U o U' => ∃ v L, o = .returned v ∧ Q1 Z xv mo h0 n0 v U'.heap L ∧ FrameEnd U o U' L ({ frames := 1, cells := 0, slots := 0, locals := 13 } : Room).cells ({ frames := 1, cells := 0, slots := 0, locals := 13 } : Room).slots) := by
  refine MetFree.of_bodySF (plainFor_of_name pn_com_example_partlint_partlint_model_ApiLevelIsSdkFormPinLaw) hisR ?_
  intro p e s m args below meth c s₁ Bd hml0 hP hK
  obtain ⟨rfl, hZ, hh⟩ := hP
  have hx := Bd.exec
  have hby := Bd.bytes
  have hml : c.maxLocals = 3 := hml0
  have hown : s.vm.findClass "com/example/partlint/partlint/model/ApiLevelIsSdkFormPinLaw" = some m.cls := findClass_of_methodNamed Bd.named
  have hnm := (name_of_methodNamed Bd.named Bd.method).1
  have X0 : Stand p l e ({ frames := 1, cells := 0, slots := 0, locals := 13 } : Room) s m #[(.int xv), (.int mo)] below meth c s₁ [] 0 0 := Stand.of_body Bd
  have e0 : s₁.heap = h0 := by rw [← hh, Bd.state]; rfl
  have N0 := Fr.nil n0
  have K0 : Keep h0 h0 [] := Keep.refl h0 _
  have pre0 : ∀ t, Steps p.tables e below (s₁.setTop (mkF m 0 #[.val (.int xv), .val (.int mo), .unset] [])) t → Steps p.tables e below (s₁.setTop (entryFrame m #[(.int xv), (.int mo)] 3)) t := fun t k => castTop (ef_1 m xv mo) k
  have pre1 : ∀ t, Steps p.tables e below (s₁.setTop (mkF m 5 #[.val (.int xv), .val (.int mo), .val (.int (mo &&& (3 : Int32)))] [(.int (mo &&& (3 : Int32)))])) t → Steps p.tables e below (s₁.setTop (entryFrame m #[(.int xv), (.int mo)] 3)) t := by
    intro t k
    refine pre0 _ ?_
    show Steps p.tables e below (s₁.setTop (mkF m 0 #[.val (.int xv), .val (.int mo), .unset] [])) _
    refine XS.iloadN X0.here hx rfl (hb hby d1_0) rfl ?_
    show Steps p.tables e below (s₁.setTop (mkF m 1 #[.val (.int xv), .val (.int mo), .unset] [(.int mo)])) _
    refine XS.iconst X0.here hx rfl (hb hby d1_1) ?_
    show Steps p.tables e below (s₁.setTop (mkF m 2 #[.val (.int xv), .val (.int mo), .unset] [(.int (3 : Int32)), (.int mo)])) _
    refine XS.iand X0.here hx rfl (hb hby d1_2) rfl ?_
    show Steps p.tables e below (s₁.setTop (mkF m 3 #[.val (.int xv), .val (.int mo), .unset] [(.int (mo &&& (3 : Int32)))])) _
    refine XS.istoreN X0.here hx rfl (hb hby d1_3) rfl (l' := #[.val (.int xv), .val (.int mo), .val (.int (mo &&& (3 : Int32)))]) rfl ?_
    show Steps p.tables e below (s₁.setTop (mkF m 4 #[.val (.int xv), .val (.int mo), .val (.int (mo &&& (3 : Int32)))] [])) _
    refine XS.iloadN X0.here hx rfl (hb hby d1_4) rfl ?_
    exact k
  by_cases hk2 : (mo &&& (3 : Int32)) = (0 : Int32)
  · obtain ⟨fs, hr, hrun, hended, hW, hsame⟩ := X0.leave (v := some (.int ((xv &&& (63 : Int32)) + (1 : Int32)))) (fun h => by rw [Bd.returns] at h; cases h)
    refine ⟨_, _, pre1 _ ?_, hrun, hended, _, _, rfl, ?_, ⟨_, rfl⟩, hW, hsame.mono (by decide) (by decide)⟩
    · show Steps p.tables e below (s₁.setTop (mkF m 5 #[.val (.int xv), .val (.int mo), .val (.int (mo &&& (3 : Int32)))] [(.int (mo &&& (3 : Int32)))])) _
      refine XS.ifNo X0.here hx rfl (hb hby d1_5) rfl ((if0 _ _).trans (teq hk2).2) ?_
      show Steps p.tables e below (s₁.setTop (mkF m 8 #[.val (.int xv), .val (.int mo), .val (.int (mo &&& (3 : Int32)))] [])) _
      refine XS.iloadN X0.here hx rfl (hb hby d1_8) rfl ?_
      show Steps p.tables e below (s₁.setTop (mkF m 9 #[.val (.int xv), .val (.int mo), .val (.int (mo &&& (3 : Int32)))] [(.int xv)])) _
      refine XS.bipush X0.here hx rfl (hb hby d1_9) ?_
      show Steps p.tables e below (s₁.setTop (mkF m 11 #[.val (.int xv), .val (.int mo), .val (.int (mo &&& (3 : Int32)))] [(.int (63 : Int32)), (.int xv)])) _
      refine XS.iand X0.here hx rfl (hb hby d1_11) rfl ?_
      show Steps p.tables e below (s₁.setTop (mkF m 12 #[.val (.int xv), .val (.int mo), .val (.int (mo &&& (3 : Int32)))] [(.int (xv &&& (63 : Int32)))])) _
      refine XS.iconst X0.here hx rfl (hb hby d1_12) ?_
      show Steps p.tables e below (s₁.setTop (mkF m 13 #[.val (.int xv), .val (.int mo), .val (.int (mo &&& (3 : Int32)))] [(.int (1 : Int32)), (.int (xv &&& (63 : Int32)))])) _
      refine XS.iadd X0.here hx rfl (hb hby d1_13) rfl ?_
      show Steps p.tables e below (s₁.setTop (mkF m 14 #[.val (.int xv), .val (.int mo), .val (.int (mo &&& (3 : Int32)))] [(.int ((xv &&& (63 : Int32)) + (1 : Int32)))])) _
      exact retI X0 hx Bd.returns (hb hby d1_14) hr
    · show Q1 Z xv mo h0 n0 _ s₁.heap _
      rw [e0]
      have ev8 : (r1_v xv mo) = ((xv &&& (63 : Int32)) + (1 : Int32)) := by unfold r1_v; rw [if_pos hk2]
      exact ⟨(congrArg (fun z => some (Value.int z)) ev8.symm), N0, rfl⟩
  · have pre3 : ∀ t, Steps p.tables e below (s₁.setTop (mkF m 17 #[.val (.int xv), .val (.int mo), .val (.int (mo &&& (3 : Int32)))] [(.int (1 : Int32)), (.int (mo &&& (3 : Int32)))])) t → Steps p.tables e below (s₁.setTop (entryFrame m #[(.int xv), (.int mo)] 3)) t := by
      intro t k
      refine pre1 _ ?_
      show Steps p.tables e below (s₁.setTop (mkF m 5 #[.val (.int xv), .val (.int mo), .val (.int (mo &&& (3 : Int32)))] [(.int (mo &&& (3 : Int32)))])) _
      refine XS.ifYes X0.here hx rfl (pc0 := 5) (pc' := 15) rfl (hb hby d1_5) rfl ((if0 _ _).trans (feq hk2).2) (by decide) (by decide) ?_
      show Steps p.tables e below (s₁.setTop (mkF m 15 #[.val (.int xv), .val (.int mo), .val (.int (mo &&& (3 : Int32)))] [])) _
      refine XS.iloadN X0.here hx rfl (hb hby d1_15) rfl ?_
      show Steps p.tables e below (s₁.setTop (mkF m 16 #[.val (.int xv), .val (.int mo), .val (.int (mo &&& (3 : Int32)))] [(.int (mo &&& (3 : Int32)))])) _
      refine XS.iconst X0.here hx rfl (hb hby d1_16) ?_
      exact k
    by_cases hk4 : (mo &&& (3 : Int32)) = (1 : Int32)
    · obtain ⟨fs, hr, hrun, hended, hW, hsame⟩ := X0.leave (v := some (.int ((30 : Int32) + (xv &&& (7 : Int32))))) (fun h => by rw [Bd.returns] at h; cases h)
      refine ⟨_, _, pre3 _ ?_, hrun, hended, _, _, rfl, ?_, ⟨_, rfl⟩, hW, hsame.mono (by decide) (by decide)⟩
      · show Steps p.tables e below (s₁.setTop (mkF m 17 #[.val (.int xv), .val (.int mo), .val (.int (mo &&& (3 : Int32)))] [(.int (1 : Int32)), (.int (mo &&& (3 : Int32)))])) _
        refine XS.icmpNo X0.here hx rfl (hb hby d1_17) rfl (teq hk4).2 ?_
        show Steps p.tables e below (s₁.setTop (mkF m 20 #[.val (.int xv), .val (.int mo), .val (.int (mo &&& (3 : Int32)))] [])) _
        refine XS.bipush X0.here hx rfl (hb hby d1_20) ?_
        show Steps p.tables e below (s₁.setTop (mkF m 22 #[.val (.int xv), .val (.int mo), .val (.int (mo &&& (3 : Int32)))] [(.int (30 : Int32))])) _
        refine XS.iloadN X0.here hx rfl (hb hby d1_22) rfl ?_
        show Steps p.tables e below (s₁.setTop (mkF m 23 #[.val (.int xv), .val (.int mo), .val (.int (mo &&& (3 : Int32)))] [(.int xv), (.int (30 : Int32))])) _
        refine XS.bipush X0.here hx rfl (hb hby d1_23) ?_
        show Steps p.tables e below (s₁.setTop (mkF m 25 #[.val (.int xv), .val (.int mo), .val (.int (mo &&& (3 : Int32)))] [(.int (7 : Int32)), (.int xv), (.int (30 : Int32))])) _
        refine XS.iand X0.here hx rfl (hb hby d1_25) rfl ?_
        show Steps p.tables e below (s₁.setTop (mkF m 26 #[.val (.int xv), .val (.int mo), .val (.int (mo &&& (3 : Int32)))] [(.int (xv &&& (7 : Int32))), (.int (30 : Int32))])) _
        refine XS.iadd X0.here hx rfl (hb hby d1_26) rfl ?_
        show Steps p.tables e below (s₁.setTop (mkF m 27 #[.val (.int xv), .val (.int mo), .val (.int (mo &&& (3 : Int32)))] [(.int ((30 : Int32) + (xv &&& (7 : Int32))))])) _
        exact retI X0 hx Bd.returns (hb hby d1_27) hr
      · show Q1 Z xv mo h0 n0 _ s₁.heap _
        rw [e0]
        have ev9 : (r1_v xv mo) = ((30 : Int32) + (xv &&& (7 : Int32))) := by unfold r1_v; rw [if_neg hk2, if_pos hk4]
        exact ⟨(congrArg (fun z => some (Value.int z)) ev9.symm), N0, rfl⟩
    · have pre5 : ∀ t, Steps p.tables e below (s₁.setTop (mkF m 30 #[.val (.int xv), .val (.int mo), .val (.int (mo &&& (3 : Int32)))] [(.int (2 : Int32)), (.int (mo &&& (3 : Int32)))])) t → Steps p.tables e below (s₁.setTop (entryFrame m #[(.int xv), (.int mo)] 3)) t := by
        intro t k
        refine pre3 _ ?_
        show Steps p.tables e below (s₁.setTop (mkF m 17 #[.val (.int xv), .val (.int mo), .val (.int (mo &&& (3 : Int32)))] [(.int (1 : Int32)), (.int (mo &&& (3 : Int32)))])) _
        refine XS.icmpYes X0.here hx rfl (pc0 := 17) (pc' := 28) rfl (hb hby d1_17) rfl (feq hk4).2 (by decide) (by decide) ?_
        show Steps p.tables e below (s₁.setTop (mkF m 28 #[.val (.int xv), .val (.int mo), .val (.int (mo &&& (3 : Int32)))] [])) _
        refine XS.iloadN X0.here hx rfl (hb hby d1_28) rfl ?_
        show Steps p.tables e below (s₁.setTop (mkF m 29 #[.val (.int xv), .val (.int mo), .val (.int (mo &&& (3 : Int32)))] [(.int (mo &&& (3 : Int32)))])) _
        refine XS.iconst X0.here hx rfl (hb hby d1_29) ?_
        exact k
      by_cases hk6 : (mo &&& (3 : Int32)) = (2 : Int32)
      · obtain ⟨_, _, ⟨T7, L7, k7, n7⟩, -, X7, ⟨Lc7, hQ7, l7, y7, z7⟩, st7⟩ := Jvm.LawKit.callS X0 hx (y := (⟨"java/lang/Math", "max", "(II)I"⟩ : MethodName)) hown (mvT hZ (hw _ (List.mem_of_getElem? (i := 5) rfl))) (mvT hZ (hw _ (List.mem_of_getElem? (i := 6) rfl))) (mvT hZ (hw _ (List.mem_of_getElem? (i := 7) rfl))) (mvT hZ (hw _ (List.mem_of_getElem? (i := 8) rfl))) (by decide) (backOf (W := 0) (rm2 l Z a0 hw [] (1 : Int32) (xv &&& (2147483647 : Int32)) h0 n0 Z0 ) hZ (hw _ (List.mem_of_getElem? (i := 8) rfl)) (hw _ (List.mem_of_getElem? (i := 7) rfl)) (by decide) (by decide)) (g := (mkF m 38 #[.val (.int xv), .val (.int mo), .val (.int (mo &&& (3 : Int32)))] [(.int (xv &&& (2147483647 : Int32))), (.int (1 : Int32))])) rfl (by rw [hml]; rfl) (argsL := [(.int (1 : Int32)), (.int (xv &&& (2147483647 : Int32)))]) (rest := []) (lenOf pd_0 rfl) rfl (by show 2 * 0 + _ ≤ _; exact Nat.le_of_eq rfl) (hb hby d1_38) (fun _ _ => ⟨rfl, e0, (by decide : 0 + 0 ≤ _), (by decide : 0 + 0 ≤ _)⟩)
        dsimp only [Pt.U, Pt.locs, Pt.cells, Pt.slots] at X7 l7 y7 z7 st7 hQ7
        subst l7 y7 z7
        obtain ⟨rfl, N7q, e7⟩ := hQ7
        have N7 := Fr.app N0 N7q
        obtain ⟨fs, hr, hrun, hended, hW, hsame⟩ := X7.leave (v := some (.int (r2_v (1 : Int32) (xv &&& (2147483647 : Int32))))) (fun h => by rw [Bd.returns] at h; cases h)
        refine ⟨_, _, pre5 _ ?_, hrun, hended, _, _, rfl, ?_, ⟨_, rfl⟩, hW, hsame.mono (by decide) (by decide)⟩
        · show Steps p.tables e below (s₁.setTop (mkF m 30 #[.val (.int xv), .val (.int mo), .val (.int (mo &&& (3 : Int32)))] [(.int (2 : Int32)), (.int (mo &&& (3 : Int32)))])) _
          refine XS.icmpNo X0.here hx rfl (hb hby d1_30) rfl (teq hk6).2 ?_
          show Steps p.tables e below (s₁.setTop (mkF m 33 #[.val (.int xv), .val (.int mo), .val (.int (mo &&& (3 : Int32)))] [])) _
          refine XS.iconst X0.here hx rfl (hb hby d1_33) ?_
          show Steps p.tables e below (s₁.setTop (mkF m 34 #[.val (.int xv), .val (.int mo), .val (.int (mo &&& (3 : Int32)))] [(.int (1 : Int32))])) _
          refine XS.iloadN X0.here hx rfl (hb hby d1_34) rfl ?_
          show Steps p.tables e below (s₁.setTop (mkF m 35 #[.val (.int xv), .val (.int mo), .val (.int (mo &&& (3 : Int32)))] [(.int xv), (.int (1 : Int32))])) _
          refine X0.ldcInt hx hown (mvT hZ (hw _ (List.mem_of_getElem? (i := 4) rfl))) (g := (mkF m 35 #[.val (.int xv), .val (.int mo), .val (.int (mo &&& (3 : Int32)))] [(.int xv), (.int (1 : Int32))])) rfl (hb hby d1_35) _ ?_
          show Steps p.tables e below (s₁.setTop (mkF m 37 #[.val (.int xv), .val (.int mo), .val (.int (mo &&& (3 : Int32)))] [(.int (2147483647 : Int32)), (.int xv), (.int (1 : Int32))])) _
          refine XS.iand X0.here hx rfl (hb hby d1_37) rfl ?_
          show Steps p.tables e below (s₁.setTop (mkF m 38 #[.val (.int xv), .val (.int mo), .val (.int (mo &&& (3 : Int32)))] [(.int (xv &&& (2147483647 : Int32))), (.int (1 : Int32))])) _
          refine st7 _ ?_
          show Steps p.tables e below (T7.setTop (mkF m 41 #[.val (.int xv), .val (.int mo), .val (.int (mo &&& (3 : Int32)))] [(.int (r2_v (1 : Int32) (xv &&& (2147483647 : Int32))))])) _
          exact retI X7 hx Bd.returns (hb hby d1_41) hr
        · show Q1 Z xv mo h0 n0 _ T7.heap _
          rw [e7]
          have ev10 : (r1_v xv mo) = (r2_v (1 : Int32) (xv &&& (2147483647 : Int32))) := by unfold r1_v; rw [if_neg hk2, if_neg hk4, if_pos hk6]
          exact ⟨(congrArg (fun z => some (Value.int z)) ev10.symm), N7, rfl⟩
      · obtain ⟨fs, hr, hrun, hended, hW, hsame⟩ := X0.leave (v := some (.int ((2147483647 : Int32) - (xv &&& (15 : Int32))))) (fun h => by rw [Bd.returns] at h; cases h)
        refine ⟨_, _, pre5 _ ?_, hrun, hended, _, _, rfl, ?_, ⟨_, rfl⟩, hW, hsame.mono (by decide) (by decide)⟩
        · show Steps p.tables e below (s₁.setTop (mkF m 30 #[.val (.int xv), .val (.int mo), .val (.int (mo &&& (3 : Int32)))] [(.int (2 : Int32)), (.int (mo &&& (3 : Int32)))])) _
          refine XS.icmpYes X0.here hx rfl (pc0 := 30) (pc' := 42) rfl (hb hby d1_30) rfl (feq hk6).2 (by decide) (by decide) ?_
          show Steps p.tables e below (s₁.setTop (mkF m 42 #[.val (.int xv), .val (.int mo), .val (.int (mo &&& (3 : Int32)))] [])) _
          refine X0.ldcInt hx hown (mvT hZ (hw _ (List.mem_of_getElem? (i := 4) rfl))) (g := (mkF m 42 #[.val (.int xv), .val (.int mo), .val (.int (mo &&& (3 : Int32)))] [])) rfl (hb hby d1_42) _ ?_
          show Steps p.tables e below (s₁.setTop (mkF m 44 #[.val (.int xv), .val (.int mo), .val (.int (mo &&& (3 : Int32)))] [(.int (2147483647 : Int32))])) _
          refine XS.iloadN X0.here hx rfl (hb hby d1_44) rfl ?_
          show Steps p.tables e below (s₁.setTop (mkF m 45 #[.val (.int xv), .val (.int mo), .val (.int (mo &&& (3 : Int32)))] [(.int xv), (.int (2147483647 : Int32))])) _
          refine XS.bipush X0.here hx rfl (hb hby d1_45) ?_
          show Steps p.tables e below (s₁.setTop (mkF m 47 #[.val (.int xv), .val (.int mo), .val (.int (mo &&& (3 : Int32)))] [(.int (15 : Int32)), (.int xv), (.int (2147483647 : Int32))])) _
          refine XS.iand X0.here hx rfl (hb hby d1_47) rfl ?_
          show Steps p.tables e below (s₁.setTop (mkF m 48 #[.val (.int xv), .val (.int mo), .val (.int (mo &&& (3 : Int32)))] [(.int (xv &&& (15 : Int32))), (.int (2147483647 : Int32))])) _
          refine XS.isub X0.here hx rfl (hb hby d1_48) rfl ?_
          show Steps p.tables e below (s₁.setTop (mkF m 49 #[.val (.int xv), .val (.int mo), .val (.int (mo &&& (3 : Int32)))] [(.int ((2147483647 : Int32) - (xv &&& (15 : Int32))))])) _
          exact retI X0 hx Bd.returns (hb hby d1_49) hr
        · show Q1 Z xv mo h0 n0 _ s₁.heap _
          rw [e0]
          have ev11 : (r1_v xv mo) = ((2147483647 : Int32) - (xv &&& (15 : Int32))) := by unfold r1_v; rw [if_neg hk2, if_neg hk4, if_neg hk6]
          exact ⟨(congrArg (fun z => some (Value.int z)) ev11.symm), N0, rfl⟩
theorem ef_4 (m : MethodId) (ra : Addr) : entryFrame m #[(.ref ra)] 1 = mkF m 0 #[.val (.ref ra)] [] := by first | (simp [entryFrame, mkF, argsToLocals, Value.category]; done) | rfl
theorem d4_0 : decode jdk_30_method_1_code 0 = .ok (.aload_n 0, 1) := by decide +kernel
theorem d4_1 : decode jdk_30_method_1_code 1 = .ok (.invokespecial 1, 3) := by decide +kernel
theorem d4_4 : decode jdk_30_method_1_code 4 = .ok (.return_, 1) := by decide +kernel
theorem pn_java_lang_Record : plainName "java/lang/Record" = true := by first | (simp [plainName, overriddenIn]; done) | decide +kernel
def Q4 (Z : State) (ra : Addr) (h0 : Heap) (n0 : Nat) (v : Option Value) (h : Heap) (L : List Loc) : Prop := v = none ∧ Fr n0 L ∧ h = h0
set_option maxRecDepth 65536 in
set_option maxHeartbeats 40000000 in
theorem rm4 (l : Launch) (Z : State) (a0 : Array Value) (hw : ∀ d ∈ tables_1, d.before a0 Z = true) (ws : List Jvm.Cond) (ra : Addr) (h0 : Heap) (n0 : Nat) (Z0 : n0 ≤ h0.size) :
    MetFree l (⟨"java/lang/Record", "<init>", "()V"⟩ : MethodName) (head1 (Jvm.Cond.code (⟨"java/lang/Record", "<init>", "()V"⟩ : MethodName) jdk_30_method_1_code 1 none :: ws) ({ frames := 1, cells := 0, slots := 0, locals := 12 } : Room)) (fun a U => a = #[(.ref ra)] ∧ Z.Warmed39 U.vm ∧ U.heap = h0) (fun _ _ _ _ _ => True) (fun _ U o U' => ∃ v L, o = .returned v ∧ Q4 Z ra h0 n0 v U'.heap L ∧ FrameEnd U o U' L ({ frames := 1, cells := 0, slots := 0, locals := 12 } : Room).cells ({ frames := 1, cells := 0, slots := 0, locals := 12 } : Room).slots) := by
  refine MetFree.of_bodySF (plainFor_of_name pn_java_lang_Record) hisR ?_
  intro p e s m args below meth c s₁ Bd hml0 hP hK
  obtain ⟨rfl, hZ, hh⟩ := hP
  have hx := Bd.exec
  have hby := Bd.bytes
  have hml : c.maxLocals = 1 := hml0
  have hown : s.vm.findClass "java/lang/Record" = some m.cls := findClass_of_methodNamed Bd.named
  have hnm := (name_of_methodNamed Bd.named Bd.method).1
  have X0 : Stand p l e ({ frames := 1, cells := 0, slots := 0, locals := 12 } : Room) s m #[(.ref ra)] below meth c s₁ [] 0 0 := Stand.of_body Bd
  have e0 : s₁.heap = h0 := by rw [← hh, Bd.state]; rfl
  have N0 := Fr.nil n0
  have K0 : Keep h0 h0 [] := Keep.refl h0 _
  have pre0 : ∀ t, Steps p.tables e below (s₁.setTop (mkF m 0 #[.val (.ref ra)] [])) t → Steps p.tables e below (s₁.setTop (entryFrame m #[(.ref ra)] 1)) t := fun t k => castTop (ef_4 m ra) k
  obtain ⟨T1, X1, e1, st1⟩ := initO X0 hx hZ hown (hw _ (List.mem_of_getElem? (i := 20) rfl)) (hw _ (List.mem_of_getElem? (i := 21) rfl)) (hw _ (List.mem_of_getElem? (i := 22) rfl)) e0 (g := (mkF m 1 #[.val (.ref ra)] [(.ref ra)])) rfl (by rw [hml]; rfl) rfl (hb hby d4_1) (by decide) (W := 0) (by show 2 * 0 + _ ≤ _; exact Nat.le_of_eq rfl) (by decide)
  obtain ⟨fs, hr, hrun, hended, hW, hsame⟩ := X1.leave (v := none) (fun _ => rfl)
  refine ⟨_, _, pre0 _ ?_, hrun, hended, _, _, rfl, ?_, ⟨_, rfl⟩, hW, hsame.mono (by decide) (by decide)⟩
  · show Steps p.tables e below (s₁.setTop (mkF m 0 #[.val (.ref ra)] [])) _
    refine XS.aloadN X0.here hx rfl (hb hby d4_0) rfl rfl ?_
    show Steps p.tables e below (s₁.setTop (mkF m 1 #[.val (.ref ra)] [(.ref ra)])) _
    refine st1 _ ?_
    show Steps p.tables e below (T1.setTop (mkF m 4 #[.val (.ref ra)] [])) _
    exact X1.returnOut hx Bd.returns (hb hby d4_4) hr
  · show Q4 Z ra h0 n0 _ T1.heap _
    rw [e1]
    exact ⟨rfl, N0, rfl⟩
theorem ef_3 (m : MethodId) (ra : Addr) (pv : Int32) : entryFrame m #[(.ref ra), (.int pv)] 2 = mkF m 0 #[.val (.ref ra), .val (.int pv)] [] := by first | (simp [entryFrame, mkF, argsToLocals, Value.category]; done) | rfl
theorem d3_0 : decode prog_16_method_1_code 0 = .ok (.aload_n 0, 1) := by decide +kernel
theorem pd_1 : parseMethodDescriptor "()V" = some ⟨[], none⟩ := by decide +kernel
theorem d3_1 : decode prog_16_method_1_code 1 = .ok (.invokespecial 3, 3) := by decide +kernel
theorem d3_4 : decode prog_16_method_1_code 4 = .ok (.iload_n 1, 1) := by decide +kernel
theorem d3_5 : decode prog_16_method_1_code 5 = .ok (.iconst 1, 1) := by decide +kernel
theorem d3_6 : decode prog_16_method_1_code 6 = .ok (.if_icmp .ge 17, 3) := by decide +kernel
theorem d3_23 : decode prog_16_method_1_code 23 = .ok (.aload_n 0, 1) := by decide +kernel
theorem d3_24 : decode prog_16_method_1_code 24 = .ok (.iload_n 1, 1) := by decide +kernel
theorem d3_25 : decode prog_16_method_1_code 25 = .ok (.putfield 18, 3) := by decide +kernel
theorem d3_28 : decode prog_16_method_1_code 28 = .ok (.return_, 1) := by decide +kernel
theorem pn_com_example_partlint_partlint_model_ApiLevel : plainName "com/example/partlint/partlint/model/ApiLevel" = true := by first | (simp [plainName, overriddenIn]; done) | decide +kernel
def Q3 (Z : State) (ra : Addr) (pv : Int32) (u_value_ra : Int32) (h0 : Heap) (n0 : Nat) (v : Option Value) (h : Heap) (L : List Loc) : Prop := v = none ∧ Fr n0 L ∧ Keep h0 h [ra] ∧ Fld Z h ra "com/example/partlint/partlint/model/ApiLevel" "value" "I" (.int pv)
set_option maxRecDepth 65536 in
set_option maxHeartbeats 40000000 in
theorem rm3 (l : Launch) (Z : State) (a0 : Array Value) (hw : ∀ d ∈ tables_1, d.before a0 Z = true) (ws : List Jvm.Cond) (ra : Addr) (pv : Int32) (u_value_ra : Int32) (h0 : Heap) (n0 : Nat) (Z0 : n0 ≤ h0.size) (hc6 : ¬ (pv < (1 : Int32))) (E_ra : Exa Z h0 ra "com/example/partlint/partlint/model/ApiLevel") (F_value_ra : Fld Z h0 ra "com/example/partlint/partlint/model/ApiLevel" "value" "I" (.int u_value_ra)) (g_ra : n0 ≤ ra) :
    MetFree l (⟨"com/example/partlint/partlint/model/ApiLevel", "<init>", "(I)V"⟩ : MethodName) (head1 (Jvm.Cond.code (⟨"com/example/partlint/partlint/model/ApiLevel", "<init>", "(I)V"⟩ : MethodName) prog_16_method_1_code 2 none :: ws) ({ frames := 2, cells := 0, slots := 0, locals := 24 } : Room)) (fun a U => a = #[(.ref ra), (.int pv)] ∧ Z.Warmed39 U.vm ∧ U.heap = h0) (fun _ _ _ _ _ => True) (fun _ U o U' => ∃ v L, o = .returned v ∧ Q3 Z ra pv u_value_ra h0 n0 v U'.heap L ∧ FrameEnd U o U' L ({ frames := 2, cells := 0, slots := 0, locals := 24 } : Room).cells ({ frames := 2, cells := 0, slots := 0, locals := 24 } : Room).slots) := by
  refine MetFree.of_bodySF (plainFor_of_name pn_com_example_partlint_partlint_model_ApiLevel) hisR ?_
  intro p e s m args below meth c s₁ Bd hml0 hP hK
  obtain ⟨rfl, hZ, hh⟩ := hP
  have hx := Bd.exec
  have hby := Bd.bytes
  have hml : c.maxLocals = 2 := hml0
  have hown : s.vm.findClass "com/example/partlint/partlint/model/ApiLevel" = some m.cls := findClass_of_methodNamed Bd.named
  have hnm := (name_of_methodNamed Bd.named Bd.method).1
  have X0 : Stand p l e ({ frames := 2, cells := 0, slots := 0, locals := 24 } : Room) s m #[(.ref ra), (.int pv)] below meth c s₁ [] 0 0 := Stand.of_body Bd
  have e0 : s₁.heap = h0 := by rw [← hh, Bd.state]; rfl
  have N0 := Fr.nil n0
  have K0 : Keep h0 h0 [ra] := Keep.refl h0 _
  have pre0 : ∀ t, Steps p.tables e below (s₁.setTop (mkF m 0 #[.val (.ref ra), .val (.int pv)] [])) t → Steps p.tables e below (s₁.setTop (entryFrame m #[(.ref ra), (.int pv)] 2)) t := fun t k => castTop (ef_3 m ra pv) k
  obtain ⟨_, _, ⟨T1, L1, k1, n1⟩, -, X1, ⟨Lc1, hQ1, l1, y1, z1⟩, st1⟩ := X0.specialBack hx (y := (⟨"java/lang/Record", "<init>", "()V"⟩ : MethodName)) rfl hown (mvT hZ (hw _ (List.mem_of_getElem? (i := 15) rfl))) (mvT hZ (hw _ (List.mem_of_getElem? (i := 16) rfl))) (mvT hZ (hw _ (List.mem_of_getElem? (i := 19) rfl))) (by decide) (backOf (W := 0) (rm4 l Z a0 hw [] ra h0 n0 Z0 ) hZ (hw _ (List.mem_of_getElem? (i := 19) rfl)) (hw _ (List.mem_of_getElem? (i := 18) rfl)) (by decide) (by decide)) (g := (mkF m 1 #[.val (.ref ra), .val (.int pv)] [(.ref ra)])) rfl (by rw [hml]; rfl) (Steps.refl _) (a := ra) (argsL := []) (rest := []) (lenOf pd_1 rfl) rfl (by show 2 * 0 + _ ≤ _; exact Nat.le_of_eq rfl) (hb hby d3_1) (fun _ _ => ⟨rfl, e0, (by decide : 0 + 0 ≤ _), (by decide : 0 + 0 ≤ _)⟩)
  dsimp only [Pt.U, Pt.locs, Pt.cells, Pt.slots] at X1 l1 y1 z1 st1 hQ1
  subst l1 y1 z1
  obtain ⟨rfl, N1q, e1⟩ := hQ1
  have N1 := Fr.app N0 N1q
  obtain ⟨T2, h2, X2, e2, W2, st2⟩ := putF X1 hx hZ hown (host := "") (Or.inl (hw _ (List.mem_of_getElem? (i := 23) rfl))) Via.refl e1 F_value_ra E_ra (Or.inr ⟨(hw _ (List.mem_of_getElem? (i := 24) rfl)), rfl, hnm⟩) (hw _ (List.mem_of_getElem? (i := 10) rfl)) (ty := .int) (by decide) rfl rfl (g := (mkF m 25 #[.val (.ref ra), .val (.int pv)] [(.int pv), (.ref ra)])) rfl rfl (hb hby d3_25)
  have N2 := Fr.snoc X2 N1 g_ra
  have Z2 : n0 ≤ h2.size := Nat.le_trans Z0 (Keep.of_wr W2).1
  have K2 : Keep h0 h2 [ra] := K0.wr W2 (Or.inl (List.mem_of_getElem? (i := 0) rfl))
  have f3 : Fld Z h2 ra "com/example/partlint/partlint/model/ApiLevel" "value" "I" (.int pv) := F_value_ra.same W2
  have f4 : Exa Z h2 ra "com/example/partlint/partlint/model/ApiLevel" := E_ra.wr W2
  obtain ⟨fs, hr, hrun, hended, hW, hsame⟩ := X2.leave (v := none) (fun _ => rfl)
  refine ⟨_, _, pre0 _ ?_, hrun, hended, _, _, rfl, ?_, ⟨_, rfl⟩, hW, hsame.mono (by decide) (by decide)⟩
  · show Steps p.tables e below (s₁.setTop (mkF m 0 #[.val (.ref ra), .val (.int pv)] [])) _
    refine XS.aloadN X0.here hx rfl (hb hby d3_0) rfl rfl ?_
    show Steps p.tables e below (s₁.setTop (mkF m 1 #[.val (.ref ra), .val (.int pv)] [(.ref ra)])) _
    refine st1.trans ?_
    show Steps p.tables e below (T1.setTop (mkF m 4 #[.val (.ref ra), .val (.int pv)] [])) _
    refine XS.iloadN X1.here hx rfl (hb hby d3_4) rfl ?_
    show Steps p.tables e below (T1.setTop (mkF m 5 #[.val (.ref ra), .val (.int pv)] [(.int pv)])) _
    refine XS.iconst X1.here hx rfl (hb hby d3_5) ?_
    show Steps p.tables e below (T1.setTop (mkF m 6 #[.val (.ref ra), .val (.int pv)] [(.int (1 : Int32)), (.int pv)])) _
    refine XS.icmpYes X1.here hx rfl (pc0 := 6) (pc' := 23) rfl (hb hby d3_6) rfl (flt hc6).2.1 (by decide) (by decide) ?_
    show Steps p.tables e below (T1.setTop (mkF m 23 #[.val (.ref ra), .val (.int pv)] [])) _
    refine XS.aloadN X1.here hx rfl (hb hby d3_23) rfl rfl ?_
    show Steps p.tables e below (T1.setTop (mkF m 24 #[.val (.ref ra), .val (.int pv)] [(.ref ra)])) _
    refine XS.iloadN X1.here hx rfl (hb hby d3_24) rfl ?_
    show Steps p.tables e below (T1.setTop (mkF m 25 #[.val (.ref ra), .val (.int pv)] [(.int pv), (.ref ra)])) _
    refine st2 _ ?_
    show Steps p.tables e below (T2.setTop (mkF m 28 #[.val (.ref ra), .val (.int pv)] [])) _
    exact X2.returnOut hx Bd.returns (hb hby d3_28) hr
  · show Q3 Z ra pv u_value_ra h0 n0 _ T2.heap _
    rw [e2]
    exact ⟨rfl, N2, K2, f3⟩
theorem ef_6 (m : MethodId) (ra : Addr) : entryFrame m #[(.ref ra)] 1 = mkF m 0 #[.val (.ref ra)] [] := by first | (simp [entryFrame, mkF, argsToLocals, Value.category]; done) | rfl
theorem d6_0 : decode prog_16_method_5_code 0 = .ok (.aload_n 0, 1) := by decide +kernel
theorem d6_1 : decode prog_16_method_5_code 1 = .ok (.getfield 18, 3) := by decide +kernel
theorem d6_4 : decode prog_16_method_5_code 4 = .ok (.bipush 34, 2) := by decide +kernel
theorem d6_6 : decode prog_16_method_5_code 6 = .ok (.if_icmp .gt 7, 3) := by decide +kernel
theorem d6_13 : decode prog_16_method_5_code 13 = .ok (.iconst 0, 1) := by decide +kernel
theorem d6_14 : decode prog_16_method_5_code 14 = .ok (.ireturn, 1) := by decide +kernel
theorem d6_9 : decode prog_16_method_5_code 9 = .ok (.iconst 1, 1) := by decide +kernel
theorem d6_10 : decode prog_16_method_5_code 10 = .ok (.goto 4, 3) := by decide +kernel
def r6_v (wv : Int32) : Int32 := (if (34 : Int32) < wv then (0 : Int32) else (1 : Int32))
def Q6 (Z : State) (ra : Addr) (wv : Int32) (h0 : Heap) (n0 : Nat) (v : Option Value) (h : Heap) (L : List Loc) : Prop := v = some (.int (r6_v wv)) ∧ Fr n0 L ∧ h = h0
set_option maxRecDepth 65536 in
set_option maxHeartbeats 40000000 in
theorem rm6 (l : Launch) (Z : State) (a0 : Array Value) (hw : ∀ d ∈ tables_1, d.before a0 Z = true) (ws : List Jvm.Cond) (ra : Addr) (wv : Int32) (h0 : Heap) (n0 : Nat) (Z0 : n0 ≤ h0.size) (F_value_ra : Fld Z h0 ra "com/example/partlint/partlint/model/ApiLevel" "value" "I" (.int wv)) :
    MetFree l (⟨"com/example/partlint/partlint/model/ApiLevel", "isSdkForm", "()Z"⟩ : MethodName) (head1 (Jvm.Cond.code (⟨"com/example/partlint/partlint/model/ApiLevel", "isSdkForm", "()Z"⟩ : MethodName) prog_16_method_5_code 1 (some .boolean) :: ws) ({ frames := 0, cells := 0, slots := 0, locals := 0 } : Room)) (fun a U => a = #[(.ref ra)] ∧ Z.Warmed39 U.vm ∧ U.heap = h0) (fun _ _ _ _ _ => True) (fun _ U o U' => ∃ v L, o = .returned v ∧ Q6 Z ra wv h0 n0 v U'.heap L ∧ FrameEnd U o U' L ({ frames := 0, cells := 0, slots := 0, locals := 0 } : Room).cells ({ frames := 0, cells := 0, slots := 0, locals := 0 } : Room).slots) := by
  refine MetFree.of_bodySF (plainFor_of_name pn_com_example_partlint_partlint_model_ApiLevel) hisR ?_
  intro p e s m args below meth c s₁ Bd hml0 hP hK
  obtain ⟨rfl, hZ, hh⟩ := hP
  have hx := Bd.exec
  have hby := Bd.bytes
  have hml : c.maxLocals = 1 := hml0
  have hown : s.vm.findClass "com/example/partlint/partlint/model/ApiLevel" = some m.cls := findClass_of_methodNamed Bd.named
  have hnm := (name_of_methodNamed Bd.named Bd.method).1
  have X0 : Stand p l e ({ frames := 0, cells := 0, slots := 0, locals := 0 } : Room) s m #[(.ref ra)] below meth c s₁ [] 0 0 := Stand.of_body Bd
  have e0 : s₁.heap = h0 := by rw [← hh, Bd.state]; rfl
  have N0 := Fr.nil n0
  have K0 : Keep h0 h0 [] := Keep.refl h0 _
  have pre0 : ∀ t, Steps p.tables e below (s₁.setTop (mkF m 0 #[.val (.ref ra)] [])) t → Steps p.tables e below (s₁.setTop (entryFrame m #[(.ref ra)] 1)) t := fun t k => castTop (ef_6 m ra) k
  obtain ⟨T1, X1, e1, st1⟩ := getF X0 hx hZ hown (host := "") (Or.inl (hw _ (List.mem_of_getElem? (i := 23) rfl))) Via.refl e0 F_value_ra (g := (mkF m 1 #[.val (.ref ra)] [(.ref ra)])) rfl rfl (hb hby d6_1)
  have pre2 : ∀ t, Steps p.tables e below (T1.setTop (mkF m 6 #[.val (.ref ra)] [(.int (34 : Int32)), (.int wv)])) t → Steps p.tables e below (s₁.setTop (entryFrame m #[(.ref ra)] 1)) t := by
    intro t k
    refine pre0 _ ?_
    show Steps p.tables e below (s₁.setTop (mkF m 0 #[.val (.ref ra)] [])) _
    refine XS.aloadN X0.here hx rfl (hb hby d6_0) rfl rfl ?_
    show Steps p.tables e below (s₁.setTop (mkF m 1 #[.val (.ref ra)] [(.ref ra)])) _
    refine st1 _ ?_
    show Steps p.tables e below (T1.setTop (mkF m 4 #[.val (.ref ra)] [(.int wv)])) _
    refine XS.bipush X1.here hx rfl (hb hby d6_4) ?_
    exact k
  by_cases hk3 : (34 : Int32) < wv
  · obtain ⟨fs, hr, hrun, hended, hW, hsame⟩ := X1.leave (v := some (.int (0 : Int32))) (fun h => by rw [Bd.returns] at h; cases h)
    refine ⟨_, _, pre2 _ ?_, hrun, hended, _, _, rfl, ?_, ⟨_, rfl⟩, hW, hsame.mono (by decide) (by decide)⟩
    · show Steps p.tables e below (T1.setTop (mkF m 6 #[.val (.ref ra)] [(.int (34 : Int32)), (.int wv)])) _
      refine XS.icmpYes X1.here hx rfl (pc0 := 6) (pc' := 13) rfl (hb hby d6_6) rfl (tlt hk3).2.2.1 (by decide) (by decide) ?_
      show Steps p.tables e below (T1.setTop (mkF m 13 #[.val (.ref ra)] [])) _
      refine XS.iconst X1.here hx rfl (hb hby d6_13) ?_
      show Steps p.tables e below (T1.setTop (mkF m 14 #[.val (.ref ra)] [(.int (0 : Int32))])) _
      exact retN X1 hx (t := .boolean) Bd.returns (by simp) (hb hby d6_14) hr
    · show Q6 Z ra wv h0 n0 _ T1.heap _
      rw [e1]
      have ev4 : (r6_v wv) = (0 : Int32) := by unfold r6_v; rw [if_pos hk3]
      exact ⟨(congrArg (fun z => some (Value.int z)) ev4.symm), N0, rfl⟩
  · obtain ⟨fs, hr, hrun, hended, hW, hsame⟩ := X1.leave (v := some (.int (1 : Int32))) (fun h => by rw [Bd.returns] at h; cases h)
    refine ⟨_, _, pre2 _ ?_, hrun, hended, _, _, rfl, ?_, ⟨_, rfl⟩, hW, hsame.mono (by decide) (by decide)⟩
    · show Steps p.tables e below (T1.setTop (mkF m 6 #[.val (.ref ra)] [(.int (34 : Int32)), (.int wv)])) _
      refine XS.icmpNo X1.here hx rfl (hb hby d6_6) rfl (flt hk3).2.2.1 ?_
      show Steps p.tables e below (T1.setTop (mkF m 9 #[.val (.ref ra)] [])) _
      refine XS.iconst X1.here hx rfl (hb hby d6_9) ?_
      show Steps p.tables e below (T1.setTop (mkF m 10 #[.val (.ref ra)] [(.int (1 : Int32))])) _
      refine XS.goto X1.here hx rfl (pc0 := 10) (pc' := 14) rfl (hb hby d6_10) (by decide) (by decide) ?_
      show Steps p.tables e below (T1.setTop (mkF m 14 #[.val (.ref ra)] [(.int (1 : Int32))])) _
      exact retN X1 hx (t := .boolean) Bd.returns (by simp) (hb hby d6_14) hr
    · show Q6 Z ra wv h0 n0 _ T1.heap _
      rw [e1]
      have ev5 : (r6_v wv) = (1 : Int32) := by unfold r6_v; rw [if_neg hk3]
      exact ⟨(congrArg (fun z => some (Value.int z)) ev5.symm), N0, rfl⟩
theorem ef_7 (m : MethodId) (ra : Addr) : entryFrame m #[(.ref ra)] 2 = mkF m 0 #[.val (.ref ra), .unset] [] := by first | (simp [entryFrame, mkF, argsToLocals, Value.category]; done) | rfl
theorem d7_0 : decode prog_16_method_6_code 0 = .ok (.aload_n 0, 1) := by decide +kernel
theorem d7_1 : decode prog_16_method_6_code 1 = .ok (.getfield 18, 3) := by decide +kernel
theorem d7_4 : decode prog_16_method_6_code 4 = .ok (.bipush 100, 2) := by decide +kernel
theorem d7_6 : decode prog_16_method_6_code 6 = .ok (.irem, 1) := by decide +kernel
theorem d7_7 : decode prog_16_method_6_code 7 = .ok (.istore_n 1, 1) := by decide +kernel
theorem d7_8 : decode prog_16_method_6_code 8 = .ok (.aload_n 0, 1) := by decide +kernel
theorem d7_9 : decode prog_16_method_6_code 9 = .ok (.getfield 18, 3) := by decide +kernel
theorem d7_12 : decode prog_16_method_6_code 12 = .ok (.ldc 72, 2) := by decide +kernel
theorem d7_14 : decode prog_16_method_6_code 14 = .ok (.if_icmp .lt 27, 3) := by decide +kernel
theorem d7_41 : decode prog_16_method_6_code 41 = .ok (.iconst 0, 1) := by decide +kernel
theorem d7_42 : decode prog_16_method_6_code 42 = .ok (.ireturn, 1) := by decide +kernel
theorem d7_17 : decode prog_16_method_6_code 17 = .ok (.aload_n 0, 1) := by decide +kernel
theorem d7_18 : decode prog_16_method_6_code 18 = .ok (.getfield 18, 3) := by decide +kernel
theorem d7_21 : decode prog_16_method_6_code 21 = .ok (.ldc 73, 2) := by decide +kernel
theorem d7_23 : decode prog_16_method_6_code 23 = .ok (.if_icmp .gt 18, 3) := by decide +kernel
theorem d7_26 : decode prog_16_method_6_code 26 = .ok (.iload_n 1, 1) := by decide +kernel
theorem d7_27 : decode prog_16_method_6_code 27 = .ok (.iconst 1, 1) := by decide +kernel
theorem d7_28 : decode prog_16_method_6_code 28 = .ok (.if_icmp .lt 13, 3) := by decide +kernel
theorem d7_31 : decode prog_16_method_6_code 31 = .ok (.iload_n 1, 1) := by decide +kernel
theorem d7_32 : decode prog_16_method_6_code 32 = .ok (.bipush 12, 2) := by decide +kernel
theorem d7_34 : decode prog_16_method_6_code 34 = .ok (.if_icmp .gt 7, 3) := by decide +kernel
theorem d7_37 : decode prog_16_method_6_code 37 = .ok (.iconst 1, 1) := by decide +kernel
theorem d7_38 : decode prog_16_method_6_code 38 = .ok (.goto 4, 3) := by decide +kernel
def r7_v (wv : Int32) : Int32 := (if wv < (202404 : Int32) then (0 : Int32) else (if (999912 : Int32) < wv then (0 : Int32) else (if (wv % (100 : Int32)) < (1 : Int32) then (0 : Int32) else (if (12 : Int32) < (wv % (100 : Int32)) then (0 : Int32) else (1 : Int32)))))
def Q7 (Z : State) (ra : Addr) (wv : Int32) (h0 : Heap) (n0 : Nat) (v : Option Value) (h : Heap) (L : List Loc) : Prop := v = some (.int (r7_v wv)) ∧ Fr n0 L ∧ h = h0
set_option maxRecDepth 65536 in
set_option maxHeartbeats 40000000 in
theorem rm7 (l : Launch) (Z : State) (a0 : Array Value) (hw : ∀ d ∈ tables_1, d.before a0 Z = true) (ws : List Jvm.Cond) (ra : Addr) (wv : Int32) (h0 : Heap) (n0 : Nat) (Z0 : n0 ≤ h0.size) (F_value_ra : Fld Z h0 ra "com/example/partlint/partlint/model/ApiLevel" "value" "I" (.int wv)) :
    MetFree l (⟨"com/example/partlint/partlint/model/ApiLevel", "isVendorForm", "()Z"⟩ : MethodName) (head1 (Jvm.Cond.code (⟨"com/example/partlint/partlint/model/ApiLevel", "isVendorForm", "()Z"⟩ : MethodName) prog_16_method_6_code 2 (some .boolean) :: ws) ({ frames := 0, cells := 0, slots := 0, locals := 0 } : Room)) (fun a U => a = #[(.ref ra)] ∧ Z.Warmed39 U.vm ∧ U.heap = h0) (fun _ _ _ _ _ => True) (fun _ U o U' => ∃ v L, o = .returned v ∧ Q7 Z ra wv h0 n0 v U'.heap L ∧ FrameEnd U o U' L ({ frames := 0, cells := 0, slots := 0, locals := 0 } : Room).cells ({ frames := 0, cells := 0, slots := 0, locals := 0 } : Room).slots) := by
  refine MetFree.of_bodySF (plainFor_of_name pn_com_example_partlint_partlint_model_ApiLevel) hisR ?_
  intro p e s m args below meth c s₁ Bd hml0 hP hK
  obtain ⟨rfl, hZ, hh⟩ := hP
  have hx := Bd.exec
  have hby := Bd.bytes
  have hml : c.maxLocals = 2 := hml0
  have hown : s.vm.findClass "com/example/partlint/partlint/model/ApiLevel" = some m.cls := findClass_of_methodNamed Bd.named
  have hnm := (name_of_methodNamed Bd.named Bd.method).1
  have X0 : Stand p l e ({ frames := 0, cells := 0, slots := 0, locals := 0 } : Room) s m #[(.ref ra)] below meth c s₁ [] 0 0 := Stand.of_body Bd
  have e0 : s₁.heap = h0 := by rw [← hh, Bd.state]; rfl
  have N0 := Fr.nil n0
  have K0 : Keep h0 h0 [] := Keep.refl h0 _
  have pre0 : ∀ t, Steps p.tables e below (s₁.setTop (mkF m 0 #[.val (.ref ra), .unset] [])) t → Steps p.tables e below (s₁.setTop (entryFrame m #[(.ref ra)] 2)) t := fun t k => castTop (ef_7 m ra) k
  obtain ⟨T1, X1, e1, st1⟩ := getF X0 hx hZ hown (host := "") (Or.inl (hw _ (List.mem_of_getElem? (i := 23) rfl))) Via.refl e0 F_value_ra (g := (mkF m 1 #[.val (.ref ra), .unset] [(.ref ra)])) rfl rfl (hb hby d7_1)
  obtain ⟨T2, X2, e2, st2⟩ := getF X1 hx hZ hown (host := "") (Or.inl (hw _ (List.mem_of_getElem? (i := 23) rfl))) Via.refl e1 F_value_ra (g := (mkF m 9 #[.val (.ref ra), .val (.int (wv % (100 : Int32)))] [(.ref ra)])) rfl rfl (hb hby d7_9)
  have pre3 : ∀ t, Steps p.tables e below (T2.setTop (mkF m 14 #[.val (.ref ra), .val (.int (wv % (100 : Int32)))] [(.int (202404 : Int32)), (.int wv)])) t → Steps p.tables e below (s₁.setTop (entryFrame m #[(.ref ra)] 2)) t := by
    intro t k
    refine pre0 _ ?_
    show Steps p.tables e below (s₁.setTop (mkF m 0 #[.val (.ref ra), .unset] [])) _
    refine XS.aloadN X0.here hx rfl (hb hby d7_0) rfl rfl ?_
    show Steps p.tables e below (s₁.setTop (mkF m 1 #[.val (.ref ra), .unset] [(.ref ra)])) _
    refine st1 _ ?_
    show Steps p.tables e below (T1.setTop (mkF m 4 #[.val (.ref ra), .unset] [(.int wv)])) _
    refine XS.bipush X1.here hx rfl (hb hby d7_4) ?_
    show Steps p.tables e below (T1.setTop (mkF m 6 #[.val (.ref ra), .unset] [(.int (100 : Int32)), (.int wv)])) _
    refine iremM X1 hx rfl (hb hby d7_6) rfl (by decide) ?_
    show Steps p.tables e below (T1.setTop (mkF m 7 #[.val (.ref ra), .unset] [(.int (wv % (100 : Int32)))])) _
    refine XS.istoreN X1.here hx rfl (hb hby d7_7) rfl (l' := #[.val (.ref ra), .val (.int (wv % (100 : Int32)))]) rfl ?_
    show Steps p.tables e below (T1.setTop (mkF m 8 #[.val (.ref ra), .val (.int (wv % (100 : Int32)))] [])) _
    refine XS.aloadN X1.here hx rfl (hb hby d7_8) rfl rfl ?_
    show Steps p.tables e below (T1.setTop (mkF m 9 #[.val (.ref ra), .val (.int (wv % (100 : Int32)))] [(.ref ra)])) _
    refine st2 _ ?_
    show Steps p.tables e below (T2.setTop (mkF m 12 #[.val (.ref ra), .val (.int (wv % (100 : Int32)))] [(.int wv)])) _
    refine X2.ldcInt hx hown (mvT hZ (hw _ (List.mem_of_getElem? (i := 35) rfl))) (g := (mkF m 12 #[.val (.ref ra), .val (.int (wv % (100 : Int32)))] [(.int wv)])) rfl (hb hby d7_12) _ ?_
    exact k
  by_cases hk4 : wv < (202404 : Int32)
  · obtain ⟨fs, hr, hrun, hended, hW, hsame⟩ := X2.leave (v := some (.int (0 : Int32))) (fun h => by rw [Bd.returns] at h; cases h)
    refine ⟨_, _, pre3 _ ?_, hrun, hended, _, _, rfl, ?_, ⟨_, rfl⟩, hW, hsame.mono (by decide) (by decide)⟩
    · show Steps p.tables e below (T2.setTop (mkF m 14 #[.val (.ref ra), .val (.int (wv % (100 : Int32)))] [(.int (202404 : Int32)), (.int wv)])) _
      refine XS.icmpYes X2.here hx rfl (pc0 := 14) (pc' := 41) rfl (hb hby d7_14) rfl (tlt hk4).1 (by decide) (by decide) ?_
      show Steps p.tables e below (T2.setTop (mkF m 41 #[.val (.ref ra), .val (.int (wv % (100 : Int32)))] [])) _
      refine XS.iconst X2.here hx rfl (hb hby d7_41) ?_
      show Steps p.tables e below (T2.setTop (mkF m 42 #[.val (.ref ra), .val (.int (wv % (100 : Int32)))] [(.int (0 : Int32))])) _
      exact retN X2 hx (t := .boolean) Bd.returns (by simp) (hb hby d7_42) hr
    · show Q7 Z ra wv h0 n0 _ T2.heap _
      rw [e2]
      have ev12 : (r7_v wv) = (0 : Int32) := by unfold r7_v; rw [if_pos hk4]
      exact ⟨(congrArg (fun z => some (Value.int z)) ev12.symm), N0, rfl⟩
  · obtain ⟨T5, X5, e5, st5⟩ := getF X2 hx hZ hown (host := "") (Or.inl (hw _ (List.mem_of_getElem? (i := 23) rfl))) Via.refl e2 F_value_ra (g := (mkF m 18 #[.val (.ref ra), .val (.int (wv % (100 : Int32)))] [(.ref ra)])) rfl rfl (hb hby d7_18)
    have pre6 : ∀ t, Steps p.tables e below (T5.setTop (mkF m 23 #[.val (.ref ra), .val (.int (wv % (100 : Int32)))] [(.int (999912 : Int32)), (.int wv)])) t → Steps p.tables e below (s₁.setTop (entryFrame m #[(.ref ra)] 2)) t := by
      intro t k
      refine pre3 _ ?_
      show Steps p.tables e below (T2.setTop (mkF m 14 #[.val (.ref ra), .val (.int (wv % (100 : Int32)))] [(.int (202404 : Int32)), (.int wv)])) _
      refine XS.icmpNo X2.here hx rfl (hb hby d7_14) rfl (flt hk4).1 ?_
      show Steps p.tables e below (T2.setTop (mkF m 17 #[.val (.ref ra), .val (.int (wv % (100 : Int32)))] [])) _
      refine XS.aloadN X2.here hx rfl (hb hby d7_17) rfl rfl ?_
      show Steps p.tables e below (T2.setTop (mkF m 18 #[.val (.ref ra), .val (.int (wv % (100 : Int32)))] [(.ref ra)])) _
      refine st5 _ ?_
      show Steps p.tables e below (T5.setTop (mkF m 21 #[.val (.ref ra), .val (.int (wv % (100 : Int32)))] [(.int wv)])) _
      refine X5.ldcInt hx hown (mvT hZ (hw _ (List.mem_of_getElem? (i := 45) rfl))) (g := (mkF m 21 #[.val (.ref ra), .val (.int (wv % (100 : Int32)))] [(.int wv)])) rfl (hb hby d7_21) _ ?_
      exact k
    by_cases hk7 : (999912 : Int32) < wv
    · obtain ⟨fs, hr, hrun, hended, hW, hsame⟩ := X5.leave (v := some (.int (0 : Int32))) (fun h => by rw [Bd.returns] at h; cases h)
      refine ⟨_, _, pre6 _ ?_, hrun, hended, _, _, rfl, ?_, ⟨_, rfl⟩, hW, hsame.mono (by decide) (by decide)⟩
      · show Steps p.tables e below (T5.setTop (mkF m 23 #[.val (.ref ra), .val (.int (wv % (100 : Int32)))] [(.int (999912 : Int32)), (.int wv)])) _
        refine XS.icmpYes X5.here hx rfl (pc0 := 23) (pc' := 41) rfl (hb hby d7_23) rfl (tlt hk7).2.2.1 (by decide) (by decide) ?_
        show Steps p.tables e below (T5.setTop (mkF m 41 #[.val (.ref ra), .val (.int (wv % (100 : Int32)))] [])) _
        refine XS.iconst X5.here hx rfl (hb hby d7_41) ?_
        show Steps p.tables e below (T5.setTop (mkF m 42 #[.val (.ref ra), .val (.int (wv % (100 : Int32)))] [(.int (0 : Int32))])) _
        exact retN X5 hx (t := .boolean) Bd.returns (by simp) (hb hby d7_42) hr
      · show Q7 Z ra wv h0 n0 _ T5.heap _
        rw [e5]
        have ev13 : (r7_v wv) = (0 : Int32) := by unfold r7_v; rw [if_neg hk4, if_pos hk7]
        exact ⟨(congrArg (fun z => some (Value.int z)) ev13.symm), N0, rfl⟩
    · have pre8 : ∀ t, Steps p.tables e below (T5.setTop (mkF m 28 #[.val (.ref ra), .val (.int (wv % (100 : Int32)))] [(.int (1 : Int32)), (.int (wv % (100 : Int32)))])) t → Steps p.tables e below (s₁.setTop (entryFrame m #[(.ref ra)] 2)) t := by
        intro t k
        refine pre6 _ ?_
        show Steps p.tables e below (T5.setTop (mkF m 23 #[.val (.ref ra), .val (.int (wv % (100 : Int32)))] [(.int (999912 : Int32)), (.int wv)])) _
        refine XS.icmpNo X5.here hx rfl (hb hby d7_23) rfl (flt hk7).2.2.1 ?_
        show Steps p.tables e below (T5.setTop (mkF m 26 #[.val (.ref ra), .val (.int (wv % (100 : Int32)))] [])) _
        refine XS.iloadN X5.here hx rfl (hb hby d7_26) rfl ?_
        show Steps p.tables e below (T5.setTop (mkF m 27 #[.val (.ref ra), .val (.int (wv % (100 : Int32)))] [(.int (wv % (100 : Int32)))])) _
        refine XS.iconst X5.here hx rfl (hb hby d7_27) ?_
        exact k
      by_cases hk9 : (wv % (100 : Int32)) < (1 : Int32)
      · obtain ⟨fs, hr, hrun, hended, hW, hsame⟩ := X5.leave (v := some (.int (0 : Int32))) (fun h => by rw [Bd.returns] at h; cases h)
        refine ⟨_, _, pre8 _ ?_, hrun, hended, _, _, rfl, ?_, ⟨_, rfl⟩, hW, hsame.mono (by decide) (by decide)⟩
        · show Steps p.tables e below (T5.setTop (mkF m 28 #[.val (.ref ra), .val (.int (wv % (100 : Int32)))] [(.int (1 : Int32)), (.int (wv % (100 : Int32)))])) _
          refine XS.icmpYes X5.here hx rfl (pc0 := 28) (pc' := 41) rfl (hb hby d7_28) rfl (tlt hk9).1 (by decide) (by decide) ?_
          show Steps p.tables e below (T5.setTop (mkF m 41 #[.val (.ref ra), .val (.int (wv % (100 : Int32)))] [])) _
          refine XS.iconst X5.here hx rfl (hb hby d7_41) ?_
          show Steps p.tables e below (T5.setTop (mkF m 42 #[.val (.ref ra), .val (.int (wv % (100 : Int32)))] [(.int (0 : Int32))])) _
          exact retN X5 hx (t := .boolean) Bd.returns (by simp) (hb hby d7_42) hr
        · show Q7 Z ra wv h0 n0 _ T5.heap _
          rw [e5]
          have ev14 : (r7_v wv) = (0 : Int32) := by unfold r7_v; rw [if_neg hk4, if_neg hk7, if_pos hk9]
          exact ⟨(congrArg (fun z => some (Value.int z)) ev14.symm), N0, rfl⟩
      · have pre10 : ∀ t, Steps p.tables e below (T5.setTop (mkF m 34 #[.val (.ref ra), .val (.int (wv % (100 : Int32)))] [(.int (12 : Int32)), (.int (wv % (100 : Int32)))])) t → Steps p.tables e below (s₁.setTop (entryFrame m #[(.ref ra)] 2)) t := by
          intro t k
          refine pre8 _ ?_
          show Steps p.tables e below (T5.setTop (mkF m 28 #[.val (.ref ra), .val (.int (wv % (100 : Int32)))] [(.int (1 : Int32)), (.int (wv % (100 : Int32)))])) _
          refine XS.icmpNo X5.here hx rfl (hb hby d7_28) rfl (flt hk9).1 ?_
          show Steps p.tables e below (T5.setTop (mkF m 31 #[.val (.ref ra), .val (.int (wv % (100 : Int32)))] [])) _
          refine XS.iloadN X5.here hx rfl (hb hby d7_31) rfl ?_
          show Steps p.tables e below (T5.setTop (mkF m 32 #[.val (.ref ra), .val (.int (wv % (100 : Int32)))] [(.int (wv % (100 : Int32)))])) _
          refine XS.bipush X5.here hx rfl (hb hby d7_32) ?_
          exact k
        by_cases hk11 : (12 : Int32) < (wv % (100 : Int32))
        · obtain ⟨fs, hr, hrun, hended, hW, hsame⟩ := X5.leave (v := some (.int (0 : Int32))) (fun h => by rw [Bd.returns] at h; cases h)
          refine ⟨_, _, pre10 _ ?_, hrun, hended, _, _, rfl, ?_, ⟨_, rfl⟩, hW, hsame.mono (by decide) (by decide)⟩
          · show Steps p.tables e below (T5.setTop (mkF m 34 #[.val (.ref ra), .val (.int (wv % (100 : Int32)))] [(.int (12 : Int32)), (.int (wv % (100 : Int32)))])) _
            refine XS.icmpYes X5.here hx rfl (pc0 := 34) (pc' := 41) rfl (hb hby d7_34) rfl (tlt hk11).2.2.1 (by decide) (by decide) ?_
            show Steps p.tables e below (T5.setTop (mkF m 41 #[.val (.ref ra), .val (.int (wv % (100 : Int32)))] [])) _
            refine XS.iconst X5.here hx rfl (hb hby d7_41) ?_
            show Steps p.tables e below (T5.setTop (mkF m 42 #[.val (.ref ra), .val (.int (wv % (100 : Int32)))] [(.int (0 : Int32))])) _
            exact retN X5 hx (t := .boolean) Bd.returns (by simp) (hb hby d7_42) hr
          · show Q7 Z ra wv h0 n0 _ T5.heap _
            rw [e5]
            have ev15 : (r7_v wv) = (0 : Int32) := by unfold r7_v; rw [if_neg hk4, if_neg hk7, if_neg hk9, if_pos hk11]
            exact ⟨(congrArg (fun z => some (Value.int z)) ev15.symm), N0, rfl⟩
        · obtain ⟨fs, hr, hrun, hended, hW, hsame⟩ := X5.leave (v := some (.int (1 : Int32))) (fun h => by rw [Bd.returns] at h; cases h)
          refine ⟨_, _, pre10 _ ?_, hrun, hended, _, _, rfl, ?_, ⟨_, rfl⟩, hW, hsame.mono (by decide) (by decide)⟩
          · show Steps p.tables e below (T5.setTop (mkF m 34 #[.val (.ref ra), .val (.int (wv % (100 : Int32)))] [(.int (12 : Int32)), (.int (wv % (100 : Int32)))])) _
            refine XS.icmpNo X5.here hx rfl (hb hby d7_34) rfl (flt hk11).2.2.1 ?_
            show Steps p.tables e below (T5.setTop (mkF m 37 #[.val (.ref ra), .val (.int (wv % (100 : Int32)))] [])) _
            refine XS.iconst X5.here hx rfl (hb hby d7_37) ?_
            show Steps p.tables e below (T5.setTop (mkF m 38 #[.val (.ref ra), .val (.int (wv % (100 : Int32)))] [(.int (1 : Int32))])) _
            refine XS.goto X5.here hx rfl (pc0 := 38) (pc' := 42) rfl (hb hby d7_38) (by decide) (by decide) ?_
            show Steps p.tables e below (T5.setTop (mkF m 42 #[.val (.ref ra), .val (.int (wv % (100 : Int32)))] [(.int (1 : Int32))])) _
            exact retN X5 hx (t := .boolean) Bd.returns (by simp) (hb hby d7_42) hr
          · show Q7 Z ra wv h0 n0 _ T5.heap _
            rw [e5]
            have ev16 : (r7_v wv) = (1 : Int32) := by unfold r7_v; rw [if_neg hk4, if_neg hk7, if_neg hk9, if_neg hk11]
            exact ⟨(congrArg (fun z => some (Value.int z)) ev16.symm), N0, rfl⟩
theorem ef_9 (m : MethodId) (xa : Int32) (xb : Int32) : entryFrame m #[(.int xa), (.int xb)] 2 = mkF m 0 #[.val (.int xa), .val (.int xb)] [] := by first | (simp [entryFrame, mkF, argsToLocals, Value.category]; done) | rfl
theorem d9_0 : decode jdk_33_method_40_code 0 = .ok (.iload_n 0, 1) := by decide +kernel
theorem d9_1 : decode jdk_33_method_40_code 1 = .ok (.iload_n 1, 1) := by decide +kernel
theorem d9_2 : decode jdk_33_method_40_code 2 = .ok (.if_icmp .ge 7, 3) := by decide +kernel
theorem d9_5 : decode jdk_33_method_40_code 5 = .ok (.iconst (-1), 1) := by decide +kernel
theorem d9_6 : decode jdk_33_method_40_code 6 = .ok (.goto 13, 3) := by decide +kernel
theorem d9_19 : decode jdk_33_method_40_code 19 = .ok (.ireturn, 1) := by decide +kernel
theorem d9_9 : decode jdk_33_method_40_code 9 = .ok (.iload_n 0, 1) := by decide +kernel
theorem d9_10 : decode jdk_33_method_40_code 10 = .ok (.iload_n 1, 1) := by decide +kernel
theorem d9_11 : decode jdk_33_method_40_code 11 = .ok (.if_icmp .ne 7, 3) := by decide +kernel
theorem d9_14 : decode jdk_33_method_40_code 14 = .ok (.iconst 0, 1) := by decide +kernel
theorem d9_15 : decode jdk_33_method_40_code 15 = .ok (.goto 4, 3) := by decide +kernel
theorem d9_18 : decode jdk_33_method_40_code 18 = .ok (.iconst 1, 1) := by decide +kernel
def r9_v (xa : Int32) (xb : Int32) : Int32 := (if xa < xb then (-1 : Int32) else (if xa = xb then (0 : Int32) else (1 : Int32)))
theorem pn_java_lang_Integer : plainName "java/lang/Integer" = true := by first | (simp [plainName, overriddenIn]; done) | decide +kernel
def Q9 (Z : State) (xa : Int32) (xb : Int32) (h0 : Heap) (n0 : Nat) (v : Option Value) (h : Heap) (L : List Loc) : Prop := v = some (.int (r9_v xa xb)) ∧ Fr n0 L ∧ h = h0
set_option maxRecDepth 65536 in
set_option maxHeartbeats 40000000 in
theorem rm9 (l : Launch) (Z : State) (a0 : Array Value) (hw : ∀ d ∈ tables_1, d.before a0 Z = true) (ws : List Jvm.Cond) (xa : Int32) (xb : Int32) (h0 : Heap) (n0 : Nat) (Z0 : n0 ≤ h0.size) :
    MetFree l (⟨"java/lang/Integer", "compare", "(II)I"⟩ : MethodName) (head1 (Jvm.Cond.code (⟨"java/lang/Integer", "compare", "(II)I"⟩ : MethodName) jdk_33_method_40_code 2 (some .int) :: ws) ({ frames := 0, cells := 0, slots := 0, locals := 0 } : Room)) (fun a U => a = #[(.int xa), (.int xb)] ∧ Z.Warmed39 U.vm ∧ U.heap = h0) (fun _ _ _ _ _ => True) (fun _ U o U' => ∃ v L, o = .returned v ∧ Q9 Z xa xb h0 n0 v U'.heap L ∧ FrameEnd U o U' L ({ frames := 0, cells := 0, slots := 0, locals := 0 } : Room).cells ({ frames := 0, cells := 0, slots := 0, locals := 0 } : Room).slots) := by
  refine MetFree.of_bodySF (plainFor_of_name pn_java_lang_Integer) hisR ?_
  intro p e s m args below meth c s₁ Bd hml0 hP hK
  obtain ⟨rfl, hZ, hh⟩ := hP
  have hx := Bd.exec
  have hby := Bd.bytes
  have hml : c.maxLocals = 2 := hml0
  have hown : s.vm.findClass "java/lang/Integer" = some m.cls := findClass_of_methodNamed Bd.named
  have hnm := (name_of_methodNamed Bd.named Bd.method).1
  have X0 : Stand p l e ({ frames := 0, cells := 0, slots := 0, locals := 0 } : Room) s m #[(.int xa), (.int xb)] below meth c s₁ [] 0 0 := Stand.of_body Bd
  have e0 : s₁.heap = h0 := by rw [← hh, Bd.state]; rfl
  have N0 := Fr.nil n0
  have K0 : Keep h0 h0 [] := Keep.refl h0 _
  have pre0 : ∀ t, Steps p.tables e below (s₁.setTop (mkF m 0 #[.val (.int xa), .val (.int xb)] [])) t → Steps p.tables e below (s₁.setTop (entryFrame m #[(.int xa), (.int xb)] 2)) t := fun t k => castTop (ef_9 m xa xb) k
  have pre1 : ∀ t, Steps p.tables e below (s₁.setTop (mkF m 2 #[.val (.int xa), .val (.int xb)] [(.int xb), (.int xa)])) t → Steps p.tables e below (s₁.setTop (entryFrame m #[(.int xa), (.int xb)] 2)) t := by
    intro t k
    refine pre0 _ ?_
    show Steps p.tables e below (s₁.setTop (mkF m 0 #[.val (.int xa), .val (.int xb)] [])) _
    refine XS.iloadN X0.here hx rfl (hb hby d9_0) rfl ?_
    show Steps p.tables e below (s₁.setTop (mkF m 1 #[.val (.int xa), .val (.int xb)] [(.int xa)])) _
    refine XS.iloadN X0.here hx rfl (hb hby d9_1) rfl ?_
    exact k
  by_cases hk2 : xa < xb
  · obtain ⟨fs, hr, hrun, hended, hW, hsame⟩ := X0.leave (v := some (.int (-1 : Int32))) (fun h => by rw [Bd.returns] at h; cases h)
    refine ⟨_, _, pre1 _ ?_, hrun, hended, _, _, rfl, ?_, ⟨_, rfl⟩, hW, hsame.mono (by decide) (by decide)⟩
    · show Steps p.tables e below (s₁.setTop (mkF m 2 #[.val (.int xa), .val (.int xb)] [(.int xb), (.int xa)])) _
      refine XS.icmpNo X0.here hx rfl (hb hby d9_2) rfl (tlt hk2).2.1 ?_
      show Steps p.tables e below (s₁.setTop (mkF m 5 #[.val (.int xa), .val (.int xb)] [])) _
      refine XS.iconst X0.here hx rfl (hb hby d9_5) ?_
      show Steps p.tables e below (s₁.setTop (mkF m 6 #[.val (.int xa), .val (.int xb)] [(.int (-1 : Int32))])) _
      refine XS.goto X0.here hx rfl (pc0 := 6) (pc' := 19) rfl (hb hby d9_6) (by decide) (by decide) ?_
      show Steps p.tables e below (s₁.setTop (mkF m 19 #[.val (.int xa), .val (.int xb)] [(.int (-1 : Int32))])) _
      exact retI X0 hx Bd.returns (hb hby d9_19) hr
    · show Q9 Z xa xb h0 n0 _ s₁.heap _
      rw [e0]
      have ev5 : (r9_v xa xb) = (-1 : Int32) := by unfold r9_v; rw [if_pos hk2]
      exact ⟨(congrArg (fun z => some (Value.int z)) ev5.symm), N0, rfl⟩
  · have pre3 : ∀ t, Steps p.tables e below (s₁.setTop (mkF m 11 #[.val (.int xa), .val (.int xb)] [(.int xb), (.int xa)])) t → Steps p.tables e below (s₁.setTop (entryFrame m #[(.int xa), (.int xb)] 2)) t := by
      intro t k
      refine pre1 _ ?_
      show Steps p.tables e below (s₁.setTop (mkF m 2 #[.val (.int xa), .val (.int xb)] [(.int xb), (.int xa)])) _
      refine XS.icmpYes X0.here hx rfl (pc0 := 2) (pc' := 9) rfl (hb hby d9_2) rfl (flt hk2).2.1 (by decide) (by decide) ?_
      show Steps p.tables e below (s₁.setTop (mkF m 9 #[.val (.int xa), .val (.int xb)] [])) _
      refine XS.iloadN X0.here hx rfl (hb hby d9_9) rfl ?_
      show Steps p.tables e below (s₁.setTop (mkF m 10 #[.val (.int xa), .val (.int xb)] [(.int xa)])) _
      refine XS.iloadN X0.here hx rfl (hb hby d9_10) rfl ?_
      exact k
    by_cases hk4 : xa = xb
    · obtain ⟨fs, hr, hrun, hended, hW, hsame⟩ := X0.leave (v := some (.int (0 : Int32))) (fun h => by rw [Bd.returns] at h; cases h)
      refine ⟨_, _, pre3 _ ?_, hrun, hended, _, _, rfl, ?_, ⟨_, rfl⟩, hW, hsame.mono (by decide) (by decide)⟩
      · show Steps p.tables e below (s₁.setTop (mkF m 11 #[.val (.int xa), .val (.int xb)] [(.int xb), (.int xa)])) _
        refine XS.icmpNo X0.here hx rfl (hb hby d9_11) rfl (teq hk4).2 ?_
        show Steps p.tables e below (s₁.setTop (mkF m 14 #[.val (.int xa), .val (.int xb)] [])) _
        refine XS.iconst X0.here hx rfl (hb hby d9_14) ?_
        show Steps p.tables e below (s₁.setTop (mkF m 15 #[.val (.int xa), .val (.int xb)] [(.int (0 : Int32))])) _
        refine XS.goto X0.here hx rfl (pc0 := 15) (pc' := 19) rfl (hb hby d9_15) (by decide) (by decide) ?_
        show Steps p.tables e below (s₁.setTop (mkF m 19 #[.val (.int xa), .val (.int xb)] [(.int (0 : Int32))])) _
        exact retI X0 hx Bd.returns (hb hby d9_19) hr
      · show Q9 Z xa xb h0 n0 _ s₁.heap _
        rw [e0]
        have ev6 : (r9_v xa xb) = (0 : Int32) := by unfold r9_v; rw [if_neg hk2, if_pos hk4]
        exact ⟨(congrArg (fun z => some (Value.int z)) ev6.symm), N0, rfl⟩
    · obtain ⟨fs, hr, hrun, hended, hW, hsame⟩ := X0.leave (v := some (.int (1 : Int32))) (fun h => by rw [Bd.returns] at h; cases h)
      refine ⟨_, _, pre3 _ ?_, hrun, hended, _, _, rfl, ?_, ⟨_, rfl⟩, hW, hsame.mono (by decide) (by decide)⟩
      · show Steps p.tables e below (s₁.setTop (mkF m 11 #[.val (.int xa), .val (.int xb)] [(.int xb), (.int xa)])) _
        refine XS.icmpYes X0.here hx rfl (pc0 := 11) (pc' := 18) rfl (hb hby d9_11) rfl (feq hk4).2 (by decide) (by decide) ?_
        show Steps p.tables e below (s₁.setTop (mkF m 18 #[.val (.int xa), .val (.int xb)] [])) _
        refine XS.iconst X0.here hx rfl (hb hby d9_18) ?_
        show Steps p.tables e below (s₁.setTop (mkF m 19 #[.val (.int xa), .val (.int xb)] [(.int (1 : Int32))])) _
        exact retI X0 hx Bd.returns (hb hby d9_19) hr
      · show Q9 Z xa xb h0 n0 _ s₁.heap _
        rw [e0]
        have ev7 : (r9_v xa xb) = (1 : Int32) := by unfold r9_v; rw [if_neg hk2, if_neg hk4]
        exact ⟨(congrArg (fun z => some (Value.int z)) ev7.symm), N0, rfl⟩
theorem ef_8 (m : MethodId) (ra : Addr) (rb : Addr) : entryFrame m #[(.ref ra), (.ref rb)] 2 = mkF m 0 #[.val (.ref ra), .val (.ref rb)] [] := by first | (simp [entryFrame, mkF, argsToLocals, Value.category]; done) | rfl
theorem d8_0 : decode prog_16_method_7_code 0 = .ok (.aload_n 0, 1) := by decide +kernel
theorem d8_1 : decode prog_16_method_7_code 1 = .ok (.getfield 18, 3) := by decide +kernel
theorem d8_4 : decode prog_16_method_7_code 4 = .ok (.aload_n 1, 1) := by decide +kernel
theorem d8_5 : decode prog_16_method_7_code 5 = .ok (.getfield 18, 3) := by decide +kernel
theorem d8_8 : decode prog_16_method_7_code 8 = .ok (.invokestatic 74, 3) := by decide +kernel
theorem d8_11 : decode prog_16_method_7_code 11 = .ok (.ireturn, 1) := by decide +kernel
def Q8 (Z : State) (ra : Addr) (rb : Addr) (w_value : Int32) (w_value_rb : Int32) (h0 : Heap) (n0 : Nat) (v : Option Value) (h : Heap) (L : List Loc) : Prop := v = some (.int (r9_v w_value w_value_rb)) ∧ Fr n0 L ∧ h = h0
set_option maxRecDepth 65536 in
set_option maxHeartbeats 40000000 in
theorem rm8 (l : Launch) (Z : State) (a0 : Array Value) (hw : ∀ d ∈ tables_1, d.before a0 Z = true) (ws : List Jvm.Cond) (ra : Addr) (rb : Addr) (w_value : Int32) (w_value_rb : Int32) (h0 : Heap) (n0 : Nat) (Z0 : n0 ≤ h0.size) (F_value_ra : Fld Z h0 ra "com/example/partlint/partlint/model/ApiLevel" "value" "I" (.int w_value)) (F_value_rb : Fld Z h0 rb "com/example/partlint/partlint/model/ApiLevel" "value" "I" (.int w_value_rb)) :
    MetFree l (⟨"com/example/partlint/partlint/model/ApiLevel", "compareTo", "(Lcom/example/partlint/partlint/model/ApiLevel;)I"⟩ : MethodName) (head1 (Jvm.Cond.code (⟨"com/example/partlint/partlint/model/ApiLevel", "compareTo", "(Lcom/example/partlint/partlint/model/ApiLevel;)I"⟩ : MethodName) prog_16_method_7_code 2 (some .int) :: ws) ({ frames := 1, cells := 0, slots := 0, locals := 13 } : Room)) (fun a U => a = #[(.ref ra), (.ref rb)] ∧ Z.Warmed39 U.vm ∧ U.heap = h0) (fun _ _ _ _ _ => True) (fun _ U o U' => ∃ v L, o = .returned v ∧ Q8 Z ra rb w_value w_value_rb h0 n0 v U'.heap L ∧ FrameEnd U o U' L ({ frames := 1, cells := 0, slots := 0, locals := 13 } : Room).cells ({ frames := 1, cells := 0, slots := 0, locals := 13 } : Room).slots) := by
  refine MetFree.of_bodySF (plainFor_of_name pn_com_example_partlint_partlint_model_ApiLevel) hisR ?_
  intro p e s m args below meth c s₁ Bd hml0 hP hK
  obtain ⟨rfl, hZ, hh⟩ := hP
  have hx := Bd.exec
  have hby := Bd.bytes
  have hml : c.maxLocals = 2 := hml0
  have hown : s.vm.findClass "com/example/partlint/partlint/model/ApiLevel" = some m.cls := findClass_of_methodNamed Bd.named
  have hnm := (name_of_methodNamed Bd.named Bd.method).1
  have X0 : Stand p l e ({ frames := 1, cells := 0, slots := 0, locals := 13 } : Room) s m #[(.ref ra), (.ref rb)] below meth c s₁ [] 0 0 := Stand.of_body Bd
  have e0 : s₁.heap = h0 := by rw [← hh, Bd.state]; rfl
  have N0 := Fr.nil n0
  have K0 : Keep h0 h0 [] := Keep.refl h0 _
  have pre0 : ∀ t, Steps p.tables e below (s₁.setTop (mkF m 0 #[.val (.ref ra), .val (.ref rb)] [])) t → Steps p.tables e below (s₁.setTop (entryFrame m #[(.ref ra), (.ref rb)] 2)) t := fun t k => castTop (ef_8 m ra rb) k
  obtain ⟨T1, X1, e1, st1⟩ := getF X0 hx hZ hown (host := "") (Or.inl (hw _ (List.mem_of_getElem? (i := 23) rfl))) Via.refl e0 F_value_ra (g := (mkF m 1 #[.val (.ref ra), .val (.ref rb)] [(.ref ra)])) rfl rfl (hb hby d8_1)
  obtain ⟨T2, X2, e2, st2⟩ := getF X1 hx hZ hown (host := "") (Or.inl (hw _ (List.mem_of_getElem? (i := 23) rfl))) Via.refl e1 F_value_rb (g := (mkF m 5 #[.val (.ref ra), .val (.ref rb)] [(.ref rb), (.int w_value)])) rfl rfl (hb hby d8_5)
  obtain ⟨_, _, ⟨T3, L3, k3, n3⟩, -, X3, ⟨Lc3, hQ3, l3, y3, z3⟩, st3⟩ := Jvm.LawKit.callS X2 hx (y := (⟨"java/lang/Integer", "compare", "(II)I"⟩ : MethodName)) hown (mvT hZ (hw _ (List.mem_of_getElem? (i := 41) rfl))) (mvT hZ (hw _ (List.mem_of_getElem? (i := 42) rfl))) (mvT hZ (hw _ (List.mem_of_getElem? (i := 43) rfl))) (mvT hZ (hw _ (List.mem_of_getElem? (i := 44) rfl))) (by decide) (backOf (W := 0) (rm9 l Z a0 hw [] w_value w_value_rb h0 n0 Z0 ) hZ (hw _ (List.mem_of_getElem? (i := 44) rfl)) (hw _ (List.mem_of_getElem? (i := 43) rfl)) (by decide) (by decide)) (g := (mkF m 8 #[.val (.ref ra), .val (.ref rb)] [(.int w_value_rb), (.int w_value)])) rfl (by rw [hml]; rfl) (argsL := [(.int w_value), (.int w_value_rb)]) (rest := []) (lenOf pd_0 rfl) rfl (by show 2 * 0 + _ ≤ _; exact Nat.le_of_eq rfl) (hb hby d8_8) (fun _ _ => ⟨rfl, e2, (by decide : 0 + 0 ≤ _), (by decide : 0 + 0 ≤ _)⟩)
  dsimp only [Pt.U, Pt.locs, Pt.cells, Pt.slots] at X3 l3 y3 z3 st3 hQ3
  subst l3 y3 z3
  obtain ⟨rfl, N3q, e3⟩ := hQ3
  have N3 := Fr.app N0 N3q
  obtain ⟨fs, hr, hrun, hended, hW, hsame⟩ := X3.leave (v := some (.int (r9_v w_value w_value_rb))) (fun h => by rw [Bd.returns] at h; cases h)
  refine ⟨_, _, pre0 _ ?_, hrun, hended, _, _, rfl, ?_, ⟨_, rfl⟩, hW, hsame.mono (by decide) (by decide)⟩
  · show Steps p.tables e below (s₁.setTop (mkF m 0 #[.val (.ref ra), .val (.ref rb)] [])) _
    refine XS.aloadN X0.here hx rfl (hb hby d8_0) rfl rfl ?_
    show Steps p.tables e below (s₁.setTop (mkF m 1 #[.val (.ref ra), .val (.ref rb)] [(.ref ra)])) _
    refine st1 _ ?_
    show Steps p.tables e below (T1.setTop (mkF m 4 #[.val (.ref ra), .val (.ref rb)] [(.int w_value)])) _
    refine XS.aloadN X1.here hx rfl (hb hby d8_4) rfl rfl ?_
    show Steps p.tables e below (T1.setTop (mkF m 5 #[.val (.ref ra), .val (.ref rb)] [(.ref rb), (.int w_value)])) _
    refine st2 _ ?_
    show Steps p.tables e below (T2.setTop (mkF m 8 #[.val (.ref ra), .val (.ref rb)] [(.int w_value_rb), (.int w_value)])) _
    refine st3 _ ?_
    show Steps p.tables e below (T3.setTop (mkF m 11 #[.val (.ref ra), .val (.ref rb)] [(.int (r9_v w_value w_value_rb))])) _
    exact retI X3 hx Bd.returns (hb hby d8_11) hr
  · show Q8 Z ra rb w_value w_value_rb h0 n0 _ T3.heap _
    rw [e3]
    exact ⟨rfl, N3, rfl⟩
theorem ef_0 (m : MethodId) (xx : Int32) (yy : Int32) (mo : Int32) : entryFrame m #[(.int xx), (.int yy), (.int mo)] maxLocals = mkF m 0 #[.val (.int xx), .val (.int yy), .val (.int mo), .unset, .unset, .unset, .unset, .unset, .unset, .unset] [] := by first | (simp [entryFrame, mkF, argsToLocals, Value.category, maxLocals]; done) | rfl
theorem pd_2 : parseMethodDescriptor "(I)V" = some ⟨[.int], none⟩ := by decide +kernel
theorem pd_3 : parseMethodDescriptor "()Z" = some ⟨[], some .boolean⟩ := by decide +kernel
theorem pd_4 : parseMethodDescriptor "(Lcom/example/partlint/partlint/model/ApiLevel;)I" = some ⟨[(.object "com/example/partlint/partlint/model/ApiLevel")], some .int⟩ := by decide +kernel
def j0_50_l9 (xx : Int32) (mo : Int32) : Int32 := (if (r1_v xx mo) < (1 : Int32) then (0 : Int32) else (if (34 : Int32) < (r1_v xx mo) then (0 : Int32) else (1 : Int32)))
theorem own_pick (xv mo : Int32) : ¬ ((r1_v xv mo) < (1 : Int32)) := by
  rw [Int32.lt_iff_toInt_lt]
  unfold r1_v r2_v
  have : 0 ≤ (xv &&& (63 : Int32)).toInt ∧ (xv &&& (63 : Int32)).toInt ≤ 63 := c_and xv (63 : Int32) (by decide)
  generalize (xv &&& (63 : Int32)) = u1_ at *
  first | have : (u1_ + (1 : Int32)).toInt = u1_.toInt + 1 := own_iadd rfl rfl (by omega) (by omega) | (have := c_iadd u1_ (1 : Int32); simp only [Int32.reduceToInt, Int64.reduceToInt] at this; have := rng32 (u1_ + (1 : Int32)))
  generalize (u1_ + (1 : Int32)) = u2_ at *
  have : 0 ≤ (xv &&& (7 : Int32)).toInt ∧ (xv &&& (7 : Int32)).toInt ≤ 7 := c_and xv (7 : Int32) (by decide)
  generalize (xv &&& (7 : Int32)) = u3_ at *
  first | have : ((30 : Int32) + u3_).toInt = 30 + u3_.toInt := own_iadd rfl rfl (by omega) (by omega) | (have := c_iadd (30 : Int32) u3_; simp only [Int32.reduceToInt, Int64.reduceToInt] at this; have := rng32 ((30 : Int32) + u3_))
  generalize ((30 : Int32) + u3_) = u4_ at *
  have : 0 ≤ (xv &&& (15 : Int32)).toInt ∧ (xv &&& (15 : Int32)).toInt ≤ 15 := c_and xv (15 : Int32) (by decide)
  generalize (xv &&& (15 : Int32)) = u5_ at *
  first | have : ((2147483647 : Int32) - u5_).toInt = 2147483647 - u5_.toInt := own_isub rfl rfl (by omega) (by omega) | (have := c_isub (2147483647 : Int32) u5_; simp only [Int32.reduceToInt, Int64.reduceToInt] at this; have := rng32 ((2147483647 : Int32) - u5_))
  generalize ((2147483647 : Int32) - u5_) = u6_ at *
  have : 0 ≤ (xv &&& (2147483647 : Int32)).toInt ∧ (xv &&& (2147483647 : Int32)).toInt ≤ 2147483647 := c_and xv (2147483647 : Int32) (by decide)
  generalize (xv &&& (2147483647 : Int32)) = u7_ at *
  try simp only [Int32.reduceToInt, Int64.reduceToInt] at *
  simp only [Int32.lt_iff_toInt_lt, ← Int32.toInt_inj, Int32.reduceToInt, Int64.reduceToInt]
  repeat' split
  all_goals first | omega | (simp only [Int32.reduceToInt, Int64.reduceToInt] at *; omega) | (simp at *; done) | (simp at *; omega)
theorem own_75 (xx yy mo : Int32) (h : ¬ (r6_v (r1_v xx mo)) = (j0_50_l9 xx mo)) : False := by
  have h1 := own_pick xx mo
  have h2 := own_pick yy ((mo.toUInt32 >>> ((2 : Int32) &&& 31).toUInt32).toInt32)
  apply h
  unfold j0_50_l9
  generalize (r1_v xx mo) = av at *
  generalize (r1_v yy ((mo.toUInt32 >>> ((2 : Int32) &&& 31).toUInt32).toInt32)) = bv at *
  unfold r6_v
  try simp only [Int32.reduceToInt, Int64.reduceToInt] at *
  simp only [Int32.lt_iff_toInt_lt, ← Int32.toInt_inj, Int32.reduceToInt, Int64.reduceToInt] at *
  repeat' split
  all_goals first | rfl | (exfalso; omega) | (exfalso; simp only [Int32.reduceToInt, Int64.reduceToInt] at *; omega) | (exfalso; simp at *; done) | (exfalso; simp at *; omega)
theorem own_90 (xx yy mo : Int32) (g0 : ¬ (r6_v (r1_v xx mo)) = (0 : Int32)) (g1 : ¬ (r7_v (r1_v xx mo)) = (0 : Int32)) : False := by
  have h1 := own_pick xx mo
  have h2 := own_pick yy ((mo.toUInt32 >>> ((2 : Int32) &&& 31).toUInt32).toInt32)
  generalize (r1_v xx mo) = av at *
  generalize (r1_v yy ((mo.toUInt32 >>> ((2 : Int32) &&& 31).toUInt32).toInt32)) = bv at *
  unfold r6_v r7_v at *
  try simp only [Int32.reduceToInt, Int64.reduceToInt] at *
  simp only [Int32.lt_iff_toInt_lt, ← Int32.toInt_inj, Int32.reduceToInt, Int64.reduceToInt] at *
  repeat' split at *
  all_goals first | omega | (simp only [Int32.reduceToInt, Int64.reduceToInt] at *; omega) | (simp at *; done) | (simp at *; omega)
theorem own_112 (xx yy mo : Int32) (g0 : (r6_v (r1_v xx mo)) = (0 : Int32)) (g1 : ¬ (0 : Int32) < (r9_v (r1_v xx mo) (r1_v yy ((mo.toUInt32 >>> ((2 : Int32) &&& 31).toUInt32).toInt32)))) (g2 : ¬ (r6_v (r1_v yy ((mo.toUInt32 >>> ((2 : Int32) &&& 31).toUInt32).toInt32))) = (0 : Int32)) : False := by
  have h1 := own_pick xx mo
  have h2 := own_pick yy ((mo.toUInt32 >>> ((2 : Int32) &&& 31).toUInt32).toInt32)
  generalize (r1_v xx mo) = av at *
  generalize (r1_v yy ((mo.toUInt32 >>> ((2 : Int32) &&& 31).toUInt32).toInt32)) = bv at *
  unfold r6_v r9_v at *
  try simp only [Int32.reduceToInt, Int64.reduceToInt] at *
  simp only [Int32.lt_iff_toInt_lt, ← Int32.toInt_inj, Int32.reduceToInt, Int64.reduceToInt] at *
  repeat' split at *
  all_goals first | omega | (simp only [Int32.reduceToInt, Int64.reduceToInt] at *; omega) | (simp at *; done) | (simp at *; omega)
theorem own_134 (xx yy mo : Int32) (g0 : ¬ (r6_v (r1_v xx mo)) = (0 : Int32)) (g1 : (r6_v (r1_v yy ((mo.toUInt32 >>> ((2 : Int32) &&& 31).toUInt32).toInt32))) = (0 : Int32)) (g2 : ¬ (r9_v (r1_v xx mo) (r1_v yy ((mo.toUInt32 >>> ((2 : Int32) &&& 31).toUInt32).toInt32))) < (0 : Int32)) : False := by
  have h1 := own_pick xx mo
  have h2 := own_pick yy ((mo.toUInt32 >>> ((2 : Int32) &&& 31).toUInt32).toInt32)
  generalize (r1_v xx mo) = av at *
  generalize (r1_v yy ((mo.toUInt32 >>> ((2 : Int32) &&& 31).toUInt32).toInt32)) = bv at *
  unfold r6_v r9_v at *
  try simp only [Int32.reduceToInt, Int64.reduceToInt] at *
  simp only [Int32.lt_iff_toInt_lt, ← Int32.toInt_inj, Int32.reduceToInt, Int64.reduceToInt] at *
  repeat' split at *
  all_goals first | omega | (simp only [Int32.reduceToInt, Int64.reduceToInt] at *; omega) | (simp at *; done) | (simp at *; omega)
def Q0 (Z : State) (xx : Int32) (yy : Int32) (mo : Int32) (h0 : Heap) (n0 : Nat) (v : Option Value) (h : Heap) (L : List Loc) : Prop := v = some (.int (1 : Int32)) ∧ Fr n0 L
set_option maxRecDepth 65536 in
set_option maxHeartbeats 40000000 in
theorem rm0 (l : Launch) (Z : State) (a0 : Array Value) (hw : ∀ d ∈ tables_1, d.before a0 Z = true) (ws : List Jvm.Cond) (xx : Int32) (yy : Int32) (mo : Int32) (h0 : Heap) (n0 : Nat) (Z0 : n0 ≤ h0.size) :
    MetFree l x (head1 (Jvm.Cond.code x code maxLocals ret :: ws) room_1) (fun a U => a = #[(.int xx), (.int yy), (.int mo)] ∧ Z.Warmed39 U.vm ∧ U.heap = h0) (fun _ _ _ _ _ => True) (fun _ U o U' => ∃ v L, o = .returned v ∧ Q0 Z xx yy mo h0 n0 v U'.heap L ∧ FrameEnd U o U' L room_1.cells room_1.slots) := by
  refine MetFree.of_bodySF (plainFor_of_name pn_com_example_partlint_partlint_model_ApiLevelIsSdkFormPinLaw) hisR ?_
  intro p e s m args below meth c s₁ Bd hml0 hP hK
  obtain ⟨rfl, hZ, hh⟩ := hP
  have hx := Bd.exec
  have hby := Bd.bytes
  have hml : c.maxLocals = 10 := hml0
  have hown : s.vm.findClass "com/example/partlint/partlint/model/ApiLevelIsSdkFormPinLaw" = some m.cls := findClass_of_methodNamed Bd.named
  have hnm := (name_of_methodNamed Bd.named Bd.method).1
  have X0 : Stand p l e room_1 s m #[(.int xx), (.int yy), (.int mo)] below meth c s₁ [] 0 0 := Stand.of_body Bd
  have e0 : s₁.heap = h0 := by rw [← hh, Bd.state]; rfl
  have N0 := Fr.nil n0
  have K0 : Keep h0 h0 [] := Keep.refl h0 _
  have pre0 : ∀ t, Steps p.tables e below (s₁.setTop (mkF m 0 #[.val (.int xx), .val (.int yy), .val (.int mo), .unset, .unset, .unset, .unset, .unset, .unset, .unset] [])) t → Steps p.tables e below (s₁.setTop (entryFrame m #[(.int xx), (.int yy), (.int mo)] maxLocals)) t := fun t k => castTop (ef_0 m xx yy mo) k
  obtain ⟨_, _, ⟨T1, L1, k1, n1⟩, -, X1, ⟨Lc1, hQ1, l1, y1, z1⟩, st1⟩ := Jvm.LawKit.callS X0 hx (y := (⟨"com/example/partlint/partlint/model/ApiLevelIsSdkFormPinLaw", "pick", "(II)I"⟩ : MethodName)) hown (mvT hZ (hw _ (List.mem_of_getElem? (i := 0) rfl))) (mvT hZ (hw _ (List.mem_of_getElem? (i := 1) rfl))) (mvT hZ (hw _ (List.mem_of_getElem? (i := 2) rfl))) (mvT hZ (hw _ (List.mem_of_getElem? (i := 3) rfl))) (by decide) (backOf (W := 0) (rm1 l Z a0 hw [] xx mo h0 n0 Z0 ) hZ (hw _ (List.mem_of_getElem? (i := 3) rfl)) (hw _ (List.mem_of_getElem? (i := 2) rfl)) (by decide) (by decide)) (g := (mkF m 2 #[.val (.int xx), .val (.int yy), .val (.int mo), .unset, .unset, .unset, .unset, .unset, .unset, .unset] [(.int mo), (.int xx)])) rfl (by rw [hml]; rfl) (argsL := [(.int xx), (.int mo)]) (rest := []) (lenOf pd_0 rfl) rfl (by show 2 * 0 + _ ≤ _; exact Nat.le_of_eq rfl) (hb hby at_2) (fun _ _ => ⟨rfl, e0, (by decide : 0 + 0 ≤ _), (by decide : 0 + 0 ≤ _)⟩)
  dsimp only [Pt.U, Pt.locs, Pt.cells, Pt.slots] at X1 l1 y1 z1 st1 hQ1
  subst l1 y1 z1
  obtain ⟨rfl, N1q, e1⟩ := hQ1
  have N1 := Fr.app N0 N1q
  obtain ⟨_, _, ⟨T2, L2, k2, n2⟩, -, X2, ⟨Lc2, hQ2, l2, y2, z2⟩, st2⟩ := Jvm.LawKit.callS X1 hx (y := (⟨"com/example/partlint/partlint/model/ApiLevelIsSdkFormPinLaw", "pick", "(II)I"⟩ : MethodName)) hown (mvT hZ (hw _ (List.mem_of_getElem? (i := 0) rfl))) (mvT hZ (hw _ (List.mem_of_getElem? (i := 1) rfl))) (mvT hZ (hw _ (List.mem_of_getElem? (i := 2) rfl))) (mvT hZ (hw _ (List.mem_of_getElem? (i := 3) rfl))) (by decide) (backOf (W := 0) (rm1 l Z a0 hw [] yy ((mo.toUInt32 >>> ((2 : Int32) &&& 31).toUInt32).toInt32) h0 n0 Z0 ) hZ (hw _ (List.mem_of_getElem? (i := 3) rfl)) (hw _ (List.mem_of_getElem? (i := 2) rfl)) (by decide) (by decide)) (g := (mkF m 10 #[.val (.int xx), .val (.int yy), .val (.int mo), .val (.int (r1_v xx mo)), .unset, .unset, .unset, .unset, .unset, .unset] [(.int ((mo.toUInt32 >>> ((2 : Int32) &&& 31).toUInt32).toInt32)), (.int yy)])) rfl (by rw [hml]; rfl) (argsL := [(.int yy), (.int ((mo.toUInt32 >>> ((2 : Int32) &&& 31).toUInt32).toInt32))]) (rest := []) (lenOf pd_0 rfl) rfl (by show 2 * 0 + _ ≤ _; exact Nat.le_of_eq rfl) (hb hby at_10) (fun _ _ => ⟨rfl, e1, (by decide : 0 + 0 ≤ _), (by decide : 0 + 0 ≤ _)⟩)
  dsimp only [Pt.U, Pt.locs, Pt.cells, Pt.slots] at X2 l2 y2 z2 st2 hQ2
  subst l2 y2 z2
  obtain ⟨rfl, N2q, e2⟩ := hQ2
  have N2 := Fr.app N1 N2q
  obtain ⟨T3, h3, X3, e3, E3, A3, D3, -, st3⟩ := newO X2 hx hZ hown (hw _ (List.mem_of_getElem? (i := 9) rfl)) (hw _ (List.mem_of_getElem? (i := 10) rfl)) (hw _ (List.mem_of_getElem? (i := 11) rfl)) e2 (g := (mkF m 15 #[.val (.int xx), .val (.int yy), .val (.int mo), .val (.int (r1_v xx mo)), .val (.int (r1_v yy ((mo.toUInt32 >>> ((2 : Int32) &&& 31).toUInt32).toInt32))), .unset, .unset, .unset, .unset, .unset] [])) rfl (hb hby at_15) (by decide) (by decide)
  obtain ⟨b3, g3⟩ : ∃ z, z = h0.size := ⟨_, rfl⟩
  rw [← g3] at A3 D3 st3
  have gg3 : n0 ≤ b3 := Nat.le_trans Z0 (Nat.le_of_eq g3.symm)
  have Z3 : n0 ≤ h3.size := Nat.le_trans Z0 E3.1
  have f4 : Fld Z h3 b3 "com/example/partlint/partlint/model/ApiLevel" "value" "I" (.int (0 : Int32)) := D3 (Or.inr (hw _ (List.mem_of_getElem? (i := 24) rfl))) (ty := .int) (by decide)
  obtain ⟨_, _, ⟨T5, L5, k5, n5⟩, -, X5, ⟨Lc5, hQ5, l5, y5, z5⟩, st5⟩ := X3.specialBack hx (y := (⟨"com/example/partlint/partlint/model/ApiLevel", "<init>", "(I)V"⟩ : MethodName)) rfl hown (mvT hZ (hw _ (List.mem_of_getElem? (i := 12) rfl))) (mvT hZ (hw _ (List.mem_of_getElem? (i := 13) rfl))) (mvT hZ (hw _ (List.mem_of_getElem? (i := 14) rfl))) (by decide) (backOf (W := 1) (rm3 l Z a0 hw [] b3 (r1_v xx mo) (0 : Int32) h3 n0 Z3 (own_pick xx mo) A3 f4 gg3) hZ (hw _ (List.mem_of_getElem? (i := 14) rfl)) (hw _ (List.mem_of_getElem? (i := 11) rfl)) (by decide) (by decide)) (g := (mkF m 20 #[.val (.int xx), .val (.int yy), .val (.int mo), .val (.int (r1_v xx mo)), .val (.int (r1_v yy ((mo.toUInt32 >>> ((2 : Int32) &&& 31).toUInt32).toInt32))), .unset, .unset, .unset, .unset, .unset] [(.int (r1_v xx mo)), (.ref b3), (.ref b3)])) rfl (by rw [hml]; rfl) (Steps.refl _) (a := b3) (argsL := [(.int (r1_v xx mo))]) (rest := [(.ref b3)]) (lenOf pd_2 rfl) rfl (by show 2 * 0 + _ ≤ _; exact Nat.le_of_eq rfl) (hb hby at_20) (fun _ _ => ⟨rfl, e3, (by decide : 1 + 0 ≤ _), (by decide : 1 + 0 ≤ _)⟩)
  dsimp only [Pt.U, Pt.locs, Pt.cells, Pt.slots] at X5 l5 y5 z5 st5 hQ5
  subst l5 y5 z5
  obtain ⟨rfl, N5q, K5c, f6⟩ := hQ5
  have N5 := Fr.app N2 N5q
  have f7 : Exa Z T5.heap b3 "com/example/partlint/partlint/model/ApiLevel" := A3.keep K5c
  have Z5 : n0 ≤ T5.heap.size := Nat.le_trans Z3 K5c.1
  obtain ⟨T8, h8, X8, e8, E8, A8, D8, -, st8⟩ := newO X5 hx hZ hown (hw _ (List.mem_of_getElem? (i := 9) rfl)) (hw _ (List.mem_of_getElem? (i := 10) rfl)) (hw _ (List.mem_of_getElem? (i := 11) rfl)) rfl (g := (mkF m 25 #[.val (.int xx), .val (.int yy), .val (.int mo), .val (.int (r1_v xx mo)), .val (.int (r1_v yy ((mo.toUInt32 >>> ((2 : Int32) &&& 31).toUInt32).toInt32))), .val (.ref b3), .unset, .unset, .unset, .unset] [])) rfl (hb hby at_25) (by decide) (by decide)
  obtain ⟨b8, g8⟩ : ∃ z, z = T5.heap.size := ⟨_, rfl⟩
  rw [← g8] at A8 D8 st8
  have ne9 : b3 ≠ b8 := Nat.ne_of_lt (Nat.lt_of_lt_of_le f7.lt (Nat.le_of_eq g8.symm))
  have gg8 : n0 ≤ b8 := Nat.le_trans Z5 (Nat.le_of_eq g8.symm)
  have f10 : Exa Z h8 b3 "com/example/partlint/partlint/model/ApiLevel" := f7.ext E8
  have f11 : Fld Z h8 b3 "com/example/partlint/partlint/model/ApiLevel" "value" "I" (.int (r1_v xx mo)) := f6.ext E8
  have Z8 : n0 ≤ h8.size := Nat.le_trans Z5 E8.1
  have f12 : Fld Z h8 b8 "com/example/partlint/partlint/model/ApiLevel" "value" "I" (.int (0 : Int32)) := D8 (Or.inr (hw _ (List.mem_of_getElem? (i := 24) rfl))) (ty := .int) (by decide)
  obtain ⟨_, _, ⟨T13, L13, k13, n13⟩, -, X13, ⟨Lc13, hQ13, l13, y13, z13⟩, st13⟩ := X8.specialBack hx (y := (⟨"com/example/partlint/partlint/model/ApiLevel", "<init>", "(I)V"⟩ : MethodName)) rfl hown (mvT hZ (hw _ (List.mem_of_getElem? (i := 12) rfl))) (mvT hZ (hw _ (List.mem_of_getElem? (i := 13) rfl))) (mvT hZ (hw _ (List.mem_of_getElem? (i := 14) rfl))) (by decide) (backOf (W := 1) (rm3 l Z a0 hw [] b8 (r1_v yy ((mo.toUInt32 >>> ((2 : Int32) &&& 31).toUInt32).toInt32)) (0 : Int32) h8 n0 Z8 (own_pick yy _) A8 f12 gg8) hZ (hw _ (List.mem_of_getElem? (i := 14) rfl)) (hw _ (List.mem_of_getElem? (i := 11) rfl)) (by decide) (by decide)) (g := (mkF m 31 #[.val (.int xx), .val (.int yy), .val (.int mo), .val (.int (r1_v xx mo)), .val (.int (r1_v yy ((mo.toUInt32 >>> ((2 : Int32) &&& 31).toUInt32).toInt32))), .val (.ref b3), .unset, .unset, .unset, .unset] [(.int (r1_v yy ((mo.toUInt32 >>> ((2 : Int32) &&& 31).toUInt32).toInt32))), (.ref b8), (.ref b8)])) rfl (by rw [hml]; rfl) (Steps.refl _) (a := b8) (argsL := [(.int (r1_v yy ((mo.toUInt32 >>> ((2 : Int32) &&& 31).toUInt32).toInt32)))]) (rest := [(.ref b8)]) (lenOf pd_2 rfl) rfl (by show 2 * 0 + _ ≤ _; exact Nat.le_of_eq rfl) (hb hby at_31) (fun _ _ => ⟨rfl, e8, (by decide : 2 + 0 ≤ _), (by decide : 2 + 0 ≤ _)⟩)
  dsimp only [Pt.U, Pt.locs, Pt.cells, Pt.slots] at X13 l13 y13 z13 st13 hQ13
  subst l13 y13 z13
  obtain ⟨rfl, N13q, K13c, f14⟩ := hQ13
  have N13 := Fr.app N5 N13q
  have f15 : Exa Z T13.heap b3 "com/example/partlint/partlint/model/ApiLevel" := f10.keep K13c
  have f16 : Fld Z T13.heap b3 "com/example/partlint/partlint/model/ApiLevel" "value" "I" (.int (r1_v xx mo)) := f11.keep K13c (ninS ne9 nin0)
  have f17 : Exa Z T13.heap b8 "com/example/partlint/partlint/model/ApiLevel" := A8.keep K13c
  have Z13 : n0 ≤ T13.heap.size := Nat.le_trans Z8 K13c.1
  obtain ⟨cq18, kq18, q18a, q18b, q18c⟩ := isOf hZ rfl f15
  obtain ⟨_, _, ⟨T18, L18, k18, n18⟩, -, X18, ⟨Lc18, hQ18, l18, y18, z18⟩, st18⟩ := X13.virtualBack hx (y := (⟨"com/example/partlint/partlint/model/ApiLevel", "isSdkForm", "()Z"⟩ : MethodName)) (z := (⟨"com/example/partlint/partlint/model/ApiLevel", "isSdkForm", "()Z"⟩ : MethodName)) hown (mvT hZ (hw _ (List.mem_of_getElem? (i := 25) rfl))) (mvT hZ (hw _ (List.mem_of_getElem? (i := 26) rfl))) (notFace_of_selects (args := #[]) (mvT hZ (hw _ (List.mem_of_getElem? (i := 28) rfl)))) (mvT hZ (hw _ (List.mem_of_getElem? (i := 28) rfl))) (mvT hZ (hw _ (List.mem_of_getElem? (i := 27) rfl))) (by decide) (backOf (W := 0) (rm6 l Z a0 hw [] b3 (r1_v xx mo) T13.heap n0 Z13 f16) hZ (hw _ (List.mem_of_getElem? (i := 29) rfl)) (hw _ (List.mem_of_getElem? (i := 11) rfl)) (by decide) (by decide)) q18a q18c (g := (mkF m 38 #[.val (.int xx), .val (.int yy), .val (.int mo), .val (.int (r1_v xx mo)), .val (.int (r1_v yy ((mo.toUInt32 >>> ((2 : Int32) &&& 31).toUInt32).toInt32))), .val (.ref b3), .val (.ref b8), .unset, .unset, .unset] [(.ref b3)])) rfl (by rw [hml]; rfl) (Steps.refl _) (argsL := []) (rest := []) (lenOf pd_3 rfl) rfl (by show 2 * 0 + _ ≤ _; exact Nat.le_of_eq rfl) (hb hby at_38) (fun _ _ => ⟨rfl, rfl, (by decide : 2 + 0 ≤ _), (by decide : 2 + 0 ≤ _)⟩)
  dsimp only [Pt.U, Pt.locs, Pt.cells, Pt.slots] at X18 l18 y18 z18 st18 hQ18
  subst l18 y18 z18
  obtain ⟨rfl, N18q, e18⟩ := hQ18
  have N18 := Fr.app N13 N18q
  obtain ⟨cq19, kq19, q19a, q19b, q19c⟩ := isOf hZ e18 f17
  obtain ⟨_, _, ⟨T19, L19, k19, n19⟩, -, X19, ⟨Lc19, hQ19, l19, y19, z19⟩, st19⟩ := X18.virtualBack hx (y := (⟨"com/example/partlint/partlint/model/ApiLevel", "isSdkForm", "()Z"⟩ : MethodName)) (z := (⟨"com/example/partlint/partlint/model/ApiLevel", "isSdkForm", "()Z"⟩ : MethodName)) hown (mvT hZ (hw _ (List.mem_of_getElem? (i := 25) rfl))) (mvT hZ (hw _ (List.mem_of_getElem? (i := 26) rfl))) (notFace_of_selects (args := #[]) (mvT hZ (hw _ (List.mem_of_getElem? (i := 28) rfl)))) (mvT hZ (hw _ (List.mem_of_getElem? (i := 28) rfl))) (mvT hZ (hw _ (List.mem_of_getElem? (i := 27) rfl))) (by decide) (backOf (W := 0) (rm6 l Z a0 hw [] b8 (r1_v yy ((mo.toUInt32 >>> ((2 : Int32) &&& 31).toUInt32).toInt32)) T13.heap n0 Z13 f14) hZ (hw _ (List.mem_of_getElem? (i := 29) rfl)) (hw _ (List.mem_of_getElem? (i := 11) rfl)) (by decide) (by decide)) q19a q19c (g := (mkF m 45 #[.val (.int xx), .val (.int yy), .val (.int mo), .val (.int (r1_v xx mo)), .val (.int (r1_v yy ((mo.toUInt32 >>> ((2 : Int32) &&& 31).toUInt32).toInt32))), .val (.ref b3), .val (.ref b8), .val (.int (r6_v (r1_v xx mo))), .unset, .unset] [(.ref b8)])) rfl (by rw [hml]; rfl) (Steps.refl _) (argsL := []) (rest := []) (lenOf pd_3 rfl) rfl (by show 2 * 0 + _ ≤ _; exact Nat.le_of_eq rfl) (hb hby at_45) (fun _ _ => ⟨rfl, e18, (by decide : 2 + 0 ≤ _), (by decide : 2 + 0 ≤ _)⟩)
  dsimp only [Pt.U, Pt.locs, Pt.cells, Pt.slots] at X19 l19 y19 z19 st19 hQ19
  subst l19 y19 z19
  obtain ⟨rfl, N19q, e19⟩ := hQ19
  have N19 := Fr.app N18 N19q
  have pre25 : ∀ t, Steps p.tables e below (T19.setTop (mkF m 50 #[.val (.int xx), .val (.int yy), .val (.int mo), .val (.int (r1_v xx mo)), .val (.int (r1_v yy ((mo.toUInt32 >>> ((2 : Int32) &&& 31).toUInt32).toInt32))), .val (.ref b3), .val (.ref b8), .val (.int (r6_v (r1_v xx mo))), .val (.int (r6_v (r1_v yy ((mo.toUInt32 >>> ((2 : Int32) &&& 31).toUInt32).toInt32)))), .unset] [])) t → Steps p.tables e below (s₁.setTop (entryFrame m #[(.int xx), (.int yy), (.int mo)] maxLocals)) t := by
    intro t k
    refine pre0 _ ?_
    show Steps p.tables e below (s₁.setTop (mkF m 0 #[.val (.int xx), .val (.int yy), .val (.int mo), .unset, .unset, .unset, .unset, .unset, .unset, .unset] [])) _
    refine XS.iloadN X0.here hx rfl (hb hby at_0) rfl ?_
    show Steps p.tables e below (s₁.setTop (mkF m 1 #[.val (.int xx), .val (.int yy), .val (.int mo), .unset, .unset, .unset, .unset, .unset, .unset, .unset] [(.int xx)])) _
    refine XS.iloadN X0.here hx rfl (hb hby at_1) rfl ?_
    show Steps p.tables e below (s₁.setTop (mkF m 2 #[.val (.int xx), .val (.int yy), .val (.int mo), .unset, .unset, .unset, .unset, .unset, .unset, .unset] [(.int mo), (.int xx)])) _
    refine st1 _ ?_
    show Steps p.tables e below (T1.setTop (mkF m 5 #[.val (.int xx), .val (.int yy), .val (.int mo), .unset, .unset, .unset, .unset, .unset, .unset, .unset] [(.int (r1_v xx mo))])) _
    refine XS.istoreN X1.here hx rfl (hb hby at_5) rfl (l' := #[.val (.int xx), .val (.int yy), .val (.int mo), .val (.int (r1_v xx mo)), .unset, .unset, .unset, .unset, .unset, .unset]) rfl ?_
    show Steps p.tables e below (T1.setTop (mkF m 6 #[.val (.int xx), .val (.int yy), .val (.int mo), .val (.int (r1_v xx mo)), .unset, .unset, .unset, .unset, .unset, .unset] [])) _
    refine XS.iloadN X1.here hx rfl (hb hby at_6) rfl ?_
    show Steps p.tables e below (T1.setTop (mkF m 7 #[.val (.int xx), .val (.int yy), .val (.int mo), .val (.int (r1_v xx mo)), .unset, .unset, .unset, .unset, .unset, .unset] [(.int yy)])) _
    refine XS.iloadN X1.here hx rfl (hb hby at_7) rfl ?_
    show Steps p.tables e below (T1.setTop (mkF m 8 #[.val (.int xx), .val (.int yy), .val (.int mo), .val (.int (r1_v xx mo)), .unset, .unset, .unset, .unset, .unset, .unset] [(.int mo), (.int yy)])) _
    refine XS.iconst X1.here hx rfl (hb hby at_8) ?_
    show Steps p.tables e below (T1.setTop (mkF m 9 #[.val (.int xx), .val (.int yy), .val (.int mo), .val (.int (r1_v xx mo)), .unset, .unset, .unset, .unset, .unset, .unset] [(.int (2 : Int32)), (.int mo), (.int yy)])) _
    refine XS.iushr X1.here hx rfl (hb hby at_9) rfl ?_
    show Steps p.tables e below (T1.setTop (mkF m 10 #[.val (.int xx), .val (.int yy), .val (.int mo), .val (.int (r1_v xx mo)), .unset, .unset, .unset, .unset, .unset, .unset] [(.int ((mo.toUInt32 >>> ((2 : Int32) &&& 31).toUInt32).toInt32)), (.int yy)])) _
    refine st2 _ ?_
    show Steps p.tables e below (T2.setTop (mkF m 13 #[.val (.int xx), .val (.int yy), .val (.int mo), .val (.int (r1_v xx mo)), .unset, .unset, .unset, .unset, .unset, .unset] [(.int (r1_v yy ((mo.toUInt32 >>> ((2 : Int32) &&& 31).toUInt32).toInt32)))])) _
    refine XS.istore X2.here hx rfl (hb hby at_13) rfl (l' := #[.val (.int xx), .val (.int yy), .val (.int mo), .val (.int (r1_v xx mo)), .val (.int (r1_v yy ((mo.toUInt32 >>> ((2 : Int32) &&& 31).toUInt32).toInt32))), .unset, .unset, .unset, .unset, .unset]) rfl ?_
    show Steps p.tables e below (T2.setTop (mkF m 15 #[.val (.int xx), .val (.int yy), .val (.int mo), .val (.int (r1_v xx mo)), .val (.int (r1_v yy ((mo.toUInt32 >>> ((2 : Int32) &&& 31).toUInt32).toInt32))), .unset, .unset, .unset, .unset, .unset] [])) _
    refine st3 _ ?_
    show Steps p.tables e below (T3.setTop (mkF m 18 #[.val (.int xx), .val (.int yy), .val (.int mo), .val (.int (r1_v xx mo)), .val (.int (r1_v yy ((mo.toUInt32 >>> ((2 : Int32) &&& 31).toUInt32).toInt32))), .unset, .unset, .unset, .unset, .unset] [(.ref b3)])) _
    refine XS.dup X3.here hx rfl (hb hby at_18) rfl rfl ?_
    show Steps p.tables e below (T3.setTop (mkF m 19 #[.val (.int xx), .val (.int yy), .val (.int mo), .val (.int (r1_v xx mo)), .val (.int (r1_v yy ((mo.toUInt32 >>> ((2 : Int32) &&& 31).toUInt32).toInt32))), .unset, .unset, .unset, .unset, .unset] [(.ref b3), (.ref b3)])) _
    refine XS.iloadN X3.here hx rfl (hb hby at_19) rfl ?_
    show Steps p.tables e below (T3.setTop (mkF m 20 #[.val (.int xx), .val (.int yy), .val (.int mo), .val (.int (r1_v xx mo)), .val (.int (r1_v yy ((mo.toUInt32 >>> ((2 : Int32) &&& 31).toUInt32).toInt32))), .unset, .unset, .unset, .unset, .unset] [(.int (r1_v xx mo)), (.ref b3), (.ref b3)])) _
    refine st5.trans ?_
    show Steps p.tables e below (T5.setTop (mkF m 23 #[.val (.int xx), .val (.int yy), .val (.int mo), .val (.int (r1_v xx mo)), .val (.int (r1_v yy ((mo.toUInt32 >>> ((2 : Int32) &&& 31).toUInt32).toInt32))), .unset, .unset, .unset, .unset, .unset] [(.ref b3)])) _
    refine XS.astore X5.here hx rfl (hb hby at_23) rfl rfl (l' := #[.val (.int xx), .val (.int yy), .val (.int mo), .val (.int (r1_v xx mo)), .val (.int (r1_v yy ((mo.toUInt32 >>> ((2 : Int32) &&& 31).toUInt32).toInt32))), .val (.ref b3), .unset, .unset, .unset, .unset]) rfl ?_
    show Steps p.tables e below (T5.setTop (mkF m 25 #[.val (.int xx), .val (.int yy), .val (.int mo), .val (.int (r1_v xx mo)), .val (.int (r1_v yy ((mo.toUInt32 >>> ((2 : Int32) &&& 31).toUInt32).toInt32))), .val (.ref b3), .unset, .unset, .unset, .unset] [])) _
    refine st8 _ ?_
    show Steps p.tables e below (T8.setTop (mkF m 28 #[.val (.int xx), .val (.int yy), .val (.int mo), .val (.int (r1_v xx mo)), .val (.int (r1_v yy ((mo.toUInt32 >>> ((2 : Int32) &&& 31).toUInt32).toInt32))), .val (.ref b3), .unset, .unset, .unset, .unset] [(.ref b8)])) _
    refine XS.dup X8.here hx rfl (hb hby at_28) rfl rfl ?_
    show Steps p.tables e below (T8.setTop (mkF m 29 #[.val (.int xx), .val (.int yy), .val (.int mo), .val (.int (r1_v xx mo)), .val (.int (r1_v yy ((mo.toUInt32 >>> ((2 : Int32) &&& 31).toUInt32).toInt32))), .val (.ref b3), .unset, .unset, .unset, .unset] [(.ref b8), (.ref b8)])) _
    refine XS.iload X8.here hx rfl (hb hby at_29) rfl ?_
    show Steps p.tables e below (T8.setTop (mkF m 31 #[.val (.int xx), .val (.int yy), .val (.int mo), .val (.int (r1_v xx mo)), .val (.int (r1_v yy ((mo.toUInt32 >>> ((2 : Int32) &&& 31).toUInt32).toInt32))), .val (.ref b3), .unset, .unset, .unset, .unset] [(.int (r1_v yy ((mo.toUInt32 >>> ((2 : Int32) &&& 31).toUInt32).toInt32))), (.ref b8), (.ref b8)])) _
    refine st13.trans ?_
    show Steps p.tables e below (T13.setTop (mkF m 34 #[.val (.int xx), .val (.int yy), .val (.int mo), .val (.int (r1_v xx mo)), .val (.int (r1_v yy ((mo.toUInt32 >>> ((2 : Int32) &&& 31).toUInt32).toInt32))), .val (.ref b3), .unset, .unset, .unset, .unset] [(.ref b8)])) _
    refine XS.astore X13.here hx rfl (hb hby at_34) rfl rfl (l' := #[.val (.int xx), .val (.int yy), .val (.int mo), .val (.int (r1_v xx mo)), .val (.int (r1_v yy ((mo.toUInt32 >>> ((2 : Int32) &&& 31).toUInt32).toInt32))), .val (.ref b3), .val (.ref b8), .unset, .unset, .unset]) rfl ?_
    show Steps p.tables e below (T13.setTop (mkF m 36 #[.val (.int xx), .val (.int yy), .val (.int mo), .val (.int (r1_v xx mo)), .val (.int (r1_v yy ((mo.toUInt32 >>> ((2 : Int32) &&& 31).toUInt32).toInt32))), .val (.ref b3), .val (.ref b8), .unset, .unset, .unset] [])) _
    refine XS.aload X13.here hx rfl (hb hby at_36) rfl rfl ?_
    show Steps p.tables e below (T13.setTop (mkF m 38 #[.val (.int xx), .val (.int yy), .val (.int mo), .val (.int (r1_v xx mo)), .val (.int (r1_v yy ((mo.toUInt32 >>> ((2 : Int32) &&& 31).toUInt32).toInt32))), .val (.ref b3), .val (.ref b8), .unset, .unset, .unset] [(.ref b3)])) _
    refine st18.trans ?_
    show Steps p.tables e below (T18.setTop (mkF m 41 #[.val (.int xx), .val (.int yy), .val (.int mo), .val (.int (r1_v xx mo)), .val (.int (r1_v yy ((mo.toUInt32 >>> ((2 : Int32) &&& 31).toUInt32).toInt32))), .val (.ref b3), .val (.ref b8), .unset, .unset, .unset] [(.int (r6_v (r1_v xx mo)))])) _
    refine XS.istore X18.here hx rfl (hb hby at_41) rfl (l' := #[.val (.int xx), .val (.int yy), .val (.int mo), .val (.int (r1_v xx mo)), .val (.int (r1_v yy ((mo.toUInt32 >>> ((2 : Int32) &&& 31).toUInt32).toInt32))), .val (.ref b3), .val (.ref b8), .val (.int (r6_v (r1_v xx mo))), .unset, .unset]) rfl ?_
    show Steps p.tables e below (T18.setTop (mkF m 43 #[.val (.int xx), .val (.int yy), .val (.int mo), .val (.int (r1_v xx mo)), .val (.int (r1_v yy ((mo.toUInt32 >>> ((2 : Int32) &&& 31).toUInt32).toInt32))), .val (.ref b3), .val (.ref b8), .val (.int (r6_v (r1_v xx mo))), .unset, .unset] [])) _
    refine XS.aload X18.here hx rfl (hb hby at_43) rfl rfl ?_
    show Steps p.tables e below (T18.setTop (mkF m 45 #[.val (.int xx), .val (.int yy), .val (.int mo), .val (.int (r1_v xx mo)), .val (.int (r1_v yy ((mo.toUInt32 >>> ((2 : Int32) &&& 31).toUInt32).toInt32))), .val (.ref b3), .val (.ref b8), .val (.int (r6_v (r1_v xx mo))), .unset, .unset] [(.ref b8)])) _
    refine st19.trans ?_
    show Steps p.tables e below (T19.setTop (mkF m 48 #[.val (.int xx), .val (.int yy), .val (.int mo), .val (.int (r1_v xx mo)), .val (.int (r1_v yy ((mo.toUInt32 >>> ((2 : Int32) &&& 31).toUInt32).toInt32))), .val (.ref b3), .val (.ref b8), .val (.int (r6_v (r1_v xx mo))), .unset, .unset] [(.int (r6_v (r1_v yy ((mo.toUInt32 >>> ((2 : Int32) &&& 31).toUInt32).toInt32))))])) _
    refine XS.istore X19.here hx rfl (hb hby at_48) rfl (l' := #[.val (.int xx), .val (.int yy), .val (.int mo), .val (.int (r1_v xx mo)), .val (.int (r1_v yy ((mo.toUInt32 >>> ((2 : Int32) &&& 31).toUInt32).toInt32))), .val (.ref b3), .val (.ref b8), .val (.int (r6_v (r1_v xx mo))), .val (.int (r6_v (r1_v yy ((mo.toUInt32 >>> ((2 : Int32) &&& 31).toUInt32).toInt32)))), .unset]) rfl ?_
    exact k
  have pre26 : ∀ t, Steps p.tables e below (T19.setTop (mkF m 68 #[.val (.int xx), .val (.int yy), .val (.int mo), .val (.int (r1_v xx mo)), .val (.int (r1_v yy ((mo.toUInt32 >>> ((2 : Int32) &&& 31).toUInt32).toInt32))), .val (.ref b3), .val (.ref b8), .val (.int (r6_v (r1_v xx mo))), .val (.int (r6_v (r1_v yy ((mo.toUInt32 >>> ((2 : Int32) &&& 31).toUInt32).toInt32)))), .val (.int (j0_50_l9 xx mo))] [])) t → Steps p.tables e below (s₁.setTop (entryFrame m #[(.int xx), (.int yy), (.int mo)] maxLocals)) t := by
    intro t k
    refine pre25 _ ?_
    show Steps p.tables e below (T19.setTop (mkF m 50 #[.val (.int xx), .val (.int yy), .val (.int mo), .val (.int (r1_v xx mo)), .val (.int (r1_v yy ((mo.toUInt32 >>> ((2 : Int32) &&& 31).toUInt32).toInt32))), .val (.ref b3), .val (.ref b8), .val (.int (r6_v (r1_v xx mo))), .val (.int (r6_v (r1_v yy ((mo.toUInt32 >>> ((2 : Int32) &&& 31).toUInt32).toInt32)))), .unset] [])) _
    refine XS.iloadN X19.here hx rfl (hb hby at_50) rfl ?_
    show Steps p.tables e below (T19.setTop (mkF m 51 #[.val (.int xx), .val (.int yy), .val (.int mo), .val (.int (r1_v xx mo)), .val (.int (r1_v yy ((mo.toUInt32 >>> ((2 : Int32) &&& 31).toUInt32).toInt32))), .val (.ref b3), .val (.ref b8), .val (.int (r6_v (r1_v xx mo))), .val (.int (r6_v (r1_v yy ((mo.toUInt32 >>> ((2 : Int32) &&& 31).toUInt32).toInt32)))), .unset] [(.int (r1_v xx mo))])) _
    refine XS.iconst X19.here hx rfl (hb hby at_51) ?_
    by_cases hk20 : (r1_v xx mo) < (1 : Int32)
    · show Steps p.tables e below (T19.setTop (mkF m 52 #[.val (.int xx), .val (.int yy), .val (.int mo), .val (.int (r1_v xx mo)), .val (.int (r1_v yy ((mo.toUInt32 >>> ((2 : Int32) &&& 31).toUInt32).toInt32))), .val (.ref b3), .val (.ref b8), .val (.int (r6_v (r1_v xx mo))), .val (.int (r6_v (r1_v yy ((mo.toUInt32 >>> ((2 : Int32) &&& 31).toUInt32).toInt32)))), .unset] [(.int (1 : Int32)), (.int (r1_v xx mo))])) _
      refine XS.icmpYes X19.here hx rfl (pc0 := 52) (pc' := 65) rfl (hb hby at_52) rfl (tlt hk20).1 (by decide) (by decide) ?_
      show Steps p.tables e below (T19.setTop (mkF m 65 #[.val (.int xx), .val (.int yy), .val (.int mo), .val (.int (r1_v xx mo)), .val (.int (r1_v yy ((mo.toUInt32 >>> ((2 : Int32) &&& 31).toUInt32).toInt32))), .val (.ref b3), .val (.ref b8), .val (.int (r6_v (r1_v xx mo))), .val (.int (r6_v (r1_v yy ((mo.toUInt32 >>> ((2 : Int32) &&& 31).toUInt32).toInt32)))), .unset] [])) _
      refine XS.iconst X19.here hx rfl (hb hby at_65) ?_
      show Steps p.tables e below (T19.setTop (mkF m 66 #[.val (.int xx), .val (.int yy), .val (.int mo), .val (.int (r1_v xx mo)), .val (.int (r1_v yy ((mo.toUInt32 >>> ((2 : Int32) &&& 31).toUInt32).toInt32))), .val (.ref b3), .val (.ref b8), .val (.int (r6_v (r1_v xx mo))), .val (.int (r6_v (r1_v yy ((mo.toUInt32 >>> ((2 : Int32) &&& 31).toUInt32).toInt32)))), .unset] [(.int (0 : Int32))])) _
      refine XS.istore X19.here hx rfl (hb hby at_66) rfl (l' := #[.val (.int xx), .val (.int yy), .val (.int mo), .val (.int (r1_v xx mo)), .val (.int (r1_v yy ((mo.toUInt32 >>> ((2 : Int32) &&& 31).toUInt32).toInt32))), .val (.ref b3), .val (.ref b8), .val (.int (r6_v (r1_v xx mo))), .val (.int (r6_v (r1_v yy ((mo.toUInt32 >>> ((2 : Int32) &&& 31).toUInt32).toInt32)))), .val (.int (0 : Int32))]) rfl ?_
      have ev22 : (j0_50_l9 xx mo) = (0 : Int32) := by unfold j0_50_l9; rw [if_pos hk20]
      rw [ev22] at k
      exact k
    · show Steps p.tables e below (T19.setTop (mkF m 52 #[.val (.int xx), .val (.int yy), .val (.int mo), .val (.int (r1_v xx mo)), .val (.int (r1_v yy ((mo.toUInt32 >>> ((2 : Int32) &&& 31).toUInt32).toInt32))), .val (.ref b3), .val (.ref b8), .val (.int (r6_v (r1_v xx mo))), .val (.int (r6_v (r1_v yy ((mo.toUInt32 >>> ((2 : Int32) &&& 31).toUInt32).toInt32)))), .unset] [(.int (1 : Int32)), (.int (r1_v xx mo))])) _
      refine XS.icmpNo X19.here hx rfl (hb hby at_52) rfl (flt hk20).1 ?_
      show Steps p.tables e below (T19.setTop (mkF m 55 #[.val (.int xx), .val (.int yy), .val (.int mo), .val (.int (r1_v xx mo)), .val (.int (r1_v yy ((mo.toUInt32 >>> ((2 : Int32) &&& 31).toUInt32).toInt32))), .val (.ref b3), .val (.ref b8), .val (.int (r6_v (r1_v xx mo))), .val (.int (r6_v (r1_v yy ((mo.toUInt32 >>> ((2 : Int32) &&& 31).toUInt32).toInt32)))), .unset] [])) _
      refine XS.iloadN X19.here hx rfl (hb hby at_55) rfl ?_
      show Steps p.tables e below (T19.setTop (mkF m 56 #[.val (.int xx), .val (.int yy), .val (.int mo), .val (.int (r1_v xx mo)), .val (.int (r1_v yy ((mo.toUInt32 >>> ((2 : Int32) &&& 31).toUInt32).toInt32))), .val (.ref b3), .val (.ref b8), .val (.int (r6_v (r1_v xx mo))), .val (.int (r6_v (r1_v yy ((mo.toUInt32 >>> ((2 : Int32) &&& 31).toUInt32).toInt32)))), .unset] [(.int (r1_v xx mo))])) _
      refine XS.bipush X19.here hx rfl (hb hby at_56) ?_
      by_cases hk21 : (34 : Int32) < (r1_v xx mo)
      · show Steps p.tables e below (T19.setTop (mkF m 58 #[.val (.int xx), .val (.int yy), .val (.int mo), .val (.int (r1_v xx mo)), .val (.int (r1_v yy ((mo.toUInt32 >>> ((2 : Int32) &&& 31).toUInt32).toInt32))), .val (.ref b3), .val (.ref b8), .val (.int (r6_v (r1_v xx mo))), .val (.int (r6_v (r1_v yy ((mo.toUInt32 >>> ((2 : Int32) &&& 31).toUInt32).toInt32)))), .unset] [(.int (34 : Int32)), (.int (r1_v xx mo))])) _
        refine XS.icmpYes X19.here hx rfl (pc0 := 58) (pc' := 65) rfl (hb hby at_58) rfl (tlt hk21).2.2.1 (by decide) (by decide) ?_
        show Steps p.tables e below (T19.setTop (mkF m 65 #[.val (.int xx), .val (.int yy), .val (.int mo), .val (.int (r1_v xx mo)), .val (.int (r1_v yy ((mo.toUInt32 >>> ((2 : Int32) &&& 31).toUInt32).toInt32))), .val (.ref b3), .val (.ref b8), .val (.int (r6_v (r1_v xx mo))), .val (.int (r6_v (r1_v yy ((mo.toUInt32 >>> ((2 : Int32) &&& 31).toUInt32).toInt32)))), .unset] [])) _
        refine XS.iconst X19.here hx rfl (hb hby at_65) ?_
        show Steps p.tables e below (T19.setTop (mkF m 66 #[.val (.int xx), .val (.int yy), .val (.int mo), .val (.int (r1_v xx mo)), .val (.int (r1_v yy ((mo.toUInt32 >>> ((2 : Int32) &&& 31).toUInt32).toInt32))), .val (.ref b3), .val (.ref b8), .val (.int (r6_v (r1_v xx mo))), .val (.int (r6_v (r1_v yy ((mo.toUInt32 >>> ((2 : Int32) &&& 31).toUInt32).toInt32)))), .unset] [(.int (0 : Int32))])) _
        refine XS.istore X19.here hx rfl (hb hby at_66) rfl (l' := #[.val (.int xx), .val (.int yy), .val (.int mo), .val (.int (r1_v xx mo)), .val (.int (r1_v yy ((mo.toUInt32 >>> ((2 : Int32) &&& 31).toUInt32).toInt32))), .val (.ref b3), .val (.ref b8), .val (.int (r6_v (r1_v xx mo))), .val (.int (r6_v (r1_v yy ((mo.toUInt32 >>> ((2 : Int32) &&& 31).toUInt32).toInt32)))), .val (.int (0 : Int32))]) rfl ?_
        have ev23 : (j0_50_l9 xx mo) = (0 : Int32) := by unfold j0_50_l9; rw [if_neg hk20, if_pos hk21]
        rw [ev23] at k
        exact k
      · show Steps p.tables e below (T19.setTop (mkF m 58 #[.val (.int xx), .val (.int yy), .val (.int mo), .val (.int (r1_v xx mo)), .val (.int (r1_v yy ((mo.toUInt32 >>> ((2 : Int32) &&& 31).toUInt32).toInt32))), .val (.ref b3), .val (.ref b8), .val (.int (r6_v (r1_v xx mo))), .val (.int (r6_v (r1_v yy ((mo.toUInt32 >>> ((2 : Int32) &&& 31).toUInt32).toInt32)))), .unset] [(.int (34 : Int32)), (.int (r1_v xx mo))])) _
        refine XS.icmpNo X19.here hx rfl (hb hby at_58) rfl (flt hk21).2.2.1 ?_
        show Steps p.tables e below (T19.setTop (mkF m 61 #[.val (.int xx), .val (.int yy), .val (.int mo), .val (.int (r1_v xx mo)), .val (.int (r1_v yy ((mo.toUInt32 >>> ((2 : Int32) &&& 31).toUInt32).toInt32))), .val (.ref b3), .val (.ref b8), .val (.int (r6_v (r1_v xx mo))), .val (.int (r6_v (r1_v yy ((mo.toUInt32 >>> ((2 : Int32) &&& 31).toUInt32).toInt32)))), .unset] [])) _
        refine XS.iconst X19.here hx rfl (hb hby at_61) ?_
        show Steps p.tables e below (T19.setTop (mkF m 62 #[.val (.int xx), .val (.int yy), .val (.int mo), .val (.int (r1_v xx mo)), .val (.int (r1_v yy ((mo.toUInt32 >>> ((2 : Int32) &&& 31).toUInt32).toInt32))), .val (.ref b3), .val (.ref b8), .val (.int (r6_v (r1_v xx mo))), .val (.int (r6_v (r1_v yy ((mo.toUInt32 >>> ((2 : Int32) &&& 31).toUInt32).toInt32)))), .unset] [(.int (1 : Int32))])) _
        refine XS.goto X19.here hx rfl (pc0 := 62) (pc' := 66) rfl (hb hby at_62) (by decide) (by decide) ?_
        show Steps p.tables e below (T19.setTop (mkF m 66 #[.val (.int xx), .val (.int yy), .val (.int mo), .val (.int (r1_v xx mo)), .val (.int (r1_v yy ((mo.toUInt32 >>> ((2 : Int32) &&& 31).toUInt32).toInt32))), .val (.ref b3), .val (.ref b8), .val (.int (r6_v (r1_v xx mo))), .val (.int (r6_v (r1_v yy ((mo.toUInt32 >>> ((2 : Int32) &&& 31).toUInt32).toInt32)))), .unset] [(.int (1 : Int32))])) _
        refine XS.istore X19.here hx rfl (hb hby at_66) rfl (l' := #[.val (.int xx), .val (.int yy), .val (.int mo), .val (.int (r1_v xx mo)), .val (.int (r1_v yy ((mo.toUInt32 >>> ((2 : Int32) &&& 31).toUInt32).toInt32))), .val (.ref b3), .val (.ref b8), .val (.int (r6_v (r1_v xx mo))), .val (.int (r6_v (r1_v yy ((mo.toUInt32 >>> ((2 : Int32) &&& 31).toUInt32).toInt32)))), .val (.int (1 : Int32))]) rfl ?_
        have ev24 : (j0_50_l9 xx mo) = (1 : Int32) := by unfold j0_50_l9; rw [if_neg hk20, if_neg hk21]
        rw [ev24] at k
        exact k
  have pre27 : ∀ t, Steps p.tables e below (T19.setTop (mkF m 72 #[.val (.int xx), .val (.int yy), .val (.int mo), .val (.int (r1_v xx mo)), .val (.int (r1_v yy ((mo.toUInt32 >>> ((2 : Int32) &&& 31).toUInt32).toInt32))), .val (.ref b3), .val (.ref b8), .val (.int (r6_v (r1_v xx mo))), .val (.int (r6_v (r1_v yy ((mo.toUInt32 >>> ((2 : Int32) &&& 31).toUInt32).toInt32)))), .val (.int (j0_50_l9 xx mo))] [(.int (j0_50_l9 xx mo)), (.int (r6_v (r1_v xx mo)))])) t → Steps p.tables e below (s₁.setTop (entryFrame m #[(.int xx), (.int yy), (.int mo)] maxLocals)) t := by
    intro t k
    refine pre26 _ ?_
    show Steps p.tables e below (T19.setTop (mkF m 68 #[.val (.int xx), .val (.int yy), .val (.int mo), .val (.int (r1_v xx mo)), .val (.int (r1_v yy ((mo.toUInt32 >>> ((2 : Int32) &&& 31).toUInt32).toInt32))), .val (.ref b3), .val (.ref b8), .val (.int (r6_v (r1_v xx mo))), .val (.int (r6_v (r1_v yy ((mo.toUInt32 >>> ((2 : Int32) &&& 31).toUInt32).toInt32)))), .val (.int (j0_50_l9 xx mo))] [])) _
    refine XS.iload X19.here hx rfl (hb hby at_68) rfl ?_
    show Steps p.tables e below (T19.setTop (mkF m 70 #[.val (.int xx), .val (.int yy), .val (.int mo), .val (.int (r1_v xx mo)), .val (.int (r1_v yy ((mo.toUInt32 >>> ((2 : Int32) &&& 31).toUInt32).toInt32))), .val (.ref b3), .val (.ref b8), .val (.int (r6_v (r1_v xx mo))), .val (.int (r6_v (r1_v yy ((mo.toUInt32 >>> ((2 : Int32) &&& 31).toUInt32).toInt32)))), .val (.int (j0_50_l9 xx mo))] [(.int (r6_v (r1_v xx mo)))])) _
    refine XS.iload X19.here hx rfl (hb hby at_70) rfl ?_
    exact k
  by_cases hk28 : (r6_v (r1_v xx mo)) = (j0_50_l9 xx mo)
  · have pre29 : ∀ t, Steps p.tables e below (T19.setTop (mkF m 79 #[.val (.int xx), .val (.int yy), .val (.int mo), .val (.int (r1_v xx mo)), .val (.int (r1_v yy ((mo.toUInt32 >>> ((2 : Int32) &&& 31).toUInt32).toInt32))), .val (.ref b3), .val (.ref b8), .val (.int (r6_v (r1_v xx mo))), .val (.int (r6_v (r1_v yy ((mo.toUInt32 >>> ((2 : Int32) &&& 31).toUInt32).toInt32)))), .val (.int (j0_50_l9 xx mo))] [(.int (r6_v (r1_v xx mo)))])) t → Steps p.tables e below (s₁.setTop (entryFrame m #[(.int xx), (.int yy), (.int mo)] maxLocals)) t := by
      intro t k
      refine pre27 _ ?_
      show Steps p.tables e below (T19.setTop (mkF m 72 #[.val (.int xx), .val (.int yy), .val (.int mo), .val (.int (r1_v xx mo)), .val (.int (r1_v yy ((mo.toUInt32 >>> ((2 : Int32) &&& 31).toUInt32).toInt32))), .val (.ref b3), .val (.ref b8), .val (.int (r6_v (r1_v xx mo))), .val (.int (r6_v (r1_v yy ((mo.toUInt32 >>> ((2 : Int32) &&& 31).toUInt32).toInt32)))), .val (.int (j0_50_l9 xx mo))] [(.int (j0_50_l9 xx mo)), (.int (r6_v (r1_v xx mo)))])) _
      refine XS.icmpYes X19.here hx rfl (pc0 := 72) (pc' := 77) rfl (hb hby at_72) rfl (teq hk28).1 (by decide) (by decide) ?_
      show Steps p.tables e below (T19.setTop (mkF m 77 #[.val (.int xx), .val (.int yy), .val (.int mo), .val (.int (r1_v xx mo)), .val (.int (r1_v yy ((mo.toUInt32 >>> ((2 : Int32) &&& 31).toUInt32).toInt32))), .val (.ref b3), .val (.ref b8), .val (.int (r6_v (r1_v xx mo))), .val (.int (r6_v (r1_v yy ((mo.toUInt32 >>> ((2 : Int32) &&& 31).toUInt32).toInt32)))), .val (.int (j0_50_l9 xx mo))] [])) _
      refine XS.iload X19.here hx rfl (hb hby at_77) rfl ?_
      exact k
    by_cases hk30 : (r6_v (r1_v xx mo)) = (0 : Int32)
    · obtain ⟨cq31, kq31, q31a, q31b, q31c⟩ := isOf hZ e19 f15
      obtain ⟨_, _, ⟨T31, L31, k31, n31⟩, -, X31, ⟨Lc31, hQ31, l31, y31, z31⟩, st31⟩ := X19.virtualBack hx (y := (⟨"com/example/partlint/partlint/model/ApiLevel", "compareTo", "(Lcom/example/partlint/partlint/model/ApiLevel;)I"⟩ : MethodName)) (z := (⟨"com/example/partlint/partlint/model/ApiLevel", "compareTo", "(Lcom/example/partlint/partlint/model/ApiLevel;)I"⟩ : MethodName)) hown (mvT hZ (hw _ (List.mem_of_getElem? (i := 36) rfl))) (mvT hZ (hw _ (List.mem_of_getElem? (i := 37) rfl))) (notFace_of_selects (args := #[]) (mvT hZ (hw _ (List.mem_of_getElem? (i := 39) rfl)))) (mvT hZ (hw _ (List.mem_of_getElem? (i := 39) rfl))) (mvT hZ (hw _ (List.mem_of_getElem? (i := 38) rfl))) (by decide) (backOf (W := 0) (rm8 l Z a0 hw [] b3 b8 (r1_v xx mo) (r1_v yy ((mo.toUInt32 >>> ((2 : Int32) &&& 31).toUInt32).toInt32)) T13.heap n0 Z13 f16 f14) hZ (hw _ (List.mem_of_getElem? (i := 40) rfl)) (hw _ (List.mem_of_getElem? (i := 11) rfl)) (by decide) (by decide)) q31a q31c (g := (mkF m 96 #[.val (.int xx), .val (.int yy), .val (.int mo), .val (.int (r1_v xx mo)), .val (.int (r1_v yy ((mo.toUInt32 >>> ((2 : Int32) &&& 31).toUInt32).toInt32))), .val (.ref b3), .val (.ref b8), .val (.int (r6_v (r1_v xx mo))), .val (.int (r6_v (r1_v yy ((mo.toUInt32 >>> ((2 : Int32) &&& 31).toUInt32).toInt32)))), .val (.int (j0_50_l9 xx mo))] [(.ref b8), (.ref b3)])) rfl (by rw [hml]; rfl) (Steps.refl _) (argsL := [(.ref b8)]) (rest := []) (lenOf pd_4 rfl) rfl (by show 2 * 0 + _ ≤ _; exact Nat.le_of_eq rfl) (hb hby at_96) (fun _ _ => ⟨rfl, e19, (by decide : 2 + 0 ≤ _), (by decide : 2 + 0 ≤ _)⟩)
      dsimp only [Pt.U, Pt.locs, Pt.cells, Pt.slots] at X31 l31 y31 z31 st31 hQ31
      subst l31 y31 z31
      obtain ⟨rfl, N31q, e31⟩ := hQ31
      have N31 := Fr.app N19 N31q
      have pre32 : ∀ t, Steps p.tables e below (T31.setTop (mkF m 99 #[.val (.int xx), .val (.int yy), .val (.int mo), .val (.int (r1_v xx mo)), .val (.int (r1_v yy ((mo.toUInt32 >>> ((2 : Int32) &&& 31).toUInt32).toInt32))), .val (.ref b3), .val (.ref b8), .val (.int (r6_v (r1_v xx mo))), .val (.int (r6_v (r1_v yy ((mo.toUInt32 >>> ((2 : Int32) &&& 31).toUInt32).toInt32)))), .val (.int (j0_50_l9 xx mo))] [(.int (r9_v (r1_v xx mo) (r1_v yy ((mo.toUInt32 >>> ((2 : Int32) &&& 31).toUInt32).toInt32))))])) t → Steps p.tables e below (s₁.setTop (entryFrame m #[(.int xx), (.int yy), (.int mo)] maxLocals)) t := by
        intro t k
        refine pre29 _ ?_
        show Steps p.tables e below (T19.setTop (mkF m 79 #[.val (.int xx), .val (.int yy), .val (.int mo), .val (.int (r1_v xx mo)), .val (.int (r1_v yy ((mo.toUInt32 >>> ((2 : Int32) &&& 31).toUInt32).toInt32))), .val (.ref b3), .val (.ref b8), .val (.int (r6_v (r1_v xx mo))), .val (.int (r6_v (r1_v yy ((mo.toUInt32 >>> ((2 : Int32) &&& 31).toUInt32).toInt32)))), .val (.int (j0_50_l9 xx mo))] [(.int (r6_v (r1_v xx mo)))])) _
        refine XS.ifYes X19.here hx rfl (pc0 := 79) (pc' := 92) rfl (hb hby at_79) rfl ((if0 _ _).trans (teq hk30).1) (by decide) (by decide) ?_
        show Steps p.tables e below (T19.setTop (mkF m 92 #[.val (.int xx), .val (.int yy), .val (.int mo), .val (.int (r1_v xx mo)), .val (.int (r1_v yy ((mo.toUInt32 >>> ((2 : Int32) &&& 31).toUInt32).toInt32))), .val (.ref b3), .val (.ref b8), .val (.int (r6_v (r1_v xx mo))), .val (.int (r6_v (r1_v yy ((mo.toUInt32 >>> ((2 : Int32) &&& 31).toUInt32).toInt32)))), .val (.int (j0_50_l9 xx mo))] [])) _
        refine XS.aload X19.here hx rfl (hb hby at_92) rfl rfl ?_
        show Steps p.tables e below (T19.setTop (mkF m 94 #[.val (.int xx), .val (.int yy), .val (.int mo), .val (.int (r1_v xx mo)), .val (.int (r1_v yy ((mo.toUInt32 >>> ((2 : Int32) &&& 31).toUInt32).toInt32))), .val (.ref b3), .val (.ref b8), .val (.int (r6_v (r1_v xx mo))), .val (.int (r6_v (r1_v yy ((mo.toUInt32 >>> ((2 : Int32) &&& 31).toUInt32).toInt32)))), .val (.int (j0_50_l9 xx mo))] [(.ref b3)])) _
        refine XS.aload X19.here hx rfl (hb hby at_94) rfl rfl ?_
        show Steps p.tables e below (T19.setTop (mkF m 96 #[.val (.int xx), .val (.int yy), .val (.int mo), .val (.int (r1_v xx mo)), .val (.int (r1_v yy ((mo.toUInt32 >>> ((2 : Int32) &&& 31).toUInt32).toInt32))), .val (.ref b3), .val (.ref b8), .val (.int (r6_v (r1_v xx mo))), .val (.int (r6_v (r1_v yy ((mo.toUInt32 >>> ((2 : Int32) &&& 31).toUInt32).toInt32)))), .val (.int (j0_50_l9 xx mo))] [(.ref b8), (.ref b3)])) _
        refine st31.trans ?_
        exact k
      by_cases hk33 : (0 : Int32) < (r9_v (r1_v xx mo) (r1_v yy ((mo.toUInt32 >>> ((2 : Int32) &&& 31).toUInt32).toInt32)))
      · obtain ⟨fs, hr, hrun, hended, hW, hsame⟩ := X31.leave (v := some (.int (1 : Int32))) (fun h => by rw [Bd.returns] at h; cases h)
        refine ⟨_, _, pre32 _ ?_, hrun, hended, _, _, rfl, ?_, ⟨_, rfl⟩, hW, hsame.mono (by decide) (by decide)⟩
        · show Steps p.tables e below (T31.setTop (mkF m 99 #[.val (.int xx), .val (.int yy), .val (.int mo), .val (.int (r1_v xx mo)), .val (.int (r1_v yy ((mo.toUInt32 >>> ((2 : Int32) &&& 31).toUInt32).toInt32))), .val (.ref b3), .val (.ref b8), .val (.int (r6_v (r1_v xx mo))), .val (.int (r6_v (r1_v yy ((mo.toUInt32 >>> ((2 : Int32) &&& 31).toUInt32).toInt32)))), .val (.int (j0_50_l9 xx mo))] [(.int (r9_v (r1_v xx mo) (r1_v yy ((mo.toUInt32 >>> ((2 : Int32) &&& 31).toUInt32).toInt32))))])) _
          refine XS.ifYes X31.here hx rfl (pc0 := 99) (pc' := 114) rfl (hb hby at_99) rfl ((if0 _ _).trans (tlt hk33).2.2.1) (by decide) (by decide) ?_
          show Steps p.tables e below (T31.setTop (mkF m 114 #[.val (.int xx), .val (.int yy), .val (.int mo), .val (.int (r1_v xx mo)), .val (.int (r1_v yy ((mo.toUInt32 >>> ((2 : Int32) &&& 31).toUInt32).toInt32))), .val (.ref b3), .val (.ref b8), .val (.int (r6_v (r1_v xx mo))), .val (.int (r6_v (r1_v yy ((mo.toUInt32 >>> ((2 : Int32) &&& 31).toUInt32).toInt32)))), .val (.int (j0_50_l9 xx mo))] [])) _
          refine XS.iload X31.here hx rfl (hb hby at_114) rfl ?_
          show Steps p.tables e below (T31.setTop (mkF m 116 #[.val (.int xx), .val (.int yy), .val (.int mo), .val (.int (r1_v xx mo)), .val (.int (r1_v yy ((mo.toUInt32 >>> ((2 : Int32) &&& 31).toUInt32).toInt32))), .val (.ref b3), .val (.ref b8), .val (.int (r6_v (r1_v xx mo))), .val (.int (r6_v (r1_v yy ((mo.toUInt32 >>> ((2 : Int32) &&& 31).toUInt32).toInt32)))), .val (.int (j0_50_l9 xx mo))] [(.int (r6_v (r1_v xx mo)))])) _
          refine XS.ifYes X31.here hx rfl (pc0 := 116) (pc' := 136) rfl (hb hby at_116) rfl ((if0 _ _).trans (teq hk30).1) (by decide) (by decide) ?_
          show Steps p.tables e below (T31.setTop (mkF m 136 #[.val (.int xx), .val (.int yy), .val (.int mo), .val (.int (r1_v xx mo)), .val (.int (r1_v yy ((mo.toUInt32 >>> ((2 : Int32) &&& 31).toUInt32).toInt32))), .val (.ref b3), .val (.ref b8), .val (.int (r6_v (r1_v xx mo))), .val (.int (r6_v (r1_v yy ((mo.toUInt32 >>> ((2 : Int32) &&& 31).toUInt32).toInt32)))), .val (.int (j0_50_l9 xx mo))] [])) _
          refine XS.iconst X31.here hx rfl (hb hby at_136) ?_
          show Steps p.tables e below (T31.setTop (mkF m 137 #[.val (.int xx), .val (.int yy), .val (.int mo), .val (.int (r1_v xx mo)), .val (.int (r1_v yy ((mo.toUInt32 >>> ((2 : Int32) &&& 31).toUInt32).toInt32))), .val (.ref b3), .val (.ref b8), .val (.int (r6_v (r1_v xx mo))), .val (.int (r6_v (r1_v yy ((mo.toUInt32 >>> ((2 : Int32) &&& 31).toUInt32).toInt32)))), .val (.int (j0_50_l9 xx mo))] [(.int (1 : Int32))])) _
          exact retN X31 hx (t := .boolean) Bd.returns (by simp) (hb hby at_137) hr
        · show Q0 Z xx yy mo h0 n0 _ T31.heap _
          rw [e31]
          exact ⟨rfl, N31⟩
      · have pre34 : ∀ t, Steps p.tables e below (T31.setTop (mkF m 104 #[.val (.int xx), .val (.int yy), .val (.int mo), .val (.int (r1_v xx mo)), .val (.int (r1_v yy ((mo.toUInt32 >>> ((2 : Int32) &&& 31).toUInt32).toInt32))), .val (.ref b3), .val (.ref b8), .val (.int (r6_v (r1_v xx mo))), .val (.int (r6_v (r1_v yy ((mo.toUInt32 >>> ((2 : Int32) &&& 31).toUInt32).toInt32)))), .val (.int (j0_50_l9 xx mo))] [(.int (r6_v (r1_v yy ((mo.toUInt32 >>> ((2 : Int32) &&& 31).toUInt32).toInt32))))])) t → Steps p.tables e below (s₁.setTop (entryFrame m #[(.int xx), (.int yy), (.int mo)] maxLocals)) t := by
          intro t k
          refine pre32 _ ?_
          show Steps p.tables e below (T31.setTop (mkF m 99 #[.val (.int xx), .val (.int yy), .val (.int mo), .val (.int (r1_v xx mo)), .val (.int (r1_v yy ((mo.toUInt32 >>> ((2 : Int32) &&& 31).toUInt32).toInt32))), .val (.ref b3), .val (.ref b8), .val (.int (r6_v (r1_v xx mo))), .val (.int (r6_v (r1_v yy ((mo.toUInt32 >>> ((2 : Int32) &&& 31).toUInt32).toInt32)))), .val (.int (j0_50_l9 xx mo))] [(.int (r9_v (r1_v xx mo) (r1_v yy ((mo.toUInt32 >>> ((2 : Int32) &&& 31).toUInt32).toInt32))))])) _
          refine XS.ifNo X31.here hx rfl (hb hby at_99) rfl ((if0 _ _).trans (flt hk33).2.2.1) ?_
          show Steps p.tables e below (T31.setTop (mkF m 102 #[.val (.int xx), .val (.int yy), .val (.int mo), .val (.int (r1_v xx mo)), .val (.int (r1_v yy ((mo.toUInt32 >>> ((2 : Int32) &&& 31).toUInt32).toInt32))), .val (.ref b3), .val (.ref b8), .val (.int (r6_v (r1_v xx mo))), .val (.int (r6_v (r1_v yy ((mo.toUInt32 >>> ((2 : Int32) &&& 31).toUInt32).toInt32)))), .val (.int (j0_50_l9 xx mo))] [])) _
          refine XS.iload X31.here hx rfl (hb hby at_102) rfl ?_
          exact k
        by_cases hk35 : (r6_v (r1_v yy ((mo.toUInt32 >>> ((2 : Int32) &&& 31).toUInt32).toInt32))) = (0 : Int32)
        · obtain ⟨fs, hr, hrun, hended, hW, hsame⟩ := X31.leave (v := some (.int (1 : Int32))) (fun h => by rw [Bd.returns] at h; cases h)
          refine ⟨_, _, pre34 _ ?_, hrun, hended, _, _, rfl, ?_, ⟨_, rfl⟩, hW, hsame.mono (by decide) (by decide)⟩
          · show Steps p.tables e below (T31.setTop (mkF m 104 #[.val (.int xx), .val (.int yy), .val (.int mo), .val (.int (r1_v xx mo)), .val (.int (r1_v yy ((mo.toUInt32 >>> ((2 : Int32) &&& 31).toUInt32).toInt32))), .val (.ref b3), .val (.ref b8), .val (.int (r6_v (r1_v xx mo))), .val (.int (r6_v (r1_v yy ((mo.toUInt32 >>> ((2 : Int32) &&& 31).toUInt32).toInt32)))), .val (.int (j0_50_l9 xx mo))] [(.int (r6_v (r1_v yy ((mo.toUInt32 >>> ((2 : Int32) &&& 31).toUInt32).toInt32))))])) _
            refine XS.ifYes X31.here hx rfl (pc0 := 104) (pc' := 114) rfl (hb hby at_104) rfl ((if0 _ _).trans (teq hk35).1) (by decide) (by decide) ?_
            show Steps p.tables e below (T31.setTop (mkF m 114 #[.val (.int xx), .val (.int yy), .val (.int mo), .val (.int (r1_v xx mo)), .val (.int (r1_v yy ((mo.toUInt32 >>> ((2 : Int32) &&& 31).toUInt32).toInt32))), .val (.ref b3), .val (.ref b8), .val (.int (r6_v (r1_v xx mo))), .val (.int (r6_v (r1_v yy ((mo.toUInt32 >>> ((2 : Int32) &&& 31).toUInt32).toInt32)))), .val (.int (j0_50_l9 xx mo))] [])) _
            refine XS.iload X31.here hx rfl (hb hby at_114) rfl ?_
            show Steps p.tables e below (T31.setTop (mkF m 116 #[.val (.int xx), .val (.int yy), .val (.int mo), .val (.int (r1_v xx mo)), .val (.int (r1_v yy ((mo.toUInt32 >>> ((2 : Int32) &&& 31).toUInt32).toInt32))), .val (.ref b3), .val (.ref b8), .val (.int (r6_v (r1_v xx mo))), .val (.int (r6_v (r1_v yy ((mo.toUInt32 >>> ((2 : Int32) &&& 31).toUInt32).toInt32)))), .val (.int (j0_50_l9 xx mo))] [(.int (r6_v (r1_v xx mo)))])) _
            refine XS.ifYes X31.here hx rfl (pc0 := 116) (pc' := 136) rfl (hb hby at_116) rfl ((if0 _ _).trans (teq hk30).1) (by decide) (by decide) ?_
            show Steps p.tables e below (T31.setTop (mkF m 136 #[.val (.int xx), .val (.int yy), .val (.int mo), .val (.int (r1_v xx mo)), .val (.int (r1_v yy ((mo.toUInt32 >>> ((2 : Int32) &&& 31).toUInt32).toInt32))), .val (.ref b3), .val (.ref b8), .val (.int (r6_v (r1_v xx mo))), .val (.int (r6_v (r1_v yy ((mo.toUInt32 >>> ((2 : Int32) &&& 31).toUInt32).toInt32)))), .val (.int (j0_50_l9 xx mo))] [])) _
            refine XS.iconst X31.here hx rfl (hb hby at_136) ?_
            show Steps p.tables e below (T31.setTop (mkF m 137 #[.val (.int xx), .val (.int yy), .val (.int mo), .val (.int (r1_v xx mo)), .val (.int (r1_v yy ((mo.toUInt32 >>> ((2 : Int32) &&& 31).toUInt32).toInt32))), .val (.ref b3), .val (.ref b8), .val (.int (r6_v (r1_v xx mo))), .val (.int (r6_v (r1_v yy ((mo.toUInt32 >>> ((2 : Int32) &&& 31).toUInt32).toInt32)))), .val (.int (j0_50_l9 xx mo))] [(.int (1 : Int32))])) _
            exact retN X31 hx (t := .boolean) Bd.returns (by simp) (hb hby at_137) hr
          · show Q0 Z xx yy mo h0 n0 _ T31.heap _
            rw [e31]
            exact ⟨rfl, N31⟩
        · exact (own_112 xx yy mo hk30 hk33 hk35).elim
    · obtain ⟨cq36, kq36, q36a, q36b, q36c⟩ := isOf hZ e19 f15
      obtain ⟨_, _, ⟨T36, L36, k36, n36⟩, -, X36, ⟨Lc36, hQ36, l36, y36, z36⟩, st36⟩ := X19.virtualBack hx (y := (⟨"com/example/partlint/partlint/model/ApiLevel", "isVendorForm", "()Z"⟩ : MethodName)) (z := (⟨"com/example/partlint/partlint/model/ApiLevel", "isVendorForm", "()Z"⟩ : MethodName)) hown (mvT hZ (hw _ (List.mem_of_getElem? (i := 30) rfl))) (mvT hZ (hw _ (List.mem_of_getElem? (i := 31) rfl))) (notFace_of_selects (args := #[]) (mvT hZ (hw _ (List.mem_of_getElem? (i := 33) rfl)))) (mvT hZ (hw _ (List.mem_of_getElem? (i := 33) rfl))) (mvT hZ (hw _ (List.mem_of_getElem? (i := 32) rfl))) (by decide) (backOf (W := 0) (rm7 l Z a0 hw [] b3 (r1_v xx mo) T13.heap n0 Z13 f16) hZ (hw _ (List.mem_of_getElem? (i := 34) rfl)) (hw _ (List.mem_of_getElem? (i := 11) rfl)) (by decide) (by decide)) q36a q36c (g := (mkF m 84 #[.val (.int xx), .val (.int yy), .val (.int mo), .val (.int (r1_v xx mo)), .val (.int (r1_v yy ((mo.toUInt32 >>> ((2 : Int32) &&& 31).toUInt32).toInt32))), .val (.ref b3), .val (.ref b8), .val (.int (r6_v (r1_v xx mo))), .val (.int (r6_v (r1_v yy ((mo.toUInt32 >>> ((2 : Int32) &&& 31).toUInt32).toInt32)))), .val (.int (j0_50_l9 xx mo))] [(.ref b3)])) rfl (by rw [hml]; rfl) (Steps.refl _) (argsL := []) (rest := []) (lenOf pd_3 rfl) rfl (by show 2 * 0 + _ ≤ _; exact Nat.le_of_eq rfl) (hb hby at_84) (fun _ _ => ⟨rfl, e19, (by decide : 2 + 0 ≤ _), (by decide : 2 + 0 ≤ _)⟩)
      dsimp only [Pt.U, Pt.locs, Pt.cells, Pt.slots] at X36 l36 y36 z36 st36 hQ36
      subst l36 y36 z36
      obtain ⟨rfl, N36q, e36⟩ := hQ36
      have N36 := Fr.app N19 N36q
      have pre37 : ∀ t, Steps p.tables e below (T36.setTop (mkF m 87 #[.val (.int xx), .val (.int yy), .val (.int mo), .val (.int (r1_v xx mo)), .val (.int (r1_v yy ((mo.toUInt32 >>> ((2 : Int32) &&& 31).toUInt32).toInt32))), .val (.ref b3), .val (.ref b8), .val (.int (r6_v (r1_v xx mo))), .val (.int (r6_v (r1_v yy ((mo.toUInt32 >>> ((2 : Int32) &&& 31).toUInt32).toInt32)))), .val (.int (j0_50_l9 xx mo))] [(.int (r7_v (r1_v xx mo)))])) t → Steps p.tables e below (s₁.setTop (entryFrame m #[(.int xx), (.int yy), (.int mo)] maxLocals)) t := by
        intro t k
        refine pre29 _ ?_
        show Steps p.tables e below (T19.setTop (mkF m 79 #[.val (.int xx), .val (.int yy), .val (.int mo), .val (.int (r1_v xx mo)), .val (.int (r1_v yy ((mo.toUInt32 >>> ((2 : Int32) &&& 31).toUInt32).toInt32))), .val (.ref b3), .val (.ref b8), .val (.int (r6_v (r1_v xx mo))), .val (.int (r6_v (r1_v yy ((mo.toUInt32 >>> ((2 : Int32) &&& 31).toUInt32).toInt32)))), .val (.int (j0_50_l9 xx mo))] [(.int (r6_v (r1_v xx mo)))])) _
        refine XS.ifNo X19.here hx rfl (hb hby at_79) rfl ((if0 _ _).trans (feq hk30).1) ?_
        show Steps p.tables e below (T19.setTop (mkF m 82 #[.val (.int xx), .val (.int yy), .val (.int mo), .val (.int (r1_v xx mo)), .val (.int (r1_v yy ((mo.toUInt32 >>> ((2 : Int32) &&& 31).toUInt32).toInt32))), .val (.ref b3), .val (.ref b8), .val (.int (r6_v (r1_v xx mo))), .val (.int (r6_v (r1_v yy ((mo.toUInt32 >>> ((2 : Int32) &&& 31).toUInt32).toInt32)))), .val (.int (j0_50_l9 xx mo))] [])) _
        refine XS.aload X19.here hx rfl (hb hby at_82) rfl rfl ?_
        show Steps p.tables e below (T19.setTop (mkF m 84 #[.val (.int xx), .val (.int yy), .val (.int mo), .val (.int (r1_v xx mo)), .val (.int (r1_v yy ((mo.toUInt32 >>> ((2 : Int32) &&& 31).toUInt32).toInt32))), .val (.ref b3), .val (.ref b8), .val (.int (r6_v (r1_v xx mo))), .val (.int (r6_v (r1_v yy ((mo.toUInt32 >>> ((2 : Int32) &&& 31).toUInt32).toInt32)))), .val (.int (j0_50_l9 xx mo))] [(.ref b3)])) _
        refine st36.trans ?_
        exact k
      by_cases hk38 : (r7_v (r1_v xx mo)) = (0 : Int32)
      · obtain ⟨cq39, kq39, q39a, q39b, q39c⟩ := isOf hZ e36 f15
        obtain ⟨_, _, ⟨T39, L39, k39, n39⟩, -, X39, ⟨Lc39, hQ39, l39, y39, z39⟩, st39⟩ := X36.virtualBack hx (y := (⟨"com/example/partlint/partlint/model/ApiLevel", "compareTo", "(Lcom/example/partlint/partlint/model/ApiLevel;)I"⟩ : MethodName)) (z := (⟨"com/example/partlint/partlint/model/ApiLevel", "compareTo", "(Lcom/example/partlint/partlint/model/ApiLevel;)I"⟩ : MethodName)) hown (mvT hZ (hw _ (List.mem_of_getElem? (i := 36) rfl))) (mvT hZ (hw _ (List.mem_of_getElem? (i := 37) rfl))) (notFace_of_selects (args := #[]) (mvT hZ (hw _ (List.mem_of_getElem? (i := 39) rfl)))) (mvT hZ (hw _ (List.mem_of_getElem? (i := 39) rfl))) (mvT hZ (hw _ (List.mem_of_getElem? (i := 38) rfl))) (by decide) (backOf (W := 0) (rm8 l Z a0 hw [] b3 b8 (r1_v xx mo) (r1_v yy ((mo.toUInt32 >>> ((2 : Int32) &&& 31).toUInt32).toInt32)) T13.heap n0 Z13 f16 f14) hZ (hw _ (List.mem_of_getElem? (i := 40) rfl)) (hw _ (List.mem_of_getElem? (i := 11) rfl)) (by decide) (by decide)) q39a q39c (g := (mkF m 96 #[.val (.int xx), .val (.int yy), .val (.int mo), .val (.int (r1_v xx mo)), .val (.int (r1_v yy ((mo.toUInt32 >>> ((2 : Int32) &&& 31).toUInt32).toInt32))), .val (.ref b3), .val (.ref b8), .val (.int (r6_v (r1_v xx mo))), .val (.int (r6_v (r1_v yy ((mo.toUInt32 >>> ((2 : Int32) &&& 31).toUInt32).toInt32)))), .val (.int (j0_50_l9 xx mo))] [(.ref b8), (.ref b3)])) rfl (by rw [hml]; rfl) (Steps.refl _) (argsL := [(.ref b8)]) (rest := []) (lenOf pd_4 rfl) rfl (by show 2 * 0 + _ ≤ _; exact Nat.le_of_eq rfl) (hb hby at_96) (fun _ _ => ⟨rfl, e36, (by decide : 2 + 0 ≤ _), (by decide : 2 + 0 ≤ _)⟩)
        dsimp only [Pt.U, Pt.locs, Pt.cells, Pt.slots] at X39 l39 y39 z39 st39 hQ39
        subst l39 y39 z39
        obtain ⟨rfl, N39q, e39⟩ := hQ39
        have N39 := Fr.app N36 N39q
        have pre40 : ∀ t, Steps p.tables e below (T39.setTop (mkF m 99 #[.val (.int xx), .val (.int yy), .val (.int mo), .val (.int (r1_v xx mo)), .val (.int (r1_v yy ((mo.toUInt32 >>> ((2 : Int32) &&& 31).toUInt32).toInt32))), .val (.ref b3), .val (.ref b8), .val (.int (r6_v (r1_v xx mo))), .val (.int (r6_v (r1_v yy ((mo.toUInt32 >>> ((2 : Int32) &&& 31).toUInt32).toInt32)))), .val (.int (j0_50_l9 xx mo))] [(.int (r9_v (r1_v xx mo) (r1_v yy ((mo.toUInt32 >>> ((2 : Int32) &&& 31).toUInt32).toInt32))))])) t → Steps p.tables e below (s₁.setTop (entryFrame m #[(.int xx), (.int yy), (.int mo)] maxLocals)) t := by
          intro t k
          refine pre37 _ ?_
          show Steps p.tables e below (T36.setTop (mkF m 87 #[.val (.int xx), .val (.int yy), .val (.int mo), .val (.int (r1_v xx mo)), .val (.int (r1_v yy ((mo.toUInt32 >>> ((2 : Int32) &&& 31).toUInt32).toInt32))), .val (.ref b3), .val (.ref b8), .val (.int (r6_v (r1_v xx mo))), .val (.int (r6_v (r1_v yy ((mo.toUInt32 >>> ((2 : Int32) &&& 31).toUInt32).toInt32)))), .val (.int (j0_50_l9 xx mo))] [(.int (r7_v (r1_v xx mo)))])) _
          refine XS.ifYes X36.here hx rfl (pc0 := 87) (pc' := 92) rfl (hb hby at_87) rfl ((if0 _ _).trans (teq hk38).1) (by decide) (by decide) ?_
          show Steps p.tables e below (T36.setTop (mkF m 92 #[.val (.int xx), .val (.int yy), .val (.int mo), .val (.int (r1_v xx mo)), .val (.int (r1_v yy ((mo.toUInt32 >>> ((2 : Int32) &&& 31).toUInt32).toInt32))), .val (.ref b3), .val (.ref b8), .val (.int (r6_v (r1_v xx mo))), .val (.int (r6_v (r1_v yy ((mo.toUInt32 >>> ((2 : Int32) &&& 31).toUInt32).toInt32)))), .val (.int (j0_50_l9 xx mo))] [])) _
          refine XS.aload X36.here hx rfl (hb hby at_92) rfl rfl ?_
          show Steps p.tables e below (T36.setTop (mkF m 94 #[.val (.int xx), .val (.int yy), .val (.int mo), .val (.int (r1_v xx mo)), .val (.int (r1_v yy ((mo.toUInt32 >>> ((2 : Int32) &&& 31).toUInt32).toInt32))), .val (.ref b3), .val (.ref b8), .val (.int (r6_v (r1_v xx mo))), .val (.int (r6_v (r1_v yy ((mo.toUInt32 >>> ((2 : Int32) &&& 31).toUInt32).toInt32)))), .val (.int (j0_50_l9 xx mo))] [(.ref b3)])) _
          refine XS.aload X36.here hx rfl (hb hby at_94) rfl rfl ?_
          show Steps p.tables e below (T36.setTop (mkF m 96 #[.val (.int xx), .val (.int yy), .val (.int mo), .val (.int (r1_v xx mo)), .val (.int (r1_v yy ((mo.toUInt32 >>> ((2 : Int32) &&& 31).toUInt32).toInt32))), .val (.ref b3), .val (.ref b8), .val (.int (r6_v (r1_v xx mo))), .val (.int (r6_v (r1_v yy ((mo.toUInt32 >>> ((2 : Int32) &&& 31).toUInt32).toInt32)))), .val (.int (j0_50_l9 xx mo))] [(.ref b8), (.ref b3)])) _
          refine st39.trans ?_
          exact k
        by_cases hk41 : (0 : Int32) < (r9_v (r1_v xx mo) (r1_v yy ((mo.toUInt32 >>> ((2 : Int32) &&& 31).toUInt32).toInt32)))
        · have pre42 : ∀ t, Steps p.tables e below (T39.setTop (mkF m 121 #[.val (.int xx), .val (.int yy), .val (.int mo), .val (.int (r1_v xx mo)), .val (.int (r1_v yy ((mo.toUInt32 >>> ((2 : Int32) &&& 31).toUInt32).toInt32))), .val (.ref b3), .val (.ref b8), .val (.int (r6_v (r1_v xx mo))), .val (.int (r6_v (r1_v yy ((mo.toUInt32 >>> ((2 : Int32) &&& 31).toUInt32).toInt32)))), .val (.int (j0_50_l9 xx mo))] [(.int (r6_v (r1_v yy ((mo.toUInt32 >>> ((2 : Int32) &&& 31).toUInt32).toInt32))))])) t → Steps p.tables e below (s₁.setTop (entryFrame m #[(.int xx), (.int yy), (.int mo)] maxLocals)) t := by
            intro t k
            refine pre40 _ ?_
            show Steps p.tables e below (T39.setTop (mkF m 99 #[.val (.int xx), .val (.int yy), .val (.int mo), .val (.int (r1_v xx mo)), .val (.int (r1_v yy ((mo.toUInt32 >>> ((2 : Int32) &&& 31).toUInt32).toInt32))), .val (.ref b3), .val (.ref b8), .val (.int (r6_v (r1_v xx mo))), .val (.int (r6_v (r1_v yy ((mo.toUInt32 >>> ((2 : Int32) &&& 31).toUInt32).toInt32)))), .val (.int (j0_50_l9 xx mo))] [(.int (r9_v (r1_v xx mo) (r1_v yy ((mo.toUInt32 >>> ((2 : Int32) &&& 31).toUInt32).toInt32))))])) _
            refine XS.ifYes X39.here hx rfl (pc0 := 99) (pc' := 114) rfl (hb hby at_99) rfl ((if0 _ _).trans (tlt hk41).2.2.1) (by decide) (by decide) ?_
            show Steps p.tables e below (T39.setTop (mkF m 114 #[.val (.int xx), .val (.int yy), .val (.int mo), .val (.int (r1_v xx mo)), .val (.int (r1_v yy ((mo.toUInt32 >>> ((2 : Int32) &&& 31).toUInt32).toInt32))), .val (.ref b3), .val (.ref b8), .val (.int (r6_v (r1_v xx mo))), .val (.int (r6_v (r1_v yy ((mo.toUInt32 >>> ((2 : Int32) &&& 31).toUInt32).toInt32)))), .val (.int (j0_50_l9 xx mo))] [])) _
            refine XS.iload X39.here hx rfl (hb hby at_114) rfl ?_
            show Steps p.tables e below (T39.setTop (mkF m 116 #[.val (.int xx), .val (.int yy), .val (.int mo), .val (.int (r1_v xx mo)), .val (.int (r1_v yy ((mo.toUInt32 >>> ((2 : Int32) &&& 31).toUInt32).toInt32))), .val (.ref b3), .val (.ref b8), .val (.int (r6_v (r1_v xx mo))), .val (.int (r6_v (r1_v yy ((mo.toUInt32 >>> ((2 : Int32) &&& 31).toUInt32).toInt32)))), .val (.int (j0_50_l9 xx mo))] [(.int (r6_v (r1_v xx mo)))])) _
            refine XS.ifNo X39.here hx rfl (hb hby at_116) rfl ((if0 _ _).trans (feq hk30).1) ?_
            show Steps p.tables e below (T39.setTop (mkF m 119 #[.val (.int xx), .val (.int yy), .val (.int mo), .val (.int (r1_v xx mo)), .val (.int (r1_v yy ((mo.toUInt32 >>> ((2 : Int32) &&& 31).toUInt32).toInt32))), .val (.ref b3), .val (.ref b8), .val (.int (r6_v (r1_v xx mo))), .val (.int (r6_v (r1_v yy ((mo.toUInt32 >>> ((2 : Int32) &&& 31).toUInt32).toInt32)))), .val (.int (j0_50_l9 xx mo))] [])) _
            refine XS.iload X39.here hx rfl (hb hby at_119) rfl ?_
            exact k
          by_cases hk43 : (r6_v (r1_v yy ((mo.toUInt32 >>> ((2 : Int32) &&& 31).toUInt32).toInt32))) = (0 : Int32)
          · obtain ⟨cq44, kq44, q44a, q44b, q44c⟩ := isOf hZ e39 f15
            obtain ⟨_, _, ⟨T44, L44, k44, n44⟩, -, X44, ⟨Lc44, hQ44, l44, y44, z44⟩, st44⟩ := X39.virtualBack hx (y := (⟨"com/example/partlint/partlint/model/ApiLevel", "compareTo", "(Lcom/example/partlint/partlint/model/ApiLevel;)I"⟩ : MethodName)) (z := (⟨"com/example/partlint/partlint/model/ApiLevel", "compareTo", "(Lcom/example/partlint/partlint/model/ApiLevel;)I"⟩ : MethodName)) hown (mvT hZ (hw _ (List.mem_of_getElem? (i := 36) rfl))) (mvT hZ (hw _ (List.mem_of_getElem? (i := 37) rfl))) (notFace_of_selects (args := #[]) (mvT hZ (hw _ (List.mem_of_getElem? (i := 39) rfl)))) (mvT hZ (hw _ (List.mem_of_getElem? (i := 39) rfl))) (mvT hZ (hw _ (List.mem_of_getElem? (i := 38) rfl))) (by decide) (backOf (W := 0) (rm8 l Z a0 hw [] b3 b8 (r1_v xx mo) (r1_v yy ((mo.toUInt32 >>> ((2 : Int32) &&& 31).toUInt32).toInt32)) T13.heap n0 Z13 f16 f14) hZ (hw _ (List.mem_of_getElem? (i := 40) rfl)) (hw _ (List.mem_of_getElem? (i := 11) rfl)) (by decide) (by decide)) q44a q44c (g := (mkF m 128 #[.val (.int xx), .val (.int yy), .val (.int mo), .val (.int (r1_v xx mo)), .val (.int (r1_v yy ((mo.toUInt32 >>> ((2 : Int32) &&& 31).toUInt32).toInt32))), .val (.ref b3), .val (.ref b8), .val (.int (r6_v (r1_v xx mo))), .val (.int (r6_v (r1_v yy ((mo.toUInt32 >>> ((2 : Int32) &&& 31).toUInt32).toInt32)))), .val (.int (j0_50_l9 xx mo))] [(.ref b8), (.ref b3)])) rfl (by rw [hml]; rfl) (Steps.refl _) (argsL := [(.ref b8)]) (rest := []) (lenOf pd_4 rfl) rfl (by show 2 * 0 + _ ≤ _; exact Nat.le_of_eq rfl) (hb hby at_128) (fun _ _ => ⟨rfl, e39, (by decide : 2 + 0 ≤ _), (by decide : 2 + 0 ≤ _)⟩)
            dsimp only [Pt.U, Pt.locs, Pt.cells, Pt.slots] at X44 l44 y44 z44 st44 hQ44
            subst l44 y44 z44
            obtain ⟨rfl, N44q, e44⟩ := hQ44
            have N44 := Fr.app N39 N44q
            have pre45 : ∀ t, Steps p.tables e below (T44.setTop (mkF m 131 #[.val (.int xx), .val (.int yy), .val (.int mo), .val (.int (r1_v xx mo)), .val (.int (r1_v yy ((mo.toUInt32 >>> ((2 : Int32) &&& 31).toUInt32).toInt32))), .val (.ref b3), .val (.ref b8), .val (.int (r6_v (r1_v xx mo))), .val (.int (r6_v (r1_v yy ((mo.toUInt32 >>> ((2 : Int32) &&& 31).toUInt32).toInt32)))), .val (.int (j0_50_l9 xx mo))] [(.int (r9_v (r1_v xx mo) (r1_v yy ((mo.toUInt32 >>> ((2 : Int32) &&& 31).toUInt32).toInt32))))])) t → Steps p.tables e below (s₁.setTop (entryFrame m #[(.int xx), (.int yy), (.int mo)] maxLocals)) t := by
              intro t k
              refine pre42 _ ?_
              show Steps p.tables e below (T39.setTop (mkF m 121 #[.val (.int xx), .val (.int yy), .val (.int mo), .val (.int (r1_v xx mo)), .val (.int (r1_v yy ((mo.toUInt32 >>> ((2 : Int32) &&& 31).toUInt32).toInt32))), .val (.ref b3), .val (.ref b8), .val (.int (r6_v (r1_v xx mo))), .val (.int (r6_v (r1_v yy ((mo.toUInt32 >>> ((2 : Int32) &&& 31).toUInt32).toInt32)))), .val (.int (j0_50_l9 xx mo))] [(.int (r6_v (r1_v yy ((mo.toUInt32 >>> ((2 : Int32) &&& 31).toUInt32).toInt32))))])) _
              refine XS.ifNo X39.here hx rfl (hb hby at_121) rfl ((if0 _ _).trans (teq hk43).2) ?_
              show Steps p.tables e below (T39.setTop (mkF m 124 #[.val (.int xx), .val (.int yy), .val (.int mo), .val (.int (r1_v xx mo)), .val (.int (r1_v yy ((mo.toUInt32 >>> ((2 : Int32) &&& 31).toUInt32).toInt32))), .val (.ref b3), .val (.ref b8), .val (.int (r6_v (r1_v xx mo))), .val (.int (r6_v (r1_v yy ((mo.toUInt32 >>> ((2 : Int32) &&& 31).toUInt32).toInt32)))), .val (.int (j0_50_l9 xx mo))] [])) _
              refine XS.aload X39.here hx rfl (hb hby at_124) rfl rfl ?_
              show Steps p.tables e below (T39.setTop (mkF m 126 #[.val (.int xx), .val (.int yy), .val (.int mo), .val (.int (r1_v xx mo)), .val (.int (r1_v yy ((mo.toUInt32 >>> ((2 : Int32) &&& 31).toUInt32).toInt32))), .val (.ref b3), .val (.ref b8), .val (.int (r6_v (r1_v xx mo))), .val (.int (r6_v (r1_v yy ((mo.toUInt32 >>> ((2 : Int32) &&& 31).toUInt32).toInt32)))), .val (.int (j0_50_l9 xx mo))] [(.ref b3)])) _
              refine XS.aload X39.here hx rfl (hb hby at_126) rfl rfl ?_
              show Steps p.tables e below (T39.setTop (mkF m 128 #[.val (.int xx), .val (.int yy), .val (.int mo), .val (.int (r1_v xx mo)), .val (.int (r1_v yy ((mo.toUInt32 >>> ((2 : Int32) &&& 31).toUInt32).toInt32))), .val (.ref b3), .val (.ref b8), .val (.int (r6_v (r1_v xx mo))), .val (.int (r6_v (r1_v yy ((mo.toUInt32 >>> ((2 : Int32) &&& 31).toUInt32).toInt32)))), .val (.int (j0_50_l9 xx mo))] [(.ref b8), (.ref b3)])) _
              refine st44.trans ?_
              exact k
            by_cases hk46 : (r9_v (r1_v xx mo) (r1_v yy ((mo.toUInt32 >>> ((2 : Int32) &&& 31).toUInt32).toInt32))) < (0 : Int32)
            · obtain ⟨fs, hr, hrun, hended, hW, hsame⟩ := X44.leave (v := some (.int (1 : Int32))) (fun h => by rw [Bd.returns] at h; cases h)
              refine ⟨_, _, pre45 _ ?_, hrun, hended, _, _, rfl, ?_, ⟨_, rfl⟩, hW, hsame.mono (by decide) (by decide)⟩
              · show Steps p.tables e below (T44.setTop (mkF m 131 #[.val (.int xx), .val (.int yy), .val (.int mo), .val (.int (r1_v xx mo)), .val (.int (r1_v yy ((mo.toUInt32 >>> ((2 : Int32) &&& 31).toUInt32).toInt32))), .val (.ref b3), .val (.ref b8), .val (.int (r6_v (r1_v xx mo))), .val (.int (r6_v (r1_v yy ((mo.toUInt32 >>> ((2 : Int32) &&& 31).toUInt32).toInt32)))), .val (.int (j0_50_l9 xx mo))] [(.int (r9_v (r1_v xx mo) (r1_v yy ((mo.toUInt32 >>> ((2 : Int32) &&& 31).toUInt32).toInt32))))])) _
                refine XS.ifYes X44.here hx rfl (pc0 := 131) (pc' := 136) rfl (hb hby at_131) rfl ((if0 _ _).trans (tlt hk46).1) (by decide) (by decide) ?_
                show Steps p.tables e below (T44.setTop (mkF m 136 #[.val (.int xx), .val (.int yy), .val (.int mo), .val (.int (r1_v xx mo)), .val (.int (r1_v yy ((mo.toUInt32 >>> ((2 : Int32) &&& 31).toUInt32).toInt32))), .val (.ref b3), .val (.ref b8), .val (.int (r6_v (r1_v xx mo))), .val (.int (r6_v (r1_v yy ((mo.toUInt32 >>> ((2 : Int32) &&& 31).toUInt32).toInt32)))), .val (.int (j0_50_l9 xx mo))] [])) _
                refine XS.iconst X44.here hx rfl (hb hby at_136) ?_
                show Steps p.tables e below (T44.setTop (mkF m 137 #[.val (.int xx), .val (.int yy), .val (.int mo), .val (.int (r1_v xx mo)), .val (.int (r1_v yy ((mo.toUInt32 >>> ((2 : Int32) &&& 31).toUInt32).toInt32))), .val (.ref b3), .val (.ref b8), .val (.int (r6_v (r1_v xx mo))), .val (.int (r6_v (r1_v yy ((mo.toUInt32 >>> ((2 : Int32) &&& 31).toUInt32).toInt32)))), .val (.int (j0_50_l9 xx mo))] [(.int (1 : Int32))])) _
                exact retN X44 hx (t := .boolean) Bd.returns (by simp) (hb hby at_137) hr
              · show Q0 Z xx yy mo h0 n0 _ T44.heap _
                rw [e44]
                exact ⟨rfl, N44⟩
            · exact (own_134 xx yy mo hk30 hk43 hk46).elim
          · obtain ⟨fs, hr, hrun, hended, hW, hsame⟩ := X39.leave (v := some (.int (1 : Int32))) (fun h => by rw [Bd.returns] at h; cases h)
            refine ⟨_, _, pre42 _ ?_, hrun, hended, _, _, rfl, ?_, ⟨_, rfl⟩, hW, hsame.mono (by decide) (by decide)⟩
            · show Steps p.tables e below (T39.setTop (mkF m 121 #[.val (.int xx), .val (.int yy), .val (.int mo), .val (.int (r1_v xx mo)), .val (.int (r1_v yy ((mo.toUInt32 >>> ((2 : Int32) &&& 31).toUInt32).toInt32))), .val (.ref b3), .val (.ref b8), .val (.int (r6_v (r1_v xx mo))), .val (.int (r6_v (r1_v yy ((mo.toUInt32 >>> ((2 : Int32) &&& 31).toUInt32).toInt32)))), .val (.int (j0_50_l9 xx mo))] [(.int (r6_v (r1_v yy ((mo.toUInt32 >>> ((2 : Int32) &&& 31).toUInt32).toInt32))))])) _
              refine XS.ifYes X39.here hx rfl (pc0 := 121) (pc' := 136) rfl (hb hby at_121) rfl ((if0 _ _).trans (feq hk43).2) (by decide) (by decide) ?_
              show Steps p.tables e below (T39.setTop (mkF m 136 #[.val (.int xx), .val (.int yy), .val (.int mo), .val (.int (r1_v xx mo)), .val (.int (r1_v yy ((mo.toUInt32 >>> ((2 : Int32) &&& 31).toUInt32).toInt32))), .val (.ref b3), .val (.ref b8), .val (.int (r6_v (r1_v xx mo))), .val (.int (r6_v (r1_v yy ((mo.toUInt32 >>> ((2 : Int32) &&& 31).toUInt32).toInt32)))), .val (.int (j0_50_l9 xx mo))] [])) _
              refine XS.iconst X39.here hx rfl (hb hby at_136) ?_
              show Steps p.tables e below (T39.setTop (mkF m 137 #[.val (.int xx), .val (.int yy), .val (.int mo), .val (.int (r1_v xx mo)), .val (.int (r1_v yy ((mo.toUInt32 >>> ((2 : Int32) &&& 31).toUInt32).toInt32))), .val (.ref b3), .val (.ref b8), .val (.int (r6_v (r1_v xx mo))), .val (.int (r6_v (r1_v yy ((mo.toUInt32 >>> ((2 : Int32) &&& 31).toUInt32).toInt32)))), .val (.int (j0_50_l9 xx mo))] [(.int (1 : Int32))])) _
              exact retN X39 hx (t := .boolean) Bd.returns (by simp) (hb hby at_137) hr
            · show Q0 Z xx yy mo h0 n0 _ T39.heap _
              rw [e39]
              exact ⟨rfl, N39⟩
        · have pre47 : ∀ t, Steps p.tables e below (T39.setTop (mkF m 104 #[.val (.int xx), .val (.int yy), .val (.int mo), .val (.int (r1_v xx mo)), .val (.int (r1_v yy ((mo.toUInt32 >>> ((2 : Int32) &&& 31).toUInt32).toInt32))), .val (.ref b3), .val (.ref b8), .val (.int (r6_v (r1_v xx mo))), .val (.int (r6_v (r1_v yy ((mo.toUInt32 >>> ((2 : Int32) &&& 31).toUInt32).toInt32)))), .val (.int (j0_50_l9 xx mo))] [(.int (r6_v (r1_v yy ((mo.toUInt32 >>> ((2 : Int32) &&& 31).toUInt32).toInt32))))])) t → Steps p.tables e below (s₁.setTop (entryFrame m #[(.int xx), (.int yy), (.int mo)] maxLocals)) t := by
            intro t k
            refine pre40 _ ?_
            show Steps p.tables e below (T39.setTop (mkF m 99 #[.val (.int xx), .val (.int yy), .val (.int mo), .val (.int (r1_v xx mo)), .val (.int (r1_v yy ((mo.toUInt32 >>> ((2 : Int32) &&& 31).toUInt32).toInt32))), .val (.ref b3), .val (.ref b8), .val (.int (r6_v (r1_v xx mo))), .val (.int (r6_v (r1_v yy ((mo.toUInt32 >>> ((2 : Int32) &&& 31).toUInt32).toInt32)))), .val (.int (j0_50_l9 xx mo))] [(.int (r9_v (r1_v xx mo) (r1_v yy ((mo.toUInt32 >>> ((2 : Int32) &&& 31).toUInt32).toInt32))))])) _
            refine XS.ifNo X39.here hx rfl (hb hby at_99) rfl ((if0 _ _).trans (flt hk41).2.2.1) ?_
            show Steps p.tables e below (T39.setTop (mkF m 102 #[.val (.int xx), .val (.int yy), .val (.int mo), .val (.int (r1_v xx mo)), .val (.int (r1_v yy ((mo.toUInt32 >>> ((2 : Int32) &&& 31).toUInt32).toInt32))), .val (.ref b3), .val (.ref b8), .val (.int (r6_v (r1_v xx mo))), .val (.int (r6_v (r1_v yy ((mo.toUInt32 >>> ((2 : Int32) &&& 31).toUInt32).toInt32)))), .val (.int (j0_50_l9 xx mo))] [])) _
            refine XS.iload X39.here hx rfl (hb hby at_102) rfl ?_
            exact k
          by_cases hk48 : (r6_v (r1_v yy ((mo.toUInt32 >>> ((2 : Int32) &&& 31).toUInt32).toInt32))) = (0 : Int32)
          · obtain ⟨cq49, kq49, q49a, q49b, q49c⟩ := isOf hZ e39 f15
            obtain ⟨_, _, ⟨T49, L49, k49, n49⟩, -, X49, ⟨Lc49, hQ49, l49, y49, z49⟩, st49⟩ := X39.virtualBack hx (y := (⟨"com/example/partlint/partlint/model/ApiLevel", "compareTo", "(Lcom/example/partlint/partlint/model/ApiLevel;)I"⟩ : MethodName)) (z := (⟨"com/example/partlint/partlint/model/ApiLevel", "compareTo", "(Lcom/example/partlint/partlint/model/ApiLevel;)I"⟩ : MethodName)) hown (mvT hZ (hw _ (List.mem_of_getElem? (i := 36) rfl))) (mvT hZ (hw _ (List.mem_of_getElem? (i := 37) rfl))) (notFace_of_selects (args := #[]) (mvT hZ (hw _ (List.mem_of_getElem? (i := 39) rfl)))) (mvT hZ (hw _ (List.mem_of_getElem? (i := 39) rfl))) (mvT hZ (hw _ (List.mem_of_getElem? (i := 38) rfl))) (by decide) (backOf (W := 0) (rm8 l Z a0 hw [] b3 b8 (r1_v xx mo) (r1_v yy ((mo.toUInt32 >>> ((2 : Int32) &&& 31).toUInt32).toInt32)) T13.heap n0 Z13 f16 f14) hZ (hw _ (List.mem_of_getElem? (i := 40) rfl)) (hw _ (List.mem_of_getElem? (i := 11) rfl)) (by decide) (by decide)) q49a q49c (g := (mkF m 128 #[.val (.int xx), .val (.int yy), .val (.int mo), .val (.int (r1_v xx mo)), .val (.int (r1_v yy ((mo.toUInt32 >>> ((2 : Int32) &&& 31).toUInt32).toInt32))), .val (.ref b3), .val (.ref b8), .val (.int (r6_v (r1_v xx mo))), .val (.int (r6_v (r1_v yy ((mo.toUInt32 >>> ((2 : Int32) &&& 31).toUInt32).toInt32)))), .val (.int (j0_50_l9 xx mo))] [(.ref b8), (.ref b3)])) rfl (by rw [hml]; rfl) (Steps.refl _) (argsL := [(.ref b8)]) (rest := []) (lenOf pd_4 rfl) rfl (by show 2 * 0 + _ ≤ _; exact Nat.le_of_eq rfl) (hb hby at_128) (fun _ _ => ⟨rfl, e39, (by decide : 2 + 0 ≤ _), (by decide : 2 + 0 ≤ _)⟩)
            dsimp only [Pt.U, Pt.locs, Pt.cells, Pt.slots] at X49 l49 y49 z49 st49 hQ49
            subst l49 y49 z49
            obtain ⟨rfl, N49q, e49⟩ := hQ49
            have N49 := Fr.app N39 N49q
            have pre50 : ∀ t, Steps p.tables e below (T49.setTop (mkF m 131 #[.val (.int xx), .val (.int yy), .val (.int mo), .val (.int (r1_v xx mo)), .val (.int (r1_v yy ((mo.toUInt32 >>> ((2 : Int32) &&& 31).toUInt32).toInt32))), .val (.ref b3), .val (.ref b8), .val (.int (r6_v (r1_v xx mo))), .val (.int (r6_v (r1_v yy ((mo.toUInt32 >>> ((2 : Int32) &&& 31).toUInt32).toInt32)))), .val (.int (j0_50_l9 xx mo))] [(.int (r9_v (r1_v xx mo) (r1_v yy ((mo.toUInt32 >>> ((2 : Int32) &&& 31).toUInt32).toInt32))))])) t → Steps p.tables e below (s₁.setTop (entryFrame m #[(.int xx), (.int yy), (.int mo)] maxLocals)) t := by
              intro t k
              refine pre47 _ ?_
              show Steps p.tables e below (T39.setTop (mkF m 104 #[.val (.int xx), .val (.int yy), .val (.int mo), .val (.int (r1_v xx mo)), .val (.int (r1_v yy ((mo.toUInt32 >>> ((2 : Int32) &&& 31).toUInt32).toInt32))), .val (.ref b3), .val (.ref b8), .val (.int (r6_v (r1_v xx mo))), .val (.int (r6_v (r1_v yy ((mo.toUInt32 >>> ((2 : Int32) &&& 31).toUInt32).toInt32)))), .val (.int (j0_50_l9 xx mo))] [(.int (r6_v (r1_v yy ((mo.toUInt32 >>> ((2 : Int32) &&& 31).toUInt32).toInt32))))])) _
              refine XS.ifYes X39.here hx rfl (pc0 := 104) (pc' := 114) rfl (hb hby at_104) rfl ((if0 _ _).trans (teq hk48).1) (by decide) (by decide) ?_
              show Steps p.tables e below (T39.setTop (mkF m 114 #[.val (.int xx), .val (.int yy), .val (.int mo), .val (.int (r1_v xx mo)), .val (.int (r1_v yy ((mo.toUInt32 >>> ((2 : Int32) &&& 31).toUInt32).toInt32))), .val (.ref b3), .val (.ref b8), .val (.int (r6_v (r1_v xx mo))), .val (.int (r6_v (r1_v yy ((mo.toUInt32 >>> ((2 : Int32) &&& 31).toUInt32).toInt32)))), .val (.int (j0_50_l9 xx mo))] [])) _
              refine XS.iload X39.here hx rfl (hb hby at_114) rfl ?_
              show Steps p.tables e below (T39.setTop (mkF m 116 #[.val (.int xx), .val (.int yy), .val (.int mo), .val (.int (r1_v xx mo)), .val (.int (r1_v yy ((mo.toUInt32 >>> ((2 : Int32) &&& 31).toUInt32).toInt32))), .val (.ref b3), .val (.ref b8), .val (.int (r6_v (r1_v xx mo))), .val (.int (r6_v (r1_v yy ((mo.toUInt32 >>> ((2 : Int32) &&& 31).toUInt32).toInt32)))), .val (.int (j0_50_l9 xx mo))] [(.int (r6_v (r1_v xx mo)))])) _
              refine XS.ifNo X39.here hx rfl (hb hby at_116) rfl ((if0 _ _).trans (feq hk30).1) ?_
              show Steps p.tables e below (T39.setTop (mkF m 119 #[.val (.int xx), .val (.int yy), .val (.int mo), .val (.int (r1_v xx mo)), .val (.int (r1_v yy ((mo.toUInt32 >>> ((2 : Int32) &&& 31).toUInt32).toInt32))), .val (.ref b3), .val (.ref b8), .val (.int (r6_v (r1_v xx mo))), .val (.int (r6_v (r1_v yy ((mo.toUInt32 >>> ((2 : Int32) &&& 31).toUInt32).toInt32)))), .val (.int (j0_50_l9 xx mo))] [])) _
              refine XS.iload X39.here hx rfl (hb hby at_119) rfl ?_
              show Steps p.tables e below (T39.setTop (mkF m 121 #[.val (.int xx), .val (.int yy), .val (.int mo), .val (.int (r1_v xx mo)), .val (.int (r1_v yy ((mo.toUInt32 >>> ((2 : Int32) &&& 31).toUInt32).toInt32))), .val (.ref b3), .val (.ref b8), .val (.int (r6_v (r1_v xx mo))), .val (.int (r6_v (r1_v yy ((mo.toUInt32 >>> ((2 : Int32) &&& 31).toUInt32).toInt32)))), .val (.int (j0_50_l9 xx mo))] [(.int (r6_v (r1_v yy ((mo.toUInt32 >>> ((2 : Int32) &&& 31).toUInt32).toInt32))))])) _
              refine XS.ifNo X39.here hx rfl (hb hby at_121) rfl ((if0 _ _).trans (teq hk48).2) ?_
              show Steps p.tables e below (T39.setTop (mkF m 124 #[.val (.int xx), .val (.int yy), .val (.int mo), .val (.int (r1_v xx mo)), .val (.int (r1_v yy ((mo.toUInt32 >>> ((2 : Int32) &&& 31).toUInt32).toInt32))), .val (.ref b3), .val (.ref b8), .val (.int (r6_v (r1_v xx mo))), .val (.int (r6_v (r1_v yy ((mo.toUInt32 >>> ((2 : Int32) &&& 31).toUInt32).toInt32)))), .val (.int (j0_50_l9 xx mo))] [])) _
              refine XS.aload X39.here hx rfl (hb hby at_124) rfl rfl ?_
              show Steps p.tables e below (T39.setTop (mkF m 126 #[.val (.int xx), .val (.int yy), .val (.int mo), .val (.int (r1_v xx mo)), .val (.int (r1_v yy ((mo.toUInt32 >>> ((2 : Int32) &&& 31).toUInt32).toInt32))), .val (.ref b3), .val (.ref b8), .val (.int (r6_v (r1_v xx mo))), .val (.int (r6_v (r1_v yy ((mo.toUInt32 >>> ((2 : Int32) &&& 31).toUInt32).toInt32)))), .val (.int (j0_50_l9 xx mo))] [(.ref b3)])) _
              refine XS.aload X39.here hx rfl (hb hby at_126) rfl rfl ?_
              show Steps p.tables e below (T39.setTop (mkF m 128 #[.val (.int xx), .val (.int yy), .val (.int mo), .val (.int (r1_v xx mo)), .val (.int (r1_v yy ((mo.toUInt32 >>> ((2 : Int32) &&& 31).toUInt32).toInt32))), .val (.ref b3), .val (.ref b8), .val (.int (r6_v (r1_v xx mo))), .val (.int (r6_v (r1_v yy ((mo.toUInt32 >>> ((2 : Int32) &&& 31).toUInt32).toInt32)))), .val (.int (j0_50_l9 xx mo))] [(.ref b8), (.ref b3)])) _
              refine st49.trans ?_
              exact k
            by_cases hk51 : (r9_v (r1_v xx mo) (r1_v yy ((mo.toUInt32 >>> ((2 : Int32) &&& 31).toUInt32).toInt32))) < (0 : Int32)
            · obtain ⟨fs, hr, hrun, hended, hW, hsame⟩ := X49.leave (v := some (.int (1 : Int32))) (fun h => by rw [Bd.returns] at h; cases h)
              refine ⟨_, _, pre50 _ ?_, hrun, hended, _, _, rfl, ?_, ⟨_, rfl⟩, hW, hsame.mono (by decide) (by decide)⟩
              · show Steps p.tables e below (T49.setTop (mkF m 131 #[.val (.int xx), .val (.int yy), .val (.int mo), .val (.int (r1_v xx mo)), .val (.int (r1_v yy ((mo.toUInt32 >>> ((2 : Int32) &&& 31).toUInt32).toInt32))), .val (.ref b3), .val (.ref b8), .val (.int (r6_v (r1_v xx mo))), .val (.int (r6_v (r1_v yy ((mo.toUInt32 >>> ((2 : Int32) &&& 31).toUInt32).toInt32)))), .val (.int (j0_50_l9 xx mo))] [(.int (r9_v (r1_v xx mo) (r1_v yy ((mo.toUInt32 >>> ((2 : Int32) &&& 31).toUInt32).toInt32))))])) _
                refine XS.ifYes X49.here hx rfl (pc0 := 131) (pc' := 136) rfl (hb hby at_131) rfl ((if0 _ _).trans (tlt hk51).1) (by decide) (by decide) ?_
                show Steps p.tables e below (T49.setTop (mkF m 136 #[.val (.int xx), .val (.int yy), .val (.int mo), .val (.int (r1_v xx mo)), .val (.int (r1_v yy ((mo.toUInt32 >>> ((2 : Int32) &&& 31).toUInt32).toInt32))), .val (.ref b3), .val (.ref b8), .val (.int (r6_v (r1_v xx mo))), .val (.int (r6_v (r1_v yy ((mo.toUInt32 >>> ((2 : Int32) &&& 31).toUInt32).toInt32)))), .val (.int (j0_50_l9 xx mo))] [])) _
                refine XS.iconst X49.here hx rfl (hb hby at_136) ?_
                show Steps p.tables e below (T49.setTop (mkF m 137 #[.val (.int xx), .val (.int yy), .val (.int mo), .val (.int (r1_v xx mo)), .val (.int (r1_v yy ((mo.toUInt32 >>> ((2 : Int32) &&& 31).toUInt32).toInt32))), .val (.ref b3), .val (.ref b8), .val (.int (r6_v (r1_v xx mo))), .val (.int (r6_v (r1_v yy ((mo.toUInt32 >>> ((2 : Int32) &&& 31).toUInt32).toInt32)))), .val (.int (j0_50_l9 xx mo))] [(.int (1 : Int32))])) _
                exact retN X49 hx (t := .boolean) Bd.returns (by simp) (hb hby at_137) hr
              · show Q0 Z xx yy mo h0 n0 _ T49.heap _
                rw [e49]
                exact ⟨rfl, N49⟩
            · exact (own_134 xx yy mo hk30 hk48 hk51).elim
          · obtain ⟨fs, hr, hrun, hended, hW, hsame⟩ := X39.leave (v := some (.int (1 : Int32))) (fun h => by rw [Bd.returns] at h; cases h)
            refine ⟨_, _, pre47 _ ?_, hrun, hended, _, _, rfl, ?_, ⟨_, rfl⟩, hW, hsame.mono (by decide) (by decide)⟩
            · show Steps p.tables e below (T39.setTop (mkF m 104 #[.val (.int xx), .val (.int yy), .val (.int mo), .val (.int (r1_v xx mo)), .val (.int (r1_v yy ((mo.toUInt32 >>> ((2 : Int32) &&& 31).toUInt32).toInt32))), .val (.ref b3), .val (.ref b8), .val (.int (r6_v (r1_v xx mo))), .val (.int (r6_v (r1_v yy ((mo.toUInt32 >>> ((2 : Int32) &&& 31).toUInt32).toInt32)))), .val (.int (j0_50_l9 xx mo))] [(.int (r6_v (r1_v yy ((mo.toUInt32 >>> ((2 : Int32) &&& 31).toUInt32).toInt32))))])) _
              refine XS.ifNo X39.here hx rfl (hb hby at_104) rfl ((if0 _ _).trans (feq hk48).1) ?_
              show Steps p.tables e below (T39.setTop (mkF m 107 #[.val (.int xx), .val (.int yy), .val (.int mo), .val (.int (r1_v xx mo)), .val (.int (r1_v yy ((mo.toUInt32 >>> ((2 : Int32) &&& 31).toUInt32).toInt32))), .val (.ref b3), .val (.ref b8), .val (.int (r6_v (r1_v xx mo))), .val (.int (r6_v (r1_v yy ((mo.toUInt32 >>> ((2 : Int32) &&& 31).toUInt32).toInt32)))), .val (.int (j0_50_l9 xx mo))] [])) _
              refine XS.iload X39.here hx rfl (hb hby at_107) rfl ?_
              show Steps p.tables e below (T39.setTop (mkF m 109 #[.val (.int xx), .val (.int yy), .val (.int mo), .val (.int (r1_v xx mo)), .val (.int (r1_v yy ((mo.toUInt32 >>> ((2 : Int32) &&& 31).toUInt32).toInt32))), .val (.ref b3), .val (.ref b8), .val (.int (r6_v (r1_v xx mo))), .val (.int (r6_v (r1_v yy ((mo.toUInt32 >>> ((2 : Int32) &&& 31).toUInt32).toInt32)))), .val (.int (j0_50_l9 xx mo))] [(.int (r6_v (r1_v xx mo)))])) _
              refine XS.ifYes X39.here hx rfl (pc0 := 109) (pc' := 114) rfl (hb hby at_109) rfl ((if0 _ _).trans (feq hk30).2) (by decide) (by decide) ?_
              show Steps p.tables e below (T39.setTop (mkF m 114 #[.val (.int xx), .val (.int yy), .val (.int mo), .val (.int (r1_v xx mo)), .val (.int (r1_v yy ((mo.toUInt32 >>> ((2 : Int32) &&& 31).toUInt32).toInt32))), .val (.ref b3), .val (.ref b8), .val (.int (r6_v (r1_v xx mo))), .val (.int (r6_v (r1_v yy ((mo.toUInt32 >>> ((2 : Int32) &&& 31).toUInt32).toInt32)))), .val (.int (j0_50_l9 xx mo))] [])) _
              refine XS.iload X39.here hx rfl (hb hby at_114) rfl ?_
              show Steps p.tables e below (T39.setTop (mkF m 116 #[.val (.int xx), .val (.int yy), .val (.int mo), .val (.int (r1_v xx mo)), .val (.int (r1_v yy ((mo.toUInt32 >>> ((2 : Int32) &&& 31).toUInt32).toInt32))), .val (.ref b3), .val (.ref b8), .val (.int (r6_v (r1_v xx mo))), .val (.int (r6_v (r1_v yy ((mo.toUInt32 >>> ((2 : Int32) &&& 31).toUInt32).toInt32)))), .val (.int (j0_50_l9 xx mo))] [(.int (r6_v (r1_v xx mo)))])) _
              refine XS.ifNo X39.here hx rfl (hb hby at_116) rfl ((if0 _ _).trans (feq hk30).1) ?_
              show Steps p.tables e below (T39.setTop (mkF m 119 #[.val (.int xx), .val (.int yy), .val (.int mo), .val (.int (r1_v xx mo)), .val (.int (r1_v yy ((mo.toUInt32 >>> ((2 : Int32) &&& 31).toUInt32).toInt32))), .val (.ref b3), .val (.ref b8), .val (.int (r6_v (r1_v xx mo))), .val (.int (r6_v (r1_v yy ((mo.toUInt32 >>> ((2 : Int32) &&& 31).toUInt32).toInt32)))), .val (.int (j0_50_l9 xx mo))] [])) _
              refine XS.iload X39.here hx rfl (hb hby at_119) rfl ?_
              show Steps p.tables e below (T39.setTop (mkF m 121 #[.val (.int xx), .val (.int yy), .val (.int mo), .val (.int (r1_v xx mo)), .val (.int (r1_v yy ((mo.toUInt32 >>> ((2 : Int32) &&& 31).toUInt32).toInt32))), .val (.ref b3), .val (.ref b8), .val (.int (r6_v (r1_v xx mo))), .val (.int (r6_v (r1_v yy ((mo.toUInt32 >>> ((2 : Int32) &&& 31).toUInt32).toInt32)))), .val (.int (j0_50_l9 xx mo))] [(.int (r6_v (r1_v yy ((mo.toUInt32 >>> ((2 : Int32) &&& 31).toUInt32).toInt32))))])) _
              refine XS.ifYes X39.here hx rfl (pc0 := 121) (pc' := 136) rfl (hb hby at_121) rfl ((if0 _ _).trans (feq hk48).2) (by decide) (by decide) ?_
              show Steps p.tables e below (T39.setTop (mkF m 136 #[.val (.int xx), .val (.int yy), .val (.int mo), .val (.int (r1_v xx mo)), .val (.int (r1_v yy ((mo.toUInt32 >>> ((2 : Int32) &&& 31).toUInt32).toInt32))), .val (.ref b3), .val (.ref b8), .val (.int (r6_v (r1_v xx mo))), .val (.int (r6_v (r1_v yy ((mo.toUInt32 >>> ((2 : Int32) &&& 31).toUInt32).toInt32)))), .val (.int (j0_50_l9 xx mo))] [])) _
              refine XS.iconst X39.here hx rfl (hb hby at_136) ?_
              show Steps p.tables e below (T39.setTop (mkF m 137 #[.val (.int xx), .val (.int yy), .val (.int mo), .val (.int (r1_v xx mo)), .val (.int (r1_v yy ((mo.toUInt32 >>> ((2 : Int32) &&& 31).toUInt32).toInt32))), .val (.ref b3), .val (.ref b8), .val (.int (r6_v (r1_v xx mo))), .val (.int (r6_v (r1_v yy ((mo.toUInt32 >>> ((2 : Int32) &&& 31).toUInt32).toInt32)))), .val (.int (j0_50_l9 xx mo))] [(.int (1 : Int32))])) _
              exact retN X39 hx (t := .boolean) Bd.returns (by simp) (hb hby at_137) hr
            · show Q0 Z xx yy mo h0 n0 _ T39.heap _
              rw [e39]
              exact ⟨rfl, N39⟩
      · exact (own_90 xx yy mo hk30 hk38).elim
  · exact (own_75 xx yy mo hk28).elim
set_option maxRecDepth 65536 in
set_option maxHeartbeats 40000000 in
theorem comes_1 {Post : Tables → Env → Array Value → State → Outcome → State → Prop} (hpost : ∀ tb e args s v u, (limb_1_1.after args s (.returned v) u = true ∧ limb_1_2.after args s (.returned v) u = true ∧ True) → FrameEnd s (.returned v) u (Jvm.fieldLocs frame_1_writes args s ++ Jvm.arrayLocs frame_1_arrays args s ++ Jvm.staticLocs frame_1_statics s) 16 128 → Post tb e args s (.returned v) u) :
    ArmFor flags0 classFile x code maxLocals ret World_1 tables_1 room_1 Calls_1 rest_1 Pre_1 Post := by
  intro l hfl _ _ p e ha hc hk s m args below hf hA hF happ hP
  obtain ⟨hcalls, hrest, hpre⟩ := hP
  obtain ⟨-, -, -, hnamed, -, -, -, hat⟩ := (Spec.applies_iff hf).mp happ
  obtain ⟨hg, hn⟩ := and_e (Cond.before_iff.mp (show (Jvm.Cond.and given_1 narrow_1).before args s = true from hpre))
  obtain ⟨gv1, gv2⟩ := and_e hg
  obtain ⟨gv3, gv4⟩ := and_e gv2
  obtain ⟨gv5, gv6⟩ := and_e gv4
  obtain ⟨w0, w1, w2, rfl⟩ : ∃ w0 w1 w2 : Value, args = #[w0, w1, w2] := by
    have hs : args.size = 3 := by simpa [Cond.value, given_1] using gv1
    obtain ⟨L⟩ := args
    match L, hs with
    | [w0, w1, w2], _ => exact ⟨w0, w1, w2, rfl⟩
  have hw := fun d (hd : d ∈ tables_1) => atoms_spec (ws := Jvm.Cond.code x code maxLocals ret :: tables_1) hat d (List.mem_cons_of_mem _ hd)
  have hfit : Fit s := fun {y c} hc i hi => by
    obtain ⟨ha, rfl⟩ := Array.getElem?_eq_some_iff.mp hc
    have q := List.all_eq_true.mp ((Array.all_eq_true_iff_forall_mem.mp hF) _ (Array.getElem_mem ha)) i (List.mem_range.mpr hi)
    simpa [Array.getElem?_eq_getElem hi] using q
  obtain ⟨i0, ei0⟩ := is_v gv3
  obtain rfl : w0 = (.int i0) := Option.some.inj ei0
  obtain ⟨i1, ei1⟩ := is_v gv5
  obtain rfl : w1 = (.int i1) := Option.some.inj ei1
  obtain ⟨i2, ei2⟩ := is_v gv6
  obtain rfl : w2 = (.int i2) := Option.some.inj ei2
  obtain ⟨n, o, h1, h2, h3, _, L, rfl, ⟨rfl, N⟩, hq⟩ := rm0 l s _ hw tables_1 i0 i1 i2 s.heap s.heap.size (Nat.le_refl _) p e ha hc hk s m _ below hf ((Spec.applies_iff_loose hf).mp happ).1 ⟨rfl, State.Warmed39.refl s, rfl⟩ trivial
  refine ⟨n, _, h1, h2, h3, hpost _ _ _ _ _ _ ⟨Cond.after_iff.mpr rfl, Cond.after_iff.mpr (eq_i res_at (Term.int_eval (1)) rfl), trivial⟩ ⟨hq.1, hq.2.1, (hq.2.2.sift fun y hy => Or.inr (N y hy)).mono (by decide) (by decide)⟩⟩
theorem main_1_1 : Claimed_1_1 := comes_1 fun _ _ _ _ _ _ h hF => ⟨h.1, hF⟩
theorem main_1_2 : Claimed_1_2 := comes_1 fun _ _ _ _ _ _ h hF => ⟨h.2.1, hF⟩
end Jvm.Pilot.@@N@@
namespace Jvm.Pilot.@@N@@
open Jvm Jvm.ClassFile Sem Op Lib Jvm.Free Jvm.Stand Jvm.Pilot.@@N@@.Jvm.D
/-! MADE BY PROGRAM (witnessworld.py) out of the Statement's table words and the real class files: 16 classes; the members and pool entries that the words name. The judged class is class 1, her method 1. -/
namespace start1
open Jvm.ClassFile
def u (s : String) : CpInfo := .utf8 (stringToUtf16 s)
/-- a pool by its gaps: so many unusable entries, then the entry; so many at the end -/
def gap : Nat → List CpInfo → List CpInfo
  | 0, r => r
  | n + 1, r => .unusable :: gap n r
def poolList (es : List (Nat × CpInfo)) (last : Nat) : List CpInfo := es.foldr (fun e r => gap e.1 (e.2 :: r)) (gap last [])
def pool (es : List (Nat × CpInfo)) (last : Nat) : Array CpInfo := ⟨poolList es last⟩
def fileOf (pool : Array CpInfo) (this : Nat) (attrs : Array Attribute := #[]) (ms : Array MethodInfo := #[]) (fl : Nat := 33) (sup : Nat := 0) (ifs : Array Nat := #[]) (fds : Array FieldInfo := #[]) : ClassFile where
  minorVersion := 0
  majorVersion := 65
  constantPool := pool
  accessFlags := fl
  thisClass := this
  superClass := sup
  interfaces := ifs
  fields := fds
  methods := ms
  attributes := attrs
def plain (name : String) (sup : Option ClassId) : Class where
  name := name
  kind := .ordinary
  loader := none
  accessFlags := 33
  super := sup
  interfaces := #[]
  cf := none
  fields := #[]
  methods := #[]
  instanceTypes := #[]
  staticTypes := #[]
  resolved := #[]
  callSites := []
  init := .initialized
  statics := none
  mirror := none

def pool0 : Array CpInfo := pool [(5, u "<init>"), (0, u "()V"), (1, .class_ 10), (1, u "java/lang/Object")] 113

def k0c0 : Code := { maxStack := 0, maxLocals := 1, code := object_method_1_code, exceptionTable := #[], attributes := #[] }
def k0m0 : Method := { name := "<init>", desc := "()V", sig := { parameters := [], returnType := none }, accessFlags := 1, code := some k0c0 }
/-- java/lang/Object -/
def k0 : Class := { plain "java/lang/Object" none with
  accessFlags := 33
  interfaces := #[]
  cf := some (fileOf pool0 8 #[] #[{ accessFlags := 1, nameIndex := 5, descriptorIndex := 6, attributes := #[] }] 33 0 #[] #[])
  fields := #[]
  methods := #[k0m0]
  instanceTypes := #[]
  staticTypes := #[]
  resolved := Array.replicate 124 none
  statics := none }

def pool1 : Array CpInfo := pool [(2, .class_ 4), (1, u "java/lang/Object"), (0, u "<init>"), (0, u "()V"), (0, .methodref 8 9), (0, .class_ 10), (0, .nameAndType 11 12), (0, u "com/example/partlint/partlint/model/ApiLevelIsSdkFormPinLaw"), (0, u "pick"), (0, u "(II)I"), (0, .class_ 14), (0, u "com/example/partlint/partlint/model/ApiLevel"), (0, .methodref 13 16), (0, .nameAndType 5 17), (0, u "(I)V"), (0, .methodref 13 19), (0, .nameAndType 20 21), (0, u "isSdkForm"), (0, u "()Z"), (0, .methodref 13 23), (0, .nameAndType 24 21), (0, u "isVendorForm"), (0, .methodref 13 26), (0, .nameAndType 27 28), (0, u "compareTo"), (0, u "(Lcom/example/partlint/partlint/model/ApiLevel;)I"), (0, .integer 2147483647), (0, .methodref 31 32), (0, .class_ 33), (0, .nameAndType 34 12), (0, u "java/lang/Math"), (0, u "max"), (4, u "law"), (0, u "(III)Z")] 3

def k1m0 : Method := { name := "<init>", desc := "()V", sig := { parameters := [], returnType := none }, accessFlags := 1, code := none }
def k1c1 : Code := { maxStack := 3, maxLocals := 10, code := code, exceptionTable := #[], attributes := #[] }
def k1m1 : Method := { name := "law", desc := "(III)Z", sig := { parameters := [.int, .int, .int], returnType := some .boolean }, accessFlags := 9, code := some k1c1 }
def k1c2 : Code := { maxStack := 3, maxLocals := 3, code := method_3_code, exceptionTable := #[], attributes := #[] }
def k1m2 : Method := { name := "pick", desc := "(II)I", sig := { parameters := [.int, .int], returnType := some .int }, accessFlags := 10, code := some k1c2 }
/-- com/example/partlint/partlint/model/ApiLevelIsSdkFormPinLaw -/
def k1 : Class := { plain "com/example/partlint/partlint/model/ApiLevelIsSdkFormPinLaw" (some 0) with
  accessFlags := 49
  interfaces := #[]
  cf := some (fileOf pool1 8 #[] #[{ accessFlags := 1, nameIndex := 5, descriptorIndex := 6, attributes := #[] }, { accessFlags := 9, nameIndex := 39, descriptorIndex := 40, attributes := #[] }, { accessFlags := 10, nameIndex := 11, descriptorIndex := 12, attributes := #[] }] 49 2 #[] #[])
  fields := #[]
  methods := #[k1m0, k1m1, k1m2]
  instanceTypes := #[]
  staticTypes := #[]
  resolved := Array.replicate 44 none
  statics := none }

def pool2 : Array CpInfo := pool [(1, .class_ 2), (0, u "java/lang/Math"), (1, .class_ 6), (1, u "java/lang/Object"), (0, u "<init>"), (0, u "()V"), (89, .class_ 100), (1, u "java/lang/Math$RandomNumberGeneratorHolder"), (71, u "negativeZeroFloatBits"), (0, u "J"), (2, u "negativeZeroDoubleBits"), (21, u "max"), (46, u "$assertionsDisabled"), (0, u "Z"), (88, u "(II)I"), (2, u "twoToTheDoubleScaleDown"), (0, u "D"), (4, u "twoToTheDoubleScaleUp"), (9, u "E"), (3, u "PI"), (2, u "TAU"), (2, u "DEGREES_TO_RADIANS"), (0, u "RADIANS_TO_DEGREES")] 94

def k2m0 : Method := { name := "<init>", desc := "()V", sig := { parameters := [], returnType := none }, accessFlags := 2, code := none }
def k2c1 : Code := { maxStack := 2, maxLocals := 2, code := jdk_29_method_65_code, exceptionTable := #[], attributes := #[] }
def k2m1 : Method := { name := "max", desc := "(II)I", sig := { parameters := [.int, .int], returnType := some .int }, accessFlags := 9, code := some k2c1 }
/-- java/lang/Math -/
def k2 : Class := { plain "java/lang/Math" (some 0) with
  accessFlags := 49
  interfaces := #[]
  cf := some (fileOf pool2 1 #[.nestMembers #[98]] #[{ accessFlags := 2, nameIndex := 7, descriptorIndex := 8, attributes := #[] }, { accessFlags := 9, nameIndex := 198, descriptorIndex := 335, attributes := #[] }] 49 4 #[] #[{ accessFlags := 25, nameIndex := 354, descriptorIndex := 339, attributes := #[] }, { accessFlags := 25, nameIndex := 358, descriptorIndex := 339, attributes := #[] }, { accessFlags := 25, nameIndex := 361, descriptorIndex := 339, attributes := #[] }, { accessFlags := 26, nameIndex := 364, descriptorIndex := 339, attributes := #[] }, { accessFlags := 26, nameIndex := 365, descriptorIndex := 339, attributes := #[] }, { accessFlags := 26, nameIndex := 172, descriptorIndex := 173, attributes := #[] }, { accessFlags := 26, nameIndex := 176, descriptorIndex := 173, attributes := #[] }, { accessFlags := 8, nameIndex := 344, descriptorIndex := 339, attributes := #[] }, { accessFlags := 8, nameIndex := 338, descriptorIndex := 339, attributes := #[] }, { accessFlags := 4120, nameIndex := 245, descriptorIndex := 246, attributes := #[] }])
  fields := #[{ name := "E", type := .double, accessFlags := 25, slot := 0, constantValue := 0 }, { name := "PI", type := .double, accessFlags := 25, slot := 1, constantValue := 0 }, { name := "TAU", type := .double, accessFlags := 25, slot := 2, constantValue := 0 }, { name := "DEGREES_TO_RADIANS", type := .double, accessFlags := 26, slot := 3, constantValue := 0 }, { name := "RADIANS_TO_DEGREES", type := .double, accessFlags := 26, slot := 4, constantValue := 0 }, { name := "negativeZeroFloatBits", type := .long, accessFlags := 26, slot := 5, constantValue := 0 }, { name := "negativeZeroDoubleBits", type := .long, accessFlags := 26, slot := 6, constantValue := 0 }, { name := "twoToTheDoubleScaleUp", type := .double, accessFlags := 8, slot := 7, constantValue := 0 }, { name := "twoToTheDoubleScaleDown", type := .double, accessFlags := 8, slot := 8, constantValue := 0 }, { name := "$assertionsDisabled", type := .boolean, accessFlags := 4120, slot := 9, constantValue := 0 }]
  methods := #[k2m0, k2m1]
  instanceTypes := #[]
  staticTypes := #[.double, .double, .double, .double, .double, .long, .long, .double, .double, .boolean]
  resolved := Array.replicate 460 none
  statics := none }

def pool3 : Array CpInfo := pool [(1, .methodref 2 3), (0, .class_ 4), (0, .nameAndType 5 6), (0, u "java/lang/Object"), (0, u "<init>"), (0, u "()V"), (0, .class_ 8), (0, u "java/lang/Record")] 13

def k3c0 : Code := { maxStack := 1, maxLocals := 1, code := jdk_30_method_1_code, exceptionTable := #[], attributes := #[] }
def k3m0 : Method := { name := "<init>", desc := "()V", sig := { parameters := [], returnType := none }, accessFlags := 4, code := some k3c0 }
/-- java/lang/Record -/
def k3 : Class := { plain "java/lang/Record" (some 0) with
  accessFlags := 1057
  interfaces := #[]
  cf := some (fileOf pool3 7 #[] #[{ accessFlags := 4, nameIndex := 5, descriptorIndex := 6, attributes := #[] }] 1057 2 #[] #[])
  fields := #[]
  methods := #[k3m0]
  instanceTypes := #[]
  staticTypes := #[]
  resolved := Array.replicate 22 none
  statics := none }

def pool4 : Array CpInfo := pool [(1, .class_ 2), (0, u "java/lang/Comparable"), (0, .class_ 4), (0, u "java/lang/Object")] 7

/-- java/lang/Comparable -/
def k4 : Class := { plain "java/lang/Comparable" (some 0) with
  accessFlags := 1537
  interfaces := #[]
  cf := some (fileOf pool4 1 #[] #[] 1537 3 #[] #[])
  fields := #[]
  methods := #[]
  instanceTypes := #[]
  staticTypes := #[]
  resolved := Array.replicate 12 none
  statics := none }

def pool5 : Array CpInfo := pool [(1, .class_ 2), (0, u "com/example/partlint/partlint/model/ApiLevel"), (0, .methodref 4 5), (0, .class_ 6), (0, .nameAndType 7 8), (0, u "java/lang/Record"), (0, u "<init>"), (0, u "()V"), (9, .fieldref 1 19), (0, .nameAndType 20 21), (0, u "value"), (0, u "I"), (16, .class_ 39), (0, u "java/lang/Integer"), (4, u "(I)V"), (11, u "()Z"), (6, u "isSdkForm"), (2, u "isVendorForm"), (5, .integer 202404), (0, .integer 999912), (0, .methodref 38 75), (0, .nameAndType 76 77), (0, u "compare"), (0, u "(II)I"), (19, u "compareTo"), (0, u "(Lcom/example/partlint/partlint/model/ApiLevel;)I"), (4, .class_ 104), (0, u "java/lang/Comparable"), (0, u "LAST_SDK_FORM"), (2, u "FIRST_SDK_IN_VENDOR_FORM"), (1, u "FIRST_VENDOR_FORM"), (0, u "LAST_VENDOR_FORM"), (0, u "ONE_YEAR"), (1, u "MAX_DIGITS"), (1, u "SDK_FORM_WORDS"), (0, u "Ljava/lang/String;"), (2, u "VENDOR_FORM_WORDS")] 45

def k5c0 : Code := { maxStack := 3, maxLocals := 2, code := prog_16_method_1_code, exceptionTable := #[], attributes := #[] }
def k5m0 : Method := { name := "<init>", desc := "(I)V", sig := { parameters := [.int], returnType := none }, accessFlags := 1, code := some k5c0 }
def k5c1 : Code := { maxStack := 2, maxLocals := 1, code := prog_16_method_5_code, exceptionTable := #[], attributes := #[] }
def k5m1 : Method := { name := "isSdkForm", desc := "()Z", sig := { parameters := [], returnType := some .boolean }, accessFlags := 1, code := some k5c1 }
def k5c2 : Code := { maxStack := 2, maxLocals := 2, code := prog_16_method_6_code, exceptionTable := #[], attributes := #[] }
def k5m2 : Method := { name := "isVendorForm", desc := "()Z", sig := { parameters := [], returnType := some .boolean }, accessFlags := 1, code := some k5c2 }
def k5c3 : Code := { maxStack := 2, maxLocals := 2, code := prog_16_method_7_code, exceptionTable := #[], attributes := #[] }
def k5m3 : Method := { name := "compareTo", desc := "(Lcom/example/partlint/partlint/model/ApiLevel;)I", sig := { parameters := [(.object "com/example/partlint/partlint/model/ApiLevel")], returnType := some .int }, accessFlags := 1, code := some k5c3 }
/-- com/example/partlint/partlint/model/ApiLevel -/
def k5 : Class := { plain "com/example/partlint/partlint/model/ApiLevel" (some 3) with
  accessFlags := 49
  interfaces := #[4]
  cf := some (fileOf pool5 1 #[] #[{ accessFlags := 1, nameIndex := 7, descriptorIndex := 44, attributes := #[] }, { accessFlags := 1, nameIndex := 63, descriptorIndex := 56, attributes := #[] }, { accessFlags := 1, nameIndex := 66, descriptorIndex := 56, attributes := #[] }, { accessFlags := 1, nameIndex := 97, descriptorIndex := 98, attributes := #[] }] 49 4 #[103] #[{ accessFlags := 18, nameIndex := 20, descriptorIndex := 21, attributes := #[] }, { accessFlags := 26, nameIndex := 105, descriptorIndex := 21, attributes := #[] }, { accessFlags := 26, nameIndex := 108, descriptorIndex := 21, attributes := #[] }, { accessFlags := 26, nameIndex := 110, descriptorIndex := 21, attributes := #[] }, { accessFlags := 26, nameIndex := 111, descriptorIndex := 21, attributes := #[] }, { accessFlags := 26, nameIndex := 112, descriptorIndex := 21, attributes := #[] }, { accessFlags := 26, nameIndex := 114, descriptorIndex := 21, attributes := #[] }, { accessFlags := 25, nameIndex := 116, descriptorIndex := 117, attributes := #[] }, { accessFlags := 25, nameIndex := 120, descriptorIndex := 117, attributes := #[] }])
  fields := #[{ name := "value", type := .int, accessFlags := 18, slot := 0, constantValue := 0 }, { name := "LAST_SDK_FORM", type := .int, accessFlags := 26, slot := 0, constantValue := 0 }, { name := "FIRST_SDK_IN_VENDOR_FORM", type := .int, accessFlags := 26, slot := 1, constantValue := 0 }, { name := "FIRST_VENDOR_FORM", type := .int, accessFlags := 26, slot := 2, constantValue := 0 }, { name := "LAST_VENDOR_FORM", type := .int, accessFlags := 26, slot := 3, constantValue := 0 }, { name := "ONE_YEAR", type := .int, accessFlags := 26, slot := 4, constantValue := 0 }, { name := "MAX_DIGITS", type := .int, accessFlags := 26, slot := 5, constantValue := 0 }, { name := "SDK_FORM_WORDS", type := (.object "java/lang/String"), accessFlags := 25, slot := 6, constantValue := 0 }, { name := "VENDOR_FORM_WORDS", type := (.object "java/lang/String"), accessFlags := 25, slot := 7, constantValue := 0 }]
  methods := #[k5m0, k5m1, k5m2, k5m3]
  instanceTypes := #[.int]
  staticTypes := #[.int, .int, .int, .int, .int, .int, (.object "java/lang/String"), (.object "java/lang/String")]
  resolved := Array.replicate 166 none
  statics := none }

def pool6 : Array CpInfo := pool [(1, .class_ 2), (0, u "java/io/Serializable"), (0, .class_ 4), (0, u "java/lang/Object")] 2

/-- java/io/Serializable -/
def k6 : Class := { plain "java/io/Serializable" (some 0) with
  accessFlags := 1537
  interfaces := #[]
  cf := some (fileOf pool6 1 #[] #[] 1537 3 #[] #[])
  fields := #[]
  methods := #[]
  instanceTypes := #[]
  staticTypes := #[]
  resolved := Array.replicate 7 none
  statics := none }

def pool7 : Array CpInfo := pool [(2, .class_ 4), (1, u "java/lang/Object"), (0, u "<init>"), (0, u "()V"), (1, .class_ 10), (1, u "java/lang/Number"), (2, .class_ 14), (0, u "java/io/Serializable"), (0, u "serialVersionUID"), (0, u "J")] 20

def k7m0 : Method := { name := "<init>", desc := "()V", sig := { parameters := [], returnType := none }, accessFlags := 1, code := none }
/-- java/lang/Number -/
def k7 : Class := { plain "java/lang/Number" (some 0) with
  accessFlags := 1057
  interfaces := #[6]
  cf := some (fileOf pool7 8 #[] #[{ accessFlags := 1, nameIndex := 5, descriptorIndex := 6, attributes := #[] }] 1057 2 #[13] #[{ accessFlags := 26, nameIndex := 15, descriptorIndex := 16, attributes := #[] }])
  fields := #[{ name := "serialVersionUID", type := .long, accessFlags := 26, slot := 0, constantValue := 0 }]
  methods := #[k7m0]
  instanceTypes := #[]
  staticTypes := #[.long]
  resolved := Array.replicate 37 none
  statics := none }

def pool8 : Array CpInfo := pool [(1, .class_ 2), (0, u "java/lang/constant/Constable"), (0, .class_ 4), (0, u "java/lang/Object")] 6

/-- java/lang/constant/Constable -/
def k8 : Class := { plain "java/lang/constant/Constable" (some 0) with
  accessFlags := 1537
  interfaces := #[]
  cf := some (fileOf pool8 1 #[] #[] 1537 3 #[] #[])
  fields := #[]
  methods := #[]
  instanceTypes := #[]
  staticTypes := #[]
  resolved := Array.replicate 11 none
  statics := none }

def pool9 : Array CpInfo := pool [(1, .class_ 2), (0, u "java/lang/constant/ConstantDesc"), (0, .class_ 4), (0, u "java/lang/Object")] 32

/-- java/lang/constant/ConstantDesc -/
def k9 : Class := { plain "java/lang/constant/ConstantDesc" (some 0) with
  accessFlags := 1537
  interfaces := #[]
  cf := some (fileOf pool9 1 #[] #[] 1537 3 #[] #[])
  fields := #[]
  methods := #[]
  instanceTypes := #[]
  staticTypes := #[]
  resolved := Array.replicate 37 none
  statics := none }

def pool10 : Array CpInfo := pool [(1, .class_ 2), (0, u "java/lang/Integer"), (16, u "digits"), (0, u "[C"), (39, u "(II)I"), (24, u "DigitOnes"), (0, u "[B"), (2, u "DigitTens"), (99, .class_ 190), (0, u "java/lang/Integer$IntegerCache"), (3, u "I"), (8, .class_ 204), (0, u "java/lang/Number"), (2, u "value"), (53, u "compare"), (40, u "TYPE"), (0, u "Ljava/lang/Class;"), (0, .class_ 305), (0, u "java/lang/Comparable"), (0, .class_ 307), (0, u "java/lang/constant/Constable"), (0, .class_ 309), (0, u "java/lang/constant/ConstantDesc"), (0, u "MIN_VALUE"), (1, u "MAX_VALUE"), (3, u "SIZE"), (1, u "BYTES"), (1, u "serialVersionUID"), (0, u "J")] 131

def k10c0 : Code := { maxStack := 2, maxLocals := 2, code := jdk_33_method_40_code, exceptionTable := #[], attributes := #[] }
def k10m0 : Method := { name := "compare", desc := "(II)I", sig := { parameters := [.int, .int], returnType := some .int }, accessFlags := 9, code := some k10c0 }
/-- java/lang/Integer -/
def k10 : Class := { plain "java/lang/Integer" (some 7) with
  accessFlags := 49
  interfaces := #[4, 8, 9]
  cf := some (fileOf pool10 1 #[.nestMembers #[189]] #[{ accessFlags := 9, nameIndex := 261, descriptorIndex := 60, attributes := #[] }] 49 203 #[304, 306, 308] #[{ accessFlags := 25, nameIndex := 310, descriptorIndex := 194, attributes := #[] }, { accessFlags := 25, nameIndex := 312, descriptorIndex := 194, attributes := #[] }, { accessFlags := 25, nameIndex := 302, descriptorIndex := 303, attributes := #[] }, { accessFlags := 24, nameIndex := 19, descriptorIndex := 20, attributes := #[] }, { accessFlags := 24, nameIndex := 89, descriptorIndex := 86, attributes := #[] }, { accessFlags := 24, nameIndex := 85, descriptorIndex := 86, attributes := #[] }, { accessFlags := 18, nameIndex := 207, descriptorIndex := 194, attributes := #[] }, { accessFlags := 25, nameIndex := 316, descriptorIndex := 194, attributes := #[] }, { accessFlags := 25, nameIndex := 318, descriptorIndex := 194, attributes := #[] }, { accessFlags := 26, nameIndex := 320, descriptorIndex := 321, attributes := #[] }])
  fields := #[{ name := "MIN_VALUE", type := .int, accessFlags := 25, slot := 0, constantValue := 0 }, { name := "MAX_VALUE", type := .int, accessFlags := 25, slot := 1, constantValue := 0 }, { name := "TYPE", type := (.object "java/lang/Class"), accessFlags := 25, slot := 2, constantValue := 0 }, { name := "digits", type := (.array .char), accessFlags := 24, slot := 3, constantValue := 0 }, { name := "DigitTens", type := (.array .byte), accessFlags := 24, slot := 4, constantValue := 0 }, { name := "DigitOnes", type := (.array .byte), accessFlags := 24, slot := 5, constantValue := 0 }, { name := "value", type := .int, accessFlags := 18, slot := 0, constantValue := 0 }, { name := "SIZE", type := .int, accessFlags := 25, slot := 6, constantValue := 0 }, { name := "BYTES", type := .int, accessFlags := 25, slot := 7, constantValue := 0 }, { name := "serialVersionUID", type := .long, accessFlags := 26, slot := 8, constantValue := 0 }]
  methods := #[k10m0]
  instanceTypes := #[.int]
  staticTypes := #[.int, .int, (.object "java/lang/Class"), (.array .char), (.array .byte), (.array .byte), .int, .int, .long]
  resolved := Array.replicate 453 none
  statics := none }

def pool11 : Array CpInfo := pool [(1, u "java/lang/Cloneable"), (0, .class_ 1), (0, u "java/lang/Object"), (0, .class_ 3)] 3

/-- java/lang/Cloneable -/
def k11 : Class := { plain "java/lang/Cloneable" (some 0) with
  accessFlags := 1537
  interfaces := #[]
  cf := some (fileOf pool11 2 #[] #[] 1537 4 #[] #[])
  fields := #[]
  methods := #[]
  instanceTypes := #[]
  staticTypes := #[]
  resolved := Array.replicate 8 none
  statics := none }

/-- the primitive byte -/
def k12 : Class := { plain "byte" none with kind := .primitive 'B', accessFlags := 0x411 }
/-- [B -/
def k13 : Class := { plain "[B" (some 0) with kind := .array 12 .byte, interfaces := #[11, 6], accessFlags := 1041 }

/-- the primitive int -/
def k14 : Class := { plain "int" none with kind := .primitive 'I', accessFlags := 0x411 }
/-- [I -/
def k15 : Class := { plain "[I" (some 0) with kind := .array 14 .int, interfaces := #[11, 6], accessFlags := 1041 }

def heap : Heap := #[]
def classes : Array Class := #[k0, k1, k2, k3, k4, k5, k6, k7, k8, k9, k10, k11, k12, k13, k14, k15]
def interned : List (Array UInt16 × Addr) := []
def slotsUsed : Nat := 0
def theMethod : MethodId := ⟨1, 1⟩
def args0 : Array Value := #[.int 5, .int 9, .int 0]
def aboutOver (below : List Frame) : State where
  vm := { classes := classes, interned := interned.toArray }
  heap := heap
  slotsUsed := slotsUsed
  threads := #[{ frames := .invoking theMethod args0 :: below }]
def below0 : List Frame := [.native { method := ⟨0, 0⟩, args := #[] }]
def about1 : State := aboutOver below0
def p0 : Program := .bare "" "" ""
def e0 : Env := launch0.env 0 0 0
theorem w_frames : about1.frames = Frame.invoking theMethod args0 :: below0 := rfl
set_option maxRecDepth 65536 in
theorem w_args : argsFit about1.vm theMethod args0 = true := by decide +kernel
set_option maxRecDepth 65536 in
theorem w_heap : heapFits about1 = true := by decide +kernel
set_option maxRecDepth 65536 in
theorem w_runnable : about1.curStatus? = some .runnable := by decide +kernel
set_option maxRecDepth 65536 in
theorem w_alone : about1.alone = true := by decide +kernel
set_option maxRecDepth 65536 in
theorem w_named : about1.methodNamed? x = some theMethod := by decide +kernel
set_option maxRecDepth 65536 in
theorem w_hears : about1.hears theMethod below0 = true := by decide +kernel
set_option maxRecDepth 65536 in
theorem w_ripe : about1.ripe theMethod args0 below0 = true := by decide +kernel
theorem w_running : about1.status = .running := rfl
set_option maxRecDepth 65536 in
theorem w_room : about1.hasRoom e0.platform room_1 = true :=
  launch0.hasRoom_least _ room_1 (by decide +kernel) (by decide +kernel) (by decide +kernel) (by decide +kernel) (by decide +kernel) (by decide +kernel)
theorem allAtoms_all (ts : List Jvm.Cond) (a : Array Jvm.Value) (st : Jvm.State) : (allAtoms ts).before a st = ts.all (fun c => c.before a st) := by
  induction ts with
  | nil => rfl
  | cons c t ih =>
    show (Jvm.Cond.and c (allAtoms t)).before a st = _
    rw [Jvm.Cond.before_and, ih, List.all_cons]
def words1 : List Jvm.Cond := Jvm.Cond.code x code maxLocals ret :: tables_1
/-- a 'code' word, met by the world's own term for the bytes: nothing is compared byte by byte -/
theorem code_word {y : MethodName} {bytes : ByteArray} {mx : Nat} {rt : Option FieldType} {a : Array Value} {s : State} {m : MethodId} {meth : Method} {c : Code} (h1 : s.methodNamed? y = some m) (h2 : s.vm.method? m = some meth) (h3 : meth.code = some c) (h4 : c.code = bytes)
    (h5 : (c.maxLocals == mx && c.exceptionTable.isEmpty && decide (c.maxStack ≤ mostOperands) && decide (meth.sig.returnType = rt) && !meth.locks && decide (parseMethodDescriptor y.desc = some meth.sig)) = true) : (Jvm.Cond.code y bytes mx rt).before a s = true := by
  simp only [Bool.and_eq_true, beq_iff_eq, Bool.not_eq_true', decide_eq_true_eq] at h5
  obtain ⟨⟨⟨⟨⟨g1, g2⟩, g3⟩, g4⟩, g5⟩, g6⟩ := h5
  simp [Cond.before, Cond.holds, Cond.value, h1, h2, h3, h4, g1, g2, g3, g4, g5, g6]
def isCode : Jvm.Cond → Bool
  | .code _ _ _ _ => true
  | _ => false
theorem all_split {L : List Jvm.Cond} {P : Jvm.Cond → Bool} (h1 : L.all (fun c => isCode c || P c) = true) (h2 : ∀ c ∈ L.filter isCode, P c = true) : L.all P = true := by
  refine List.all_eq_true.mpr fun c hc => ?_
  have h := List.all_eq_true.mp h1 c hc
  rcases Bool.eq_false_or_eq_true (isCode c) with hi | hi
  · exact h2 c (List.mem_filter.mpr ⟨hc, hi⟩)
  · simpa [hi] using h
set_option maxRecDepth 65536 in
theorem w_c0 : (Jvm.Cond.code x code maxLocals ret).before args0 about1 = true := code_word (m := ⟨1, 1⟩) (meth := k1m1) (c := k1c1) (by decide +kernel) rfl rfl rfl (by decide +kernel)
set_option maxRecDepth 65536 in
theorem w_c1 : (Jvm.Cond.code ({ cls := "com/example/partlint/partlint/model/ApiLevelIsSdkFormPinLaw", name := "pick", desc := "(II)I" } : Jvm.MethodName) method_3_code (3 : Nat) (Option.some Jvm.ClassFile.FieldType.int)).before args0 about1 = true := code_word (m := ⟨1, 2⟩) (meth := k1m2) (c := k1c2) (by decide +kernel) rfl rfl rfl (by decide +kernel)
set_option maxRecDepth 65536 in
theorem w_c2 : (Jvm.Cond.code ({ cls := "java/lang/Math", name := "max", desc := "(II)I" } : Jvm.MethodName) jdk_29_method_65_code (2 : Nat) (Option.some Jvm.ClassFile.FieldType.int)).before args0 about1 = true := code_word (m := ⟨2, 1⟩) (meth := k2m1) (c := k2c1) (by decide +kernel) rfl rfl rfl (by decide +kernel)
set_option maxRecDepth 65536 in
theorem w_c3 : (Jvm.Cond.code ({ cls := "com/example/partlint/partlint/model/ApiLevel", name := "<init>", desc := "(I)V" } : Jvm.MethodName) prog_16_method_1_code (2 : Nat) (Option.none : Option Jvm.ClassFile.FieldType)).before args0 about1 = true := code_word (m := ⟨5, 0⟩) (meth := k5m0) (c := k5c0) (by decide +kernel) rfl rfl rfl (by decide +kernel)
set_option maxRecDepth 65536 in
theorem w_c4 : (Jvm.Cond.code ({ cls := "java/lang/Record", name := "<init>", desc := "()V" } : Jvm.MethodName) jdk_30_method_1_code (1 : Nat) (Option.none : Option Jvm.ClassFile.FieldType)).before args0 about1 = true := code_word (m := ⟨3, 0⟩) (meth := k3m0) (c := k3c0) (by decide +kernel) rfl rfl rfl (by decide +kernel)
set_option maxRecDepth 65536 in
theorem w_c5 : (Jvm.Cond.code ({ cls := "java/lang/Object", name := "<init>", desc := "()V" } : Jvm.MethodName) object_method_1_code (1 : Nat) (Option.none : Option Jvm.ClassFile.FieldType)).before args0 about1 = true := code_word (m := ⟨0, 0⟩) (meth := k0m0) (c := k0c0) (by decide +kernel) rfl rfl rfl (by decide +kernel)
set_option maxRecDepth 65536 in
theorem w_c6 : (Jvm.Cond.code ({ cls := "com/example/partlint/partlint/model/ApiLevel", name := "isSdkForm", desc := "()Z" } : Jvm.MethodName) prog_16_method_5_code (1 : Nat) (Option.some Jvm.ClassFile.FieldType.boolean)).before args0 about1 = true := code_word (m := ⟨5, 1⟩) (meth := k5m1) (c := k5c1) (by decide +kernel) rfl rfl rfl (by decide +kernel)
set_option maxRecDepth 65536 in
theorem w_c7 : (Jvm.Cond.code ({ cls := "com/example/partlint/partlint/model/ApiLevel", name := "isVendorForm", desc := "()Z" } : Jvm.MethodName) prog_16_method_6_code (2 : Nat) (Option.some Jvm.ClassFile.FieldType.boolean)).before args0 about1 = true := code_word (m := ⟨5, 2⟩) (meth := k5m2) (c := k5c2) (by decide +kernel) rfl rfl rfl (by decide +kernel)
set_option maxRecDepth 65536 in
theorem w_c8 : (Jvm.Cond.code ({ cls := "com/example/partlint/partlint/model/ApiLevel", name := "compareTo", desc := "(Lcom/example/partlint/partlint/model/ApiLevel;)I" } : Jvm.MethodName) prog_16_method_7_code (2 : Nat) (Option.some Jvm.ClassFile.FieldType.int)).before args0 about1 = true := code_word (m := ⟨5, 3⟩) (meth := k5m3) (c := k5c3) (by decide +kernel) rfl rfl rfl (by decide +kernel)
set_option maxRecDepth 65536 in
theorem w_c9 : (Jvm.Cond.code ({ cls := "java/lang/Integer", name := "compare", desc := "(II)I" } : Jvm.MethodName) jdk_33_method_40_code (2 : Nat) (Option.some Jvm.ClassFile.FieldType.int)).before args0 about1 = true := code_word (m := ⟨10, 0⟩) (meth := k10m0) (c := k10c0) (by decide +kernel) rfl rfl rfl (by decide +kernel)
def codes1 : List Jvm.Cond := [Jvm.Cond.code x code maxLocals ret, Jvm.Cond.code ({ cls := "com/example/partlint/partlint/model/ApiLevelIsSdkFormPinLaw", name := "pick", desc := "(II)I" } : Jvm.MethodName) method_3_code (3 : Nat) (Option.some Jvm.ClassFile.FieldType.int), Jvm.Cond.code ({ cls := "java/lang/Math", name := "max", desc := "(II)I" } : Jvm.MethodName) jdk_29_method_65_code (2 : Nat) (Option.some Jvm.ClassFile.FieldType.int), Jvm.Cond.code ({ cls := "com/example/partlint/partlint/model/ApiLevel", name := "<init>", desc := "(I)V" } : Jvm.MethodName) prog_16_method_1_code (2 : Nat) (Option.none : Option Jvm.ClassFile.FieldType), Jvm.Cond.code ({ cls := "java/lang/Record", name := "<init>", desc := "()V" } : Jvm.MethodName) jdk_30_method_1_code (1 : Nat) (Option.none : Option Jvm.ClassFile.FieldType), Jvm.Cond.code ({ cls := "java/lang/Object", name := "<init>", desc := "()V" } : Jvm.MethodName) object_method_1_code (1 : Nat) (Option.none : Option Jvm.ClassFile.FieldType), Jvm.Cond.code ({ cls := "com/example/partlint/partlint/model/ApiLevel", name := "isSdkForm", desc := "()Z" } : Jvm.MethodName) prog_16_method_5_code (1 : Nat) (Option.some Jvm.ClassFile.FieldType.boolean), Jvm.Cond.code ({ cls := "com/example/partlint/partlint/model/ApiLevel", name := "isVendorForm", desc := "()Z" } : Jvm.MethodName) prog_16_method_6_code (2 : Nat) (Option.some Jvm.ClassFile.FieldType.boolean), Jvm.Cond.code ({ cls := "com/example/partlint/partlint/model/ApiLevel", name := "compareTo", desc := "(Lcom/example/partlint/partlint/model/ApiLevel;)I" } : Jvm.MethodName) prog_16_method_7_code (2 : Nat) (Option.some Jvm.ClassFile.FieldType.int), Jvm.Cond.code ({ cls := "java/lang/Integer", name := "compare", desc := "(II)I" } : Jvm.MethodName) jdk_33_method_40_code (2 : Nat) (Option.some Jvm.ClassFile.FieldType.int)]
set_option maxRecDepth 65536 in
theorem codes_eq : words1.filter isCode = codes1 := rfl
theorem w_codes : ∀ c ∈ words1.filter isCode, c.before args0 about1 = true := by
  rw [codes_eq]
  intro c hc
  simp only [codes1, List.mem_cons, List.not_mem_nil, or_false] at hc
  rcases hc with rfl | rfl | rfl | rfl | rfl | rfl | rfl | rfl | rfl | rfl
  · exact w_c0
  · exact w_c1
  · exact w_c2
  · exact w_c3
  · exact w_c4
  · exact w_c5
  · exact w_c6
  · exact w_c7
  · exact w_c8
  · exact w_c9
set_option maxRecDepth 65536 in
theorem w_t1 : (words1.take 24).all (fun c => isCode c || c.before args0 about1) = true := by decide +kernel
set_option maxRecDepth 65536 in
theorem w_t2 : (words1.drop 24).all (fun c => isCode c || c.before args0 about1) = true := by decide +kernel
theorem w_tables : (allAtoms (Jvm.Cond.code x code maxLocals ret :: tables_1)).before args0 about1 = true := by
  rw [allAtoms_all]
  show words1.all (fun c => c.before args0 about1) = true
  refine all_split ?_ w_codes
  rw [← List.take_append_drop 24 words1, List.all_append, w_t1, w_t2]
  rfl
set_option maxRecDepth 65536 in
theorem w_case : (Jvm.Cond.and given_1 narrow_1).before args0 about1 = true := by decide +kernel
theorem w_applies : (headSpec (Jvm.Cond.code x code maxLocals ret :: tables_1) room_1).applies x e0.platform about1 = true :=
  (Spec.applies_iff w_frames).mpr ⟨w_running, w_runnable, w_alone, w_named, w_hears, w_ripe, w_room, w_tables⟩
theorem atStart : AtStart classFile x code maxLocals ret World_1 tables_1 room_1 Calls_1 rest_1 Pre_1 launch0 p0 e0 about1 theMethod args0 below0 :=
  ⟨lists_1, trivial, launch0.admits_env _ _ _, launch0.least_env, fairChoices_fair.cas, fairChoices_fair.clock, w_frames, w_args, w_heap, w_applies, trivial, trivial, w_case⟩
end start1
theorem witness_1 : WitnessClaimed_1 := ⟨start1.p0, start1.e0, start1.about1, start1.theMethod, start1.args0, start1.below0, start1.atStart⟩
end Jvm.Pilot.@@N@@
