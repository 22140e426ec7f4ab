import JvmDerived
import JvmDerived.Pilot.@@N@@Statement
import JvmDerived.Pilot.@@N@@Code
set_option linter.unusedVariables false
set_option linter.unusedSimpArgs false
namespace Jvm.RoadKit
open Sem ClassFile Op Lib Jvm.Stand Jvm.Free Jvm.LawKit
section New
variable {p : Program} {l : Launch} {e : Env} {R : Room} {s : State} {m : MethodId} {args : Array Value} {below : List Frame} {meth : Method} {c : Code} {T : State} {locs : List Loc} {cells slots : Nat}
theorem retI (X : Stand p l e R s m args below meth c T locs cells slots) (hx : p.tables.exec = Jvm.exec) {pc : Nat} {Ls : Array Slot} {z : Int32} {rest : List Value} (hret : meth.sig.returnType = some .int) (hd : decode c.code pc = .ok (.ireturn, 1)) {fs : List Frame}
    (hl : ∀ (f : JFrame) (acts : List Action), f.method = m → f.locked = none → f.entered = [] → (doReturn e (T.setTop f) acts (some (.int z))).1 = T.setFrames fs) : Steps p.tables e below (T.setTop (mkF m pc Ls (.int z :: rest))) (T.setFrames fs) := by
  have hm' : T.vm.method? m = some meth := X.method'
  have hn : narrow .int (.int z) = .int z := rfl
  show Steps p.tables e below (T.setTop { method := m, pc := pc, locals := Ls, stack := _ :: rest, locked := none }) _
  jvm_step X.here [X.here.top, hx, hd, hm', hret, hn]
  first | (intro acts; rw [hl _ acts rfl rfl rfl]) | rw [hl _ _ rfl rfl rfl]
  exact Steps.refl _
theorem own_lremM {g : JFrame} {target : State} (X : Stand p l e R s m args below meth c T locs cells slots) (hx : p.tables.exec = Jvm.exec) (hg : g.method = m) {x y : Int64} {rest : List Value} (hd : decode c.code g.pc = .ok (.lrem, 1)) (hs : g.stack = .long y :: .long x :: rest) (hy : y ≠ 0)
    (hr : Steps p.tables e below (T.setTop { g with pc := g.pc + 1, stack := .long (x % y) :: rest }) target) : Steps p.tables e below (T.setTop g) target := by
  have q : x - (x / y) * y = x % y := lrem_mod x y
  exact XS.lrem X.here hx hg hd hs hy (by rw [q]; exact hr)
end New
/-! own: a long's comparison, an array by a function -/
theorem own_tltL {x y : Int64} (h : x < y) : ifCond.holds .lt (lcmpW x y) = true ∧ ifCond.holds .ge (lcmpW x y) = false ∧ ifCond.holds .gt (lcmpW y x) = true ∧ ifCond.holds .le (lcmpW y x) = false := by
  have h1 := (lc_lt x y).mpr h
  have h2 := (lc_gt y x).mpr h
  rw [← lcW] at h1 h2
  simp only [if0]
  exact ⟨(tlt h1).1, (tlt h1).2.1, (tlt h2).2.2.1, (tlt h2).2.2.2⟩
theorem own_fltL {x y : Int64} (h : ¬ x < y) : ifCond.holds .lt (lcmpW x y) = false ∧ ifCond.holds .ge (lcmpW x y) = true ∧ ifCond.holds .gt (lcmpW y x) = false ∧ ifCond.holds .le (lcmpW y x) = true := by
  have h1 := mt (lc_lt x y).mp h
  have h2 := mt (lc_gt y x).mp h
  rw [← lcW] at h1 h2
  simp only [if0]
  exact ⟨(flt h1).1, (flt h1).2.1, (flt h2).2.2.1, (flt h2).2.2.2⟩
theorem own_teqL {x y : Int64} (h : x = y) : ifCond.holds .eq (lcmpW x y) = true ∧ ifCond.holds .ne (lcmpW x y) = false := by
  have h1 := (lc_eq x y).mpr h
  rw [← lcW] at h1
  simp only [if0]
  exact teq h1
theorem own_feqL {x y : Int64} (h : ¬ x = y) : ifCond.holds .eq (lcmpW x y) = false ∧ ifCond.holds .ne (lcmpW x y) = true := by
  have h1 := mt (lc_eq x y).mp h
  rw [← lcW] at h1
  simp only [if0]
  exact feq h1
theorem own_iadd {x y : Int32} {X Y : Int} (hx : x.toInt = X) (hy : y.toInt = Y) (h1 : -2147483648 ≤ X + Y) (h2 : X + Y < 2147483648) : (x + y).toInt = X + Y := by
  have := c_iadd x y; have := rng32 (x + y); omega
theorem own_isub {x y : Int32} {X Y : Int} (hx : x.toInt = X) (hy : y.toInt = Y) (h1 : -2147483648 ≤ X - Y) (h2 : X - Y < 2147483648) : (x - y).toInt = X - Y := by
  have := c_isub x y; have := rng32 (x - y); omega
theorem own_imul {x y : Int32} {X Y : Int} (hx : x.toInt = X) (hy : y.toInt = Y) (h1 : -2147483648 ≤ X * Y) (h2 : X * Y < 2147483648) : (x * y).toInt = X * Y := by
  have := c_imul x y; have := rng32 (x * y); subst hx hy; omega
theorem own_ladd {x y : Int64} {X Y : Int} (hx : x.toInt = X) (hy : y.toInt = Y) (h1 : -9223372036854775808 ≤ X + Y) (h2 : X + Y < 9223372036854775808) : (x + y).toInt = X + Y := by
  have := c_ladd x y; have := rng64 (x + y); omega
theorem own_lsub {x y : Int64} {X Y : Int} (hx : x.toInt = X) (hy : y.toInt = Y) (h1 : -9223372036854775808 ≤ X - Y) (h2 : X - Y < 9223372036854775808) : (x - y).toInt = X - Y := by
  have := c_lsub x y; have := rng64 (x - y); omega
theorem own_lmul {x y : Int64} {X Y : Int} (hx : x.toInt = X) (hy : y.toInt = Y) (h1 : -9223372036854775808 ≤ X * Y) (h2 : X * Y < 9223372036854775808) : (x * y).toInt = X * Y := by
  have := c_lmul x y; have := rng64 (x * y); subst hx hy; omega
theorem own_maskL (x m : Int64) (k : Nat) (M : Int) (hM : m.toInt = M) (hk : k ≤ 63) (hm : m.toBitVec.toNat = 2 ^ k - 1) : 0 ≤ (x &&& m).toInt ∧ (x &&& m).toInt ≤ M := by
  have h := c_maskL x m k hk hm
  have h2 := c_maskL m m k hk hm
  have e : m &&& m = m := by simp
  rw [e] at h2
  have p : (0 : Int) < ((2 ^ k : Nat) : Int) := by have := Nat.two_pow_pos k; omega
  have a1 := Int.emod_nonneg x.toInt (show ((2 ^ k : Nat) : Int) ≠ 0 by omega)
  have a2 := Int.emod_lt_of_pos x.toInt p
  have hmi : m.toInt = ((2 ^ k - 1 : Nat) : Int) := by
    have h3 : m.toInt = (m.toBitVec.toNat : Int) := by
      show m.toBitVec.toInt = _
      rw [BitVec.toInt_eq_toNat_cond, hm]
      have : 2 ^ k ≤ 2 ^ 63 := Nat.pow_le_pow_right (by decide) hk
      split <;> omega
    rw [h3, hm]
  omega
theorem own_nb (x : Int32) : nar .byte (x.toInt8.toInt32) = x.toInt8.toInt32 := by
  show (x.toInt8.toInt32).toInt8.toInt32 = _
  simp
theorem own_sel {args : Array Value} {s : State} {y z : MethodName} (hi : (Cond.instanceMethod y).before args s = true) (hp : (Cond.privateMethod y).before args s = true) (h2 : (Cond.selects y.cls z z).before args s = true) (hc : z.cls = y.cls)
    (hy : y.cls ≠ "java/lang/invoke/MethodHandle" ∧ y.cls ≠ "java/lang/invoke/VarHandle") : (Cond.selects y.cls y y).before args s = true := by
  obtain ⟨mk, meth, hn, hm, -, -⟩ := Cond.instanceMethod_spec hi
  obtain ⟨c, r, m2, -, -, f3, -, k, f4, f5⟩ := Cond.selects_spec h2
  have e1 := findClass_of_methodNamed hn
  have e2 := findClass_of_methodNamed f3
  rw [hc, e1] at e2
  have e3 : m2.cls = mk.cls := (Option.some.inj e2).symm
  have e4 := State.methodFound?_of_named hn hy
  have e5 := selectMethod_private (p := {}) (c := mk.cls) hm (Cond.privateMethod_at hp mk meth hn hm)
  rw [e3] at f4
  simp [Cond.before, Cond.holds, Cond.value, e1, e4, hn, e5, f4, f5]
def AF (Z : State) (h : Heap) (a : Addr) (ty : FieldType) (n : Nat) (g : Nat → Value) : Prop := ∃ c : Cell, Arr Z h a c ty ∧ c.slots.size = n ∧ ∀ j, j < n → c.slots[j]? = some (g j)
abbrev AI (Z : State) (h : Heap) (a : Addr) (ty : FieldType) (n : Nat) (f : Nat → Int32) : Prop := AF Z h a ty n (fun j => .int (f j))
abbrev AJ (Z : State) (h : Heap) (a : Addr) (ty : FieldType) (n : Nat) (f : Nat → Int64) : Prop := AF Z h a ty n (fun j => .long (f j))
abbrev AD (Z : State) (h : Heap) (a : Addr) (ty : FieldType) (n : Nat) (f : Nat → UInt64) : Prop := AF Z h a ty n (fun j => .double (f j))
def up {α : Type} (f : Nat → α) (i : Nat) (v : α) : Nat → α := fun j => if j = i then v else f j
def zI : Nat → Int32 := fun _ => 0
def zJ : Nat → Int64 := fun _ => 0
section Arrs
variable {Z : State} {h h' : Heap} {a b : Addr} {ty : FieldType} {n : Nat} {g g' : Nat → Value}
theorem AF.lt (F : AF Z h a ty n g) : a < h.size := by obtain ⟨c, A, -⟩ := F; exact A.lt
theorem AF.ext (F : AF Z h a ty n g) (E : Ext h h') : AF Z h' a ty n g := by obtain ⟨c, A, r⟩ := F; exact ⟨c, A.ext E, r⟩
theorem AF.other {sl : Nat} {v : Value} (F : AF Z h b ty n g) (W : Wr h h' a sl v) (q : b ≠ a) : AF Z h' b ty n g := by obtain ⟨c, A, r⟩ := F; exact ⟨c, A.other W q, r⟩
theorem AF.keep {ws : List Addr} (F : AF Z h a ty n g) (K : Keep h h' ws) (q : a ∉ ws) : AF Z h' a ty n g := by obtain ⟨c, A, r⟩ := F; exact ⟨c, ⟨K.2.1 a c A.1 q, A.2⟩, r⟩
theorem AF.re (F : AF Z h a ty n g) (q : ∀ j, j < n → g j = g' j) : AF Z h a ty n g' := by obtain ⟨c, A, S, H⟩ := F; exact ⟨c, A, S, fun j hj => by rw [H j hj, q j hj]⟩
theorem AF.at (F : AF Z h a ty n g) {j : Int32} (i : Nat) (hj : j.toInt = i) (hi : i < n) : ∃ c : Cell, Arr Z h a c ty ∧ ¬ (j < 0 ∨ c.slots.size ≤ j.toNatClampNeg) ∧ c.slots[j.toNatClampNeg]? = some (g i) := by
  obtain ⟨c, A, S, H⟩ := F
  have e : j.toNatClampNeg = i := by simp only [Int32.toNatClampNeg, hj]; omega
  refine ⟨c, A, ?_, by rw [e]; exact H i hi⟩
  rw [e, S, Int32.lt_iff_toInt_lt, hj]
  have : (0 : Int32).toInt = 0 := rfl
  omega
theorem AF.len (F : AF Z h a ty n g) : ∃ c : Cell, Arr Z h a c ty ∧ c.slots.size = n := by obtain ⟨c, A, S, -⟩ := F; exact ⟨c, A, S⟩
theorem AF.set {k : Nat} {v : Value} (F : AF Z h a ty n g) (W : Wr h h' a k v) : AF Z h' a ty n (fun j => if j = k then v else g j) := by
  obtain ⟨c, A, S, H⟩ := F
  refine ⟨_, A.same W, by rw [sz_set]; exact S, fun j hj => ?_⟩
  by_cases q : j = k
  · subst q; simp [Cell.setSlot, S, hj]
  · show _ = some (if j = k then v else g j)
    rw [if_neg q]; have := H j hj; simp only [Cell.setSlot] at this ⊢; rw [Array.getElem?_setIfInBounds_ne (Ne.symm q)]; exact this
theorem own_tn {j : Int32} {i : Nat} (hj : j.toInt = i) : j.toNatClampNeg = i := by simp only [Int32.toNatClampNeg, hj]; omega
theorem AF.setI {f : Nat → Int32} {j : Int32} {v : Int32} (F : AI Z h a ty n f) (W : Wr h h' a j.toNatClampNeg (.int v)) (i : Nat) (hj : j.toInt = i) : AI Z h' a ty n (up f i v) := by
  rw [own_tn hj] at W
  exact (AF.set F W).re fun k _ => by by_cases q : k = i <;> simp [up, q]
theorem AF.setJ {f : Nat → Int64} {j : Int32} {v : Int64} (F : AJ Z h a ty n f) (W : Wr h h' a j.toNatClampNeg (.long v)) (i : Nat) (hj : j.toInt = i) : AJ Z h' a ty n (up f i v) := by
  rw [own_tn hj] at W
  exact (AF.set F W).re fun k _ => by by_cases q : k = i <;> simp [up, q]
theorem AF.setD {f : Nat → UInt64} {j : Int32} {v : UInt64} (F : AD Z h a ty n f) (W : Wr h h' a j.toNatClampNeg (.double v)) (i : Nat) (hj : j.toInt = i) : AD Z h' a ty n (up f i v) := by
  rw [own_tn hj] at W
  exact (AF.set F W).re fun k _ => by by_cases q : k = i <;> simp [up, q]
theorem AF.new {k : ClassId} {z : Int32} (A : Arr Z h a (newA k ty z) ty) (hz : z.toInt = n) : AF Z h a ty n (fun _ => defaultValue ty) :=
  ⟨_, A, by rw [sz_new]; exact own_tn hz, fun j hj => by simp [newA, own_tn hz, hj]⟩
end Arrs
end Jvm.RoadKit
namespace Jvm.Pilot.@@N@@
open Jvm Jvm.ClassFile Sem Op Lib Jvm.Free Jvm.Stand Jvm.LawKit Jvm.RoadKit Bundle Jvm.Pilot.@@N@@.Jvm.D
theorem ef_1 (m : MethodId) (vv : Int32) (ii : Int32) (fr : Int32) (to : Int32) : entryFrame m #[(.int vv), (.int ii), (.int fr), (.int to)] 4 = mkF m 0 #[.val (.int vv), .val (.int ii), .val (.int fr), .val (.int to)] [] := by first | (simp [entryFrame, mkF, argsToLocals, Value.category]; done) | rfl
theorem d1_0 : decode method_3_code 0 = .ok (.iload_n 2, 1) := by decide +kernel
theorem d1_1 : decode method_3_code 1 = .ok (.iload_n 1, 1) := by decide +kernel
theorem d1_2 : decode method_3_code 2 = .ok (.if_icmp .gt 14, 3) := by decide +kernel
theorem d1_16 : decode method_3_code 16 = .ok (.iconst 0, 1) := by decide +kernel
theorem d1_17 : decode method_3_code 17 = .ok (.ireturn, 1) := by decide +kernel
theorem d1_5 : decode method_3_code 5 = .ok (.iload_n 1, 1) := by decide +kernel
theorem d1_6 : decode method_3_code 6 = .ok (.iload_n 3, 1) := by decide +kernel
theorem d1_7 : decode method_3_code 7 = .ok (.if_icmp .ge 9, 3) := by decide +kernel
theorem d1_10 : decode method_3_code 10 = .ok (.iload_n 0, 1) := by decide +kernel
theorem d1_11 : decode method_3_code 11 = .ok (.sipush 255, 3) := by decide +kernel
theorem d1_14 : decode method_3_code 14 = .ok (.iand, 1) := by decide +kernel
theorem d1_15 : decode method_3_code 15 = .ok (.ireturn, 1) := by decide +kernel
def r1_v (vv : Int32) (ii : Int32) (fr : Int32) (to : Int32) : Int32 := (if ii < fr then (0 : Int32) else (if ii < to then (vv &&& (255 : Int32)) else (0 : Int32)))
theorem pn_com_example_tillwire_tillwire_core_check_ByteSumOfPinLaw : plainName "com/example/tillwire/tillwire/core/check/ByteSumOfPinLaw" = true := by first | (simp [plainName, overriddenIn]; done) | decide +kernel
def Q1 (Z : State) (vv : Int32) (ii : Int32) (fr : Int32) (to : Int32) (h0 : Heap) (n0 : Nat) (v : Option Value) (h : Heap) (L : List Loc) : Prop := v = some (.int (r1_v vv ii fr to)) ∧ Fr n0 L ∧ h = h0
set_option maxRecDepth 65536 in
set_option maxHeartbeats 40000000 in
theorem rm1 (l : Launch) (Z : State) (a0 : Array Value) (hw : ∀ d ∈ tables_1, d.before a0 Z = true) (ws : List Jvm.Cond) (vv : Int32) (ii : Int32) (fr : Int32) (to : Int32) (h0 : Heap) (n0 : Nat) (Z0 : n0 ≤ h0.size) :
    MetFree l (⟨"com/example/tillwire/tillwire/core/check/ByteSumOfPinLaw", "term", "(IIII)I"⟩ : MethodName) (head1 (Jvm.Cond.code (⟨"com/example/tillwire/tillwire/core/check/ByteSumOfPinLaw", "term", "(IIII)I"⟩ : MethodName) method_3_code 4 (some .int) :: ws) ({ frames := 0, cells := 0, slots := 0, locals := 0 } : Room)) (fun a U => a = #[(.int vv), (.int ii), (.int fr), (.int to)] ∧ Z.Warmed39 U.vm ∧ U.heap = h0) (fun _ _ _ _ _ => True) (fun _ U o U' => ∃ v L, o = .returned v ∧ Q1 Z vv ii fr to h0 n0 v U'.heap L ∧ FrameEnd U o U' L ({ frames := 0, cells := 0, slots := 0, locals := 0 } : Room).cells ({ frames := 0, cells := 0, slots := 0, locals := 0 } : Room).slots) := by
  refine MetFree.of_bodySF (plainFor_of_name pn_com_example_tillwire_tillwire_core_check_ByteSumOfPinLaw) hisR ?_
  intro p e s m args below meth c s₁ Bd hml0 hP hK
  obtain ⟨rfl, hZ, hh⟩ := hP
  have hx := Bd.exec
  have hby := Bd.bytes
  have hml : c.maxLocals = 4 := hml0
  have hown : s.vm.findClass "com/example/tillwire/tillwire/core/check/ByteSumOfPinLaw" = some m.cls := findClass_of_methodNamed Bd.named
  have hnm := (name_of_methodNamed Bd.named Bd.method).1
  have X0 : Stand p l e ({ frames := 0, cells := 0, slots := 0, locals := 0 } : Room) s m #[(.int vv), (.int ii), (.int fr), (.int to)] below meth c s₁ [] 0 0 := Stand.of_body Bd
  have e0 : s₁.heap = h0 := by rw [← hh, Bd.state]; rfl
  have N0 := Fr.nil n0
  have K0 : Keep h0 h0 [] := Keep.refl h0 _
  have pre0 : ∀ t, Steps p.tables e below (s₁.setTop (mkF m 0 #[.val (.int vv), .val (.int ii), .val (.int fr), .val (.int to)] [])) t → Steps p.tables e below (s₁.setTop (entryFrame m #[(.int vv), (.int ii), (.int fr), (.int to)] 4)) t := fun t k => castTop (ef_1 m vv ii fr to) k
  have pre1 : ∀ t, Steps p.tables e below (s₁.setTop (mkF m 2 #[.val (.int vv), .val (.int ii), .val (.int fr), .val (.int to)] [(.int ii), (.int fr)])) t → Steps p.tables e below (s₁.setTop (entryFrame m #[(.int vv), (.int ii), (.int fr), (.int to)] 4)) t := by
    intro t k
    refine pre0 _ ?_
    show Steps p.tables e below (s₁.setTop (mkF m 0 #[.val (.int vv), .val (.int ii), .val (.int fr), .val (.int to)] [])) _
    refine XS.iloadN X0.here hx rfl (hb hby d1_0) rfl ?_
    show Steps p.tables e below (s₁.setTop (mkF m 1 #[.val (.int vv), .val (.int ii), .val (.int fr), .val (.int to)] [(.int fr)])) _
    refine XS.iloadN X0.here hx rfl (hb hby d1_1) rfl ?_
    exact k
  by_cases hk2 : ii < fr
  · obtain ⟨fs, hr, hrun, hended, hW, hsame⟩ := X0.leave (v := some (.int (0 : Int32))) (fun h => by rw [Bd.returns] at h; cases h)
    refine ⟨_, _, pre1 _ ?_, hrun, hended, _, _, rfl, ?_, ⟨_, rfl⟩, hW, hsame.mono (by decide) (by decide)⟩
    · show Steps p.tables e below (s₁.setTop (mkF m 2 #[.val (.int vv), .val (.int ii), .val (.int fr), .val (.int to)] [(.int ii), (.int fr)])) _
      refine XS.icmpYes X0.here hx rfl (pc0 := 2) (pc' := 16) rfl (hb hby d1_2) rfl (tlt hk2).2.2.1 (by decide) (by decide) ?_
      show Steps p.tables e below (s₁.setTop (mkF m 16 #[.val (.int vv), .val (.int ii), .val (.int fr), .val (.int to)] [])) _
      refine XS.iconst X0.here hx rfl (hb hby d1_16) ?_
      show Steps p.tables e below (s₁.setTop (mkF m 17 #[.val (.int vv), .val (.int ii), .val (.int fr), .val (.int to)] [(.int (0 : Int32))])) _
      exact retI X0 hx Bd.returns (hb hby d1_17) hr
    · show Q1 Z vv ii fr to h0 n0 _ s₁.heap _
      rw [e0]
      have ev5 : (r1_v vv ii fr to) = (0 : Int32) := by unfold r1_v; rw [if_pos hk2]
      exact ⟨(congrArg (fun z => some (Value.int z)) ev5.symm), N0, rfl⟩
  · have pre3 : ∀ t, Steps p.tables e below (s₁.setTop (mkF m 7 #[.val (.int vv), .val (.int ii), .val (.int fr), .val (.int to)] [(.int to), (.int ii)])) t → Steps p.tables e below (s₁.setTop (entryFrame m #[(.int vv), (.int ii), (.int fr), (.int to)] 4)) t := by
      intro t k
      refine pre1 _ ?_
      show Steps p.tables e below (s₁.setTop (mkF m 2 #[.val (.int vv), .val (.int ii), .val (.int fr), .val (.int to)] [(.int ii), (.int fr)])) _
      refine XS.icmpNo X0.here hx rfl (hb hby d1_2) rfl (flt hk2).2.2.1 ?_
      show Steps p.tables e below (s₁.setTop (mkF m 5 #[.val (.int vv), .val (.int ii), .val (.int fr), .val (.int to)] [])) _
      refine XS.iloadN X0.here hx rfl (hb hby d1_5) rfl ?_
      show Steps p.tables e below (s₁.setTop (mkF m 6 #[.val (.int vv), .val (.int ii), .val (.int fr), .val (.int to)] [(.int ii)])) _
      refine XS.iloadN X0.here hx rfl (hb hby d1_6) rfl ?_
      exact k
    by_cases hk4 : ii < to
    · obtain ⟨fs, hr, hrun, hended, hW, hsame⟩ := X0.leave (v := some (.int (vv &&& (255 : Int32)))) (fun h => by rw [Bd.returns] at h; cases h)
      refine ⟨_, _, pre3 _ ?_, hrun, hended, _, _, rfl, ?_, ⟨_, rfl⟩, hW, hsame.mono (by decide) (by decide)⟩
      · show Steps p.tables e below (s₁.setTop (mkF m 7 #[.val (.int vv), .val (.int ii), .val (.int fr), .val (.int to)] [(.int to), (.int ii)])) _
        refine XS.icmpNo X0.here hx rfl (hb hby d1_7) rfl (tlt hk4).2.1 ?_
        show Steps p.tables e below (s₁.setTop (mkF m 10 #[.val (.int vv), .val (.int ii), .val (.int fr), .val (.int to)] [])) _
        refine XS.iloadN X0.here hx rfl (hb hby d1_10) rfl ?_
        show Steps p.tables e below (s₁.setTop (mkF m 11 #[.val (.int vv), .val (.int ii), .val (.int fr), .val (.int to)] [(.int vv)])) _
        refine XS.sipush X0.here hx rfl (hb hby d1_11) ?_
        show Steps p.tables e below (s₁.setTop (mkF m 14 #[.val (.int vv), .val (.int ii), .val (.int fr), .val (.int to)] [(.int (255 : Int32)), (.int vv)])) _
        refine XS.iand X0.here hx rfl (hb hby d1_14) rfl ?_
        show Steps p.tables e below (s₁.setTop (mkF m 15 #[.val (.int vv), .val (.int ii), .val (.int fr), .val (.int to)] [(.int (vv &&& (255 : Int32)))])) _
        exact retI X0 hx Bd.returns (hb hby d1_15) hr
      · show Q1 Z vv ii fr to h0 n0 _ s₁.heap _
        rw [e0]
        have ev6 : (r1_v vv ii fr to) = (vv &&& (255 : Int32)) := by unfold r1_v; rw [if_neg hk2, if_pos hk4]
        exact ⟨(congrArg (fun z => some (Value.int z)) ev6.symm), N0, rfl⟩
    · obtain ⟨fs, hr, hrun, hended, hW, hsame⟩ := X0.leave (v := some (.int (0 : Int32))) (fun h => by rw [Bd.returns] at h; cases h)
      refine ⟨_, _, pre3 _ ?_, hrun, hended, _, _, rfl, ?_, ⟨_, rfl⟩, hW, hsame.mono (by decide) (by decide)⟩
      · show Steps p.tables e below (s₁.setTop (mkF m 7 #[.val (.int vv), .val (.int ii), .val (.int fr), .val (.int to)] [(.int to), (.int ii)])) _
        refine XS.icmpYes X0.here hx rfl (pc0 := 7) (pc' := 16) rfl (hb hby d1_7) rfl (flt hk4).2.1 (by decide) (by decide) ?_
        show Steps p.tables e below (s₁.setTop (mkF m 16 #[.val (.int vv), .val (.int ii), .val (.int fr), .val (.int to)] [])) _
        refine XS.iconst X0.here hx rfl (hb hby d1_16) ?_
        show Steps p.tables e below (s₁.setTop (mkF m 17 #[.val (.int vv), .val (.int ii), .val (.int fr), .val (.int to)] [(.int (0 : Int32))])) _
        exact retI X0 hx Bd.returns (hb hby d1_17) hr
      · show Q1 Z vv ii fr to h0 n0 _ s₁.heap _
        rw [e0]
        have ev7 : (r1_v vv ii fr to) = (0 : Int32) := by unfold r1_v; rw [if_neg hk2, if_neg hk4]
        exact ⟨(congrArg (fun z => some (Value.int z)) ev7.symm), N0, rfl⟩
theorem d2_5 : decode prog_13_method_2_code 5 = .ok (.iload 4, 2) := by decide +kernel
theorem d2_7 : decode prog_13_method_2_code 7 = .ok (.iload_n 2, 1) := by decide +kernel
theorem d2_8 : decode prog_13_method_2_code 8 = .ok (.if_icmp .ge 20, 3) := by decide +kernel
theorem d2_11 : decode prog_13_method_2_code 11 = .ok (.iload_n 3, 1) := by decide +kernel
theorem d2_12 : decode prog_13_method_2_code 12 = .ok (.aload_n 0, 1) := by decide +kernel
theorem d2_13 : decode prog_13_method_2_code 13 = .ok (.iload 4, 2) := by decide +kernel
theorem d2_15 : decode prog_13_method_2_code 15 = .ok (.baload, 1) := by decide +kernel
theorem d2_16 : decode prog_13_method_2_code 16 = .ok (.sipush 255, 3) := by decide +kernel
theorem d2_19 : decode prog_13_method_2_code 19 = .ok (.iand, 1) := by decide +kernel
theorem d2_20 : decode prog_13_method_2_code 20 = .ok (.iadd, 1) := by decide +kernel
theorem d2_21 : decode prog_13_method_2_code 21 = .ok (.istore_n 3, 1) := by decide +kernel
theorem d2_22 : decode prog_13_method_2_code 22 = .ok (.iinc 4 1, 3) := by decide +kernel
theorem d2_25 : decode prog_13_method_2_code 25 = .ok (.goto (-20), 3) := by decide +kernel
set_option maxRecDepth 65536 in
set_option maxHeartbeats 40000000 in
theorem tn2 {p : Program} {l : Launch} {e : Env} {R : Room} {s : State} {m : MethodId} {args : Array Value} {below : List Frame} {meth : Method} {c : Code} {T0 : State} {locs : List Loc} {cells slots : Nat} {Z : State} {a0 : Array Value} {h0 : Heap} (ra : Addr) (fr : Int32) (to : Int32) (su : Int32) (ii : Int32) (nn : Nat) (fb : Nat → Int32) (inn : Nat)
    (X0 : Stand p l e R s m args below meth c T0 locs cells slots) (hx : p.tables.exec = Jvm.exec) (hZ : Z.Warmed39 s.vm) (hw : ∀ d ∈ tables_1, d.before a0 Z = true) (hby : c.code = prog_13_method_2_code) (hml : c.maxLocals = 5) (hown : s.vm.findClass "com/example/tillwire/tillwire/core/check/ByteSum" = some m.cls) (e0 : T0.heap = h0) (A_ra : AI Z h0 ra .byte nn fb) (hii : ii.toInt = inn) (hin : inn < nn) (hc8 : (ii < to)) :
    ∃ T' : State, Stand p l e R s m args below meth c T' locs cells slots ∧ T'.heap = h0 ∧ ∀ t, Steps p.tables e below (T'.setTop (mkF m 5 #[.val (.ref ra), .val (.int fr), .val (.int to), .val (.int (su + ((fb inn) &&& (255 : Int32)))), .val (.int (ii + (1 : Int32)))] [])) t → Steps p.tables e below (T0.setTop (mkF m 5 #[.val (.ref ra), .val (.int fr), .val (.int to), .val (.int su), .val (.int ii)] [])) t := by
  have pre0 : ∀ t, Steps p.tables e below (T0.setTop (mkF m 5 #[.val (.ref ra), .val (.int fr), .val (.int to), .val (.int su), .val (.int ii)] [])) t → Steps p.tables e below (T0.setTop (mkF m 5 #[.val (.ref ra), .val (.int fr), .val (.int to), .val (.int su), .val (.int ii)] [])) t := fun t k => k
  obtain ⟨cl1, Arcl1, hincl1, hatcl1⟩ := AF.at A_ra (j := ii) inn hii hin
  have pre2 : ∀ t, Steps p.tables e below (T0.setTop (mkF m 5 #[.val (.ref ra), .val (.int fr), .val (.int to), .val (.int (su + ((fb inn) &&& (255 : Int32)))), .val (.int (ii + (1 : Int32)))] [])) t → Steps p.tables e below (T0.setTop (mkF m 5 #[.val (.ref ra), .val (.int fr), .val (.int to), .val (.int su), .val (.int ii)] [])) t := by
    intro t k
    refine pre0 _ ?_
    show Steps p.tables e below (T0.setTop (mkF m 5 #[.val (.ref ra), .val (.int fr), .val (.int to), .val (.int su), .val (.int ii)] [])) _
    refine XS.iload X0.here hx rfl (hb hby d2_5) rfl ?_
    show Steps p.tables e below (T0.setTop (mkF m 7 #[.val (.ref ra), .val (.int fr), .val (.int to), .val (.int su), .val (.int ii)] [(.int ii)])) _
    refine XS.iloadN X0.here hx rfl (hb hby d2_7) rfl ?_
    show Steps p.tables e below (T0.setTop (mkF m 8 #[.val (.ref ra), .val (.int fr), .val (.int to), .val (.int su), .val (.int ii)] [(.int to), (.int ii)])) _
    refine XS.icmpNo X0.here hx rfl (hb hby d2_8) rfl (tlt hc8).2.1 ?_
    show Steps p.tables e below (T0.setTop (mkF m 11 #[.val (.ref ra), .val (.int fr), .val (.int to), .val (.int su), .val (.int ii)] [])) _
    refine XS.iloadN X0.here hx rfl (hb hby d2_11) rfl ?_
    show Steps p.tables e below (T0.setTop (mkF m 12 #[.val (.ref ra), .val (.int fr), .val (.int to), .val (.int su), .val (.int ii)] [(.int su)])) _
    refine XS.aloadN X0.here hx rfl (hb hby d2_12) rfl rfl ?_
    show Steps p.tables e below (T0.setTop (mkF m 13 #[.val (.ref ra), .val (.int fr), .val (.int to), .val (.int su), .val (.int ii)] [(.ref ra), (.int su)])) _
    refine XS.iload X0.here hx rfl (hb hby d2_13) rfl ?_
    show Steps p.tables e below (T0.setTop (mkF m 15 #[.val (.ref ra), .val (.int fr), .val (.int to), .val (.int su), .val (.int ii)] [(.int ii), (.ref ra), (.int su)])) _
    refine X0.baloadBytes hx (j := ii) (v := (.int (fb inn))) (by rw [e0]; exact Arcl1.1) (State.isArrayOf_alike hZ.alike Arcl1.2.1) Arcl1.2.2 hincl1 hatcl1 (g := (mkF m 15 #[.val (.ref ra), .val (.int fr), .val (.int to), .val (.int su), .val (.int ii)] [(.int ii), (.ref ra), (.int su)])) rfl rfl (hb hby d2_15) _ ?_
    show Steps p.tables e below (T0.setTop (mkF m 16 #[.val (.ref ra), .val (.int fr), .val (.int to), .val (.int su), .val (.int ii)] [(.int (fb inn)), (.int su)])) _
    refine XS.sipush X0.here hx rfl (hb hby d2_16) ?_
    show Steps p.tables e below (T0.setTop (mkF m 19 #[.val (.ref ra), .val (.int fr), .val (.int to), .val (.int su), .val (.int ii)] [(.int (255 : Int32)), (.int (fb inn)), (.int su)])) _
    refine XS.iand X0.here hx rfl (hb hby d2_19) rfl ?_
    show Steps p.tables e below (T0.setTop (mkF m 20 #[.val (.ref ra), .val (.int fr), .val (.int to), .val (.int su), .val (.int ii)] [(.int ((fb inn) &&& (255 : Int32))), (.int su)])) _
    refine XS.iadd X0.here hx rfl (hb hby d2_20) rfl ?_
    show Steps p.tables e below (T0.setTop (mkF m 21 #[.val (.ref ra), .val (.int fr), .val (.int to), .val (.int su), .val (.int ii)] [(.int (su + ((fb inn) &&& (255 : Int32))))])) _
    refine XS.istoreN X0.here hx rfl (hb hby d2_21) rfl (l' := #[.val (.ref ra), .val (.int fr), .val (.int to), .val (.int (su + ((fb inn) &&& (255 : Int32)))), .val (.int ii)]) rfl ?_
    show Steps p.tables e below (T0.setTop (mkF m 22 #[.val (.ref ra), .val (.int fr), .val (.int to), .val (.int (su + ((fb inn) &&& (255 : Int32)))), .val (.int ii)] [])) _
    refine XS.iinc X0.here hx rfl (hb hby d2_22) rfl (l' := #[.val (.ref ra), .val (.int fr), .val (.int to), .val (.int (su + ((fb inn) &&& (255 : Int32)))), .val (.int (ii + (1 : Int32)))]) rfl ?_
    show Steps p.tables e below (T0.setTop (mkF m 25 #[.val (.ref ra), .val (.int fr), .val (.int to), .val (.int (su + ((fb inn) &&& (255 : Int32)))), .val (.int (ii + (1 : Int32)))] [])) _
    refine XS.goto X0.here hx rfl (pc0 := 25) (pc' := 5) rfl (hb hby d2_25) (by decide) (by decide) ?_
    exact k
  exact ⟨_, X0, e0, pre2⟩
set_option maxRecDepth 65536 in
set_option maxHeartbeats 40000000 in
theorem lv2 {p : Program} {l : Launch} {e : Env} {R : Room} {s : State} {m : MethodId} {args : Array Value} {below : List Frame} {meth : Method} {c : Code} {T0 : State} {locs : List Loc} {cells slots : Nat} {Z : State} {a0 : Array Value} {h0 : Heap} (ra : Addr) (fr : Int32) (to : Int32) (su : Int32) (ii : Int32)
    (X0 : Stand p l e R s m args below meth c T0 locs cells slots) (hx : p.tables.exec = Jvm.exec) (hZ : Z.Warmed39 s.vm) (hw : ∀ d ∈ tables_1, d.before a0 Z = true) (hby : c.code = prog_13_method_2_code) (hml : c.maxLocals = 5) (hown : s.vm.findClass "com/example/tillwire/tillwire/core/check/ByteSum" = some m.cls) (e0 : T0.heap = h0) (hc8 : ¬ (ii < to)) :
    ∃ T' : State, Stand p l e R s m args below meth c T' locs cells slots ∧ T'.heap = h0 ∧ ∀ t, Steps p.tables e below (T'.setTop (mkF m 28 #[.val (.ref ra), .val (.int fr), .val (.int to), .val (.int su), .val (.int ii)] [])) t → Steps p.tables e below (T0.setTop (mkF m 5 #[.val (.ref ra), .val (.int fr), .val (.int to), .val (.int su), .val (.int ii)] [])) t := by
  have pre0 : ∀ t, Steps p.tables e below (T0.setTop (mkF m 5 #[.val (.ref ra), .val (.int fr), .val (.int to), .val (.int su), .val (.int ii)] [])) t → Steps p.tables e below (T0.setTop (mkF m 5 #[.val (.ref ra), .val (.int fr), .val (.int to), .val (.int su), .val (.int ii)] [])) t := fun t k => k
  have pre1 : ∀ t, Steps p.tables e below (T0.setTop (mkF m 28 #[.val (.ref ra), .val (.int fr), .val (.int to), .val (.int su), .val (.int ii)] [])) t → Steps p.tables e below (T0.setTop (mkF m 5 #[.val (.ref ra), .val (.int fr), .val (.int to), .val (.int su), .val (.int ii)] [])) t := by
    intro t k
    refine pre0 _ ?_
    show Steps p.tables e below (T0.setTop (mkF m 5 #[.val (.ref ra), .val (.int fr), .val (.int to), .val (.int su), .val (.int ii)] [])) _
    refine XS.iload X0.here hx rfl (hb hby d2_5) rfl ?_
    show Steps p.tables e below (T0.setTop (mkF m 7 #[.val (.ref ra), .val (.int fr), .val (.int to), .val (.int su), .val (.int ii)] [(.int ii)])) _
    refine XS.iloadN X0.here hx rfl (hb hby d2_7) rfl ?_
    show Steps p.tables e below (T0.setTop (mkF m 8 #[.val (.ref ra), .val (.int fr), .val (.int to), .val (.int su), .val (.int ii)] [(.int to), (.int ii)])) _
    refine XS.icmpYes X0.here hx rfl (pc0 := 8) (pc' := 28) rfl (hb hby d2_8) rfl (flt hc8).2.1 (by decide) (by decide) ?_
    exact k
  exact ⟨_, X0, e0, pre1⟩
def own_sum (fb : Nat → Int32) : Nat → Nat → Int32 → Int32
  | 0, _, su => su
  | k + 1, i, su => own_sum fb k (i + 1) (su + (fb i &&& (255 : Int32)))
set_option maxRecDepth 65536 in
set_option maxHeartbeats 40000000 in
theorem loop2 {p : Program} {l : Launch} {e : Env} {R : Room} {s : State} {m : MethodId} {args : Array Value} {below : List Frame} {meth : Method} {c : Code} {locs : List Loc} {cells slots : Nat} {Z : State} {a0 : Array Value} {h0 : Heap} (ra : Addr) (fr to : Int32) (nn : Nat) (fb : Nat → Int32)
    (hx : p.tables.exec = Jvm.exec) (hZ : Z.Warmed39 s.vm) (hw : ∀ d ∈ tables_1, d.before a0 Z = true) (hby : c.code = prog_13_method_2_code) (hml : c.maxLocals = 5) (hown : s.vm.findClass "com/example/tillwire/tillwire/core/check/ByteSum" = some m.cls) (A_ra : AI Z h0 ra .byte nn fb) (hn : nn ≤ 1000) : ∀ (k inn : Nat) (ii su : Int32) (T0 : State) (X0 : Stand p l e R s m args below meth c T0 locs cells slots) (e0 : T0.heap = h0) (hii : ii.toInt = inn) (hto : to.toInt = inn + k) (hk : inn + k ≤ nn),
    ∃ T' : State, Stand p l e R s m args below meth c T' locs cells slots ∧ T'.heap = h0 ∧ ∀ t, Steps p.tables e below (T'.setTop (mkF m 28 #[.val (.ref ra), .val (.int fr), .val (.int to), .val (.int (own_sum fb k inn su)), .val (.int to)] [])) t → Steps p.tables e below (T0.setTop (mkF m 5 #[.val (.ref ra), .val (.int fr), .val (.int to), .val (.int su), .val (.int ii)] [])) t := by
  intro k
  induction k with
  | zero =>
    intro inn ii su T0 X0 e0 hii hto hk
    have e : ii = to := Int32.toInt_inj.mp (by omega)
    subst e
    exact lv2 ra fr ii su ii X0 hx hZ hw hby hml hown e0 (by rw [Int32.lt_iff_toInt_lt]; omega)
  | succ k ih =>
    intro inn ii su T0 X0 e0 hii hto hk
    obtain ⟨T1, X1, e1, st1⟩ := tn2 ra fr to su ii nn fb inn X0 hx hZ hw hby hml hown e0 A_ra hii (by omega) (by rw [Int32.lt_iff_toInt_lt]; omega)
    have h1 : (ii + (1 : Int32)).toInt = ((inn + 1 : Nat) : Int) := by
      have := c_iadd ii 1
      have := rng32 (ii + 1)
      have : (1 : Int32).toInt = 1 := rfl
      omega
    obtain ⟨T2, X2, e2, st2⟩ := ih (inn + 1) _ _ T1 X1 e1 h1 (by omega) (by omega)
    exact ⟨T2, X2, e2, fun t q => st1 _ (st2 t q)⟩
theorem ef_2 (m : MethodId) (ra : Addr) (fr : Int32) (to : Int32) : entryFrame m #[(.ref ra), (.int fr), (.int to)] 5 = mkF m 0 #[.val (.ref ra), .val (.int fr), .val (.int to), .unset, .unset] [] := by first | (simp [entryFrame, mkF, argsToLocals, Value.category]; done) | rfl
theorem d2_0 : decode prog_13_method_2_code 0 = .ok (.iconst 0, 1) := by decide +kernel
theorem d2_1 : decode prog_13_method_2_code 1 = .ok (.istore_n 3, 1) := by decide +kernel
theorem d2_2 : decode prog_13_method_2_code 2 = .ok (.iload_n 1, 1) := by decide +kernel
theorem d2_3 : decode prog_13_method_2_code 3 = .ok (.istore 4, 2) := by decide +kernel
theorem d2_28 : decode prog_13_method_2_code 28 = .ok (.iload_n 3, 1) := by decide +kernel
theorem d2_29 : decode prog_13_method_2_code 29 = .ok (.sipush 255, 3) := by decide +kernel
theorem d2_32 : decode prog_13_method_2_code 32 = .ok (.iand, 1) := by decide +kernel
theorem d2_33 : decode prog_13_method_2_code 33 = .ok (.ireturn, 1) := by decide +kernel
theorem pn_com_example_tillwire_tillwire_core_check_ByteSum : plainName "com/example/tillwire/tillwire/core/check/ByteSum" = true := by first | (simp [plainName, overriddenIn]; done) | decide +kernel
def Q2 (Z : State) (ra : Addr) (fr : Int32) (to : Int32) (nn : Nat) (fb : Nat → Int32) (kk : Nat) (fn : Nat) (h0 : Heap) (n0 : Nat) (v : Option Value) (h : Heap) (L : List Loc) : Prop := v = some (.int ((own_sum fb kk fn (0 : Int32)) &&& (255 : Int32))) ∧ Fr n0 L ∧ h = h0
set_option maxRecDepth 65536 in
set_option maxHeartbeats 40000000 in
theorem rm2 (l : Launch) (Z : State) (a0 : Array Value) (hw : ∀ d ∈ tables_1, d.before a0 Z = true) (ws : List Jvm.Cond) (ra : Addr) (fr : Int32) (to : Int32) (nn : Nat) (fb : Nat → Int32) (kk : Nat) (fn : Nat) (h0 : Heap) (n0 : Nat) (Z0 : n0 ≤ h0.size) (A_ra : AI Z h0 ra .byte nn fb) (hnn : nn ≤ 1000) (hfn : fr.toInt = fn) (hto : to.toInt = fn + kk) (hle : fn + kk ≤ nn) :
    MetFree l (⟨"com/example/tillwire/tillwire/core/check/ByteSum", "of", "([BII)I"⟩ : MethodName) (head1 (Jvm.Cond.code (⟨"com/example/tillwire/tillwire/core/check/ByteSum", "of", "([BII)I"⟩ : MethodName) prog_13_method_2_code 5 (some .int) :: ws) ({ frames := 0, cells := 0, slots := 0, locals := 0 } : Room)) (fun a U => a = #[(.ref ra), (.int fr), (.int to)] ∧ Z.Warmed39 U.vm ∧ U.heap = h0) (fun _ _ _ _ _ => True) (fun _ U o U' => ∃ v L, o = .returned v ∧ Q2 Z ra fr to nn fb kk fn h0 n0 v U'.heap L ∧ FrameEnd U o U' L ({ frames := 0, cells := 0, slots := 0, locals := 0 } : Room).cells ({ frames := 0, cells := 0, slots := 0, locals := 0 } : Room).slots) := by
  refine MetFree.of_bodySF (plainFor_of_name pn_com_example_tillwire_tillwire_core_check_ByteSum) hisR ?_
  intro p e s m args below meth c s₁ Bd hml0 hP hK
  obtain ⟨rfl, hZ, hh⟩ := hP
  have hx := Bd.exec
  have hby := Bd.bytes
  have hml : c.maxLocals = 5 := hml0
  have hown : s.vm.findClass "com/example/tillwire/tillwire/core/check/ByteSum" = some m.cls := findClass_of_methodNamed Bd.named
  have hnm := (name_of_methodNamed Bd.named Bd.method).1
  have X0 : Stand p l e ({ frames := 0, cells := 0, slots := 0, locals := 0 } : Room) s m #[(.ref ra), (.int fr), (.int to)] below meth c s₁ [] 0 0 := Stand.of_body Bd
  have e0 : s₁.heap = h0 := by rw [← hh, Bd.state]; rfl
  have N0 := Fr.nil n0
  have K0 : Keep h0 h0 [] := Keep.refl h0 _
  have pre0 : ∀ t, Steps p.tables e below (s₁.setTop (mkF m 0 #[.val (.ref ra), .val (.int fr), .val (.int to), .unset, .unset] [])) t → Steps p.tables e below (s₁.setTop (entryFrame m #[(.ref ra), (.int fr), (.int to)] 5)) t := fun t k => castTop (ef_2 m ra fr to) k
  obtain ⟨T1, X1, e1, st1⟩ := loop2 ra fr to nn fb hx hZ hw hby hml hown A_ra hnn kk fn fr (0 : Int32) s₁ X0 e0 hfn hto hle
  obtain ⟨fs, hr, hrun, hended, hW, hsame⟩ := X1.leave (v := some (.int ((own_sum fb kk fn (0 : Int32)) &&& (255 : Int32)))) (fun h => by rw [Bd.returns] at h; cases h)
  refine ⟨_, _, pre0 _ ?_, hrun, hended, _, _, rfl, ?_, ⟨_, rfl⟩, hW, hsame.mono (by decide) (by decide)⟩
  · show Steps p.tables e below (s₁.setTop (mkF m 0 #[.val (.ref ra), .val (.int fr), .val (.int to), .unset, .unset] [])) _
    refine XS.iconst X0.here hx rfl (hb hby d2_0) ?_
    show Steps p.tables e below (s₁.setTop (mkF m 1 #[.val (.ref ra), .val (.int fr), .val (.int to), .unset, .unset] [(.int (0 : Int32))])) _
    refine XS.istoreN X0.here hx rfl (hb hby d2_1) rfl (l' := #[.val (.ref ra), .val (.int fr), .val (.int to), .val (.int (0 : Int32)), .unset]) rfl ?_
    show Steps p.tables e below (s₁.setTop (mkF m 2 #[.val (.ref ra), .val (.int fr), .val (.int to), .val (.int (0 : Int32)), .unset] [])) _
    refine XS.iloadN X0.here hx rfl (hb hby d2_2) rfl ?_
    show Steps p.tables e below (s₁.setTop (mkF m 3 #[.val (.ref ra), .val (.int fr), .val (.int to), .val (.int (0 : Int32)), .unset] [(.int fr)])) _
    refine XS.istore X0.here hx rfl (hb hby d2_3) rfl (l' := #[.val (.ref ra), .val (.int fr), .val (.int to), .val (.int (0 : Int32)), .val (.int fr)]) rfl ?_
    show Steps p.tables e below (s₁.setTop (mkF m 5 #[.val (.ref ra), .val (.int fr), .val (.int to), .val (.int (0 : Int32)), .val (.int fr)] [])) _
    refine st1 _ ?_
    show Steps p.tables e below (T1.setTop (mkF m 28 #[.val (.ref ra), .val (.int fr), .val (.int to), .val (.int (own_sum fb kk fn (0 : Int32))), .val (.int to)] [])) _
    refine XS.iloadN X1.here hx rfl (hb hby d2_28) rfl ?_
    show Steps p.tables e below (T1.setTop (mkF m 29 #[.val (.ref ra), .val (.int fr), .val (.int to), .val (.int (own_sum fb kk fn (0 : Int32))), .val (.int to)] [(.int (own_sum fb kk fn (0 : Int32)))])) _
    refine XS.sipush X1.here hx rfl (hb hby d2_29) ?_
    show Steps p.tables e below (T1.setTop (mkF m 32 #[.val (.ref ra), .val (.int fr), .val (.int to), .val (.int (own_sum fb kk fn (0 : Int32))), .val (.int to)] [(.int (255 : Int32)), (.int (own_sum fb kk fn (0 : Int32)))])) _
    refine XS.iand X1.here hx rfl (hb hby d2_32) rfl ?_
    show Steps p.tables e below (T1.setTop (mkF m 33 #[.val (.ref ra), .val (.int fr), .val (.int to), .val (.int (own_sum fb kk fn (0 : Int32))), .val (.int to)] [(.int ((own_sum fb kk fn (0 : Int32)) &&& (255 : Int32)))])) _
    exact retI X1 hx Bd.returns (hb hby d2_33) hr
  · show Q2 Z ra fr to nn fb kk fn h0 n0 _ T1.heap _
    rw [e1]
    exact ⟨rfl, N0, rfl⟩
theorem ef_0 (m : MethodId) (aa : Int32) (bb : Int32) (cc : Int32) (dd : Int32) (ft : Int32) : entryFrame m #[(.int aa), (.int bb), (.int cc), (.int dd), (.int ft)] maxLocals = mkF m 0 #[.val (.int aa), .val (.int bb), .val (.int cc), .val (.int dd), .val (.int ft), .unset, .unset, .unset, .unset, .unset, .unset] [] := by first | (simp [entryFrame, mkF, argsToLocals, Value.category, maxLocals]; done) | rfl
theorem pd_0 : parseMethodDescriptor "(IIII)I" = some ⟨[.int, .int, .int, .int], some .int⟩ := by decide +kernel
theorem pd_1 : parseMethodDescriptor "([BII)I" = some ⟨[(.array .byte), .int, .int], some .int⟩ := by decide +kernel
theorem own_f (ft : Int32) : 0 ≤ ((ft &&& (255 : Int32)) % (5 : Int32)).toInt ∧ ((ft &&& (255 : Int32)) % (5 : Int32)).toInt ≤ 4 := by
  have : 0 ≤ (ft &&& (255 : Int32)).toInt ∧ (ft &&& (255 : Int32)).toInt ≤ 255 := c_and ft (255 : Int32) (by decide)
  generalize (ft &&& (255 : Int32)) = u1_ at *
  first | have : (u1_ % (5 : Int32)).toInt = u1_.toInt % 5 := (c_irem u1_ (5 : Int32) 5 rfl).1 (by omega) | (have := c_irem u1_ (5 : Int32) 5 rfl; have := rng32 (u1_ % (5 : Int32)))
  generalize (u1_ % (5 : Int32)) = u2_ at *
  try simp only [Int32.reduceToInt, Int64.reduceToInt] at *
  omega
theorem own_nz (ft : Int32) : ((5 : Int32) - ((ft &&& (255 : Int32)) % (5 : Int32))) ≠ (0 : Int32) := by
  have := own_f ft
  generalize ((ft &&& (255 : Int32)) % (5 : Int32)) = u1_ at *
  first | have : ((5 : Int32) - u1_).toInt = 5 - u1_.toInt := own_isub rfl rfl (by omega) (by omega) | (have := c_isub (5 : Int32) u1_; simp only [Int32.reduceToInt, Int64.reduceToInt] at this; have := rng32 ((5 : Int32) - u1_))
  generalize ((5 : Int32) - u1_) = u2_ at *
  try simp only [Int32.reduceToInt, Int64.reduceToInt] at *
  simp only [ne_eq, ← Int32.toInt_inj, Int32.reduceToInt, Int64.reduceToInt]
  omega
theorem own_ft (ft : Int32) : ∃ fn kk : Nat, ((ft &&& (255 : Int32)) % (5 : Int32)).toInt = fn ∧ (((ft &&& (255 : Int32)) % (5 : Int32)) + ((((ft.toUInt32 >>> ((8 : Int32) &&& 31).toUInt32).toInt32) &&& (255 : Int32)) % ((5 : Int32) - ((ft &&& (255 : Int32)) % (5 : Int32))))).toInt = fn + kk ∧ fn + kk ≤ 4 := by
  have h0 := own_f ft
  generalize ((ft &&& (255 : Int32)) % (5 : Int32)) = ff at *
  first | have : ((5 : Int32) - ff).toInt = 5 - ff.toInt := own_isub rfl rfl (by omega) (by omega) | (have := c_isub (5 : Int32) ff; simp only [Int32.reduceToInt, Int64.reduceToInt] at this; have := rng32 ((5 : Int32) - ff))
  generalize ((5 : Int32) - ff) = u1_ at *
  have : ((ft.toUInt32 >>> ((8 : Int32) &&& 31).toUInt32).toInt32).toInt = (ft.toInt % 4294967296) / 256 := c_iushr ft (8 : Int32) 8 (by decide) (by decide)
  have := rng32 ((ft.toUInt32 >>> ((8 : Int32) &&& 31).toUInt32).toInt32)
  generalize ((ft.toUInt32 >>> ((8 : Int32) &&& 31).toUInt32).toInt32) = u2_ at *
  have : 0 ≤ (u2_ &&& (255 : Int32)).toInt ∧ (u2_ &&& (255 : Int32)).toInt ≤ 255 := c_and u2_ (255 : Int32) (by decide)
  generalize (u2_ &&& (255 : Int32)) = u3_ at *
  try simp only [Int32.reduceToInt, Int64.reduceToInt] at *
  have h1 := (c_iremV u3_ u1_).1 (by omega) (by omega)
  have h2 := c_iadd ff (u3_ % u1_)
  have h3 := rng32 (ff + u3_ % u1_)
  refine ⟨ff.toInt.toNat, (u3_ % u1_).toInt.toNat, ?_, ?_, ?_⟩
  all_goals generalize u3_ % u1_ = u4_ at *
  all_goals generalize ff + u4_ = u5_ at *
  all_goals first | omega | (simp only [Int32.reduceToInt, Int64.reduceToInt] at *; omega) | (simp at *; done) | (simp at *; omega)
theorem own_by (x : Int32) : (x.toInt8.toInt32 &&& (255 : Int32)) = (x &&& (255 : Int32)) := by
  have := c_i2b x
  generalize (x.toInt8.toInt32) = u1_ at *
  have : (u1_ &&& (255 : Int32)).toInt = u1_.toInt % 256 := c_mask u1_ (255 : Int32) 8 (by decide) (by decide)
  generalize (u1_ &&& (255 : Int32)) = u2_ at *
  have : (x &&& (255 : Int32)).toInt = x.toInt % 256 := c_mask x (255 : Int32) 8 (by decide) (by decide)
  generalize (x &&& (255 : Int32)) = u3_ at *
  try simp only [Int32.reduceToInt, Int64.reduceToInt] at *
  apply Int32.toInt_inj.mp
  omega
theorem own_s0_0 (aa bb cc dd : Int32) : ((0 : Int32) &&& (255 : Int32)) = (((((0 : Int32) + (0 : Int32)) + (0 : Int32)) + (0 : Int32)) % (256 : Int32)) := by decide
theorem own_s0_1 (aa bb cc dd : Int32) : (((0 : Int32) + ((aa.toInt8.toInt32) &&& (255 : Int32))) &&& (255 : Int32)) = (((((aa &&& (255 : Int32)) + (0 : Int32)) + (0 : Int32)) + (0 : Int32)) % (256 : Int32)) := by
  simp only [own_by]
  have : (aa &&& (255 : Int32)).toInt = aa.toInt % 256 := c_mask aa (255 : Int32) 8 (by decide) (by decide)
  generalize (aa &&& (255 : Int32)) = u1_ at *
  first | have : ((0 : Int32) + u1_).toInt = 0 + u1_.toInt := own_iadd rfl rfl (by omega) (by omega) | (have := c_iadd (0 : Int32) u1_; simp only [Int32.reduceToInt, Int64.reduceToInt] at this; have := rng32 ((0 : Int32) + u1_))
  generalize ((0 : Int32) + u1_) = u2_ at *
  have : (u2_ &&& (255 : Int32)).toInt = u2_.toInt % 256 := c_mask u2_ (255 : Int32) 8 (by decide) (by decide)
  generalize (u2_ &&& (255 : Int32)) = u3_ at *
  first | have : (u1_ + (0 : Int32)).toInt = u1_.toInt + 0 := own_iadd rfl rfl (by omega) (by omega) | (have := c_iadd u1_ (0 : Int32); simp only [Int32.reduceToInt, Int64.reduceToInt] at this; have := rng32 (u1_ + (0 : Int32)))
  generalize (u1_ + (0 : Int32)) = u4_ at *
  first | have : (u4_ + (0 : Int32)).toInt = u4_.toInt + 0 := own_iadd rfl rfl (by omega) (by omega) | (have := c_iadd u4_ (0 : Int32); simp only [Int32.reduceToInt, Int64.reduceToInt] at this; have := rng32 (u4_ + (0 : Int32)))
  generalize (u4_ + (0 : Int32)) = u5_ at *
  first | have : (u5_ + (0 : Int32)).toInt = u5_.toInt + 0 := own_iadd rfl rfl (by omega) (by omega) | (have := c_iadd u5_ (0 : Int32); simp only [Int32.reduceToInt, Int64.reduceToInt] at this; have := rng32 (u5_ + (0 : Int32)))
  generalize (u5_ + (0 : Int32)) = u6_ at *
  first | have : (u6_ % (256 : Int32)).toInt = u6_.toInt % 256 := (c_irem u6_ (256 : Int32) 256 rfl).1 (by omega) | (have := c_irem u6_ (256 : Int32) 256 rfl; have := rng32 (u6_ % (256 : Int32)))
  generalize (u6_ % (256 : Int32)) = u7_ at *
  try simp only [Int32.reduceToInt, Int64.reduceToInt] at *
  apply Int32.toInt_inj.mp
  omega
theorem own_s0_2 (aa bb cc dd : Int32) : ((((0 : Int32) + ((aa.toInt8.toInt32) &&& (255 : Int32))) + ((bb.toInt8.toInt32) &&& (255 : Int32))) &&& (255 : Int32)) = (((((aa &&& (255 : Int32)) + (bb &&& (255 : Int32))) + (0 : Int32)) + (0 : Int32)) % (256 : Int32)) := by
  simp only [own_by]
  have : (aa &&& (255 : Int32)).toInt = aa.toInt % 256 := c_mask aa (255 : Int32) 8 (by decide) (by decide)
  generalize (aa &&& (255 : Int32)) = u1_ at *
  first | have : ((0 : Int32) + u1_).toInt = 0 + u1_.toInt := own_iadd rfl rfl (by omega) (by omega) | (have := c_iadd (0 : Int32) u1_; simp only [Int32.reduceToInt, Int64.reduceToInt] at this; have := rng32 ((0 : Int32) + u1_))
  generalize ((0 : Int32) + u1_) = u2_ at *
  have : (bb &&& (255 : Int32)).toInt = bb.toInt % 256 := c_mask bb (255 : Int32) 8 (by decide) (by decide)
  generalize (bb &&& (255 : Int32)) = u3_ at *
  first | have : (u2_ + u3_).toInt = u2_.toInt + u3_.toInt := own_iadd rfl rfl (by omega) (by omega) | (have := c_iadd u2_ u3_; simp only [Int32.reduceToInt, Int64.reduceToInt] at this; have := rng32 (u2_ + u3_))
  generalize (u2_ + u3_) = u4_ at *
  have : (u4_ &&& (255 : Int32)).toInt = u4_.toInt % 256 := c_mask u4_ (255 : Int32) 8 (by decide) (by decide)
  generalize (u4_ &&& (255 : Int32)) = u5_ at *
  first | have : (u1_ + u3_).toInt = u1_.toInt + u3_.toInt := own_iadd rfl rfl (by omega) (by omega) | (have := c_iadd u1_ u3_; simp only [Int32.reduceToInt, Int64.reduceToInt] at this; have := rng32 (u1_ + u3_))
  generalize (u1_ + u3_) = u6_ at *
  first | have : (u6_ + (0 : Int32)).toInt = u6_.toInt + 0 := own_iadd rfl rfl (by omega) (by omega) | (have := c_iadd u6_ (0 : Int32); simp only [Int32.reduceToInt, Int64.reduceToInt] at this; have := rng32 (u6_ + (0 : Int32)))
  generalize (u6_ + (0 : Int32)) = u7_ at *
  first | have : (u7_ + (0 : Int32)).toInt = u7_.toInt + 0 := own_iadd rfl rfl (by omega) (by omega) | (have := c_iadd u7_ (0 : Int32); simp only [Int32.reduceToInt, Int64.reduceToInt] at this; have := rng32 (u7_ + (0 : Int32)))
  generalize (u7_ + (0 : Int32)) = u8_ at *
  first | have : (u8_ % (256 : Int32)).toInt = u8_.toInt % 256 := (c_irem u8_ (256 : Int32) 256 rfl).1 (by omega) | (have := c_irem u8_ (256 : Int32) 256 rfl; have := rng32 (u8_ % (256 : Int32)))
  generalize (u8_ % (256 : Int32)) = u9_ at *
  try simp only [Int32.reduceToInt, Int64.reduceToInt] at *
  apply Int32.toInt_inj.mp
  omega
theorem own_s0_3 (aa bb cc dd : Int32) : (((((0 : Int32) + ((aa.toInt8.toInt32) &&& (255 : Int32))) + ((bb.toInt8.toInt32) &&& (255 : Int32))) + ((cc.toInt8.toInt32) &&& (255 : Int32))) &&& (255 : Int32)) = (((((aa &&& (255 : Int32)) + (bb &&& (255 : Int32))) + (cc &&& (255 : Int32))) + (0 : Int32)) % (256 : Int32)) := by
  simp only [own_by]
  have : (aa &&& (255 : Int32)).toInt = aa.toInt % 256 := c_mask aa (255 : Int32) 8 (by decide) (by decide)
  generalize (aa &&& (255 : Int32)) = u1_ at *
  first | have : ((0 : Int32) + u1_).toInt = 0 + u1_.toInt := own_iadd rfl rfl (by omega) (by omega) | (have := c_iadd (0 : Int32) u1_; simp only [Int32.reduceToInt, Int64.reduceToInt] at this; have := rng32 ((0 : Int32) + u1_))
  generalize ((0 : Int32) + u1_) = u2_ at *
  have : (bb &&& (255 : Int32)).toInt = bb.toInt % 256 := c_mask bb (255 : Int32) 8 (by decide) (by decide)
  generalize (bb &&& (255 : Int32)) = u3_ at *
  first | have : (u2_ + u3_).toInt = u2_.toInt + u3_.toInt := own_iadd rfl rfl (by omega) (by omega) | (have := c_iadd u2_ u3_; simp only [Int32.reduceToInt, Int64.reduceToInt] at this; have := rng32 (u2_ + u3_))
  generalize (u2_ + u3_) = u4_ at *
  have : (cc &&& (255 : Int32)).toInt = cc.toInt % 256 := c_mask cc (255 : Int32) 8 (by decide) (by decide)
  generalize (cc &&& (255 : Int32)) = u5_ at *
  first | have : (u4_ + u5_).toInt = u4_.toInt + u5_.toInt := own_iadd rfl rfl (by omega) (by omega) | (have := c_iadd u4_ u5_; simp only [Int32.reduceToInt, Int64.reduceToInt] at this; have := rng32 (u4_ + u5_))
  generalize (u4_ + u5_) = u6_ at *
  have : (u6_ &&& (255 : Int32)).toInt = u6_.toInt % 256 := c_mask u6_ (255 : Int32) 8 (by decide) (by decide)
  generalize (u6_ &&& (255 : Int32)) = u7_ at *
  first | have : (u1_ + u3_).toInt = u1_.toInt + u3_.toInt := own_iadd rfl rfl (by omega) (by omega) | (have := c_iadd u1_ u3_; simp only [Int32.reduceToInt, Int64.reduceToInt] at this; have := rng32 (u1_ + u3_))
  generalize (u1_ + u3_) = u8_ at *
  first | have : (u8_ + u5_).toInt = u8_.toInt + u5_.toInt := own_iadd rfl rfl (by omega) (by omega) | (have := c_iadd u8_ u5_; simp only [Int32.reduceToInt, Int64.reduceToInt] at this; have := rng32 (u8_ + u5_))
  generalize (u8_ + u5_) = u9_ at *
  first | have : (u9_ + (0 : Int32)).toInt = u9_.toInt + 0 := own_iadd rfl rfl (by omega) (by omega) | (have := c_iadd u9_ (0 : Int32); simp only [Int32.reduceToInt, Int64.reduceToInt] at this; have := rng32 (u9_ + (0 : Int32)))
  generalize (u9_ + (0 : Int32)) = u10_ at *
  first | have : (u10_ % (256 : Int32)).toInt = u10_.toInt % 256 := (c_irem u10_ (256 : Int32) 256 rfl).1 (by omega) | (have := c_irem u10_ (256 : Int32) 256 rfl; have := rng32 (u10_ % (256 : Int32)))
  generalize (u10_ % (256 : Int32)) = u11_ at *
  try simp only [Int32.reduceToInt, Int64.reduceToInt] at *
  apply Int32.toInt_inj.mp
  omega
theorem own_s0_4 (aa bb cc dd : Int32) : ((((((0 : Int32) + ((aa.toInt8.toInt32) &&& (255 : Int32))) + ((bb.toInt8.toInt32) &&& (255 : Int32))) + ((cc.toInt8.toInt32) &&& (255 : Int32))) + ((dd.toInt8.toInt32) &&& (255 : Int32))) &&& (255 : Int32)) = (((((aa &&& (255 : Int32)) + (bb &&& (255 : Int32))) + (cc &&& (255 : Int32))) + (dd &&& (255 : Int32))) % (256 : Int32)) := by
  simp only [own_by]
  have : (aa &&& (255 : Int32)).toInt = aa.toInt % 256 := c_mask aa (255 : Int32) 8 (by decide) (by decide)
  generalize (aa &&& (255 : Int32)) = u1_ at *
  first | have : ((0 : Int32) + u1_).toInt = 0 + u1_.toInt := own_iadd rfl rfl (by omega) (by omega) | (have := c_iadd (0 : Int32) u1_; simp only [Int32.reduceToInt, Int64.reduceToInt] at this; have := rng32 ((0 : Int32) + u1_))
  generalize ((0 : Int32) + u1_) = u2_ at *
  have : (bb &&& (255 : Int32)).toInt = bb.toInt % 256 := c_mask bb (255 : Int32) 8 (by decide) (by decide)
  generalize (bb &&& (255 : Int32)) = u3_ at *
  first | have : (u2_ + u3_).toInt = u2_.toInt + u3_.toInt := own_iadd rfl rfl (by omega) (by omega) | (have := c_iadd u2_ u3_; simp only [Int32.reduceToInt, Int64.reduceToInt] at this; have := rng32 (u2_ + u3_))
  generalize (u2_ + u3_) = u4_ at *
  have : (cc &&& (255 : Int32)).toInt = cc.toInt % 256 := c_mask cc (255 : Int32) 8 (by decide) (by decide)
  generalize (cc &&& (255 : Int32)) = u5_ at *
  first | have : (u4_ + u5_).toInt = u4_.toInt + u5_.toInt := own_iadd rfl rfl (by omega) (by omega) | (have := c_iadd u4_ u5_; simp only [Int32.reduceToInt, Int64.reduceToInt] at this; have := rng32 (u4_ + u5_))
  generalize (u4_ + u5_) = u6_ at *
  have : (dd &&& (255 : Int32)).toInt = dd.toInt % 256 := c_mask dd (255 : Int32) 8 (by decide) (by decide)
  generalize (dd &&& (255 : Int32)) = u7_ at *
  first | have : (u6_ + u7_).toInt = u6_.toInt + u7_.toInt := own_iadd rfl rfl (by omega) (by omega) | (have := c_iadd u6_ u7_; simp only [Int32.reduceToInt, Int64.reduceToInt] at this; have := rng32 (u6_ + u7_))
  generalize (u6_ + u7_) = u8_ at *
  have : (u8_ &&& (255 : Int32)).toInt = u8_.toInt % 256 := c_mask u8_ (255 : Int32) 8 (by decide) (by decide)
  generalize (u8_ &&& (255 : Int32)) = u9_ at *
  first | have : (u1_ + u3_).toInt = u1_.toInt + u3_.toInt := own_iadd rfl rfl (by omega) (by omega) | (have := c_iadd u1_ u3_; simp only [Int32.reduceToInt, Int64.reduceToInt] at this; have := rng32 (u1_ + u3_))
  generalize (u1_ + u3_) = u10_ at *
  first | have : (u10_ + u5_).toInt = u10_.toInt + u5_.toInt := own_iadd rfl rfl (by omega) (by omega) | (have := c_iadd u10_ u5_; simp only [Int32.reduceToInt, Int64.reduceToInt] at this; have := rng32 (u10_ + u5_))
  generalize (u10_ + u5_) = u11_ at *
  first | have : (u11_ + u7_).toInt = u11_.toInt + u7_.toInt := own_iadd rfl rfl (by omega) (by omega) | (have := c_iadd u11_ u7_; simp only [Int32.reduceToInt, Int64.reduceToInt] at this; have := rng32 (u11_ + u7_))
  generalize (u11_ + u7_) = u12_ at *
  first | have : (u12_ % (256 : Int32)).toInt = u12_.toInt % 256 := (c_irem u12_ (256 : Int32) 256 rfl).1 (by omega) | (have := c_irem u12_ (256 : Int32) 256 rfl; have := rng32 (u12_ % (256 : Int32)))
  generalize (u12_ % (256 : Int32)) = u13_ at *
  try simp only [Int32.reduceToInt, Int64.reduceToInt] at *
  apply Int32.toInt_inj.mp
  omega
theorem own_s1_0 (aa bb cc dd : Int32) : ((0 : Int32) &&& (255 : Int32)) = (((((0 : Int32) + (0 : Int32)) + (0 : Int32)) + (0 : Int32)) % (256 : Int32)) := by decide
theorem own_s1_1 (aa bb cc dd : Int32) : (((0 : Int32) + ((bb.toInt8.toInt32) &&& (255 : Int32))) &&& (255 : Int32)) = (((((0 : Int32) + (bb &&& (255 : Int32))) + (0 : Int32)) + (0 : Int32)) % (256 : Int32)) := by
  simp only [own_by]
  have : (bb &&& (255 : Int32)).toInt = bb.toInt % 256 := c_mask bb (255 : Int32) 8 (by decide) (by decide)
  generalize (bb &&& (255 : Int32)) = u1_ at *
  first | have : ((0 : Int32) + u1_).toInt = 0 + u1_.toInt := own_iadd rfl rfl (by omega) (by omega) | (have := c_iadd (0 : Int32) u1_; simp only [Int32.reduceToInt, Int64.reduceToInt] at this; have := rng32 ((0 : Int32) + u1_))
  generalize ((0 : Int32) + u1_) = u2_ at *
  have : (u2_ &&& (255 : Int32)).toInt = u2_.toInt % 256 := c_mask u2_ (255 : Int32) 8 (by decide) (by decide)
  generalize (u2_ &&& (255 : Int32)) = u3_ at *
  first | have : (u2_ + (0 : Int32)).toInt = u2_.toInt + 0 := own_iadd rfl rfl (by omega) (by omega) | (have := c_iadd u2_ (0 : Int32); simp only [Int32.reduceToInt, Int64.reduceToInt] at this; have := rng32 (u2_ + (0 : Int32)))
  generalize (u2_ + (0 : Int32)) = u4_ at *
  first | have : (u4_ + (0 : Int32)).toInt = u4_.toInt + 0 := own_iadd rfl rfl (by omega) (by omega) | (have := c_iadd u4_ (0 : Int32); simp only [Int32.reduceToInt, Int64.reduceToInt] at this; have := rng32 (u4_ + (0 : Int32)))
  generalize (u4_ + (0 : Int32)) = u5_ at *
  first | have : (u5_ % (256 : Int32)).toInt = u5_.toInt % 256 := (c_irem u5_ (256 : Int32) 256 rfl).1 (by omega) | (have := c_irem u5_ (256 : Int32) 256 rfl; have := rng32 (u5_ % (256 : Int32)))
  generalize (u5_ % (256 : Int32)) = u6_ at *
  try simp only [Int32.reduceToInt, Int64.reduceToInt] at *
  apply Int32.toInt_inj.mp
  omega
theorem own_s1_2 (aa bb cc dd : Int32) : ((((0 : Int32) + ((bb.toInt8.toInt32) &&& (255 : Int32))) + ((cc.toInt8.toInt32) &&& (255 : Int32))) &&& (255 : Int32)) = (((((0 : Int32) + (bb &&& (255 : Int32))) + (cc &&& (255 : Int32))) + (0 : Int32)) % (256 : Int32)) := by
  simp only [own_by]
  have : (bb &&& (255 : Int32)).toInt = bb.toInt % 256 := c_mask bb (255 : Int32) 8 (by decide) (by decide)
  generalize (bb &&& (255 : Int32)) = u1_ at *
  first | have : ((0 : Int32) + u1_).toInt = 0 + u1_.toInt := own_iadd rfl rfl (by omega) (by omega) | (have := c_iadd (0 : Int32) u1_; simp only [Int32.reduceToInt, Int64.reduceToInt] at this; have := rng32 ((0 : Int32) + u1_))
  generalize ((0 : Int32) + u1_) = u2_ at *
  have : (cc &&& (255 : Int32)).toInt = cc.toInt % 256 := c_mask cc (255 : Int32) 8 (by decide) (by decide)
  generalize (cc &&& (255 : Int32)) = u3_ at *
  first | have : (u2_ + u3_).toInt = u2_.toInt + u3_.toInt := own_iadd rfl rfl (by omega) (by omega) | (have := c_iadd u2_ u3_; simp only [Int32.reduceToInt, Int64.reduceToInt] at this; have := rng32 (u2_ + u3_))
  generalize (u2_ + u3_) = u4_ at *
  have : (u4_ &&& (255 : Int32)).toInt = u4_.toInt % 256 := c_mask u4_ (255 : Int32) 8 (by decide) (by decide)
  generalize (u4_ &&& (255 : Int32)) = u5_ at *
  first | have : (u4_ + (0 : Int32)).toInt = u4_.toInt + 0 := own_iadd rfl rfl (by omega) (by omega) | (have := c_iadd u4_ (0 : Int32); simp only [Int32.reduceToInt, Int64.reduceToInt] at this; have := rng32 (u4_ + (0 : Int32)))
  generalize (u4_ + (0 : Int32)) = u6_ at *
  first | have : (u6_ % (256 : Int32)).toInt = u6_.toInt % 256 := (c_irem u6_ (256 : Int32) 256 rfl).1 (by omega) | (have := c_irem u6_ (256 : Int32) 256 rfl; have := rng32 (u6_ % (256 : Int32)))
  generalize (u6_ % (256 : Int32)) = u7_ at *
  try simp only [Int32.reduceToInt, Int64.reduceToInt] at *
  apply Int32.toInt_inj.mp
  omega
theorem own_s1_3 (aa bb cc dd : Int32) : (((((0 : Int32) + ((bb.toInt8.toInt32) &&& (255 : Int32))) + ((cc.toInt8.toInt32) &&& (255 : Int32))) + ((dd.toInt8.toInt32) &&& (255 : Int32))) &&& (255 : Int32)) = (((((0 : Int32) + (bb &&& (255 : Int32))) + (cc &&& (255 : Int32))) + (dd &&& (255 : Int32))) % (256 : Int32)) := by
  simp only [own_by]
  have : (bb &&& (255 : Int32)).toInt = bb.toInt % 256 := c_mask bb (255 : Int32) 8 (by decide) (by decide)
  generalize (bb &&& (255 : Int32)) = u1_ at *
  first | have : ((0 : Int32) + u1_).toInt = 0 + u1_.toInt := own_iadd rfl rfl (by omega) (by omega) | (have := c_iadd (0 : Int32) u1_; simp only [Int32.reduceToInt, Int64.reduceToInt] at this; have := rng32 ((0 : Int32) + u1_))
  generalize ((0 : Int32) + u1_) = u2_ at *
  have : (cc &&& (255 : Int32)).toInt = cc.toInt % 256 := c_mask cc (255 : Int32) 8 (by decide) (by decide)
  generalize (cc &&& (255 : Int32)) = u3_ at *
  first | have : (u2_ + u3_).toInt = u2_.toInt + u3_.toInt := own_iadd rfl rfl (by omega) (by omega) | (have := c_iadd u2_ u3_; simp only [Int32.reduceToInt, Int64.reduceToInt] at this; have := rng32 (u2_ + u3_))
  generalize (u2_ + u3_) = u4_ at *
  have : (dd &&& (255 : Int32)).toInt = dd.toInt % 256 := c_mask dd (255 : Int32) 8 (by decide) (by decide)
  generalize (dd &&& (255 : Int32)) = u5_ at *
  first | have : (u4_ + u5_).toInt = u4_.toInt + u5_.toInt := own_iadd rfl rfl (by omega) (by omega) | (have := c_iadd u4_ u5_; simp only [Int32.reduceToInt, Int64.reduceToInt] at this; have := rng32 (u4_ + u5_))
  generalize (u4_ + u5_) = u6_ at *
  have : (u6_ &&& (255 : Int32)).toInt = u6_.toInt % 256 := c_mask u6_ (255 : Int32) 8 (by decide) (by decide)
  generalize (u6_ &&& (255 : Int32)) = u7_ at *
  first | have : (u6_ % (256 : Int32)).toInt = u6_.toInt % 256 := (c_irem u6_ (256 : Int32) 256 rfl).1 (by omega) | (have := c_irem u6_ (256 : Int32) 256 rfl; have := rng32 (u6_ % (256 : Int32)))
  generalize (u6_ % (256 : Int32)) = u8_ at *
  try simp only [Int32.reduceToInt, Int64.reduceToInt] at *
  apply Int32.toInt_inj.mp
  omega
theorem own_s2_0 (aa bb cc dd : Int32) : ((0 : Int32) &&& (255 : Int32)) = (((((0 : Int32) + (0 : Int32)) + (0 : Int32)) + (0 : Int32)) % (256 : Int32)) := by decide
theorem own_s2_1 (aa bb cc dd : Int32) : (((0 : Int32) + ((cc.toInt8.toInt32) &&& (255 : Int32))) &&& (255 : Int32)) = (((((0 : Int32) + (0 : Int32)) + (cc &&& (255 : Int32))) + (0 : Int32)) % (256 : Int32)) := by
  simp only [own_by]
  have : (cc &&& (255 : Int32)).toInt = cc.toInt % 256 := c_mask cc (255 : Int32) 8 (by decide) (by decide)
  generalize (cc &&& (255 : Int32)) = u1_ at *
  first | have : ((0 : Int32) + u1_).toInt = 0 + u1_.toInt := own_iadd rfl rfl (by omega) (by omega) | (have := c_iadd (0 : Int32) u1_; simp only [Int32.reduceToInt, Int64.reduceToInt] at this; have := rng32 ((0 : Int32) + u1_))
  generalize ((0 : Int32) + u1_) = u2_ at *
  have : (u2_ &&& (255 : Int32)).toInt = u2_.toInt % 256 := c_mask u2_ (255 : Int32) 8 (by decide) (by decide)
  generalize (u2_ &&& (255 : Int32)) = u3_ at *
  first | have : ((0 : Int32) + (0 : Int32)).toInt = 0 + 0 := own_iadd rfl rfl (by omega) (by omega) | (have := c_iadd (0 : Int32) (0 : Int32); simp only [Int32.reduceToInt, Int64.reduceToInt] at this; have := rng32 ((0 : Int32) + (0 : Int32)))
  generalize ((0 : Int32) + (0 : Int32)) = u4_ at *
  first | have : (u4_ + u1_).toInt = u4_.toInt + u1_.toInt := own_iadd rfl rfl (by omega) (by omega) | (have := c_iadd u4_ u1_; simp only [Int32.reduceToInt, Int64.reduceToInt] at this; have := rng32 (u4_ + u1_))
  generalize (u4_ + u1_) = u5_ at *
  first | have : (u5_ + (0 : Int32)).toInt = u5_.toInt + 0 := own_iadd rfl rfl (by omega) (by omega) | (have := c_iadd u5_ (0 : Int32); simp only [Int32.reduceToInt, Int64.reduceToInt] at this; have := rng32 (u5_ + (0 : Int32)))
  generalize (u5_ + (0 : Int32)) = u6_ at *
  first | have : (u6_ % (256 : Int32)).toInt = u6_.toInt % 256 := (c_irem u6_ (256 : Int32) 256 rfl).1 (by omega) | (have := c_irem u6_ (256 : Int32) 256 rfl; have := rng32 (u6_ % (256 : Int32)))
  generalize (u6_ % (256 : Int32)) = u7_ at *
  try simp only [Int32.reduceToInt, Int64.reduceToInt] at *
  apply Int32.toInt_inj.mp
  omega
theorem own_s2_2 (aa bb cc dd : Int32) : ((((0 : Int32) + ((cc.toInt8.toInt32) &&& (255 : Int32))) + ((dd.toInt8.toInt32) &&& (255 : Int32))) &&& (255 : Int32)) = (((((0 : Int32) + (0 : Int32)) + (cc &&& (255 : Int32))) + (dd &&& (255 : Int32))) % (256 : Int32)) := by
  simp only [own_by]
  have : (cc &&& (255 : Int32)).toInt = cc.toInt % 256 := c_mask cc (255 : Int32) 8 (by decide) (by decide)
  generalize (cc &&& (255 : Int32)) = u1_ at *
  first | have : ((0 : Int32) + u1_).toInt = 0 + u1_.toInt := own_iadd rfl rfl (by omega) (by omega) | (have := c_iadd (0 : Int32) u1_; simp only [Int32.reduceToInt, Int64.reduceToInt] at this; have := rng32 ((0 : Int32) + u1_))
  generalize ((0 : Int32) + u1_) = u2_ at *
  have : (dd &&& (255 : Int32)).toInt = dd.toInt % 256 := c_mask dd (255 : Int32) 8 (by decide) (by decide)
  generalize (dd &&& (255 : Int32)) = u3_ at *
  first | have : (u2_ + u3_).toInt = u2_.toInt + u3_.toInt := own_iadd rfl rfl (by omega) (by omega) | (have := c_iadd u2_ u3_; simp only [Int32.reduceToInt, Int64.reduceToInt] at this; have := rng32 (u2_ + u3_))
  generalize (u2_ + u3_) = u4_ at *
  have : (u4_ &&& (255 : Int32)).toInt = u4_.toInt % 256 := c_mask u4_ (255 : Int32) 8 (by decide) (by decide)
  generalize (u4_ &&& (255 : Int32)) = u5_ at *
  first | have : ((0 : Int32) + (0 : Int32)).toInt = 0 + 0 := own_iadd rfl rfl (by omega) (by omega) | (have := c_iadd (0 : Int32) (0 : Int32); simp only [Int32.reduceToInt, Int64.reduceToInt] at this; have := rng32 ((0 : Int32) + (0 : Int32)))
  generalize ((0 : Int32) + (0 : Int32)) = u6_ at *
  first | have : (u6_ + u1_).toInt = u6_.toInt + u1_.toInt := own_iadd rfl rfl (by omega) (by omega) | (have := c_iadd u6_ u1_; simp only [Int32.reduceToInt, Int64.reduceToInt] at this; have := rng32 (u6_ + u1_))
  generalize (u6_ + u1_) = u7_ at *
  first | have : (u7_ + u3_).toInt = u7_.toInt + u3_.toInt := own_iadd rfl rfl (by omega) (by omega) | (have := c_iadd u7_ u3_; simp only [Int32.reduceToInt, Int64.reduceToInt] at this; have := rng32 (u7_ + u3_))
  generalize (u7_ + u3_) = u8_ at *
  first | have : (u8_ % (256 : Int32)).toInt = u8_.toInt % 256 := (c_irem u8_ (256 : Int32) 256 rfl).1 (by omega) | (have := c_irem u8_ (256 : Int32) 256 rfl; have := rng32 (u8_ % (256 : Int32)))
  generalize (u8_ % (256 : Int32)) = u9_ at *
  try simp only [Int32.reduceToInt, Int64.reduceToInt] at *
  apply Int32.toInt_inj.mp
  omega
theorem own_s3_0 (aa bb cc dd : Int32) : ((0 : Int32) &&& (255 : Int32)) = (((((0 : Int32) + (0 : Int32)) + (0 : Int32)) + (0 : Int32)) % (256 : Int32)) := by decide
theorem own_s3_1 (aa bb cc dd : Int32) : (((0 : Int32) + ((dd.toInt8.toInt32) &&& (255 : Int32))) &&& (255 : Int32)) = (((((0 : Int32) + (0 : Int32)) + (0 : Int32)) + (dd &&& (255 : Int32))) % (256 : Int32)) := by
  simp only [own_by]
  have : (dd &&& (255 : Int32)).toInt = dd.toInt % 256 := c_mask dd (255 : Int32) 8 (by decide) (by decide)
  generalize (dd &&& (255 : Int32)) = u1_ at *
  first | have : ((0 : Int32) + u1_).toInt = 0 + u1_.toInt := own_iadd rfl rfl (by omega) (by omega) | (have := c_iadd (0 : Int32) u1_; simp only [Int32.reduceToInt, Int64.reduceToInt] at this; have := rng32 ((0 : Int32) + u1_))
  generalize ((0 : Int32) + u1_) = u2_ at *
  have : (u2_ &&& (255 : Int32)).toInt = u2_.toInt % 256 := c_mask u2_ (255 : Int32) 8 (by decide) (by decide)
  generalize (u2_ &&& (255 : Int32)) = u3_ at *
  first | have : ((0 : Int32) + (0 : Int32)).toInt = 0 + 0 := own_iadd rfl rfl (by omega) (by omega) | (have := c_iadd (0 : Int32) (0 : Int32); simp only [Int32.reduceToInt, Int64.reduceToInt] at this; have := rng32 ((0 : Int32) + (0 : Int32)))
  generalize ((0 : Int32) + (0 : Int32)) = u4_ at *
  first | have : (u4_ + (0 : Int32)).toInt = u4_.toInt + 0 := own_iadd rfl rfl (by omega) (by omega) | (have := c_iadd u4_ (0 : Int32); simp only [Int32.reduceToInt, Int64.reduceToInt] at this; have := rng32 (u4_ + (0 : Int32)))
  generalize (u4_ + (0 : Int32)) = u5_ at *
  first | have : (u5_ + u1_).toInt = u5_.toInt + u1_.toInt := own_iadd rfl rfl (by omega) (by omega) | (have := c_iadd u5_ u1_; simp only [Int32.reduceToInt, Int64.reduceToInt] at this; have := rng32 (u5_ + u1_))
  generalize (u5_ + u1_) = u6_ at *
  first | have : (u6_ % (256 : Int32)).toInt = u6_.toInt % 256 := (c_irem u6_ (256 : Int32) 256 rfl).1 (by omega) | (have := c_irem u6_ (256 : Int32) 256 rfl; have := rng32 (u6_ % (256 : Int32)))
  generalize (u6_ % (256 : Int32)) = u7_ at *
  try simp only [Int32.reduceToInt, Int64.reduceToInt] at *
  apply Int32.toInt_inj.mp
  omega
theorem own_s4_0 (aa bb cc dd : Int32) : ((0 : Int32) &&& (255 : Int32)) = (((((0 : Int32) + (0 : Int32)) + (0 : Int32)) + (0 : Int32)) % (256 : Int32)) := by decide
theorem own_fin (aa bb cc dd ft : Int32) (fn kk : Nat) (hfn : ((ft &&& (255 : Int32)) % (5 : Int32)).toInt = fn) (hto : (((ft &&& (255 : Int32)) % (5 : Int32)) + ((((ft.toUInt32 >>> ((8 : Int32) &&& 31).toUInt32).toInt32) &&& (255 : Int32)) % ((5 : Int32) - ((ft &&& (255 : Int32)) % (5 : Int32))))).toInt = fn + kk) (hle : fn + kk ≤ 4) : ((own_sum (up (up (up (up zI 0 (aa.toInt8.toInt32)) 1 (bb.toInt8.toInt32)) 2 (cc.toInt8.toInt32)) 3 (dd.toInt8.toInt32)) kk fn (0 : Int32)) &&& (255 : Int32)) = (((((r1_v aa (0 : Int32) ((ft &&& (255 : Int32)) % (5 : Int32)) (((ft &&& (255 : Int32)) % (5 : Int32)) + ((((ft.toUInt32 >>> ((8 : Int32) &&& 31).toUInt32).toInt32) &&& (255 : Int32)) % ((5 : Int32) - ((ft &&& (255 : Int32)) % (5 : Int32)))))) + (r1_v bb (1 : Int32) ((ft &&& (255 : Int32)) % (5 : Int32)) (((ft &&& (255 : Int32)) % (5 : Int32)) + ((((ft.toUInt32 >>> ((8 : Int32) &&& 31).toUInt32).toInt32) &&& (255 : Int32)) % ((5 : Int32) - ((ft &&& (255 : Int32)) % (5 : Int32))))))) + (r1_v cc (2 : Int32) ((ft &&& (255 : Int32)) % (5 : Int32)) (((ft &&& (255 : Int32)) % (5 : Int32)) + ((((ft.toUInt32 >>> ((8 : Int32) &&& 31).toUInt32).toInt32) &&& (255 : Int32)) % ((5 : Int32) - ((ft &&& (255 : Int32)) % (5 : Int32))))))) + (r1_v dd (3 : Int32) ((ft &&& (255 : Int32)) % (5 : Int32)) (((ft &&& (255 : Int32)) % (5 : Int32)) + ((((ft.toUInt32 >>> ((8 : Int32) &&& 31).toUInt32).toInt32) &&& (255 : Int32)) % ((5 : Int32) - ((ft &&& (255 : Int32)) % (5 : Int32))))))) % (256 : Int32)) := by
  generalize (((ft &&& (255 : Int32)) % (5 : Int32)) + ((((ft.toUInt32 >>> ((8 : Int32) &&& 31).toUInt32).toInt32) &&& (255 : Int32)) % ((5 : Int32) - ((ft &&& (255 : Int32)) % (5 : Int32))))) = tt at *
  generalize ((ft &&& (255 : Int32)) % (5 : Int32)) = ff at *
  have hf : fn = 0 ∨ fn = 1 ∨ fn = 2 ∨ fn = 3 ∨ fn = 4 := by omega
  rcases hf with rfl | rfl | rfl | rfl | rfl
  · obtain rfl : ff = (0 : Int32) := Int32.toInt_inj.mp hfn
    have hk : kk = 0 ∨ kk = 1 ∨ kk = 2 ∨ kk = 3 ∨ kk = 4 := by omega
    rcases hk with rfl | rfl | rfl | rfl | rfl
    · obtain rfl : tt = (0 : Int32) := Int32.toInt_inj.mp hto
      exact own_s0_0 aa bb cc dd
    · obtain rfl : tt = (1 : Int32) := Int32.toInt_inj.mp hto
      exact own_s0_1 aa bb cc dd
    · obtain rfl : tt = (2 : Int32) := Int32.toInt_inj.mp hto
      exact own_s0_2 aa bb cc dd
    · obtain rfl : tt = (3 : Int32) := Int32.toInt_inj.mp hto
      exact own_s0_3 aa bb cc dd
    · obtain rfl : tt = (4 : Int32) := Int32.toInt_inj.mp hto
      exact own_s0_4 aa bb cc dd
  · obtain rfl : ff = (1 : Int32) := Int32.toInt_inj.mp hfn
    have hk : kk = 0 ∨ kk = 1 ∨ kk = 2 ∨ kk = 3 := by omega
    rcases hk with rfl | rfl | rfl | rfl
    · obtain rfl : tt = (1 : Int32) := Int32.toInt_inj.mp hto
      exact own_s1_0 aa bb cc dd
    · obtain rfl : tt = (2 : Int32) := Int32.toInt_inj.mp hto
      exact own_s1_1 aa bb cc dd
    · obtain rfl : tt = (3 : Int32) := Int32.toInt_inj.mp hto
      exact own_s1_2 aa bb cc dd
    · obtain rfl : tt = (4 : Int32) := Int32.toInt_inj.mp hto
      exact own_s1_3 aa bb cc dd
  · obtain rfl : ff = (2 : Int32) := Int32.toInt_inj.mp hfn
    have hk : kk = 0 ∨ kk = 1 ∨ kk = 2 := by omega
    rcases hk with rfl | rfl | rfl
    · obtain rfl : tt = (2 : Int32) := Int32.toInt_inj.mp hto
      exact own_s2_0 aa bb cc dd
    · obtain rfl : tt = (3 : Int32) := Int32.toInt_inj.mp hto
      exact own_s2_1 aa bb cc dd
    · obtain rfl : tt = (4 : Int32) := Int32.toInt_inj.mp hto
      exact own_s2_2 aa bb cc dd
  · obtain rfl : ff = (3 : Int32) := Int32.toInt_inj.mp hfn
    have hk : kk = 0 ∨ kk = 1 := by omega
    rcases hk with rfl | rfl
    · obtain rfl : tt = (3 : Int32) := Int32.toInt_inj.mp hto
      exact own_s3_0 aa bb cc dd
    · obtain rfl : tt = (4 : Int32) := Int32.toInt_inj.mp hto
      exact own_s3_1 aa bb cc dd
  · obtain rfl : ff = (4 : Int32) := Int32.toInt_inj.mp hfn
    have hk : kk = 0 := by omega
    subst hk
    obtain rfl : tt = (4 : Int32) := Int32.toInt_inj.mp hto
    exact own_s4_0 aa bb cc dd
def Q0 (Z : State) (aa : Int32) (bb : Int32) (cc : Int32) (dd : Int32) (ft : Int32) (h0 : Heap) (n0 : Nat) (v : Option Value) (h : Heap) (L : List Loc) : Prop := v = some (.int (1 : Int32)) ∧ Fr n0 L
set_option maxRecDepth 65536 in
set_option maxHeartbeats 40000000 in
theorem rm0 (l : Launch) (Z : State) (a0 : Array Value) (hw : ∀ d ∈ tables_1, d.before a0 Z = true) (ws : List Jvm.Cond) (aa : Int32) (bb : Int32) (cc : Int32) (dd : Int32) (ft : Int32) (h0 : Heap) (n0 : Nat) (Z0 : n0 ≤ h0.size) :
    MetFree l x (head1 (Jvm.Cond.code x code maxLocals ret :: ws) room_1) (fun a U => a = #[(.int aa), (.int bb), (.int cc), (.int dd), (.int ft)] ∧ Z.Warmed39 U.vm ∧ U.heap = h0) (fun _ _ _ _ _ => True) (fun _ U o U' => ∃ v L, o = .returned v ∧ Q0 Z aa bb cc dd ft h0 n0 v U'.heap L ∧ FrameEnd U o U' L room_1.cells room_1.slots) := by
  refine MetFree.of_bodySF (plainFor_of_name pn_com_example_tillwire_tillwire_core_check_ByteSumOfPinLaw) hisR ?_
  intro p e s m args below meth c s₁ Bd hml0 hP hK
  obtain ⟨rfl, hZ, hh⟩ := hP
  have hx := Bd.exec
  have hby := Bd.bytes
  have hml : c.maxLocals = 11 := hml0
  have hown : s.vm.findClass "com/example/tillwire/tillwire/core/check/ByteSumOfPinLaw" = some m.cls := findClass_of_methodNamed Bd.named
  have hnm := (name_of_methodNamed Bd.named Bd.method).1
  have X0 : Stand p l e room_1 s m #[(.int aa), (.int bb), (.int cc), (.int dd), (.int ft)] below meth c s₁ [] 0 0 := Stand.of_body Bd
  have e0 : s₁.heap = h0 := by rw [← hh, Bd.state]; rfl
  have N0 := Fr.nil n0
  have K0 : Keep h0 h0 [] := Keep.refl h0 _
  have pre0 : ∀ t, Steps p.tables e below (s₁.setTop (mkF m 0 #[.val (.int aa), .val (.int bb), .val (.int cc), .val (.int dd), .val (.int ft), .unset, .unset, .unset, .unset, .unset, .unset] [])) t → Steps p.tables e below (s₁.setTop (entryFrame m #[(.int aa), (.int bb), (.int cc), (.int dd), (.int ft)] maxLocals)) t := fun t k => castTop (ef_0 m aa bb cc dd ft) k
  obtain ⟨T1, h1, k1, X1, e1, E1, A1, st1⟩ := newP X0 hx hZ (hw _ (List.mem_of_getElem? (i := 0) rfl)) e0 (g := (mkF m 1 #[.val (.int aa), .val (.int bb), .val (.int cc), .val (.int dd), .val (.int ft), .unset, .unset, .unset, .unset, .unset, .unset] [(.int (4 : Int32))])) rfl (hb hby at_1) rfl (by decide) (cap := 4) (by decide) (by decide) (by decide) (by decide)
  obtain ⟨b1, g1⟩ : ∃ z, z = h0.size := ⟨_, rfl⟩
  rw [← g1] at A1 st1
  have gg1 : n0 ≤ b1 := Nat.le_trans Z0 (Nat.le_of_eq g1.symm)
  have Z1 : n0 ≤ h1.size := Nat.le_trans Z0 E1.1
  have f2 : AI Z h1 b1 .byte 4 zI := AF.new A1 (by decide)
  obtain ⟨cl3, Arcl3, hincl3, -⟩ := AF.at f2 (j := (0 : Int32)) 0 (by decide) (by decide)
  obtain ⟨T4, h4, X4, e4, W4, st4⟩ := stB X1 hx hZ e1 Arcl3 (j := (0 : Int32)) hincl3 (g := (mkF m 7 #[.val (.int aa), .val (.int bb), .val (.int cc), .val (.int dd), .val (.int ft), .unset, .unset, .unset, .unset, .unset, .unset] [(.int (aa.toInt8.toInt32)), (.int (0 : Int32)), (.ref b1), (.ref b1)])) rfl rfl (hb hby at_7)
  rw [own_nb] at W4
  have N4 := Fr.snoc X4 N0 gg1
  have Z4 : n0 ≤ h4.size := Nat.le_trans Z1 (Keep.of_wr W4).1
  have f5 : AI Z h4 b1 .byte 4 (up zI 0 (aa.toInt8.toInt32)) := AF.setI f2 W4 0 (by decide)
  obtain ⟨cl6, Arcl6, hincl6, -⟩ := AF.at f5 (j := (1 : Int32)) 1 (by decide) (by decide)
  obtain ⟨T7, h7, X7, e7, W7, st7⟩ := stB X4 hx hZ e4 Arcl6 (j := (1 : Int32)) hincl6 (g := (mkF m 12 #[.val (.int aa), .val (.int bb), .val (.int cc), .val (.int dd), .val (.int ft), .unset, .unset, .unset, .unset, .unset, .unset] [(.int (bb.toInt8.toInt32)), (.int (1 : Int32)), (.ref b1), (.ref b1)])) rfl rfl (hb hby at_12)
  rw [own_nb] at W7
  have N7 := Fr.snoc X7 N4 gg1
  have Z7 : n0 ≤ h7.size := Nat.le_trans Z4 (Keep.of_wr W7).1
  have f8 : AI Z h7 b1 .byte 4 (up (up zI 0 (aa.toInt8.toInt32)) 1 (bb.toInt8.toInt32)) := AF.setI f5 W7 1 (by decide)
  obtain ⟨cl9, Arcl9, hincl9, -⟩ := AF.at f8 (j := (2 : Int32)) 2 (by decide) (by decide)
  obtain ⟨T10, h10, X10, e10, W10, st10⟩ := stB X7 hx hZ e7 Arcl9 (j := (2 : Int32)) hincl9 (g := (mkF m 17 #[.val (.int aa), .val (.int bb), .val (.int cc), .val (.int dd), .val (.int ft), .unset, .unset, .unset, .unset, .unset, .unset] [(.int (cc.toInt8.toInt32)), (.int (2 : Int32)), (.ref b1), (.ref b1)])) rfl rfl (hb hby at_17)
  rw [own_nb] at W10
  have N10 := Fr.snoc X10 N7 gg1
  have Z10 : n0 ≤ h10.size := Nat.le_trans Z7 (Keep.of_wr W10).1
  have f11 : AI Z h10 b1 .byte 4 (up (up (up zI 0 (aa.toInt8.toInt32)) 1 (bb.toInt8.toInt32)) 2 (cc.toInt8.toInt32)) := AF.setI f8 W10 2 (by decide)
  obtain ⟨cl12, Arcl12, hincl12, -⟩ := AF.at f11 (j := (3 : Int32)) 3 (by decide) (by decide)
  obtain ⟨T13, h13, X13, e13, W13, st13⟩ := stB X10 hx hZ e10 Arcl12 (j := (3 : Int32)) hincl12 (g := (mkF m 22 #[.val (.int aa), .val (.int bb), .val (.int cc), .val (.int dd), .val (.int ft), .unset, .unset, .unset, .unset, .unset, .unset] [(.int (dd.toInt8.toInt32)), (.int (3 : Int32)), (.ref b1), (.ref b1)])) rfl rfl (hb hby at_22)
  rw [own_nb] at W13
  have N13 := Fr.snoc X13 N10 gg1
  have Z13 : n0 ≤ h13.size := Nat.le_trans Z10 (Keep.of_wr W13).1
  have f14 : AI Z h13 b1 .byte 4 (up (up (up (up zI 0 (aa.toInt8.toInt32)) 1 (bb.toInt8.toInt32)) 2 (cc.toInt8.toInt32)) 3 (dd.toInt8.toInt32)) := AF.setI f11 W13 3 (by decide)
  obtain ⟨_, _, ⟨T15, L15, k15, n15⟩, -, X15, ⟨Lc15, hQ15, l15, y15, z15⟩, st15⟩ := Jvm.LawKit.callS X13 hx (y := (⟨"com/example/tillwire/tillwire/core/check/ByteSumOfPinLaw", "term", "(IIII)I"⟩ : MethodName)) hown (mvT hZ (hw _ (List.mem_of_getElem? (i := 1) rfl))) (mvT hZ (hw _ (List.mem_of_getElem? (i := 2) rfl))) (mvT hZ (hw _ (List.mem_of_getElem? (i := 3) rfl))) (mvT hZ (hw _ (List.mem_of_getElem? (i := 4) rfl))) (by decide) (backOf (W := 0) (rm1 l Z a0 hw [] aa (0 : Int32) ((ft &&& (255 : Int32)) % (5 : Int32)) (((ft &&& (255 : Int32)) % (5 : Int32)) + ((((ft.toUInt32 >>> ((8 : Int32) &&& 31).toUInt32).toInt32) &&& (255 : Int32)) % ((5 : Int32) - ((ft &&& (255 : Int32)) % (5 : Int32))))) h13 n0 Z13 ) hZ (hw _ (List.mem_of_getElem? (i := 4) rfl)) (hw _ (List.mem_of_getElem? (i := 3) rfl)) (by decide) (by decide)) (g := (mkF m 60 #[.val (.int aa), .val (.int bb), .val (.int cc), .val (.int dd), .val (.int ft), .val (.ref b1), .val (.int ((ft &&& (255 : Int32)) % (5 : Int32))), .val (.int (((ft &&& (255 : Int32)) % (5 : Int32)) + ((((ft.toUInt32 >>> ((8 : Int32) &&& 31).toUInt32).toInt32) &&& (255 : Int32)) % ((5 : Int32) - ((ft &&& (255 : Int32)) % (5 : Int32)))))), .unset, .unset, .unset] [(.int (((ft &&& (255 : Int32)) % (5 : Int32)) + ((((ft.toUInt32 >>> ((8 : Int32) &&& 31).toUInt32).toInt32) &&& (255 : Int32)) % ((5 : Int32) - ((ft &&& (255 : Int32)) % (5 : Int32)))))), (.int ((ft &&& (255 : Int32)) % (5 : Int32))), (.int (0 : Int32)), (.int aa)])) rfl (by rw [hml]; rfl) (argsL := [(.int aa), (.int (0 : Int32)), (.int ((ft &&& (255 : Int32)) % (5 : Int32))), (.int (((ft &&& (255 : Int32)) % (5 : Int32)) + ((((ft.toUInt32 >>> ((8 : Int32) &&& 31).toUInt32).toInt32) &&& (255 : Int32)) % ((5 : Int32) - ((ft &&& (255 : Int32)) % (5 : Int32))))))]) (rest := []) (lenOf pd_0 rfl) rfl (by show 2 * 0 + _ ≤ _; exact Nat.le_of_eq rfl) (hb hby at_60) (fun _ _ => ⟨rfl, e13, (by decide : 1 + 0 ≤ _), (by decide : 4 + 0 ≤ _)⟩)
  dsimp only [Pt.U, Pt.locs, Pt.cells, Pt.slots] at X15 l15 y15 z15 st15 hQ15
  subst l15 y15 z15
  obtain ⟨rfl, N15q, e15⟩ := hQ15
  have N15 := Fr.app N13 N15q
  obtain ⟨_, _, ⟨T16, L16, k16, n16⟩, -, X16, ⟨Lc16, hQ16, l16, y16, z16⟩, st16⟩ := Jvm.LawKit.callS X15 hx (y := (⟨"com/example/tillwire/tillwire/core/check/ByteSumOfPinLaw", "term", "(IIII)I"⟩ : MethodName)) hown (mvT hZ (hw _ (List.mem_of_getElem? (i := 1) rfl))) (mvT hZ (hw _ (List.mem_of_getElem? (i := 2) rfl))) (mvT hZ (hw _ (List.mem_of_getElem? (i := 3) rfl))) (mvT hZ (hw _ (List.mem_of_getElem? (i := 4) rfl))) (by decide) (backOf (W := 1) (rm1 l Z a0 hw [] bb (1 : Int32) ((ft &&& (255 : Int32)) % (5 : Int32)) (((ft &&& (255 : Int32)) % (5 : Int32)) + ((((ft.toUInt32 >>> ((8 : Int32) &&& 31).toUInt32).toInt32) &&& (255 : Int32)) % ((5 : Int32) - ((ft &&& (255 : Int32)) % (5 : Int32))))) h13 n0 Z13 ) hZ (hw _ (List.mem_of_getElem? (i := 4) rfl)) (hw _ (List.mem_of_getElem? (i := 3) rfl)) (by decide) (by decide)) (g := (mkF m 69 #[.val (.int aa), .val (.int bb), .val (.int cc), .val (.int dd), .val (.int ft), .val (.ref b1), .val (.int ((ft &&& (255 : Int32)) % (5 : Int32))), .val (.int (((ft &&& (255 : Int32)) % (5 : Int32)) + ((((ft.toUInt32 >>> ((8 : Int32) &&& 31).toUInt32).toInt32) &&& (255 : Int32)) % ((5 : Int32) - ((ft &&& (255 : Int32)) % (5 : Int32)))))), .unset, .unset, .unset] [(.int (((ft &&& (255 : Int32)) % (5 : Int32)) + ((((ft.toUInt32 >>> ((8 : Int32) &&& 31).toUInt32).toInt32) &&& (255 : Int32)) % ((5 : Int32) - ((ft &&& (255 : Int32)) % (5 : Int32)))))), (.int ((ft &&& (255 : Int32)) % (5 : Int32))), (.int (1 : Int32)), (.int bb), (.int (r1_v aa (0 : Int32) ((ft &&& (255 : Int32)) % (5 : Int32)) (((ft &&& (255 : Int32)) % (5 : Int32)) + ((((ft.toUInt32 >>> ((8 : Int32) &&& 31).toUInt32).toInt32) &&& (255 : Int32)) % ((5 : Int32) - ((ft &&& (255 : Int32)) % (5 : Int32)))))))])) rfl (by rw [hml]; rfl) (argsL := [(.int bb), (.int (1 : Int32)), (.int ((ft &&& (255 : Int32)) % (5 : Int32))), (.int (((ft &&& (255 : Int32)) % (5 : Int32)) + ((((ft.toUInt32 >>> ((8 : Int32) &&& 31).toUInt32).toInt32) &&& (255 : Int32)) % ((5 : Int32) - ((ft &&& (255 : Int32)) % (5 : Int32))))))]) (rest := [(.int (r1_v aa (0 : Int32) ((ft &&& (255 : Int32)) % (5 : Int32)) (((ft &&& (255 : Int32)) % (5 : Int32)) + ((((ft.toUInt32 >>> ((8 : Int32) &&& 31).toUInt32).toInt32) &&& (255 : Int32)) % ((5 : Int32) - ((ft &&& (255 : Int32)) % (5 : Int32)))))))]) (lenOf pd_0 rfl) rfl (by show 2 * 0 + _ ≤ _; exact Nat.le_of_eq rfl) (hb hby at_69) (fun _ _ => ⟨rfl, e15, (by decide : 1 + 0 ≤ _), (by decide : 4 + 0 ≤ _)⟩)
  dsimp only [Pt.U, Pt.locs, Pt.cells, Pt.slots] at X16 l16 y16 z16 st16 hQ16
  subst l16 y16 z16
  obtain ⟨rfl, N16q, e16⟩ := hQ16
  have N16 := Fr.app N15 N16q
  obtain ⟨_, _, ⟨T17, L17, k17, n17⟩, -, X17, ⟨Lc17, hQ17, l17, y17, z17⟩, st17⟩ := Jvm.LawKit.callS X16 hx (y := (⟨"com/example/tillwire/tillwire/core/check/ByteSumOfPinLaw", "term", "(IIII)I"⟩ : MethodName)) hown (mvT hZ (hw _ (List.mem_of_getElem? (i := 1) rfl))) (mvT hZ (hw _ (List.mem_of_getElem? (i := 2) rfl))) (mvT hZ (hw _ (List.mem_of_getElem? (i := 3) rfl))) (mvT hZ (hw _ (List.mem_of_getElem? (i := 4) rfl))) (by decide) (backOf (W := 1) (rm1 l Z a0 hw [] cc (2 : Int32) ((ft &&& (255 : Int32)) % (5 : Int32)) (((ft &&& (255 : Int32)) % (5 : Int32)) + ((((ft.toUInt32 >>> ((8 : Int32) &&& 31).toUInt32).toInt32) &&& (255 : Int32)) % ((5 : Int32) - ((ft &&& (255 : Int32)) % (5 : Int32))))) h13 n0 Z13 ) hZ (hw _ (List.mem_of_getElem? (i := 4) rfl)) (hw _ (List.mem_of_getElem? (i := 3) rfl)) (by decide) (by decide)) (g := (mkF m 79 #[.val (.int aa), .val (.int bb), .val (.int cc), .val (.int dd), .val (.int ft), .val (.ref b1), .val (.int ((ft &&& (255 : Int32)) % (5 : Int32))), .val (.int (((ft &&& (255 : Int32)) % (5 : Int32)) + ((((ft.toUInt32 >>> ((8 : Int32) &&& 31).toUInt32).toInt32) &&& (255 : Int32)) % ((5 : Int32) - ((ft &&& (255 : Int32)) % (5 : Int32)))))), .unset, .unset, .unset] [(.int (((ft &&& (255 : Int32)) % (5 : Int32)) + ((((ft.toUInt32 >>> ((8 : Int32) &&& 31).toUInt32).toInt32) &&& (255 : Int32)) % ((5 : Int32) - ((ft &&& (255 : Int32)) % (5 : Int32)))))), (.int ((ft &&& (255 : Int32)) % (5 : Int32))), (.int (2 : Int32)), (.int cc), (.int ((r1_v aa (0 : Int32) ((ft &&& (255 : Int32)) % (5 : Int32)) (((ft &&& (255 : Int32)) % (5 : Int32)) + ((((ft.toUInt32 >>> ((8 : Int32) &&& 31).toUInt32).toInt32) &&& (255 : Int32)) % ((5 : Int32) - ((ft &&& (255 : Int32)) % (5 : Int32)))))) + (r1_v bb (1 : Int32) ((ft &&& (255 : Int32)) % (5 : Int32)) (((ft &&& (255 : Int32)) % (5 : Int32)) + ((((ft.toUInt32 >>> ((8 : Int32) &&& 31).toUInt32).toInt32) &&& (255 : Int32)) % ((5 : Int32) - ((ft &&& (255 : Int32)) % (5 : Int32))))))))])) rfl (by rw [hml]; rfl) (argsL := [(.int cc), (.int (2 : Int32)), (.int ((ft &&& (255 : Int32)) % (5 : Int32))), (.int (((ft &&& (255 : Int32)) % (5 : Int32)) + ((((ft.toUInt32 >>> ((8 : Int32) &&& 31).toUInt32).toInt32) &&& (255 : Int32)) % ((5 : Int32) - ((ft &&& (255 : Int32)) % (5 : Int32))))))]) (rest := [(.int ((r1_v aa (0 : Int32) ((ft &&& (255 : Int32)) % (5 : Int32)) (((ft &&& (255 : Int32)) % (5 : Int32)) + ((((ft.toUInt32 >>> ((8 : Int32) &&& 31).toUInt32).toInt32) &&& (255 : Int32)) % ((5 : Int32) - ((ft &&& (255 : Int32)) % (5 : Int32)))))) + (r1_v bb (1 : Int32) ((ft &&& (255 : Int32)) % (5 : Int32)) (((ft &&& (255 : Int32)) % (5 : Int32)) + ((((ft.toUInt32 >>> ((8 : Int32) &&& 31).toUInt32).toInt32) &&& (255 : Int32)) % ((5 : Int32) - ((ft &&& (255 : Int32)) % (5 : Int32))))))))]) (lenOf pd_0 rfl) rfl (by show 2 * 0 + _ ≤ _; exact Nat.le_of_eq rfl) (hb hby at_79) (fun _ _ => ⟨rfl, e16, (by decide : 1 + 0 ≤ _), (by decide : 4 + 0 ≤ _)⟩)
  dsimp only [Pt.U, Pt.locs, Pt.cells, Pt.slots] at X17 l17 y17 z17 st17 hQ17
  subst l17 y17 z17
  obtain ⟨rfl, N17q, e17⟩ := hQ17
  have N17 := Fr.app N16 N17q
  obtain ⟨_, _, ⟨T18, L18, k18, n18⟩, -, X18, ⟨Lc18, hQ18, l18, y18, z18⟩, st18⟩ := Jvm.LawKit.callS X17 hx (y := (⟨"com/example/tillwire/tillwire/core/check/ByteSumOfPinLaw", "term", "(IIII)I"⟩ : MethodName)) hown (mvT hZ (hw _ (List.mem_of_getElem? (i := 1) rfl))) (mvT hZ (hw _ (List.mem_of_getElem? (i := 2) rfl))) (mvT hZ (hw _ (List.mem_of_getElem? (i := 3) rfl))) (mvT hZ (hw _ (List.mem_of_getElem? (i := 4) rfl))) (by decide) (backOf (W := 1) (rm1 l Z a0 hw [] dd (3 : Int32) ((ft &&& (255 : Int32)) % (5 : Int32)) (((ft &&& (255 : Int32)) % (5 : Int32)) + ((((ft.toUInt32 >>> ((8 : Int32) &&& 31).toUInt32).toInt32) &&& (255 : Int32)) % ((5 : Int32) - ((ft &&& (255 : Int32)) % (5 : Int32))))) h13 n0 Z13 ) hZ (hw _ (List.mem_of_getElem? (i := 4) rfl)) (hw _ (List.mem_of_getElem? (i := 3) rfl)) (by decide) (by decide)) (g := (mkF m 89 #[.val (.int aa), .val (.int bb), .val (.int cc), .val (.int dd), .val (.int ft), .val (.ref b1), .val (.int ((ft &&& (255 : Int32)) % (5 : Int32))), .val (.int (((ft &&& (255 : Int32)) % (5 : Int32)) + ((((ft.toUInt32 >>> ((8 : Int32) &&& 31).toUInt32).toInt32) &&& (255 : Int32)) % ((5 : Int32) - ((ft &&& (255 : Int32)) % (5 : Int32)))))), .unset, .unset, .unset] [(.int (((ft &&& (255 : Int32)) % (5 : Int32)) + ((((ft.toUInt32 >>> ((8 : Int32) &&& 31).toUInt32).toInt32) &&& (255 : Int32)) % ((5 : Int32) - ((ft &&& (255 : Int32)) % (5 : Int32)))))), (.int ((ft &&& (255 : Int32)) % (5 : Int32))), (.int (3 : Int32)), (.int dd), (.int (((r1_v aa (0 : Int32) ((ft &&& (255 : Int32)) % (5 : Int32)) (((ft &&& (255 : Int32)) % (5 : Int32)) + ((((ft.toUInt32 >>> ((8 : Int32) &&& 31).toUInt32).toInt32) &&& (255 : Int32)) % ((5 : Int32) - ((ft &&& (255 : Int32)) % (5 : Int32)))))) + (r1_v bb (1 : Int32) ((ft &&& (255 : Int32)) % (5 : Int32)) (((ft &&& (255 : Int32)) % (5 : Int32)) + ((((ft.toUInt32 >>> ((8 : Int32) &&& 31).toUInt32).toInt32) &&& (255 : Int32)) % ((5 : Int32) - ((ft &&& (255 : Int32)) % (5 : Int32))))))) + (r1_v cc (2 : Int32) ((ft &&& (255 : Int32)) % (5 : Int32)) (((ft &&& (255 : Int32)) % (5 : Int32)) + ((((ft.toUInt32 >>> ((8 : Int32) &&& 31).toUInt32).toInt32) &&& (255 : Int32)) % ((5 : Int32) - ((ft &&& (255 : Int32)) % (5 : Int32))))))))])) rfl (by rw [hml]; rfl) (argsL := [(.int dd), (.int (3 : Int32)), (.int ((ft &&& (255 : Int32)) % (5 : Int32))), (.int (((ft &&& (255 : Int32)) % (5 : Int32)) + ((((ft.toUInt32 >>> ((8 : Int32) &&& 31).toUInt32).toInt32) &&& (255 : Int32)) % ((5 : Int32) - ((ft &&& (255 : Int32)) % (5 : Int32))))))]) (rest := [(.int (((r1_v aa (0 : Int32) ((ft &&& (255 : Int32)) % (5 : Int32)) (((ft &&& (255 : Int32)) % (5 : Int32)) + ((((ft.toUInt32 >>> ((8 : Int32) &&& 31).toUInt32).toInt32) &&& (255 : Int32)) % ((5 : Int32) - ((ft &&& (255 : Int32)) % (5 : Int32)))))) + (r1_v bb (1 : Int32) ((ft &&& (255 : Int32)) % (5 : Int32)) (((ft &&& (255 : Int32)) % (5 : Int32)) + ((((ft.toUInt32 >>> ((8 : Int32) &&& 31).toUInt32).toInt32) &&& (255 : Int32)) % ((5 : Int32) - ((ft &&& (255 : Int32)) % (5 : Int32))))))) + (r1_v cc (2 : Int32) ((ft &&& (255 : Int32)) % (5 : Int32)) (((ft &&& (255 : Int32)) % (5 : Int32)) + ((((ft.toUInt32 >>> ((8 : Int32) &&& 31).toUInt32).toInt32) &&& (255 : Int32)) % ((5 : Int32) - ((ft &&& (255 : Int32)) % (5 : Int32))))))))]) (lenOf pd_0 rfl) rfl (by show 2 * 0 + _ ≤ _; exact Nat.le_of_eq rfl) (hb hby at_89) (fun _ _ => ⟨rfl, e17, (by decide : 1 + 0 ≤ _), (by decide : 4 + 0 ≤ _)⟩)
  dsimp only [Pt.U, Pt.locs, Pt.cells, Pt.slots] at X18 l18 y18 z18 st18 hQ18
  subst l18 y18 z18
  obtain ⟨rfl, N18q, e18⟩ := hQ18
  have N18 := Fr.app N17 N18q
  obtain ⟨fn, kk, hfn, hto, hle⟩ := own_ft ft
  obtain ⟨_, _, ⟨T19, L19, k19, n19⟩, -, X19, ⟨Lc19, hQ19, l19, y19, z19⟩, st19⟩ := Jvm.LawKit.callS X18 hx (y := (⟨"com/example/tillwire/tillwire/core/check/ByteSum", "of", "([BII)I"⟩ : MethodName)) hown (mvT hZ (hw _ (List.mem_of_getElem? (i := 5) rfl))) (mvT hZ (hw _ (List.mem_of_getElem? (i := 6) rfl))) (mvT hZ (hw _ (List.mem_of_getElem? (i := 7) rfl))) (mvT hZ (hw _ (List.mem_of_getElem? (i := 8) rfl))) (by decide) (backOf (W := 0) (rm2 l Z a0 hw [] b1 ((ft &&& (255 : Int32)) % (5 : Int32)) (((ft &&& (255 : Int32)) % (5 : Int32)) + ((((ft.toUInt32 >>> ((8 : Int32) &&& 31).toUInt32).toInt32) &&& (255 : Int32)) % ((5 : Int32) - ((ft &&& (255 : Int32)) % (5 : Int32))))) 4 (up (up (up (up zI 0 (aa.toInt8.toInt32)) 1 (bb.toInt8.toInt32)) 2 (cc.toInt8.toInt32)) 3 (dd.toInt8.toInt32)) kk fn h13 n0 Z13 f14 (by decide) (hfn) (hto) (hle)) hZ (hw _ (List.mem_of_getElem? (i := 8) rfl)) (hw _ (List.mem_of_getElem? (i := 7) rfl)) (by decide) (by decide)) (g := (mkF m 109 #[.val (.int aa), .val (.int bb), .val (.int cc), .val (.int dd), .val (.int ft), .val (.ref b1), .val (.int ((ft &&& (255 : Int32)) % (5 : Int32))), .val (.int (((ft &&& (255 : Int32)) % (5 : Int32)) + ((((ft.toUInt32 >>> ((8 : Int32) &&& 31).toUInt32).toInt32) &&& (255 : Int32)) % ((5 : Int32) - ((ft &&& (255 : Int32)) % (5 : Int32)))))), .val (.int ((((r1_v aa (0 : Int32) ((ft &&& (255 : Int32)) % (5 : Int32)) (((ft &&& (255 : Int32)) % (5 : Int32)) + ((((ft.toUInt32 >>> ((8 : Int32) &&& 31).toUInt32).toInt32) &&& (255 : Int32)) % ((5 : Int32) - ((ft &&& (255 : Int32)) % (5 : Int32)))))) + (r1_v bb (1 : Int32) ((ft &&& (255 : Int32)) % (5 : Int32)) (((ft &&& (255 : Int32)) % (5 : Int32)) + ((((ft.toUInt32 >>> ((8 : Int32) &&& 31).toUInt32).toInt32) &&& (255 : Int32)) % ((5 : Int32) - ((ft &&& (255 : Int32)) % (5 : Int32))))))) + (r1_v cc (2 : Int32) ((ft &&& (255 : Int32)) % (5 : Int32)) (((ft &&& (255 : Int32)) % (5 : Int32)) + ((((ft.toUInt32 >>> ((8 : Int32) &&& 31).toUInt32).toInt32) &&& (255 : Int32)) % ((5 : Int32) - ((ft &&& (255 : Int32)) % (5 : Int32))))))) + (r1_v dd (3 : Int32) ((ft &&& (255 : Int32)) % (5 : Int32)) (((ft &&& (255 : Int32)) % (5 : Int32)) + ((((ft.toUInt32 >>> ((8 : Int32) &&& 31).toUInt32).toInt32) &&& (255 : Int32)) % ((5 : Int32) - ((ft &&& (255 : Int32)) % (5 : Int32)))))))), .val (.int (((((r1_v aa (0 : Int32) ((ft &&& (255 : Int32)) % (5 : Int32)) (((ft &&& (255 : Int32)) % (5 : Int32)) + ((((ft.toUInt32 >>> ((8 : Int32) &&& 31).toUInt32).toInt32) &&& (255 : Int32)) % ((5 : Int32) - ((ft &&& (255 : Int32)) % (5 : Int32)))))) + (r1_v bb (1 : Int32) ((ft &&& (255 : Int32)) % (5 : Int32)) (((ft &&& (255 : Int32)) % (5 : Int32)) + ((((ft.toUInt32 >>> ((8 : Int32) &&& 31).toUInt32).toInt32) &&& (255 : Int32)) % ((5 : Int32) - ((ft &&& (255 : Int32)) % (5 : Int32))))))) + (r1_v cc (2 : Int32) ((ft &&& (255 : Int32)) % (5 : Int32)) (((ft &&& (255 : Int32)) % (5 : Int32)) + ((((ft.toUInt32 >>> ((8 : Int32) &&& 31).toUInt32).toInt32) &&& (255 : Int32)) % ((5 : Int32) - ((ft &&& (255 : Int32)) % (5 : Int32))))))) + (r1_v dd (3 : Int32) ((ft &&& (255 : Int32)) % (5 : Int32)) (((ft &&& (255 : Int32)) % (5 : Int32)) + ((((ft.toUInt32 >>> ((8 : Int32) &&& 31).toUInt32).toInt32) &&& (255 : Int32)) % ((5 : Int32) - ((ft &&& (255 : Int32)) % (5 : Int32))))))) % (256 : Int32))), .unset] [(.int (((ft &&& (255 : Int32)) % (5 : Int32)) + ((((ft.toUInt32 >>> ((8 : Int32) &&& 31).toUInt32).toInt32) &&& (255 : Int32)) % ((5 : Int32) - ((ft &&& (255 : Int32)) % (5 : Int32)))))), (.int ((ft &&& (255 : Int32)) % (5 : Int32))), (.ref b1)])) rfl (by rw [hml]; rfl) (argsL := [(.ref b1), (.int ((ft &&& (255 : Int32)) % (5 : Int32))), (.int (((ft &&& (255 : Int32)) % (5 : Int32)) + ((((ft.toUInt32 >>> ((8 : Int32) &&& 31).toUInt32).toInt32) &&& (255 : Int32)) % ((5 : Int32) - ((ft &&& (255 : Int32)) % (5 : Int32))))))]) (rest := []) (lenOf pd_1 rfl) rfl (by show 2 * 0 + _ ≤ _; exact Nat.le_of_eq rfl) (hb hby at_109) (fun _ _ => ⟨rfl, e18, (by decide : 1 + 0 ≤ _), (by decide : 4 + 0 ≤ _)⟩)
  dsimp only [Pt.U, Pt.locs, Pt.cells, Pt.slots] at X19 l19 y19 z19 st19 hQ19
  subst l19 y19 z19
  obtain ⟨rfl, N19q, e19⟩ := hQ19
  have N19 := Fr.app N18 N19q
  obtain ⟨fs, hr, hrun, hended, hW, hsame⟩ := X19.leave (v := some (.int (1 : Int32))) (fun h => by rw [Bd.returns] at h; cases h)
  refine ⟨_, _, pre0 _ ?_, hrun, hended, _, _, rfl, ?_, ⟨_, rfl⟩, hW, hsame.mono (by decide) (by decide)⟩
  · show Steps p.tables e below (s₁.setTop (mkF m 0 #[.val (.int aa), .val (.int bb), .val (.int cc), .val (.int dd), .val (.int ft), .unset, .unset, .unset, .unset, .unset, .unset] [])) _
    refine XS.iconst X0.here hx rfl (hb hby at_0) ?_
    show Steps p.tables e below (s₁.setTop (mkF m 1 #[.val (.int aa), .val (.int bb), .val (.int cc), .val (.int dd), .val (.int ft), .unset, .unset, .unset, .unset, .unset, .unset] [(.int (4 : Int32))])) _
    refine st1 _ ?_
    show Steps p.tables e below (T1.setTop (mkF m 3 #[.val (.int aa), .val (.int bb), .val (.int cc), .val (.int dd), .val (.int ft), .unset, .unset, .unset, .unset, .unset, .unset] [(.ref b1)])) _
    refine XS.dup X1.here hx rfl (hb hby at_3) rfl rfl ?_
    show Steps p.tables e below (T1.setTop (mkF m 4 #[.val (.int aa), .val (.int bb), .val (.int cc), .val (.int dd), .val (.int ft), .unset, .unset, .unset, .unset, .unset, .unset] [(.ref b1), (.ref b1)])) _
    refine XS.iconst X1.here hx rfl (hb hby at_4) ?_
    show Steps p.tables e below (T1.setTop (mkF m 5 #[.val (.int aa), .val (.int bb), .val (.int cc), .val (.int dd), .val (.int ft), .unset, .unset, .unset, .unset, .unset, .unset] [(.int (0 : Int32)), (.ref b1), (.ref b1)])) _
    refine XS.iloadN X1.here hx rfl (hb hby at_5) rfl ?_
    show Steps p.tables e below (T1.setTop (mkF m 6 #[.val (.int aa), .val (.int bb), .val (.int cc), .val (.int dd), .val (.int ft), .unset, .unset, .unset, .unset, .unset, .unset] [(.int aa), (.int (0 : Int32)), (.ref b1), (.ref b1)])) _
    refine XS.i2b X1.here hx rfl (hb hby at_6) rfl ?_
    show Steps p.tables e below (T1.setTop (mkF m 7 #[.val (.int aa), .val (.int bb), .val (.int cc), .val (.int dd), .val (.int ft), .unset, .unset, .unset, .unset, .unset, .unset] [(.int (aa.toInt8.toInt32)), (.int (0 : Int32)), (.ref b1), (.ref b1)])) _
    refine st4 _ ?_
    show Steps p.tables e below (T4.setTop (mkF m 8 #[.val (.int aa), .val (.int bb), .val (.int cc), .val (.int dd), .val (.int ft), .unset, .unset, .unset, .unset, .unset, .unset] [(.ref b1)])) _
    refine XS.dup X4.here hx rfl (hb hby at_8) rfl rfl ?_
    show Steps p.tables e below (T4.setTop (mkF m 9 #[.val (.int aa), .val (.int bb), .val (.int cc), .val (.int dd), .val (.int ft), .unset, .unset, .unset, .unset, .unset, .unset] [(.ref b1), (.ref b1)])) _
    refine XS.iconst X4.here hx rfl (hb hby at_9) ?_
    show Steps p.tables e below (T4.setTop (mkF m 10 #[.val (.int aa), .val (.int bb), .val (.int cc), .val (.int dd), .val (.int ft), .unset, .unset, .unset, .unset, .unset, .unset] [(.int (1 : Int32)), (.ref b1), (.ref b1)])) _
    refine XS.iloadN X4.here hx rfl (hb hby at_10) rfl ?_
    show Steps p.tables e below (T4.setTop (mkF m 11 #[.val (.int aa), .val (.int bb), .val (.int cc), .val (.int dd), .val (.int ft), .unset, .unset, .unset, .unset, .unset, .unset] [(.int bb), (.int (1 : Int32)), (.ref b1), (.ref b1)])) _
    refine XS.i2b X4.here hx rfl (hb hby at_11) rfl ?_
    show Steps p.tables e below (T4.setTop (mkF m 12 #[.val (.int aa), .val (.int bb), .val (.int cc), .val (.int dd), .val (.int ft), .unset, .unset, .unset, .unset, .unset, .unset] [(.int (bb.toInt8.toInt32)), (.int (1 : Int32)), (.ref b1), (.ref b1)])) _
    refine st7 _ ?_
    show Steps p.tables e below (T7.setTop (mkF m 13 #[.val (.int aa), .val (.int bb), .val (.int cc), .val (.int dd), .val (.int ft), .unset, .unset, .unset, .unset, .unset, .unset] [(.ref b1)])) _
    refine XS.dup X7.here hx rfl (hb hby at_13) rfl rfl ?_
    show Steps p.tables e below (T7.setTop (mkF m 14 #[.val (.int aa), .val (.int bb), .val (.int cc), .val (.int dd), .val (.int ft), .unset, .unset, .unset, .unset, .unset, .unset] [(.ref b1), (.ref b1)])) _
    refine XS.iconst X7.here hx rfl (hb hby at_14) ?_
    show Steps p.tables e below (T7.setTop (mkF m 15 #[.val (.int aa), .val (.int bb), .val (.int cc), .val (.int dd), .val (.int ft), .unset, .unset, .unset, .unset, .unset, .unset] [(.int (2 : Int32)), (.ref b1), (.ref b1)])) _
    refine XS.iloadN X7.here hx rfl (hb hby at_15) rfl ?_
    show Steps p.tables e below (T7.setTop (mkF m 16 #[.val (.int aa), .val (.int bb), .val (.int cc), .val (.int dd), .val (.int ft), .unset, .unset, .unset, .unset, .unset, .unset] [(.int cc), (.int (2 : Int32)), (.ref b1), (.ref b1)])) _
    refine XS.i2b X7.here hx rfl (hb hby at_16) rfl ?_
    show Steps p.tables e below (T7.setTop (mkF m 17 #[.val (.int aa), .val (.int bb), .val (.int cc), .val (.int dd), .val (.int ft), .unset, .unset, .unset, .unset, .unset, .unset] [(.int (cc.toInt8.toInt32)), (.int (2 : Int32)), (.ref b1), (.ref b1)])) _
    refine st10 _ ?_
    show Steps p.tables e below (T10.setTop (mkF m 18 #[.val (.int aa), .val (.int bb), .val (.int cc), .val (.int dd), .val (.int ft), .unset, .unset, .unset, .unset, .unset, .unset] [(.ref b1)])) _
    refine XS.dup X10.here hx rfl (hb hby at_18) rfl rfl ?_
    show Steps p.tables e below (T10.setTop (mkF m 19 #[.val (.int aa), .val (.int bb), .val (.int cc), .val (.int dd), .val (.int ft), .unset, .unset, .unset, .unset, .unset, .unset] [(.ref b1), (.ref b1)])) _
    refine XS.iconst X10.here hx rfl (hb hby at_19) ?_
    show Steps p.tables e below (T10.setTop (mkF m 20 #[.val (.int aa), .val (.int bb), .val (.int cc), .val (.int dd), .val (.int ft), .unset, .unset, .unset, .unset, .unset, .unset] [(.int (3 : Int32)), (.ref b1), (.ref b1)])) _
    refine XS.iloadN X10.here hx rfl (hb hby at_20) rfl ?_
    show Steps p.tables e below (T10.setTop (mkF m 21 #[.val (.int aa), .val (.int bb), .val (.int cc), .val (.int dd), .val (.int ft), .unset, .unset, .unset, .unset, .unset, .unset] [(.int dd), (.int (3 : Int32)), (.ref b1), (.ref b1)])) _
    refine XS.i2b X10.here hx rfl (hb hby at_21) rfl ?_
    show Steps p.tables e below (T10.setTop (mkF m 22 #[.val (.int aa), .val (.int bb), .val (.int cc), .val (.int dd), .val (.int ft), .unset, .unset, .unset, .unset, .unset, .unset] [(.int (dd.toInt8.toInt32)), (.int (3 : Int32)), (.ref b1), (.ref b1)])) _
    refine st13 _ ?_
    show Steps p.tables e below (T13.setTop (mkF m 23 #[.val (.int aa), .val (.int bb), .val (.int cc), .val (.int dd), .val (.int ft), .unset, .unset, .unset, .unset, .unset, .unset] [(.ref b1)])) _
    refine XS.astore X13.here hx rfl (hb hby at_23) rfl rfl (l' := #[.val (.int aa), .val (.int bb), .val (.int cc), .val (.int dd), .val (.int ft), .val (.ref b1), .unset, .unset, .unset, .unset, .unset]) rfl ?_
    show Steps p.tables e below (T13.setTop (mkF m 25 #[.val (.int aa), .val (.int bb), .val (.int cc), .val (.int dd), .val (.int ft), .val (.ref b1), .unset, .unset, .unset, .unset, .unset] [])) _
    refine XS.iload X13.here hx rfl (hb hby at_25) rfl ?_
    show Steps p.tables e below (T13.setTop (mkF m 27 #[.val (.int aa), .val (.int bb), .val (.int cc), .val (.int dd), .val (.int ft), .val (.ref b1), .unset, .unset, .unset, .unset, .unset] [(.int ft)])) _
    refine XS.sipush X13.here hx rfl (hb hby at_27) ?_
    show Steps p.tables e below (T13.setTop (mkF m 30 #[.val (.int aa), .val (.int bb), .val (.int cc), .val (.int dd), .val (.int ft), .val (.ref b1), .unset, .unset, .unset, .unset, .unset] [(.int (255 : Int32)), (.int ft)])) _
    refine XS.iand X13.here hx rfl (hb hby at_30) rfl ?_
    show Steps p.tables e below (T13.setTop (mkF m 31 #[.val (.int aa), .val (.int bb), .val (.int cc), .val (.int dd), .val (.int ft), .val (.ref b1), .unset, .unset, .unset, .unset, .unset] [(.int (ft &&& (255 : Int32)))])) _
    refine XS.iconst X13.here hx rfl (hb hby at_31) ?_
    show Steps p.tables e below (T13.setTop (mkF m 32 #[.val (.int aa), .val (.int bb), .val (.int cc), .val (.int dd), .val (.int ft), .val (.ref b1), .unset, .unset, .unset, .unset, .unset] [(.int (5 : Int32)), (.int (ft &&& (255 : Int32)))])) _
    refine iremM X13 hx rfl (hb hby at_32) rfl (by decide) ?_
    show Steps p.tables e below (T13.setTop (mkF m 33 #[.val (.int aa), .val (.int bb), .val (.int cc), .val (.int dd), .val (.int ft), .val (.ref b1), .unset, .unset, .unset, .unset, .unset] [(.int ((ft &&& (255 : Int32)) % (5 : Int32)))])) _
    refine XS.istore X13.here hx rfl (hb hby at_33) rfl (l' := #[.val (.int aa), .val (.int bb), .val (.int cc), .val (.int dd), .val (.int ft), .val (.ref b1), .val (.int ((ft &&& (255 : Int32)) % (5 : Int32))), .unset, .unset, .unset, .unset]) rfl ?_
    show Steps p.tables e below (T13.setTop (mkF m 35 #[.val (.int aa), .val (.int bb), .val (.int cc), .val (.int dd), .val (.int ft), .val (.ref b1), .val (.int ((ft &&& (255 : Int32)) % (5 : Int32))), .unset, .unset, .unset, .unset] [])) _
    refine XS.iload X13.here hx rfl (hb hby at_35) rfl ?_
    show Steps p.tables e below (T13.setTop (mkF m 37 #[.val (.int aa), .val (.int bb), .val (.int cc), .val (.int dd), .val (.int ft), .val (.ref b1), .val (.int ((ft &&& (255 : Int32)) % (5 : Int32))), .unset, .unset, .unset, .unset] [(.int ((ft &&& (255 : Int32)) % (5 : Int32)))])) _
    refine XS.iload X13.here hx rfl (hb hby at_37) rfl ?_
    show Steps p.tables e below (T13.setTop (mkF m 39 #[.val (.int aa), .val (.int bb), .val (.int cc), .val (.int dd), .val (.int ft), .val (.ref b1), .val (.int ((ft &&& (255 : Int32)) % (5 : Int32))), .unset, .unset, .unset, .unset] [(.int ft), (.int ((ft &&& (255 : Int32)) % (5 : Int32)))])) _
    refine XS.bipush X13.here hx rfl (hb hby at_39) ?_
    show Steps p.tables e below (T13.setTop (mkF m 41 #[.val (.int aa), .val (.int bb), .val (.int cc), .val (.int dd), .val (.int ft), .val (.ref b1), .val (.int ((ft &&& (255 : Int32)) % (5 : Int32))), .unset, .unset, .unset, .unset] [(.int (8 : Int32)), (.int ft), (.int ((ft &&& (255 : Int32)) % (5 : Int32)))])) _
    refine XS.iushr X13.here hx rfl (hb hby at_41) rfl ?_
    show Steps p.tables e below (T13.setTop (mkF m 42 #[.val (.int aa), .val (.int bb), .val (.int cc), .val (.int dd), .val (.int ft), .val (.ref b1), .val (.int ((ft &&& (255 : Int32)) % (5 : Int32))), .unset, .unset, .unset, .unset] [(.int ((ft.toUInt32 >>> ((8 : Int32) &&& 31).toUInt32).toInt32)), (.int ((ft &&& (255 : Int32)) % (5 : Int32)))])) _
    refine XS.sipush X13.here hx rfl (hb hby at_42) ?_
    show Steps p.tables e below (T13.setTop (mkF m 45 #[.val (.int aa), .val (.int bb), .val (.int cc), .val (.int dd), .val (.int ft), .val (.ref b1), .val (.int ((ft &&& (255 : Int32)) % (5 : Int32))), .unset, .unset, .unset, .unset] [(.int (255 : Int32)), (.int ((ft.toUInt32 >>> ((8 : Int32) &&& 31).toUInt32).toInt32)), (.int ((ft &&& (255 : Int32)) % (5 : Int32)))])) _
    refine XS.iand X13.here hx rfl (hb hby at_45) rfl ?_
    show Steps p.tables e below (T13.setTop (mkF m 46 #[.val (.int aa), .val (.int bb), .val (.int cc), .val (.int dd), .val (.int ft), .val (.ref b1), .val (.int ((ft &&& (255 : Int32)) % (5 : Int32))), .unset, .unset, .unset, .unset] [(.int (((ft.toUInt32 >>> ((8 : Int32) &&& 31).toUInt32).toInt32) &&& (255 : Int32))), (.int ((ft &&& (255 : Int32)) % (5 : Int32)))])) _
    refine XS.iconst X13.here hx rfl (hb hby at_46) ?_
    show Steps p.tables e below (T13.setTop (mkF m 47 #[.val (.int aa), .val (.int bb), .val (.int cc), .val (.int dd), .val (.int ft), .val (.ref b1), .val (.int ((ft &&& (255 : Int32)) % (5 : Int32))), .unset, .unset, .unset, .unset] [(.int (5 : Int32)), (.int (((ft.toUInt32 >>> ((8 : Int32) &&& 31).toUInt32).toInt32) &&& (255 : Int32))), (.int ((ft &&& (255 : Int32)) % (5 : Int32)))])) _
    refine XS.iload X13.here hx rfl (hb hby at_47) rfl ?_
    show Steps p.tables e below (T13.setTop (mkF m 49 #[.val (.int aa), .val (.int bb), .val (.int cc), .val (.int dd), .val (.int ft), .val (.ref b1), .val (.int ((ft &&& (255 : Int32)) % (5 : Int32))), .unset, .unset, .unset, .unset] [(.int ((ft &&& (255 : Int32)) % (5 : Int32))), (.int (5 : Int32)), (.int (((ft.toUInt32 >>> ((8 : Int32) &&& 31).toUInt32).toInt32) &&& (255 : Int32))), (.int ((ft &&& (255 : Int32)) % (5 : Int32)))])) _
    refine XS.isub X13.here hx rfl (hb hby at_49) rfl ?_
    show Steps p.tables e below (T13.setTop (mkF m 50 #[.val (.int aa), .val (.int bb), .val (.int cc), .val (.int dd), .val (.int ft), .val (.ref b1), .val (.int ((ft &&& (255 : Int32)) % (5 : Int32))), .unset, .unset, .unset, .unset] [(.int ((5 : Int32) - ((ft &&& (255 : Int32)) % (5 : Int32)))), (.int (((ft.toUInt32 >>> ((8 : Int32) &&& 31).toUInt32).toInt32) &&& (255 : Int32))), (.int ((ft &&& (255 : Int32)) % (5 : Int32)))])) _
    refine iremM X13 hx rfl (hb hby at_50) rfl (own_nz ft) ?_
    show Steps p.tables e below (T13.setTop (mkF m 51 #[.val (.int aa), .val (.int bb), .val (.int cc), .val (.int dd), .val (.int ft), .val (.ref b1), .val (.int ((ft &&& (255 : Int32)) % (5 : Int32))), .unset, .unset, .unset, .unset] [(.int ((((ft.toUInt32 >>> ((8 : Int32) &&& 31).toUInt32).toInt32) &&& (255 : Int32)) % ((5 : Int32) - ((ft &&& (255 : Int32)) % (5 : Int32))))), (.int ((ft &&& (255 : Int32)) % (5 : Int32)))])) _
    refine XS.iadd X13.here hx rfl (hb hby at_51) rfl ?_
    show Steps p.tables e below (T13.setTop (mkF m 52 #[.val (.int aa), .val (.int bb), .val (.int cc), .val (.int dd), .val (.int ft), .val (.ref b1), .val (.int ((ft &&& (255 : Int32)) % (5 : Int32))), .unset, .unset, .unset, .unset] [(.int (((ft &&& (255 : Int32)) % (5 : Int32)) + ((((ft.toUInt32 >>> ((8 : Int32) &&& 31).toUInt32).toInt32) &&& (255 : Int32)) % ((5 : Int32) - ((ft &&& (255 : Int32)) % (5 : Int32))))))])) _
    refine XS.istore X13.here hx rfl (hb hby at_52) rfl (l' := #[.val (.int aa), .val (.int bb), .val (.int cc), .val (.int dd), .val (.int ft), .val (.ref b1), .val (.int ((ft &&& (255 : Int32)) % (5 : Int32))), .val (.int (((ft &&& (255 : Int32)) % (5 : Int32)) + ((((ft.toUInt32 >>> ((8 : Int32) &&& 31).toUInt32).toInt32) &&& (255 : Int32)) % ((5 : Int32) - ((ft &&& (255 : Int32)) % (5 : Int32)))))), .unset, .unset, .unset]) rfl ?_
    show Steps p.tables e below (T13.setTop (mkF m 54 #[.val (.int aa), .val (.int bb), .val (.int cc), .val (.int dd), .val (.int ft), .val (.ref b1), .val (.int ((ft &&& (255 : Int32)) % (5 : Int32))), .val (.int (((ft &&& (255 : Int32)) % (5 : Int32)) + ((((ft.toUInt32 >>> ((8 : Int32) &&& 31).toUInt32).toInt32) &&& (255 : Int32)) % ((5 : Int32) - ((ft &&& (255 : Int32)) % (5 : Int32)))))), .unset, .unset, .unset] [])) _
    refine XS.iloadN X13.here hx rfl (hb hby at_54) rfl ?_
    show Steps p.tables e below (T13.setTop (mkF m 55 #[.val (.int aa), .val (.int bb), .val (.int cc), .val (.int dd), .val (.int ft), .val (.ref b1), .val (.int ((ft &&& (255 : Int32)) % (5 : Int32))), .val (.int (((ft &&& (255 : Int32)) % (5 : Int32)) + ((((ft.toUInt32 >>> ((8 : Int32) &&& 31).toUInt32).toInt32) &&& (255 : Int32)) % ((5 : Int32) - ((ft &&& (255 : Int32)) % (5 : Int32)))))), .unset, .unset, .unset] [(.int aa)])) _
    refine XS.iconst X13.here hx rfl (hb hby at_55) ?_
    show Steps p.tables e below (T13.setTop (mkF m 56 #[.val (.int aa), .val (.int bb), .val (.int cc), .val (.int dd), .val (.int ft), .val (.ref b1), .val (.int ((ft &&& (255 : Int32)) % (5 : Int32))), .val (.int (((ft &&& (255 : Int32)) % (5 : Int32)) + ((((ft.toUInt32 >>> ((8 : Int32) &&& 31).toUInt32).toInt32) &&& (255 : Int32)) % ((5 : Int32) - ((ft &&& (255 : Int32)) % (5 : Int32)))))), .unset, .unset, .unset] [(.int (0 : Int32)), (.int aa)])) _
    refine XS.iload X13.here hx rfl (hb hby at_56) rfl ?_
    show Steps p.tables e below (T13.setTop (mkF m 58 #[.val (.int aa), .val (.int bb), .val (.int cc), .val (.int dd), .val (.int ft), .val (.ref b1), .val (.int ((ft &&& (255 : Int32)) % (5 : Int32))), .val (.int (((ft &&& (255 : Int32)) % (5 : Int32)) + ((((ft.toUInt32 >>> ((8 : Int32) &&& 31).toUInt32).toInt32) &&& (255 : Int32)) % ((5 : Int32) - ((ft &&& (255 : Int32)) % (5 : Int32)))))), .unset, .unset, .unset] [(.int ((ft &&& (255 : Int32)) % (5 : Int32))), (.int (0 : Int32)), (.int aa)])) _
    refine XS.iload X13.here hx rfl (hb hby at_58) rfl ?_
    show Steps p.tables e below (T13.setTop (mkF m 60 #[.val (.int aa), .val (.int bb), .val (.int cc), .val (.int dd), .val (.int ft), .val (.ref b1), .val (.int ((ft &&& (255 : Int32)) % (5 : Int32))), .val (.int (((ft &&& (255 : Int32)) % (5 : Int32)) + ((((ft.toUInt32 >>> ((8 : Int32) &&& 31).toUInt32).toInt32) &&& (255 : Int32)) % ((5 : Int32) - ((ft &&& (255 : Int32)) % (5 : Int32)))))), .unset, .unset, .unset] [(.int (((ft &&& (255 : Int32)) % (5 : Int32)) + ((((ft.toUInt32 >>> ((8 : Int32) &&& 31).toUInt32).toInt32) &&& (255 : Int32)) % ((5 : Int32) - ((ft &&& (255 : Int32)) % (5 : Int32)))))), (.int ((ft &&& (255 : Int32)) % (5 : Int32))), (.int (0 : Int32)), (.int aa)])) _
    refine st15 _ ?_
    show Steps p.tables e below (T15.setTop (mkF m 63 #[.val (.int aa), .val (.int bb), .val (.int cc), .val (.int dd), .val (.int ft), .val (.ref b1), .val (.int ((ft &&& (255 : Int32)) % (5 : Int32))), .val (.int (((ft &&& (255 : Int32)) % (5 : Int32)) + ((((ft.toUInt32 >>> ((8 : Int32) &&& 31).toUInt32).toInt32) &&& (255 : Int32)) % ((5 : Int32) - ((ft &&& (255 : Int32)) % (5 : Int32)))))), .unset, .unset, .unset] [(.int (r1_v aa (0 : Int32) ((ft &&& (255 : Int32)) % (5 : Int32)) (((ft &&& (255 : Int32)) % (5 : Int32)) + ((((ft.toUInt32 >>> ((8 : Int32) &&& 31).toUInt32).toInt32) &&& (255 : Int32)) % ((5 : Int32) - ((ft &&& (255 : Int32)) % (5 : Int32)))))))])) _
    refine XS.iloadN X15.here hx rfl (hb hby at_63) rfl ?_
    show Steps p.tables e below (T15.setTop (mkF m 64 #[.val (.int aa), .val (.int bb), .val (.int cc), .val (.int dd), .val (.int ft), .val (.ref b1), .val (.int ((ft &&& (255 : Int32)) % (5 : Int32))), .val (.int (((ft &&& (255 : Int32)) % (5 : Int32)) + ((((ft.toUInt32 >>> ((8 : Int32) &&& 31).toUInt32).toInt32) &&& (255 : Int32)) % ((5 : Int32) - ((ft &&& (255 : Int32)) % (5 : Int32)))))), .unset, .unset, .unset] [(.int bb), (.int (r1_v aa (0 : Int32) ((ft &&& (255 : Int32)) % (5 : Int32)) (((ft &&& (255 : Int32)) % (5 : Int32)) + ((((ft.toUInt32 >>> ((8 : Int32) &&& 31).toUInt32).toInt32) &&& (255 : Int32)) % ((5 : Int32) - ((ft &&& (255 : Int32)) % (5 : Int32)))))))])) _
    refine XS.iconst X15.here hx rfl (hb hby at_64) ?_
    show Steps p.tables e below (T15.setTop (mkF m 65 #[.val (.int aa), .val (.int bb), .val (.int cc), .val (.int dd), .val (.int ft), .val (.ref b1), .val (.int ((ft &&& (255 : Int32)) % (5 : Int32))), .val (.int (((ft &&& (255 : Int32)) % (5 : Int32)) + ((((ft.toUInt32 >>> ((8 : Int32) &&& 31).toUInt32).toInt32) &&& (255 : Int32)) % ((5 : Int32) - ((ft &&& (255 : Int32)) % (5 : Int32)))))), .unset, .unset, .unset] [(.int (1 : Int32)), (.int bb), (.int (r1_v aa (0 : Int32) ((ft &&& (255 : Int32)) % (5 : Int32)) (((ft &&& (255 : Int32)) % (5 : Int32)) + ((((ft.toUInt32 >>> ((8 : Int32) &&& 31).toUInt32).toInt32) &&& (255 : Int32)) % ((5 : Int32) - ((ft &&& (255 : Int32)) % (5 : Int32)))))))])) _
    refine XS.iload X15.here hx rfl (hb hby at_65) rfl ?_
    show Steps p.tables e below (T15.setTop (mkF m 67 #[.val (.int aa), .val (.int bb), .val (.int cc), .val (.int dd), .val (.int ft), .val (.ref b1), .val (.int ((ft &&& (255 : Int32)) % (5 : Int32))), .val (.int (((ft &&& (255 : Int32)) % (5 : Int32)) + ((((ft.toUInt32 >>> ((8 : Int32) &&& 31).toUInt32).toInt32) &&& (255 : Int32)) % ((5 : Int32) - ((ft &&& (255 : Int32)) % (5 : Int32)))))), .unset, .unset, .unset] [(.int ((ft &&& (255 : Int32)) % (5 : Int32))), (.int (1 : Int32)), (.int bb), (.int (r1_v aa (0 : Int32) ((ft &&& (255 : Int32)) % (5 : Int32)) (((ft &&& (255 : Int32)) % (5 : Int32)) + ((((ft.toUInt32 >>> ((8 : Int32) &&& 31).toUInt32).toInt32) &&& (255 : Int32)) % ((5 : Int32) - ((ft &&& (255 : Int32)) % (5 : Int32)))))))])) _
    refine XS.iload X15.here hx rfl (hb hby at_67) rfl ?_
    show Steps p.tables e below (T15.setTop (mkF m 69 #[.val (.int aa), .val (.int bb), .val (.int cc), .val (.int dd), .val (.int ft), .val (.ref b1), .val (.int ((ft &&& (255 : Int32)) % (5 : Int32))), .val (.int (((ft &&& (255 : Int32)) % (5 : Int32)) + ((((ft.toUInt32 >>> ((8 : Int32) &&& 31).toUInt32).toInt32) &&& (255 : Int32)) % ((5 : Int32) - ((ft &&& (255 : Int32)) % (5 : Int32)))))), .unset, .unset, .unset] [(.int (((ft &&& (255 : Int32)) % (5 : Int32)) + ((((ft.toUInt32 >>> ((8 : Int32) &&& 31).toUInt32).toInt32) &&& (255 : Int32)) % ((5 : Int32) - ((ft &&& (255 : Int32)) % (5 : Int32)))))), (.int ((ft &&& (255 : Int32)) % (5 : Int32))), (.int (1 : Int32)), (.int bb), (.int (r1_v aa (0 : Int32) ((ft &&& (255 : Int32)) % (5 : Int32)) (((ft &&& (255 : Int32)) % (5 : Int32)) + ((((ft.toUInt32 >>> ((8 : Int32) &&& 31).toUInt32).toInt32) &&& (255 : Int32)) % ((5 : Int32) - ((ft &&& (255 : Int32)) % (5 : Int32)))))))])) _
    refine st16 _ ?_
    show Steps p.tables e below (T16.setTop (mkF m 72 #[.val (.int aa), .val (.int bb), .val (.int cc), .val (.int dd), .val (.int ft), .val (.ref b1), .val (.int ((ft &&& (255 : Int32)) % (5 : Int32))), .val (.int (((ft &&& (255 : Int32)) % (5 : Int32)) + ((((ft.toUInt32 >>> ((8 : Int32) &&& 31).toUInt32).toInt32) &&& (255 : Int32)) % ((5 : Int32) - ((ft &&& (255 : Int32)) % (5 : Int32)))))), .unset, .unset, .unset] [(.int (r1_v bb (1 : Int32) ((ft &&& (255 : Int32)) % (5 : Int32)) (((ft &&& (255 : Int32)) % (5 : Int32)) + ((((ft.toUInt32 >>> ((8 : Int32) &&& 31).toUInt32).toInt32) &&& (255 : Int32)) % ((5 : Int32) - ((ft &&& (255 : Int32)) % (5 : Int32))))))), (.int (r1_v aa (0 : Int32) ((ft &&& (255 : Int32)) % (5 : Int32)) (((ft &&& (255 : Int32)) % (5 : Int32)) + ((((ft.toUInt32 >>> ((8 : Int32) &&& 31).toUInt32).toInt32) &&& (255 : Int32)) % ((5 : Int32) - ((ft &&& (255 : Int32)) % (5 : Int32)))))))])) _
    refine XS.iadd X16.here hx rfl (hb hby at_72) rfl ?_
    show Steps p.tables e below (T16.setTop (mkF m 73 #[.val (.int aa), .val (.int bb), .val (.int cc), .val (.int dd), .val (.int ft), .val (.ref b1), .val (.int ((ft &&& (255 : Int32)) % (5 : Int32))), .val (.int (((ft &&& (255 : Int32)) % (5 : Int32)) + ((((ft.toUInt32 >>> ((8 : Int32) &&& 31).toUInt32).toInt32) &&& (255 : Int32)) % ((5 : Int32) - ((ft &&& (255 : Int32)) % (5 : Int32)))))), .unset, .unset, .unset] [(.int ((r1_v aa (0 : Int32) ((ft &&& (255 : Int32)) % (5 : Int32)) (((ft &&& (255 : Int32)) % (5 : Int32)) + ((((ft.toUInt32 >>> ((8 : Int32) &&& 31).toUInt32).toInt32) &&& (255 : Int32)) % ((5 : Int32) - ((ft &&& (255 : Int32)) % (5 : Int32)))))) + (r1_v bb (1 : Int32) ((ft &&& (255 : Int32)) % (5 : Int32)) (((ft &&& (255 : Int32)) % (5 : Int32)) + ((((ft.toUInt32 >>> ((8 : Int32) &&& 31).toUInt32).toInt32) &&& (255 : Int32)) % ((5 : Int32) - ((ft &&& (255 : Int32)) % (5 : Int32))))))))])) _
    refine XS.iloadN X16.here hx rfl (hb hby at_73) rfl ?_
    show Steps p.tables e below (T16.setTop (mkF m 74 #[.val (.int aa), .val (.int bb), .val (.int cc), .val (.int dd), .val (.int ft), .val (.ref b1), .val (.int ((ft &&& (255 : Int32)) % (5 : Int32))), .val (.int (((ft &&& (255 : Int32)) % (5 : Int32)) + ((((ft.toUInt32 >>> ((8 : Int32) &&& 31).toUInt32).toInt32) &&& (255 : Int32)) % ((5 : Int32) - ((ft &&& (255 : Int32)) % (5 : Int32)))))), .unset, .unset, .unset] [(.int cc), (.int ((r1_v aa (0 : Int32) ((ft &&& (255 : Int32)) % (5 : Int32)) (((ft &&& (255 : Int32)) % (5 : Int32)) + ((((ft.toUInt32 >>> ((8 : Int32) &&& 31).toUInt32).toInt32) &&& (255 : Int32)) % ((5 : Int32) - ((ft &&& (255 : Int32)) % (5 : Int32)))))) + (r1_v bb (1 : Int32) ((ft &&& (255 : Int32)) % (5 : Int32)) (((ft &&& (255 : Int32)) % (5 : Int32)) + ((((ft.toUInt32 >>> ((8 : Int32) &&& 31).toUInt32).toInt32) &&& (255 : Int32)) % ((5 : Int32) - ((ft &&& (255 : Int32)) % (5 : Int32))))))))])) _
    refine XS.iconst X16.here hx rfl (hb hby at_74) ?_
    show Steps p.tables e below (T16.setTop (mkF m 75 #[.val (.int aa), .val (.int bb), .val (.int cc), .val (.int dd), .val (.int ft), .val (.ref b1), .val (.int ((ft &&& (255 : Int32)) % (5 : Int32))), .val (.int (((ft &&& (255 : Int32)) % (5 : Int32)) + ((((ft.toUInt32 >>> ((8 : Int32) &&& 31).toUInt32).toInt32) &&& (255 : Int32)) % ((5 : Int32) - ((ft &&& (255 : Int32)) % (5 : Int32)))))), .unset, .unset, .unset] [(.int (2 : Int32)), (.int cc), (.int ((r1_v aa (0 : Int32) ((ft &&& (255 : Int32)) % (5 : Int32)) (((ft &&& (255 : Int32)) % (5 : Int32)) + ((((ft.toUInt32 >>> ((8 : Int32) &&& 31).toUInt32).toInt32) &&& (255 : Int32)) % ((5 : Int32) - ((ft &&& (255 : Int32)) % (5 : Int32)))))) + (r1_v bb (1 : Int32) ((ft &&& (255 : Int32)) % (5 : Int32)) (((ft &&& (255 : Int32)) % (5 : Int32)) + ((((ft.toUInt32 >>> ((8 : Int32) &&& 31).toUInt32).toInt32) &&& (255 : Int32)) % ((5 : Int32) - ((ft &&& (255 : Int32)) % (5 : Int32))))))))])) _
    refine XS.iload X16.here hx rfl (hb hby at_75) rfl ?_
    show Steps p.tables e below (T16.setTop (mkF m 77 #[.val (.int aa), .val (.int bb), .val (.int cc), .val (.int dd), .val (.int ft), .val (.ref b1), .val (.int ((ft &&& (255 : Int32)) % (5 : Int32))), .val (.int (((ft &&& (255 : Int32)) % (5 : Int32)) + ((((ft.toUInt32 >>> ((8 : Int32) &&& 31).toUInt32).toInt32) &&& (255 : Int32)) % ((5 : Int32) - ((ft &&& (255 : Int32)) % (5 : Int32)))))), .unset, .unset, .unset] [(.int ((ft &&& (255 : Int32)) % (5 : Int32))), (.int (2 : Int32)), (.int cc), (.int ((r1_v aa (0 : Int32) ((ft &&& (255 : Int32)) % (5 : Int32)) (((ft &&& (255 : Int32)) % (5 : Int32)) + ((((ft.toUInt32 >>> ((8 : Int32) &&& 31).toUInt32).toInt32) &&& (255 : Int32)) % ((5 : Int32) - ((ft &&& (255 : Int32)) % (5 : Int32)))))) + (r1_v bb (1 : Int32) ((ft &&& (255 : Int32)) % (5 : Int32)) (((ft &&& (255 : Int32)) % (5 : Int32)) + ((((ft.toUInt32 >>> ((8 : Int32) &&& 31).toUInt32).toInt32) &&& (255 : Int32)) % ((5 : Int32) - ((ft &&& (255 : Int32)) % (5 : Int32))))))))])) _
    refine XS.iload X16.here hx rfl (hb hby at_77) rfl ?_
    show Steps p.tables e below (T16.setTop (mkF m 79 #[.val (.int aa), .val (.int bb), .val (.int cc), .val (.int dd), .val (.int ft), .val (.ref b1), .val (.int ((ft &&& (255 : Int32)) % (5 : Int32))), .val (.int (((ft &&& (255 : Int32)) % (5 : Int32)) + ((((ft.toUInt32 >>> ((8 : Int32) &&& 31).toUInt32).toInt32) &&& (255 : Int32)) % ((5 : Int32) - ((ft &&& (255 : Int32)) % (5 : Int32)))))), .unset, .unset, .unset] [(.int (((ft &&& (255 : Int32)) % (5 : Int32)) + ((((ft.toUInt32 >>> ((8 : Int32) &&& 31).toUInt32).toInt32) &&& (255 : Int32)) % ((5 : Int32) - ((ft &&& (255 : Int32)) % (5 : Int32)))))), (.int ((ft &&& (255 : Int32)) % (5 : Int32))), (.int (2 : Int32)), (.int cc), (.int ((r1_v aa (0 : Int32) ((ft &&& (255 : Int32)) % (5 : Int32)) (((ft &&& (255 : Int32)) % (5 : Int32)) + ((((ft.toUInt32 >>> ((8 : Int32) &&& 31).toUInt32).toInt32) &&& (255 : Int32)) % ((5 : Int32) - ((ft &&& (255 : Int32)) % (5 : Int32)))))) + (r1_v bb (1 : Int32) ((ft &&& (255 : Int32)) % (5 : Int32)) (((ft &&& (255 : Int32)) % (5 : Int32)) + ((((ft.toUInt32 >>> ((8 : Int32) &&& 31).toUInt32).toInt32) &&& (255 : Int32)) % ((5 : Int32) - ((ft &&& (255 : Int32)) % (5 : Int32))))))))])) _
    refine st17 _ ?_
    show Steps p.tables e below (T17.setTop (mkF m 82 #[.val (.int aa), .val (.int bb), .val (.int cc), .val (.int dd), .val (.int ft), .val (.ref b1), .val (.int ((ft &&& (255 : Int32)) % (5 : Int32))), .val (.int (((ft &&& (255 : Int32)) % (5 : Int32)) + ((((ft.toUInt32 >>> ((8 : Int32) &&& 31).toUInt32).toInt32) &&& (255 : Int32)) % ((5 : Int32) - ((ft &&& (255 : Int32)) % (5 : Int32)))))), .unset, .unset, .unset] [(.int (r1_v cc (2 : Int32) ((ft &&& (255 : Int32)) % (5 : Int32)) (((ft &&& (255 : Int32)) % (5 : Int32)) + ((((ft.toUInt32 >>> ((8 : Int32) &&& 31).toUInt32).toInt32) &&& (255 : Int32)) % ((5 : Int32) - ((ft &&& (255 : Int32)) % (5 : Int32))))))), (.int ((r1_v aa (0 : Int32) ((ft &&& (255 : Int32)) % (5 : Int32)) (((ft &&& (255 : Int32)) % (5 : Int32)) + ((((ft.toUInt32 >>> ((8 : Int32) &&& 31).toUInt32).toInt32) &&& (255 : Int32)) % ((5 : Int32) - ((ft &&& (255 : Int32)) % (5 : Int32)))))) + (r1_v bb (1 : Int32) ((ft &&& (255 : Int32)) % (5 : Int32)) (((ft &&& (255 : Int32)) % (5 : Int32)) + ((((ft.toUInt32 >>> ((8 : Int32) &&& 31).toUInt32).toInt32) &&& (255 : Int32)) % ((5 : Int32) - ((ft &&& (255 : Int32)) % (5 : Int32))))))))])) _
    refine XS.iadd X17.here hx rfl (hb hby at_82) rfl ?_
    show Steps p.tables e below (T17.setTop (mkF m 83 #[.val (.int aa), .val (.int bb), .val (.int cc), .val (.int dd), .val (.int ft), .val (.ref b1), .val (.int ((ft &&& (255 : Int32)) % (5 : Int32))), .val (.int (((ft &&& (255 : Int32)) % (5 : Int32)) + ((((ft.toUInt32 >>> ((8 : Int32) &&& 31).toUInt32).toInt32) &&& (255 : Int32)) % ((5 : Int32) - ((ft &&& (255 : Int32)) % (5 : Int32)))))), .unset, .unset, .unset] [(.int (((r1_v aa (0 : Int32) ((ft &&& (255 : Int32)) % (5 : Int32)) (((ft &&& (255 : Int32)) % (5 : Int32)) + ((((ft.toUInt32 >>> ((8 : Int32) &&& 31).toUInt32).toInt32) &&& (255 : Int32)) % ((5 : Int32) - ((ft &&& (255 : Int32)) % (5 : Int32)))))) + (r1_v bb (1 : Int32) ((ft &&& (255 : Int32)) % (5 : Int32)) (((ft &&& (255 : Int32)) % (5 : Int32)) + ((((ft.toUInt32 >>> ((8 : Int32) &&& 31).toUInt32).toInt32) &&& (255 : Int32)) % ((5 : Int32) - ((ft &&& (255 : Int32)) % (5 : Int32))))))) + (r1_v cc (2 : Int32) ((ft &&& (255 : Int32)) % (5 : Int32)) (((ft &&& (255 : Int32)) % (5 : Int32)) + ((((ft.toUInt32 >>> ((8 : Int32) &&& 31).toUInt32).toInt32) &&& (255 : Int32)) % ((5 : Int32) - ((ft &&& (255 : Int32)) % (5 : Int32))))))))])) _
    refine XS.iloadN X17.here hx rfl (hb hby at_83) rfl ?_
    show Steps p.tables e below (T17.setTop (mkF m 84 #[.val (.int aa), .val (.int bb), .val (.int cc), .val (.int dd), .val (.int ft), .val (.ref b1), .val (.int ((ft &&& (255 : Int32)) % (5 : Int32))), .val (.int (((ft &&& (255 : Int32)) % (5 : Int32)) + ((((ft.toUInt32 >>> ((8 : Int32) &&& 31).toUInt32).toInt32) &&& (255 : Int32)) % ((5 : Int32) - ((ft &&& (255 : Int32)) % (5 : Int32)))))), .unset, .unset, .unset] [(.int dd), (.int (((r1_v aa (0 : Int32) ((ft &&& (255 : Int32)) % (5 : Int32)) (((ft &&& (255 : Int32)) % (5 : Int32)) + ((((ft.toUInt32 >>> ((8 : Int32) &&& 31).toUInt32).toInt32) &&& (255 : Int32)) % ((5 : Int32) - ((ft &&& (255 : Int32)) % (5 : Int32)))))) + (r1_v bb (1 : Int32) ((ft &&& (255 : Int32)) % (5 : Int32)) (((ft &&& (255 : Int32)) % (5 : Int32)) + ((((ft.toUInt32 >>> ((8 : Int32) &&& 31).toUInt32).toInt32) &&& (255 : Int32)) % ((5 : Int32) - ((ft &&& (255 : Int32)) % (5 : Int32))))))) + (r1_v cc (2 : Int32) ((ft &&& (255 : Int32)) % (5 : Int32)) (((ft &&& (255 : Int32)) % (5 : Int32)) + ((((ft.toUInt32 >>> ((8 : Int32) &&& 31).toUInt32).toInt32) &&& (255 : Int32)) % ((5 : Int32) - ((ft &&& (255 : Int32)) % (5 : Int32))))))))])) _
    refine XS.iconst X17.here hx rfl (hb hby at_84) ?_
    show Steps p.tables e below (T17.setTop (mkF m 85 #[.val (.int aa), .val (.int bb), .val (.int cc), .val (.int dd), .val (.int ft), .val (.ref b1), .val (.int ((ft &&& (255 : Int32)) % (5 : Int32))), .val (.int (((ft &&& (255 : Int32)) % (5 : Int32)) + ((((ft.toUInt32 >>> ((8 : Int32) &&& 31).toUInt32).toInt32) &&& (255 : Int32)) % ((5 : Int32) - ((ft &&& (255 : Int32)) % (5 : Int32)))))), .unset, .unset, .unset] [(.int (3 : Int32)), (.int dd), (.int (((r1_v aa (0 : Int32) ((ft &&& (255 : Int32)) % (5 : Int32)) (((ft &&& (255 : Int32)) % (5 : Int32)) + ((((ft.toUInt32 >>> ((8 : Int32) &&& 31).toUInt32).toInt32) &&& (255 : Int32)) % ((5 : Int32) - ((ft &&& (255 : Int32)) % (5 : Int32)))))) + (r1_v bb (1 : Int32) ((ft &&& (255 : Int32)) % (5 : Int32)) (((ft &&& (255 : Int32)) % (5 : Int32)) + ((((ft.toUInt32 >>> ((8 : Int32) &&& 31).toUInt32).toInt32) &&& (255 : Int32)) % ((5 : Int32) - ((ft &&& (255 : Int32)) % (5 : Int32))))))) + (r1_v cc (2 : Int32) ((ft &&& (255 : Int32)) % (5 : Int32)) (((ft &&& (255 : Int32)) % (5 : Int32)) + ((((ft.toUInt32 >>> ((8 : Int32) &&& 31).toUInt32).toInt32) &&& (255 : Int32)) % ((5 : Int32) - ((ft &&& (255 : Int32)) % (5 : Int32))))))))])) _
    refine XS.iload X17.here hx rfl (hb hby at_85) rfl ?_
    show Steps p.tables e below (T17.setTop (mkF m 87 #[.val (.int aa), .val (.int bb), .val (.int cc), .val (.int dd), .val (.int ft), .val (.ref b1), .val (.int ((ft &&& (255 : Int32)) % (5 : Int32))), .val (.int (((ft &&& (255 : Int32)) % (5 : Int32)) + ((((ft.toUInt32 >>> ((8 : Int32) &&& 31).toUInt32).toInt32) &&& (255 : Int32)) % ((5 : Int32) - ((ft &&& (255 : Int32)) % (5 : Int32)))))), .unset, .unset, .unset] [(.int ((ft &&& (255 : Int32)) % (5 : Int32))), (.int (3 : Int32)), (.int dd), (.int (((r1_v aa (0 : Int32) ((ft &&& (255 : Int32)) % (5 : Int32)) (((ft &&& (255 : Int32)) % (5 : Int32)) + ((((ft.toUInt32 >>> ((8 : Int32) &&& 31).toUInt32).toInt32) &&& (255 : Int32)) % ((5 : Int32) - ((ft &&& (255 : Int32)) % (5 : Int32)))))) + (r1_v bb (1 : Int32) ((ft &&& (255 : Int32)) % (5 : Int32)) (((ft &&& (255 : Int32)) % (5 : Int32)) + ((((ft.toUInt32 >>> ((8 : Int32) &&& 31).toUInt32).toInt32) &&& (255 : Int32)) % ((5 : Int32) - ((ft &&& (255 : Int32)) % (5 : Int32))))))) + (r1_v cc (2 : Int32) ((ft &&& (255 : Int32)) % (5 : Int32)) (((ft &&& (255 : Int32)) % (5 : Int32)) + ((((ft.toUInt32 >>> ((8 : Int32) &&& 31).toUInt32).toInt32) &&& (255 : Int32)) % ((5 : Int32) - ((ft &&& (255 : Int32)) % (5 : Int32))))))))])) _
    refine XS.iload X17.here hx rfl (hb hby at_87) rfl ?_
    show Steps p.tables e below (T17.setTop (mkF m 89 #[.val (.int aa), .val (.int bb), .val (.int cc), .val (.int dd), .val (.int ft), .val (.ref b1), .val (.int ((ft &&& (255 : Int32)) % (5 : Int32))), .val (.int (((ft &&& (255 : Int32)) % (5 : Int32)) + ((((ft.toUInt32 >>> ((8 : Int32) &&& 31).toUInt32).toInt32) &&& (255 : Int32)) % ((5 : Int32) - ((ft &&& (255 : Int32)) % (5 : Int32)))))), .unset, .unset, .unset] [(.int (((ft &&& (255 : Int32)) % (5 : Int32)) + ((((ft.toUInt32 >>> ((8 : Int32) &&& 31).toUInt32).toInt32) &&& (255 : Int32)) % ((5 : Int32) - ((ft &&& (255 : Int32)) % (5 : Int32)))))), (.int ((ft &&& (255 : Int32)) % (5 : Int32))), (.int (3 : Int32)), (.int dd), (.int (((r1_v aa (0 : Int32) ((ft &&& (255 : Int32)) % (5 : Int32)) (((ft &&& (255 : Int32)) % (5 : Int32)) + ((((ft.toUInt32 >>> ((8 : Int32) &&& 31).toUInt32).toInt32) &&& (255 : Int32)) % ((5 : Int32) - ((ft &&& (255 : Int32)) % (5 : Int32)))))) + (r1_v bb (1 : Int32) ((ft &&& (255 : Int32)) % (5 : Int32)) (((ft &&& (255 : Int32)) % (5 : Int32)) + ((((ft.toUInt32 >>> ((8 : Int32) &&& 31).toUInt32).toInt32) &&& (255 : Int32)) % ((5 : Int32) - ((ft &&& (255 : Int32)) % (5 : Int32))))))) + (r1_v cc (2 : Int32) ((ft &&& (255 : Int32)) % (5 : Int32)) (((ft &&& (255 : Int32)) % (5 : Int32)) + ((((ft.toUInt32 >>> ((8 : Int32) &&& 31).toUInt32).toInt32) &&& (255 : Int32)) % ((5 : Int32) - ((ft &&& (255 : Int32)) % (5 : Int32))))))))])) _
    refine st18 _ ?_
    show Steps p.tables e below (T18.setTop (mkF m 92 #[.val (.int aa), .val (.int bb), .val (.int cc), .val (.int dd), .val (.int ft), .val (.ref b1), .val (.int ((ft &&& (255 : Int32)) % (5 : Int32))), .val (.int (((ft &&& (255 : Int32)) % (5 : Int32)) + ((((ft.toUInt32 >>> ((8 : Int32) &&& 31).toUInt32).toInt32) &&& (255 : Int32)) % ((5 : Int32) - ((ft &&& (255 : Int32)) % (5 : Int32)))))), .unset, .unset, .unset] [(.int (r1_v dd (3 : Int32) ((ft &&& (255 : Int32)) % (5 : Int32)) (((ft &&& (255 : Int32)) % (5 : Int32)) + ((((ft.toUInt32 >>> ((8 : Int32) &&& 31).toUInt32).toInt32) &&& (255 : Int32)) % ((5 : Int32) - ((ft &&& (255 : Int32)) % (5 : Int32))))))), (.int (((r1_v aa (0 : Int32) ((ft &&& (255 : Int32)) % (5 : Int32)) (((ft &&& (255 : Int32)) % (5 : Int32)) + ((((ft.toUInt32 >>> ((8 : Int32) &&& 31).toUInt32).toInt32) &&& (255 : Int32)) % ((5 : Int32) - ((ft &&& (255 : Int32)) % (5 : Int32)))))) + (r1_v bb (1 : Int32) ((ft &&& (255 : Int32)) % (5 : Int32)) (((ft &&& (255 : Int32)) % (5 : Int32)) + ((((ft.toUInt32 >>> ((8 : Int32) &&& 31).toUInt32).toInt32) &&& (255 : Int32)) % ((5 : Int32) - ((ft &&& (255 : Int32)) % (5 : Int32))))))) + (r1_v cc (2 : Int32) ((ft &&& (255 : Int32)) % (5 : Int32)) (((ft &&& (255 : Int32)) % (5 : Int32)) + ((((ft.toUInt32 >>> ((8 : Int32) &&& 31).toUInt32).toInt32) &&& (255 : Int32)) % ((5 : Int32) - ((ft &&& (255 : Int32)) % (5 : Int32))))))))])) _
    refine XS.iadd X18.here hx rfl (hb hby at_92) rfl ?_
    show Steps p.tables e below (T18.setTop (mkF m 93 #[.val (.int aa), .val (.int bb), .val (.int cc), .val (.int dd), .val (.int ft), .val (.ref b1), .val (.int ((ft &&& (255 : Int32)) % (5 : Int32))), .val (.int (((ft &&& (255 : Int32)) % (5 : Int32)) + ((((ft.toUInt32 >>> ((8 : Int32) &&& 31).toUInt32).toInt32) &&& (255 : Int32)) % ((5 : Int32) - ((ft &&& (255 : Int32)) % (5 : Int32)))))), .unset, .unset, .unset] [(.int ((((r1_v aa (0 : Int32) ((ft &&& (255 : Int32)) % (5 : Int32)) (((ft &&& (255 : Int32)) % (5 : Int32)) + ((((ft.toUInt32 >>> ((8 : Int32) &&& 31).toUInt32).toInt32) &&& (255 : Int32)) % ((5 : Int32) - ((ft &&& (255 : Int32)) % (5 : Int32)))))) + (r1_v bb (1 : Int32) ((ft &&& (255 : Int32)) % (5 : Int32)) (((ft &&& (255 : Int32)) % (5 : Int32)) + ((((ft.toUInt32 >>> ((8 : Int32) &&& 31).toUInt32).toInt32) &&& (255 : Int32)) % ((5 : Int32) - ((ft &&& (255 : Int32)) % (5 : Int32))))))) + (r1_v cc (2 : Int32) ((ft &&& (255 : Int32)) % (5 : Int32)) (((ft &&& (255 : Int32)) % (5 : Int32)) + ((((ft.toUInt32 >>> ((8 : Int32) &&& 31).toUInt32).toInt32) &&& (255 : Int32)) % ((5 : Int32) - ((ft &&& (255 : Int32)) % (5 : Int32))))))) + (r1_v dd (3 : Int32) ((ft &&& (255 : Int32)) % (5 : Int32)) (((ft &&& (255 : Int32)) % (5 : Int32)) + ((((ft.toUInt32 >>> ((8 : Int32) &&& 31).toUInt32).toInt32) &&& (255 : Int32)) % ((5 : Int32) - ((ft &&& (255 : Int32)) % (5 : Int32))))))))])) _
    refine XS.istore X18.here hx rfl (hb hby at_93) rfl (l' := #[.val (.int aa), .val (.int bb), .val (.int cc), .val (.int dd), .val (.int ft), .val (.ref b1), .val (.int ((ft &&& (255 : Int32)) % (5 : Int32))), .val (.int (((ft &&& (255 : Int32)) % (5 : Int32)) + ((((ft.toUInt32 >>> ((8 : Int32) &&& 31).toUInt32).toInt32) &&& (255 : Int32)) % ((5 : Int32) - ((ft &&& (255 : Int32)) % (5 : Int32)))))), .val (.int ((((r1_v aa (0 : Int32) ((ft &&& (255 : Int32)) % (5 : Int32)) (((ft &&& (255 : Int32)) % (5 : Int32)) + ((((ft.toUInt32 >>> ((8 : Int32) &&& 31).toUInt32).toInt32) &&& (255 : Int32)) % ((5 : Int32) - ((ft &&& (255 : Int32)) % (5 : Int32)))))) + (r1_v bb (1 : Int32) ((ft &&& (255 : Int32)) % (5 : Int32)) (((ft &&& (255 : Int32)) % (5 : Int32)) + ((((ft.toUInt32 >>> ((8 : Int32) &&& 31).toUInt32).toInt32) &&& (255 : Int32)) % ((5 : Int32) - ((ft &&& (255 : Int32)) % (5 : Int32))))))) + (r1_v cc (2 : Int32) ((ft &&& (255 : Int32)) % (5 : Int32)) (((ft &&& (255 : Int32)) % (5 : Int32)) + ((((ft.toUInt32 >>> ((8 : Int32) &&& 31).toUInt32).toInt32) &&& (255 : Int32)) % ((5 : Int32) - ((ft &&& (255 : Int32)) % (5 : Int32))))))) + (r1_v dd (3 : Int32) ((ft &&& (255 : Int32)) % (5 : Int32)) (((ft &&& (255 : Int32)) % (5 : Int32)) + ((((ft.toUInt32 >>> ((8 : Int32) &&& 31).toUInt32).toInt32) &&& (255 : Int32)) % ((5 : Int32) - ((ft &&& (255 : Int32)) % (5 : Int32)))))))), .unset, .unset]) rfl ?_
    show Steps p.tables e below (T18.setTop (mkF m 95 #[.val (.int aa), .val (.int bb), .val (.int cc), .val (.int dd), .val (.int ft), .val (.ref b1), .val (.int ((ft &&& (255 : Int32)) % (5 : Int32))), .val (.int (((ft &&& (255 : Int32)) % (5 : Int32)) + ((((ft.toUInt32 >>> ((8 : Int32) &&& 31).toUInt32).toInt32) &&& (255 : Int32)) % ((5 : Int32) - ((ft &&& (255 : Int32)) % (5 : Int32)))))), .val (.int ((((r1_v aa (0 : Int32) ((ft &&& (255 : Int32)) % (5 : Int32)) (((ft &&& (255 : Int32)) % (5 : Int32)) + ((((ft.toUInt32 >>> ((8 : Int32) &&& 31).toUInt32).toInt32) &&& (255 : Int32)) % ((5 : Int32) - ((ft &&& (255 : Int32)) % (5 : Int32)))))) + (r1_v bb (1 : Int32) ((ft &&& (255 : Int32)) % (5 : Int32)) (((ft &&& (255 : Int32)) % (5 : Int32)) + ((((ft.toUInt32 >>> ((8 : Int32) &&& 31).toUInt32).toInt32) &&& (255 : Int32)) % ((5 : Int32) - ((ft &&& (255 : Int32)) % (5 : Int32))))))) + (r1_v cc (2 : Int32) ((ft &&& (255 : Int32)) % (5 : Int32)) (((ft &&& (255 : Int32)) % (5 : Int32)) + ((((ft.toUInt32 >>> ((8 : Int32) &&& 31).toUInt32).toInt32) &&& (255 : Int32)) % ((5 : Int32) - ((ft &&& (255 : Int32)) % (5 : Int32))))))) + (r1_v dd (3 : Int32) ((ft &&& (255 : Int32)) % (5 : Int32)) (((ft &&& (255 : Int32)) % (5 : Int32)) + ((((ft.toUInt32 >>> ((8 : Int32) &&& 31).toUInt32).toInt32) &&& (255 : Int32)) % ((5 : Int32) - ((ft &&& (255 : Int32)) % (5 : Int32)))))))), .unset, .unset] [])) _
    refine XS.iload X18.here hx rfl (hb hby at_95) rfl ?_
    show Steps p.tables e below (T18.setTop (mkF m 97 #[.val (.int aa), .val (.int bb), .val (.int cc), .val (.int dd), .val (.int ft), .val (.ref b1), .val (.int ((ft &&& (255 : Int32)) % (5 : Int32))), .val (.int (((ft &&& (255 : Int32)) % (5 : Int32)) + ((((ft.toUInt32 >>> ((8 : Int32) &&& 31).toUInt32).toInt32) &&& (255 : Int32)) % ((5 : Int32) - ((ft &&& (255 : Int32)) % (5 : Int32)))))), .val (.int ((((r1_v aa (0 : Int32) ((ft &&& (255 : Int32)) % (5 : Int32)) (((ft &&& (255 : Int32)) % (5 : Int32)) + ((((ft.toUInt32 >>> ((8 : Int32) &&& 31).toUInt32).toInt32) &&& (255 : Int32)) % ((5 : Int32) - ((ft &&& (255 : Int32)) % (5 : Int32)))))) + (r1_v bb (1 : Int32) ((ft &&& (255 : Int32)) % (5 : Int32)) (((ft &&& (255 : Int32)) % (5 : Int32)) + ((((ft.toUInt32 >>> ((8 : Int32) &&& 31).toUInt32).toInt32) &&& (255 : Int32)) % ((5 : Int32) - ((ft &&& (255 : Int32)) % (5 : Int32))))))) + (r1_v cc (2 : Int32) ((ft &&& (255 : Int32)) % (5 : Int32)) (((ft &&& (255 : Int32)) % (5 : Int32)) + ((((ft.toUInt32 >>> ((8 : Int32) &&& 31).toUInt32).toInt32) &&& (255 : Int32)) % ((5 : Int32) - ((ft &&& (255 : Int32)) % (5 : Int32))))))) + (r1_v dd (3 : Int32) ((ft &&& (255 : Int32)) % (5 : Int32)) (((ft &&& (255 : Int32)) % (5 : Int32)) + ((((ft.toUInt32 >>> ((8 : Int32) &&& 31).toUInt32).toInt32) &&& (255 : Int32)) % ((5 : Int32) - ((ft &&& (255 : Int32)) % (5 : Int32)))))))), .unset, .unset] [(.int ((((r1_v aa (0 : Int32) ((ft &&& (255 : Int32)) % (5 : Int32)) (((ft &&& (255 : Int32)) % (5 : Int32)) + ((((ft.toUInt32 >>> ((8 : Int32) &&& 31).toUInt32).toInt32) &&& (255 : Int32)) % ((5 : Int32) - ((ft &&& (255 : Int32)) % (5 : Int32)))))) + (r1_v bb (1 : Int32) ((ft &&& (255 : Int32)) % (5 : Int32)) (((ft &&& (255 : Int32)) % (5 : Int32)) + ((((ft.toUInt32 >>> ((8 : Int32) &&& 31).toUInt32).toInt32) &&& (255 : Int32)) % ((5 : Int32) - ((ft &&& (255 : Int32)) % (5 : Int32))))))) + (r1_v cc (2 : Int32) ((ft &&& (255 : Int32)) % (5 : Int32)) (((ft &&& (255 : Int32)) % (5 : Int32)) + ((((ft.toUInt32 >>> ((8 : Int32) &&& 31).toUInt32).toInt32) &&& (255 : Int32)) % ((5 : Int32) - ((ft &&& (255 : Int32)) % (5 : Int32))))))) + (r1_v dd (3 : Int32) ((ft &&& (255 : Int32)) % (5 : Int32)) (((ft &&& (255 : Int32)) % (5 : Int32)) + ((((ft.toUInt32 >>> ((8 : Int32) &&& 31).toUInt32).toInt32) &&& (255 : Int32)) % ((5 : Int32) - ((ft &&& (255 : Int32)) % (5 : Int32))))))))])) _
    refine XS.sipush X18.here hx rfl (hb hby at_97) ?_
    show Steps p.tables e below (T18.setTop (mkF m 100 #[.val (.int aa), .val (.int bb), .val (.int cc), .val (.int dd), .val (.int ft), .val (.ref b1), .val (.int ((ft &&& (255 : Int32)) % (5 : Int32))), .val (.int (((ft &&& (255 : Int32)) % (5 : Int32)) + ((((ft.toUInt32 >>> ((8 : Int32) &&& 31).toUInt32).toInt32) &&& (255 : Int32)) % ((5 : Int32) - ((ft &&& (255 : Int32)) % (5 : Int32)))))), .val (.int ((((r1_v aa (0 : Int32) ((ft &&& (255 : Int32)) % (5 : Int32)) (((ft &&& (255 : Int32)) % (5 : Int32)) + ((((ft.toUInt32 >>> ((8 : Int32) &&& 31).toUInt32).toInt32) &&& (255 : Int32)) % ((5 : Int32) - ((ft &&& (255 : Int32)) % (5 : Int32)))))) + (r1_v bb (1 : Int32) ((ft &&& (255 : Int32)) % (5 : Int32)) (((ft &&& (255 : Int32)) % (5 : Int32)) + ((((ft.toUInt32 >>> ((8 : Int32) &&& 31).toUInt32).toInt32) &&& (255 : Int32)) % ((5 : Int32) - ((ft &&& (255 : Int32)) % (5 : Int32))))))) + (r1_v cc (2 : Int32) ((ft &&& (255 : Int32)) % (5 : Int32)) (((ft &&& (255 : Int32)) % (5 : Int32)) + ((((ft.toUInt32 >>> ((8 : Int32) &&& 31).toUInt32).toInt32) &&& (255 : Int32)) % ((5 : Int32) - ((ft &&& (255 : Int32)) % (5 : Int32))))))) + (r1_v dd (3 : Int32) ((ft &&& (255 : Int32)) % (5 : Int32)) (((ft &&& (255 : Int32)) % (5 : Int32)) + ((((ft.toUInt32 >>> ((8 : Int32) &&& 31).toUInt32).toInt32) &&& (255 : Int32)) % ((5 : Int32) - ((ft &&& (255 : Int32)) % (5 : Int32)))))))), .unset, .unset] [(.int (256 : Int32)), (.int ((((r1_v aa (0 : Int32) ((ft &&& (255 : Int32)) % (5 : Int32)) (((ft &&& (255 : Int32)) % (5 : Int32)) + ((((ft.toUInt32 >>> ((8 : Int32) &&& 31).toUInt32).toInt32) &&& (255 : Int32)) % ((5 : Int32) - ((ft &&& (255 : Int32)) % (5 : Int32)))))) + (r1_v bb (1 : Int32) ((ft &&& (255 : Int32)) % (5 : Int32)) (((ft &&& (255 : Int32)) % (5 : Int32)) + ((((ft.toUInt32 >>> ((8 : Int32) &&& 31).toUInt32).toInt32) &&& (255 : Int32)) % ((5 : Int32) - ((ft &&& (255 : Int32)) % (5 : Int32))))))) + (r1_v cc (2 : Int32) ((ft &&& (255 : Int32)) % (5 : Int32)) (((ft &&& (255 : Int32)) % (5 : Int32)) + ((((ft.toUInt32 >>> ((8 : Int32) &&& 31).toUInt32).toInt32) &&& (255 : Int32)) % ((5 : Int32) - ((ft &&& (255 : Int32)) % (5 : Int32))))))) + (r1_v dd (3 : Int32) ((ft &&& (255 : Int32)) % (5 : Int32)) (((ft &&& (255 : Int32)) % (5 : Int32)) + ((((ft.toUInt32 >>> ((8 : Int32) &&& 31).toUInt32).toInt32) &&& (255 : Int32)) % ((5 : Int32) - ((ft &&& (255 : Int32)) % (5 : Int32))))))))])) _
    refine iremM X18 hx rfl (hb hby at_100) rfl (by decide) ?_
    show Steps p.tables e below (T18.setTop (mkF m 101 #[.val (.int aa), .val (.int bb), .val (.int cc), .val (.int dd), .val (.int ft), .val (.ref b1), .val (.int ((ft &&& (255 : Int32)) % (5 : Int32))), .val (.int (((ft &&& (255 : Int32)) % (5 : Int32)) + ((((ft.toUInt32 >>> ((8 : Int32) &&& 31).toUInt32).toInt32) &&& (255 : Int32)) % ((5 : Int32) - ((ft &&& (255 : Int32)) % (5 : Int32)))))), .val (.int ((((r1_v aa (0 : Int32) ((ft &&& (255 : Int32)) % (5 : Int32)) (((ft &&& (255 : Int32)) % (5 : Int32)) + ((((ft.toUInt32 >>> ((8 : Int32) &&& 31).toUInt32).toInt32) &&& (255 : Int32)) % ((5 : Int32) - ((ft &&& (255 : Int32)) % (5 : Int32)))))) + (r1_v bb (1 : Int32) ((ft &&& (255 : Int32)) % (5 : Int32)) (((ft &&& (255 : Int32)) % (5 : Int32)) + ((((ft.toUInt32 >>> ((8 : Int32) &&& 31).toUInt32).toInt32) &&& (255 : Int32)) % ((5 : Int32) - ((ft &&& (255 : Int32)) % (5 : Int32))))))) + (r1_v cc (2 : Int32) ((ft &&& (255 : Int32)) % (5 : Int32)) (((ft &&& (255 : Int32)) % (5 : Int32)) + ((((ft.toUInt32 >>> ((8 : Int32) &&& 31).toUInt32).toInt32) &&& (255 : Int32)) % ((5 : Int32) - ((ft &&& (255 : Int32)) % (5 : Int32))))))) + (r1_v dd (3 : Int32) ((ft &&& (255 : Int32)) % (5 : Int32)) (((ft &&& (255 : Int32)) % (5 : Int32)) + ((((ft.toUInt32 >>> ((8 : Int32) &&& 31).toUInt32).toInt32) &&& (255 : Int32)) % ((5 : Int32) - ((ft &&& (255 : Int32)) % (5 : Int32)))))))), .unset, .unset] [(.int (((((r1_v aa (0 : Int32) ((ft &&& (255 : Int32)) % (5 : Int32)) (((ft &&& (255 : Int32)) % (5 : Int32)) + ((((ft.toUInt32 >>> ((8 : Int32) &&& 31).toUInt32).toInt32) &&& (255 : Int32)) % ((5 : Int32) - ((ft &&& (255 : Int32)) % (5 : Int32)))))) + (r1_v bb (1 : Int32) ((ft &&& (255 : Int32)) % (5 : Int32)) (((ft &&& (255 : Int32)) % (5 : Int32)) + ((((ft.toUInt32 >>> ((8 : Int32) &&& 31).toUInt32).toInt32) &&& (255 : Int32)) % ((5 : Int32) - ((ft &&& (255 : Int32)) % (5 : Int32))))))) + (r1_v cc (2 : Int32) ((ft &&& (255 : Int32)) % (5 : Int32)) (((ft &&& (255 : Int32)) % (5 : Int32)) + ((((ft.toUInt32 >>> ((8 : Int32) &&& 31).toUInt32).toInt32) &&& (255 : Int32)) % ((5 : Int32) - ((ft &&& (255 : Int32)) % (5 : Int32))))))) + (r1_v dd (3 : Int32) ((ft &&& (255 : Int32)) % (5 : Int32)) (((ft &&& (255 : Int32)) % (5 : Int32)) + ((((ft.toUInt32 >>> ((8 : Int32) &&& 31).toUInt32).toInt32) &&& (255 : Int32)) % ((5 : Int32) - ((ft &&& (255 : Int32)) % (5 : Int32))))))) % (256 : Int32)))])) _
    refine XS.istore X18.here hx rfl (hb hby at_101) rfl (l' := #[.val (.int aa), .val (.int bb), .val (.int cc), .val (.int dd), .val (.int ft), .val (.ref b1), .val (.int ((ft &&& (255 : Int32)) % (5 : Int32))), .val (.int (((ft &&& (255 : Int32)) % (5 : Int32)) + ((((ft.toUInt32 >>> ((8 : Int32) &&& 31).toUInt32).toInt32) &&& (255 : Int32)) % ((5 : Int32) - ((ft &&& (255 : Int32)) % (5 : Int32)))))), .val (.int ((((r1_v aa (0 : Int32) ((ft &&& (255 : Int32)) % (5 : Int32)) (((ft &&& (255 : Int32)) % (5 : Int32)) + ((((ft.toUInt32 >>> ((8 : Int32) &&& 31).toUInt32).toInt32) &&& (255 : Int32)) % ((5 : Int32) - ((ft &&& (255 : Int32)) % (5 : Int32)))))) + (r1_v bb (1 : Int32) ((ft &&& (255 : Int32)) % (5 : Int32)) (((ft &&& (255 : Int32)) % (5 : Int32)) + ((((ft.toUInt32 >>> ((8 : Int32) &&& 31).toUInt32).toInt32) &&& (255 : Int32)) % ((5 : Int32) - ((ft &&& (255 : Int32)) % (5 : Int32))))))) + (r1_v cc (2 : Int32) ((ft &&& (255 : Int32)) % (5 : Int32)) (((ft &&& (255 : Int32)) % (5 : Int32)) + ((((ft.toUInt32 >>> ((8 : Int32) &&& 31).toUInt32).toInt32) &&& (255 : Int32)) % ((5 : Int32) - ((ft &&& (255 : Int32)) % (5 : Int32))))))) + (r1_v dd (3 : Int32) ((ft &&& (255 : Int32)) % (5 : Int32)) (((ft &&& (255 : Int32)) % (5 : Int32)) + ((((ft.toUInt32 >>> ((8 : Int32) &&& 31).toUInt32).toInt32) &&& (255 : Int32)) % ((5 : Int32) - ((ft &&& (255 : Int32)) % (5 : Int32)))))))), .val (.int (((((r1_v aa (0 : Int32) ((ft &&& (255 : Int32)) % (5 : Int32)) (((ft &&& (255 : Int32)) % (5 : Int32)) + ((((ft.toUInt32 >>> ((8 : Int32) &&& 31).toUInt32).toInt32) &&& (255 : Int32)) % ((5 : Int32) - ((ft &&& (255 : Int32)) % (5 : Int32)))))) + (r1_v bb (1 : Int32) ((ft &&& (255 : Int32)) % (5 : Int32)) (((ft &&& (255 : Int32)) % (5 : Int32)) + ((((ft.toUInt32 >>> ((8 : Int32) &&& 31).toUInt32).toInt32) &&& (255 : Int32)) % ((5 : Int32) - ((ft &&& (255 : Int32)) % (5 : Int32))))))) + (r1_v cc (2 : Int32) ((ft &&& (255 : Int32)) % (5 : Int32)) (((ft &&& (255 : Int32)) % (5 : Int32)) + ((((ft.toUInt32 >>> ((8 : Int32) &&& 31).toUInt32).toInt32) &&& (255 : Int32)) % ((5 : Int32) - ((ft &&& (255 : Int32)) % (5 : Int32))))))) + (r1_v dd (3 : Int32) ((ft &&& (255 : Int32)) % (5 : Int32)) (((ft &&& (255 : Int32)) % (5 : Int32)) + ((((ft.toUInt32 >>> ((8 : Int32) &&& 31).toUInt32).toInt32) &&& (255 : Int32)) % ((5 : Int32) - ((ft &&& (255 : Int32)) % (5 : Int32))))))) % (256 : Int32))), .unset]) rfl ?_
    show Steps p.tables e below (T18.setTop (mkF m 103 #[.val (.int aa), .val (.int bb), .val (.int cc), .val (.int dd), .val (.int ft), .val (.ref b1), .val (.int ((ft &&& (255 : Int32)) % (5 : Int32))), .val (.int (((ft &&& (255 : Int32)) % (5 : Int32)) + ((((ft.toUInt32 >>> ((8 : Int32) &&& 31).toUInt32).toInt32) &&& (255 : Int32)) % ((5 : Int32) - ((ft &&& (255 : Int32)) % (5 : Int32)))))), .val (.int ((((r1_v aa (0 : Int32) ((ft &&& (255 : Int32)) % (5 : Int32)) (((ft &&& (255 : Int32)) % (5 : Int32)) + ((((ft.toUInt32 >>> ((8 : Int32) &&& 31).toUInt32).toInt32) &&& (255 : Int32)) % ((5 : Int32) - ((ft &&& (255 : Int32)) % (5 : Int32)))))) + (r1_v bb (1 : Int32) ((ft &&& (255 : Int32)) % (5 : Int32)) (((ft &&& (255 : Int32)) % (5 : Int32)) + ((((ft.toUInt32 >>> ((8 : Int32) &&& 31).toUInt32).toInt32) &&& (255 : Int32)) % ((5 : Int32) - ((ft &&& (255 : Int32)) % (5 : Int32))))))) + (r1_v cc (2 : Int32) ((ft &&& (255 : Int32)) % (5 : Int32)) (((ft &&& (255 : Int32)) % (5 : Int32)) + ((((ft.toUInt32 >>> ((8 : Int32) &&& 31).toUInt32).toInt32) &&& (255 : Int32)) % ((5 : Int32) - ((ft &&& (255 : Int32)) % (5 : Int32))))))) + (r1_v dd (3 : Int32) ((ft &&& (255 : Int32)) % (5 : Int32)) (((ft &&& (255 : Int32)) % (5 : Int32)) + ((((ft.toUInt32 >>> ((8 : Int32) &&& 31).toUInt32).toInt32) &&& (255 : Int32)) % ((5 : Int32) - ((ft &&& (255 : Int32)) % (5 : Int32)))))))), .val (.int (((((r1_v aa (0 : Int32) ((ft &&& (255 : Int32)) % (5 : Int32)) (((ft &&& (255 : Int32)) % (5 : Int32)) + ((((ft.toUInt32 >>> ((8 : Int32) &&& 31).toUInt32).toInt32) &&& (255 : Int32)) % ((5 : Int32) - ((ft &&& (255 : Int32)) % (5 : Int32)))))) + (r1_v bb (1 : Int32) ((ft &&& (255 : Int32)) % (5 : Int32)) (((ft &&& (255 : Int32)) % (5 : Int32)) + ((((ft.toUInt32 >>> ((8 : Int32) &&& 31).toUInt32).toInt32) &&& (255 : Int32)) % ((5 : Int32) - ((ft &&& (255 : Int32)) % (5 : Int32))))))) + (r1_v cc (2 : Int32) ((ft &&& (255 : Int32)) % (5 : Int32)) (((ft &&& (255 : Int32)) % (5 : Int32)) + ((((ft.toUInt32 >>> ((8 : Int32) &&& 31).toUInt32).toInt32) &&& (255 : Int32)) % ((5 : Int32) - ((ft &&& (255 : Int32)) % (5 : Int32))))))) + (r1_v dd (3 : Int32) ((ft &&& (255 : Int32)) % (5 : Int32)) (((ft &&& (255 : Int32)) % (5 : Int32)) + ((((ft.toUInt32 >>> ((8 : Int32) &&& 31).toUInt32).toInt32) &&& (255 : Int32)) % ((5 : Int32) - ((ft &&& (255 : Int32)) % (5 : Int32))))))) % (256 : Int32))), .unset] [])) _
    refine XS.aload X18.here hx rfl (hb hby at_103) rfl rfl ?_
    show Steps p.tables e below (T18.setTop (mkF m 105 #[.val (.int aa), .val (.int bb), .val (.int cc), .val (.int dd), .val (.int ft), .val (.ref b1), .val (.int ((ft &&& (255 : Int32)) % (5 : Int32))), .val (.int (((ft &&& (255 : Int32)) % (5 : Int32)) + ((((ft.toUInt32 >>> ((8 : Int32) &&& 31).toUInt32).toInt32) &&& (255 : Int32)) % ((5 : Int32) - ((ft &&& (255 : Int32)) % (5 : Int32)))))), .val (.int ((((r1_v aa (0 : Int32) ((ft &&& (255 : Int32)) % (5 : Int32)) (((ft &&& (255 : Int32)) % (5 : Int32)) + ((((ft.toUInt32 >>> ((8 : Int32) &&& 31).toUInt32).toInt32) &&& (255 : Int32)) % ((5 : Int32) - ((ft &&& (255 : Int32)) % (5 : Int32)))))) + (r1_v bb (1 : Int32) ((ft &&& (255 : Int32)) % (5 : Int32)) (((ft &&& (255 : Int32)) % (5 : Int32)) + ((((ft.toUInt32 >>> ((8 : Int32) &&& 31).toUInt32).toInt32) &&& (255 : Int32)) % ((5 : Int32) - ((ft &&& (255 : Int32)) % (5 : Int32))))))) + (r1_v cc (2 : Int32) ((ft &&& (255 : Int32)) % (5 : Int32)) (((ft &&& (255 : Int32)) % (5 : Int32)) + ((((ft.toUInt32 >>> ((8 : Int32) &&& 31).toUInt32).toInt32) &&& (255 : Int32)) % ((5 : Int32) - ((ft &&& (255 : Int32)) % (5 : Int32))))))) + (r1_v dd (3 : Int32) ((ft &&& (255 : Int32)) % (5 : Int32)) (((ft &&& (255 : Int32)) % (5 : Int32)) + ((((ft.toUInt32 >>> ((8 : Int32) &&& 31).toUInt32).toInt32) &&& (255 : Int32)) % ((5 : Int32) - ((ft &&& (255 : Int32)) % (5 : Int32)))))))), .val (.int (((((r1_v aa (0 : Int32) ((ft &&& (255 : Int32)) % (5 : Int32)) (((ft &&& (255 : Int32)) % (5 : Int32)) + ((((ft.toUInt32 >>> ((8 : Int32) &&& 31).toUInt32).toInt32) &&& (255 : Int32)) % ((5 : Int32) - ((ft &&& (255 : Int32)) % (5 : Int32)))))) + (r1_v bb (1 : Int32) ((ft &&& (255 : Int32)) % (5 : Int32)) (((ft &&& (255 : Int32)) % (5 : Int32)) + ((((ft.toUInt32 >>> ((8 : Int32) &&& 31).toUInt32).toInt32) &&& (255 : Int32)) % ((5 : Int32) - ((ft &&& (255 : Int32)) % (5 : Int32))))))) + (r1_v cc (2 : Int32) ((ft &&& (255 : Int32)) % (5 : Int32)) (((ft &&& (255 : Int32)) % (5 : Int32)) + ((((ft.toUInt32 >>> ((8 : Int32) &&& 31).toUInt32).toInt32) &&& (255 : Int32)) % ((5 : Int32) - ((ft &&& (255 : Int32)) % (5 : Int32))))))) + (r1_v dd (3 : Int32) ((ft &&& (255 : Int32)) % (5 : Int32)) (((ft &&& (255 : Int32)) % (5 : Int32)) + ((((ft.toUInt32 >>> ((8 : Int32) &&& 31).toUInt32).toInt32) &&& (255 : Int32)) % ((5 : Int32) - ((ft &&& (255 : Int32)) % (5 : Int32))))))) % (256 : Int32))), .unset] [(.ref b1)])) _
    refine XS.iload X18.here hx rfl (hb hby at_105) rfl ?_
    show Steps p.tables e below (T18.setTop (mkF m 107 #[.val (.int aa), .val (.int bb), .val (.int cc), .val (.int dd), .val (.int ft), .val (.ref b1), .val (.int ((ft &&& (255 : Int32)) % (5 : Int32))), .val (.int (((ft &&& (255 : Int32)) % (5 : Int32)) + ((((ft.toUInt32 >>> ((8 : Int32) &&& 31).toUInt32).toInt32) &&& (255 : Int32)) % ((5 : Int32) - ((ft &&& (255 : Int32)) % (5 : Int32)))))), .val (.int ((((r1_v aa (0 : Int32) ((ft &&& (255 : Int32)) % (5 : Int32)) (((ft &&& (255 : Int32)) % (5 : Int32)) + ((((ft.toUInt32 >>> ((8 : Int32) &&& 31).toUInt32).toInt32) &&& (255 : Int32)) % ((5 : Int32) - ((ft &&& (255 : Int32)) % (5 : Int32)))))) + (r1_v bb (1 : Int32) ((ft &&& (255 : Int32)) % (5 : Int32)) (((ft &&& (255 : Int32)) % (5 : Int32)) + ((((ft.toUInt32 >>> ((8 : Int32) &&& 31).toUInt32).toInt32) &&& (255 : Int32)) % ((5 : Int32) - ((ft &&& (255 : Int32)) % (5 : Int32))))))) + (r1_v cc (2 : Int32) ((ft &&& (255 : Int32)) % (5 : Int32)) (((ft &&& (255 : Int32)) % (5 : Int32)) + ((((ft.toUInt32 >>> ((8 : Int32) &&& 31).toUInt32).toInt32) &&& (255 : Int32)) % ((5 : Int32) - ((ft &&& (255 : Int32)) % (5 : Int32))))))) + (r1_v dd (3 : Int32) ((ft &&& (255 : Int32)) % (5 : Int32)) (((ft &&& (255 : Int32)) % (5 : Int32)) + ((((ft.toUInt32 >>> ((8 : Int32) &&& 31).toUInt32).toInt32) &&& (255 : Int32)) % ((5 : Int32) - ((ft &&& (255 : Int32)) % (5 : Int32)))))))), .val (.int (((((r1_v aa (0 : Int32) ((ft &&& (255 : Int32)) % (5 : Int32)) (((ft &&& (255 : Int32)) % (5 : Int32)) + ((((ft.toUInt32 >>> ((8 : Int32) &&& 31).toUInt32).toInt32) &&& (255 : Int32)) % ((5 : Int32) - ((ft &&& (255 : Int32)) % (5 : Int32)))))) + (r1_v bb (1 : Int32) ((ft &&& (255 : Int32)) % (5 : Int32)) (((ft &&& (255 : Int32)) % (5 : Int32)) + ((((ft.toUInt32 >>> ((8 : Int32) &&& 31).toUInt32).toInt32) &&& (255 : Int32)) % ((5 : Int32) - ((ft &&& (255 : Int32)) % (5 : Int32))))))) + (r1_v cc (2 : Int32) ((ft &&& (255 : Int32)) % (5 : Int32)) (((ft &&& (255 : Int32)) % (5 : Int32)) + ((((ft.toUInt32 >>> ((8 : Int32) &&& 31).toUInt32).toInt32) &&& (255 : Int32)) % ((5 : Int32) - ((ft &&& (255 : Int32)) % (5 : Int32))))))) + (r1_v dd (3 : Int32) ((ft &&& (255 : Int32)) % (5 : Int32)) (((ft &&& (255 : Int32)) % (5 : Int32)) + ((((ft.toUInt32 >>> ((8 : Int32) &&& 31).toUInt32).toInt32) &&& (255 : Int32)) % ((5 : Int32) - ((ft &&& (255 : Int32)) % (5 : Int32))))))) % (256 : Int32))), .unset] [(.int ((ft &&& (255 : Int32)) % (5 : Int32))), (.ref b1)])) _
    refine XS.iload X18.here hx rfl (hb hby at_107) rfl ?_
    show Steps p.tables e below (T18.setTop (mkF m 109 #[.val (.int aa), .val (.int bb), .val (.int cc), .val (.int dd), .val (.int ft), .val (.ref b1), .val (.int ((ft &&& (255 : Int32)) % (5 : Int32))), .val (.int (((ft &&& (255 : Int32)) % (5 : Int32)) + ((((ft.toUInt32 >>> ((8 : Int32) &&& 31).toUInt32).toInt32) &&& (255 : Int32)) % ((5 : Int32) - ((ft &&& (255 : Int32)) % (5 : Int32)))))), .val (.int ((((r1_v aa (0 : Int32) ((ft &&& (255 : Int32)) % (5 : Int32)) (((ft &&& (255 : Int32)) % (5 : Int32)) + ((((ft.toUInt32 >>> ((8 : Int32) &&& 31).toUInt32).toInt32) &&& (255 : Int32)) % ((5 : Int32) - ((ft &&& (255 : Int32)) % (5 : Int32)))))) + (r1_v bb (1 : Int32) ((ft &&& (255 : Int32)) % (5 : Int32)) (((ft &&& (255 : Int32)) % (5 : Int32)) + ((((ft.toUInt32 >>> ((8 : Int32) &&& 31).toUInt32).toInt32) &&& (255 : Int32)) % ((5 : Int32) - ((ft &&& (255 : Int32)) % (5 : Int32))))))) + (r1_v cc (2 : Int32) ((ft &&& (255 : Int32)) % (5 : Int32)) (((ft &&& (255 : Int32)) % (5 : Int32)) + ((((ft.toUInt32 >>> ((8 : Int32) &&& 31).toUInt32).toInt32) &&& (255 : Int32)) % ((5 : Int32) - ((ft &&& (255 : Int32)) % (5 : Int32))))))) + (r1_v dd (3 : Int32) ((ft &&& (255 : Int32)) % (5 : Int32)) (((ft &&& (255 : Int32)) % (5 : Int32)) + ((((ft.toUInt32 >>> ((8 : Int32) &&& 31).toUInt32).toInt32) &&& (255 : Int32)) % ((5 : Int32) - ((ft &&& (255 : Int32)) % (5 : Int32)))))))), .val (.int (((((r1_v aa (0 : Int32) ((ft &&& (255 : Int32)) % (5 : Int32)) (((ft &&& (255 : Int32)) % (5 : Int32)) + ((((ft.toUInt32 >>> ((8 : Int32) &&& 31).toUInt32).toInt32) &&& (255 : Int32)) % ((5 : Int32) - ((ft &&& (255 : Int32)) % (5 : Int32)))))) + (r1_v bb (1 : Int32) ((ft &&& (255 : Int32)) % (5 : Int32)) (((ft &&& (255 : Int32)) % (5 : Int32)) + ((((ft.toUInt32 >>> ((8 : Int32) &&& 31).toUInt32).toInt32) &&& (255 : Int32)) % ((5 : Int32) - ((ft &&& (255 : Int32)) % (5 : Int32))))))) + (r1_v cc (2 : Int32) ((ft &&& (255 : Int32)) % (5 : Int32)) (((ft &&& (255 : Int32)) % (5 : Int32)) + ((((ft.toUInt32 >>> ((8 : Int32) &&& 31).toUInt32).toInt32) &&& (255 : Int32)) % ((5 : Int32) - ((ft &&& (255 : Int32)) % (5 : Int32))))))) + (r1_v dd (3 : Int32) ((ft &&& (255 : Int32)) % (5 : Int32)) (((ft &&& (255 : Int32)) % (5 : Int32)) + ((((ft.toUInt32 >>> ((8 : Int32) &&& 31).toUInt32).toInt32) &&& (255 : Int32)) % ((5 : Int32) - ((ft &&& (255 : Int32)) % (5 : Int32))))))) % (256 : Int32))), .unset] [(.int (((ft &&& (255 : Int32)) % (5 : Int32)) + ((((ft.toUInt32 >>> ((8 : Int32) &&& 31).toUInt32).toInt32) &&& (255 : Int32)) % ((5 : Int32) - ((ft &&& (255 : Int32)) % (5 : Int32)))))), (.int ((ft &&& (255 : Int32)) % (5 : Int32))), (.ref b1)])) _
    refine st19 _ ?_
    show Steps p.tables e below (T19.setTop (mkF m 112 #[.val (.int aa), .val (.int bb), .val (.int cc), .val (.int dd), .val (.int ft), .val (.ref b1), .val (.int ((ft &&& (255 : Int32)) % (5 : Int32))), .val (.int (((ft &&& (255 : Int32)) % (5 : Int32)) + ((((ft.toUInt32 >>> ((8 : Int32) &&& 31).toUInt32).toInt32) &&& (255 : Int32)) % ((5 : Int32) - ((ft &&& (255 : Int32)) % (5 : Int32)))))), .val (.int ((((r1_v aa (0 : Int32) ((ft &&& (255 : Int32)) % (5 : Int32)) (((ft &&& (255 : Int32)) % (5 : Int32)) + ((((ft.toUInt32 >>> ((8 : Int32) &&& 31).toUInt32).toInt32) &&& (255 : Int32)) % ((5 : Int32) - ((ft &&& (255 : Int32)) % (5 : Int32)))))) + (r1_v bb (1 : Int32) ((ft &&& (255 : Int32)) % (5 : Int32)) (((ft &&& (255 : Int32)) % (5 : Int32)) + ((((ft.toUInt32 >>> ((8 : Int32) &&& 31).toUInt32).toInt32) &&& (255 : Int32)) % ((5 : Int32) - ((ft &&& (255 : Int32)) % (5 : Int32))))))) + (r1_v cc (2 : Int32) ((ft &&& (255 : Int32)) % (5 : Int32)) (((ft &&& (255 : Int32)) % (5 : Int32)) + ((((ft.toUInt32 >>> ((8 : Int32) &&& 31).toUInt32).toInt32) &&& (255 : Int32)) % ((5 : Int32) - ((ft &&& (255 : Int32)) % (5 : Int32))))))) + (r1_v dd (3 : Int32) ((ft &&& (255 : Int32)) % (5 : Int32)) (((ft &&& (255 : Int32)) % (5 : Int32)) + ((((ft.toUInt32 >>> ((8 : Int32) &&& 31).toUInt32).toInt32) &&& (255 : Int32)) % ((5 : Int32) - ((ft &&& (255 : Int32)) % (5 : Int32)))))))), .val (.int (((((r1_v aa (0 : Int32) ((ft &&& (255 : Int32)) % (5 : Int32)) (((ft &&& (255 : Int32)) % (5 : Int32)) + ((((ft.toUInt32 >>> ((8 : Int32) &&& 31).toUInt32).toInt32) &&& (255 : Int32)) % ((5 : Int32) - ((ft &&& (255 : Int32)) % (5 : Int32)))))) + (r1_v bb (1 : Int32) ((ft &&& (255 : Int32)) % (5 : Int32)) (((ft &&& (255 : Int32)) % (5 : Int32)) + ((((ft.toUInt32 >>> ((8 : Int32) &&& 31).toUInt32).toInt32) &&& (255 : Int32)) % ((5 : Int32) - ((ft &&& (255 : Int32)) % (5 : Int32))))))) + (r1_v cc (2 : Int32) ((ft &&& (255 : Int32)) % (5 : Int32)) (((ft &&& (255 : Int32)) % (5 : Int32)) + ((((ft.toUInt32 >>> ((8 : Int32) &&& 31).toUInt32).toInt32) &&& (255 : Int32)) % ((5 : Int32) - ((ft &&& (255 : Int32)) % (5 : Int32))))))) + (r1_v dd (3 : Int32) ((ft &&& (255 : Int32)) % (5 : Int32)) (((ft &&& (255 : Int32)) % (5 : Int32)) + ((((ft.toUInt32 >>> ((8 : Int32) &&& 31).toUInt32).toInt32) &&& (255 : Int32)) % ((5 : Int32) - ((ft &&& (255 : Int32)) % (5 : Int32))))))) % (256 : Int32))), .unset] [(.int ((own_sum (up (up (up (up zI 0 (aa.toInt8.toInt32)) 1 (bb.toInt8.toInt32)) 2 (cc.toInt8.toInt32)) 3 (dd.toInt8.toInt32)) kk fn (0 : Int32)) &&& (255 : Int32)))])) _
    refine XS.istore X19.here hx rfl (hb hby at_112) rfl (l' := #[.val (.int aa), .val (.int bb), .val (.int cc), .val (.int dd), .val (.int ft), .val (.ref b1), .val (.int ((ft &&& (255 : Int32)) % (5 : Int32))), .val (.int (((ft &&& (255 : Int32)) % (5 : Int32)) + ((((ft.toUInt32 >>> ((8 : Int32) &&& 31).toUInt32).toInt32) &&& (255 : Int32)) % ((5 : Int32) - ((ft &&& (255 : Int32)) % (5 : Int32)))))), .val (.int ((((r1_v aa (0 : Int32) ((ft &&& (255 : Int32)) % (5 : Int32)) (((ft &&& (255 : Int32)) % (5 : Int32)) + ((((ft.toUInt32 >>> ((8 : Int32) &&& 31).toUInt32).toInt32) &&& (255 : Int32)) % ((5 : Int32) - ((ft &&& (255 : Int32)) % (5 : Int32)))))) + (r1_v bb (1 : Int32) ((ft &&& (255 : Int32)) % (5 : Int32)) (((ft &&& (255 : Int32)) % (5 : Int32)) + ((((ft.toUInt32 >>> ((8 : Int32) &&& 31).toUInt32).toInt32) &&& (255 : Int32)) % ((5 : Int32) - ((ft &&& (255 : Int32)) % (5 : Int32))))))) + (r1_v cc (2 : Int32) ((ft &&& (255 : Int32)) % (5 : Int32)) (((ft &&& (255 : Int32)) % (5 : Int32)) + ((((ft.toUInt32 >>> ((8 : Int32) &&& 31).toUInt32).toInt32) &&& (255 : Int32)) % ((5 : Int32) - ((ft &&& (255 : Int32)) % (5 : Int32))))))) + (r1_v dd (3 : Int32) ((ft &&& (255 : Int32)) % (5 : Int32)) (((ft &&& (255 : Int32)) % (5 : Int32)) + ((((ft.toUInt32 >>> ((8 : Int32) &&& 31).toUInt32).toInt32) &&& (255 : Int32)) % ((5 : Int32) - ((ft &&& (255 : Int32)) % (5 : Int32)))))))), .val (.int (((((r1_v aa (0 : Int32) ((ft &&& (255 : Int32)) % (5 : Int32)) (((ft &&& (255 : Int32)) % (5 : Int32)) + ((((ft.toUInt32 >>> ((8 : Int32) &&& 31).toUInt32).toInt32) &&& (255 : Int32)) % ((5 : Int32) - ((ft &&& (255 : Int32)) % (5 : Int32)))))) + (r1_v bb (1 : Int32) ((ft &&& (255 : Int32)) % (5 : Int32)) (((ft &&& (255 : Int32)) % (5 : Int32)) + ((((ft.toUInt32 >>> ((8 : Int32) &&& 31).toUInt32).toInt32) &&& (255 : Int32)) % ((5 : Int32) - ((ft &&& (255 : Int32)) % (5 : Int32))))))) + (r1_v cc (2 : Int32) ((ft &&& (255 : Int32)) % (5 : Int32)) (((ft &&& (255 : Int32)) % (5 : Int32)) + ((((ft.toUInt32 >>> ((8 : Int32) &&& 31).toUInt32).toInt32) &&& (255 : Int32)) % ((5 : Int32) - ((ft &&& (255 : Int32)) % (5 : Int32))))))) + (r1_v dd (3 : Int32) ((ft &&& (255 : Int32)) % (5 : Int32)) (((ft &&& (255 : Int32)) % (5 : Int32)) + ((((ft.toUInt32 >>> ((8 : Int32) &&& 31).toUInt32).toInt32) &&& (255 : Int32)) % ((5 : Int32) - ((ft &&& (255 : Int32)) % (5 : Int32))))))) % (256 : Int32))), .val (.int ((own_sum (up (up (up (up zI 0 (aa.toInt8.toInt32)) 1 (bb.toInt8.toInt32)) 2 (cc.toInt8.toInt32)) 3 (dd.toInt8.toInt32)) kk fn (0 : Int32)) &&& (255 : Int32)))]) rfl ?_
    show Steps p.tables e below (T19.setTop (mkF m 114 #[.val (.int aa), .val (.int bb), .val (.int cc), .val (.int dd), .val (.int ft), .val (.ref b1), .val (.int ((ft &&& (255 : Int32)) % (5 : Int32))), .val (.int (((ft &&& (255 : Int32)) % (5 : Int32)) + ((((ft.toUInt32 >>> ((8 : Int32) &&& 31).toUInt32).toInt32) &&& (255 : Int32)) % ((5 : Int32) - ((ft &&& (255 : Int32)) % (5 : Int32)))))), .val (.int ((((r1_v aa (0 : Int32) ((ft &&& (255 : Int32)) % (5 : Int32)) (((ft &&& (255 : Int32)) % (5 : Int32)) + ((((ft.toUInt32 >>> ((8 : Int32) &&& 31).toUInt32).toInt32) &&& (255 : Int32)) % ((5 : Int32) - ((ft &&& (255 : Int32)) % (5 : Int32)))))) + (r1_v bb (1 : Int32) ((ft &&& (255 : Int32)) % (5 : Int32)) (((ft &&& (255 : Int32)) % (5 : Int32)) + ((((ft.toUInt32 >>> ((8 : Int32) &&& 31).toUInt32).toInt32) &&& (255 : Int32)) % ((5 : Int32) - ((ft &&& (255 : Int32)) % (5 : Int32))))))) + (r1_v cc (2 : Int32) ((ft &&& (255 : Int32)) % (5 : Int32)) (((ft &&& (255 : Int32)) % (5 : Int32)) + ((((ft.toUInt32 >>> ((8 : Int32) &&& 31).toUInt32).toInt32) &&& (255 : Int32)) % ((5 : Int32) - ((ft &&& (255 : Int32)) % (5 : Int32))))))) + (r1_v dd (3 : Int32) ((ft &&& (255 : Int32)) % (5 : Int32)) (((ft &&& (255 : Int32)) % (5 : Int32)) + ((((ft.toUInt32 >>> ((8 : Int32) &&& 31).toUInt32).toInt32) &&& (255 : Int32)) % ((5 : Int32) - ((ft &&& (255 : Int32)) % (5 : Int32)))))))), .val (.int (((((r1_v aa (0 : Int32) ((ft &&& (255 : Int32)) % (5 : Int32)) (((ft &&& (255 : Int32)) % (5 : Int32)) + ((((ft.toUInt32 >>> ((8 : Int32) &&& 31).toUInt32).toInt32) &&& (255 : Int32)) % ((5 : Int32) - ((ft &&& (255 : Int32)) % (5 : Int32)))))) + (r1_v bb (1 : Int32) ((ft &&& (255 : Int32)) % (5 : Int32)) (((ft &&& (255 : Int32)) % (5 : Int32)) + ((((ft.toUInt32 >>> ((8 : Int32) &&& 31).toUInt32).toInt32) &&& (255 : Int32)) % ((5 : Int32) - ((ft &&& (255 : Int32)) % (5 : Int32))))))) + (r1_v cc (2 : Int32) ((ft &&& (255 : Int32)) % (5 : Int32)) (((ft &&& (255 : Int32)) % (5 : Int32)) + ((((ft.toUInt32 >>> ((8 : Int32) &&& 31).toUInt32).toInt32) &&& (255 : Int32)) % ((5 : Int32) - ((ft &&& (255 : Int32)) % (5 : Int32))))))) + (r1_v dd (3 : Int32) ((ft &&& (255 : Int32)) % (5 : Int32)) (((ft &&& (255 : Int32)) % (5 : Int32)) + ((((ft.toUInt32 >>> ((8 : Int32) &&& 31).toUInt32).toInt32) &&& (255 : Int32)) % ((5 : Int32) - ((ft &&& (255 : Int32)) % (5 : Int32))))))) % (256 : Int32))), .val (.int ((own_sum (up (up (up (up zI 0 (aa.toInt8.toInt32)) 1 (bb.toInt8.toInt32)) 2 (cc.toInt8.toInt32)) 3 (dd.toInt8.toInt32)) kk fn (0 : Int32)) &&& (255 : Int32)))] [])) _
    refine XS.iload X19.here hx rfl (hb hby at_114) rfl ?_
    show Steps p.tables e below (T19.setTop (mkF m 116 #[.val (.int aa), .val (.int bb), .val (.int cc), .val (.int dd), .val (.int ft), .val (.ref b1), .val (.int ((ft &&& (255 : Int32)) % (5 : Int32))), .val (.int (((ft &&& (255 : Int32)) % (5 : Int32)) + ((((ft.toUInt32 >>> ((8 : Int32) &&& 31).toUInt32).toInt32) &&& (255 : Int32)) % ((5 : Int32) - ((ft &&& (255 : Int32)) % (5 : Int32)))))), .val (.int ((((r1_v aa (0 : Int32) ((ft &&& (255 : Int32)) % (5 : Int32)) (((ft &&& (255 : Int32)) % (5 : Int32)) + ((((ft.toUInt32 >>> ((8 : Int32) &&& 31).toUInt32).toInt32) &&& (255 : Int32)) % ((5 : Int32) - ((ft &&& (255 : Int32)) % (5 : Int32)))))) + (r1_v bb (1 : Int32) ((ft &&& (255 : Int32)) % (5 : Int32)) (((ft &&& (255 : Int32)) % (5 : Int32)) + ((((ft.toUInt32 >>> ((8 : Int32) &&& 31).toUInt32).toInt32) &&& (255 : Int32)) % ((5 : Int32) - ((ft &&& (255 : Int32)) % (5 : Int32))))))) + (r1_v cc (2 : Int32) ((ft &&& (255 : Int32)) % (5 : Int32)) (((ft &&& (255 : Int32)) % (5 : Int32)) + ((((ft.toUInt32 >>> ((8 : Int32) &&& 31).toUInt32).toInt32) &&& (255 : Int32)) % ((5 : Int32) - ((ft &&& (255 : Int32)) % (5 : Int32))))))) + (r1_v dd (3 : Int32) ((ft &&& (255 : Int32)) % (5 : Int32)) (((ft &&& (255 : Int32)) % (5 : Int32)) + ((((ft.toUInt32 >>> ((8 : Int32) &&& 31).toUInt32).toInt32) &&& (255 : Int32)) % ((5 : Int32) - ((ft &&& (255 : Int32)) % (5 : Int32)))))))), .val (.int (((((r1_v aa (0 : Int32) ((ft &&& (255 : Int32)) % (5 : Int32)) (((ft &&& (255 : Int32)) % (5 : Int32)) + ((((ft.toUInt32 >>> ((8 : Int32) &&& 31).toUInt32).toInt32) &&& (255 : Int32)) % ((5 : Int32) - ((ft &&& (255 : Int32)) % (5 : Int32)))))) + (r1_v bb (1 : Int32) ((ft &&& (255 : Int32)) % (5 : Int32)) (((ft &&& (255 : Int32)) % (5 : Int32)) + ((((ft.toUInt32 >>> ((8 : Int32) &&& 31).toUInt32).toInt32) &&& (255 : Int32)) % ((5 : Int32) - ((ft &&& (255 : Int32)) % (5 : Int32))))))) + (r1_v cc (2 : Int32) ((ft &&& (255 : Int32)) % (5 : Int32)) (((ft &&& (255 : Int32)) % (5 : Int32)) + ((((ft.toUInt32 >>> ((8 : Int32) &&& 31).toUInt32).toInt32) &&& (255 : Int32)) % ((5 : Int32) - ((ft &&& (255 : Int32)) % (5 : Int32))))))) + (r1_v dd (3 : Int32) ((ft &&& (255 : Int32)) % (5 : Int32)) (((ft &&& (255 : Int32)) % (5 : Int32)) + ((((ft.toUInt32 >>> ((8 : Int32) &&& 31).toUInt32).toInt32) &&& (255 : Int32)) % ((5 : Int32) - ((ft &&& (255 : Int32)) % (5 : Int32))))))) % (256 : Int32))), .val (.int ((own_sum (up (up (up (up zI 0 (aa.toInt8.toInt32)) 1 (bb.toInt8.toInt32)) 2 (cc.toInt8.toInt32)) 3 (dd.toInt8.toInt32)) kk fn (0 : Int32)) &&& (255 : Int32)))] [(.int ((own_sum (up (up (up (up zI 0 (aa.toInt8.toInt32)) 1 (bb.toInt8.toInt32)) 2 (cc.toInt8.toInt32)) 3 (dd.toInt8.toInt32)) kk fn (0 : Int32)) &&& (255 : Int32)))])) _
    refine XS.iload X19.here hx rfl (hb hby at_116) rfl ?_
    show Steps p.tables e below (T19.setTop (mkF m 118 #[.val (.int aa), .val (.int bb), .val (.int cc), .val (.int dd), .val (.int ft), .val (.ref b1), .val (.int ((ft &&& (255 : Int32)) % (5 : Int32))), .val (.int (((ft &&& (255 : Int32)) % (5 : Int32)) + ((((ft.toUInt32 >>> ((8 : Int32) &&& 31).toUInt32).toInt32) &&& (255 : Int32)) % ((5 : Int32) - ((ft &&& (255 : Int32)) % (5 : Int32)))))), .val (.int ((((r1_v aa (0 : Int32) ((ft &&& (255 : Int32)) % (5 : Int32)) (((ft &&& (255 : Int32)) % (5 : Int32)) + ((((ft.toUInt32 >>> ((8 : Int32) &&& 31).toUInt32).toInt32) &&& (255 : Int32)) % ((5 : Int32) - ((ft &&& (255 : Int32)) % (5 : Int32)))))) + (r1_v bb (1 : Int32) ((ft &&& (255 : Int32)) % (5 : Int32)) (((ft &&& (255 : Int32)) % (5 : Int32)) + ((((ft.toUInt32 >>> ((8 : Int32) &&& 31).toUInt32).toInt32) &&& (255 : Int32)) % ((5 : Int32) - ((ft &&& (255 : Int32)) % (5 : Int32))))))) + (r1_v cc (2 : Int32) ((ft &&& (255 : Int32)) % (5 : Int32)) (((ft &&& (255 : Int32)) % (5 : Int32)) + ((((ft.toUInt32 >>> ((8 : Int32) &&& 31).toUInt32).toInt32) &&& (255 : Int32)) % ((5 : Int32) - ((ft &&& (255 : Int32)) % (5 : Int32))))))) + (r1_v dd (3 : Int32) ((ft &&& (255 : Int32)) % (5 : Int32)) (((ft &&& (255 : Int32)) % (5 : Int32)) + ((((ft.toUInt32 >>> ((8 : Int32) &&& 31).toUInt32).toInt32) &&& (255 : Int32)) % ((5 : Int32) - ((ft &&& (255 : Int32)) % (5 : Int32)))))))), .val (.int (((((r1_v aa (0 : Int32) ((ft &&& (255 : Int32)) % (5 : Int32)) (((ft &&& (255 : Int32)) % (5 : Int32)) + ((((ft.toUInt32 >>> ((8 : Int32) &&& 31).toUInt32).toInt32) &&& (255 : Int32)) % ((5 : Int32) - ((ft &&& (255 : Int32)) % (5 : Int32)))))) + (r1_v bb (1 : Int32) ((ft &&& (255 : Int32)) % (5 : Int32)) (((ft &&& (255 : Int32)) % (5 : Int32)) + ((((ft.toUInt32 >>> ((8 : Int32) &&& 31).toUInt32).toInt32) &&& (255 : Int32)) % ((5 : Int32) - ((ft &&& (255 : Int32)) % (5 : Int32))))))) + (r1_v cc (2 : Int32) ((ft &&& (255 : Int32)) % (5 : Int32)) (((ft &&& (255 : Int32)) % (5 : Int32)) + ((((ft.toUInt32 >>> ((8 : Int32) &&& 31).toUInt32).toInt32) &&& (255 : Int32)) % ((5 : Int32) - ((ft &&& (255 : Int32)) % (5 : Int32))))))) + (r1_v dd (3 : Int32) ((ft &&& (255 : Int32)) % (5 : Int32)) (((ft &&& (255 : Int32)) % (5 : Int32)) + ((((ft.toUInt32 >>> ((8 : Int32) &&& 31).toUInt32).toInt32) &&& (255 : Int32)) % ((5 : Int32) - ((ft &&& (255 : Int32)) % (5 : Int32))))))) % (256 : Int32))), .val (.int ((own_sum (up (up (up (up zI 0 (aa.toInt8.toInt32)) 1 (bb.toInt8.toInt32)) 2 (cc.toInt8.toInt32)) 3 (dd.toInt8.toInt32)) kk fn (0 : Int32)) &&& (255 : Int32)))] [(.int (((((r1_v aa (0 : Int32) ((ft &&& (255 : Int32)) % (5 : Int32)) (((ft &&& (255 : Int32)) % (5 : Int32)) + ((((ft.toUInt32 >>> ((8 : Int32) &&& 31).toUInt32).toInt32) &&& (255 : Int32)) % ((5 : Int32) - ((ft &&& (255 : Int32)) % (5 : Int32)))))) + (r1_v bb (1 : Int32) ((ft &&& (255 : Int32)) % (5 : Int32)) (((ft &&& (255 : Int32)) % (5 : Int32)) + ((((ft.toUInt32 >>> ((8 : Int32) &&& 31).toUInt32).toInt32) &&& (255 : Int32)) % ((5 : Int32) - ((ft &&& (255 : Int32)) % (5 : Int32))))))) + (r1_v cc (2 : Int32) ((ft &&& (255 : Int32)) % (5 : Int32)) (((ft &&& (255 : Int32)) % (5 : Int32)) + ((((ft.toUInt32 >>> ((8 : Int32) &&& 31).toUInt32).toInt32) &&& (255 : Int32)) % ((5 : Int32) - ((ft &&& (255 : Int32)) % (5 : Int32))))))) + (r1_v dd (3 : Int32) ((ft &&& (255 : Int32)) % (5 : Int32)) (((ft &&& (255 : Int32)) % (5 : Int32)) + ((((ft.toUInt32 >>> ((8 : Int32) &&& 31).toUInt32).toInt32) &&& (255 : Int32)) % ((5 : Int32) - ((ft &&& (255 : Int32)) % (5 : Int32))))))) % (256 : Int32))), (.int ((own_sum (up (up (up (up zI 0 (aa.toInt8.toInt32)) 1 (bb.toInt8.toInt32)) 2 (cc.toInt8.toInt32)) 3 (dd.toInt8.toInt32)) kk fn (0 : Int32)) &&& (255 : Int32)))])) _
    refine XS.icmpNo X19.here hx rfl (hb hby at_118) rfl (teq (own_fin aa bb cc dd ft fn kk hfn hto hle : (((own_sum (up (up (up (up zI 0 (aa.toInt8.toInt32)) 1 (bb.toInt8.toInt32)) 2 (cc.toInt8.toInt32)) 3 (dd.toInt8.toInt32)) kk fn (0 : Int32)) &&& (255 : Int32)) = (((((r1_v aa (0 : Int32) ((ft &&& (255 : Int32)) % (5 : Int32)) (((ft &&& (255 : Int32)) % (5 : Int32)) + ((((ft.toUInt32 >>> ((8 : Int32) &&& 31).toUInt32).toInt32) &&& (255 : Int32)) % ((5 : Int32) - ((ft &&& (255 : Int32)) % (5 : Int32)))))) + (r1_v bb (1 : Int32) ((ft &&& (255 : Int32)) % (5 : Int32)) (((ft &&& (255 : Int32)) % (5 : Int32)) + ((((ft.toUInt32 >>> ((8 : Int32) &&& 31).toUInt32).toInt32) &&& (255 : Int32)) % ((5 : Int32) - ((ft &&& (255 : Int32)) % (5 : Int32))))))) + (r1_v cc (2 : Int32) ((ft &&& (255 : Int32)) % (5 : Int32)) (((ft &&& (255 : Int32)) % (5 : Int32)) + ((((ft.toUInt32 >>> ((8 : Int32) &&& 31).toUInt32).toInt32) &&& (255 : Int32)) % ((5 : Int32) - ((ft &&& (255 : Int32)) % (5 : Int32))))))) + (r1_v dd (3 : Int32) ((ft &&& (255 : Int32)) % (5 : Int32)) (((ft &&& (255 : Int32)) % (5 : Int32)) + ((((ft.toUInt32 >>> ((8 : Int32) &&& 31).toUInt32).toInt32) &&& (255 : Int32)) % ((5 : Int32) - ((ft &&& (255 : Int32)) % (5 : Int32))))))) % (256 : Int32))))).2 ?_
    show Steps p.tables e below (T19.setTop (mkF m 121 #[.val (.int aa), .val (.int bb), .val (.int cc), .val (.int dd), .val (.int ft), .val (.ref b1), .val (.int ((ft &&& (255 : Int32)) % (5 : Int32))), .val (.int (((ft &&& (255 : Int32)) % (5 : Int32)) + ((((ft.toUInt32 >>> ((8 : Int32) &&& 31).toUInt32).toInt32) &&& (255 : Int32)) % ((5 : Int32) - ((ft &&& (255 : Int32)) % (5 : Int32)))))), .val (.int ((((r1_v aa (0 : Int32) ((ft &&& (255 : Int32)) % (5 : Int32)) (((ft &&& (255 : Int32)) % (5 : Int32)) + ((((ft.toUInt32 >>> ((8 : Int32) &&& 31).toUInt32).toInt32) &&& (255 : Int32)) % ((5 : Int32) - ((ft &&& (255 : Int32)) % (5 : Int32)))))) + (r1_v bb (1 : Int32) ((ft &&& (255 : Int32)) % (5 : Int32)) (((ft &&& (255 : Int32)) % (5 : Int32)) + ((((ft.toUInt32 >>> ((8 : Int32) &&& 31).toUInt32).toInt32) &&& (255 : Int32)) % ((5 : Int32) - ((ft &&& (255 : Int32)) % (5 : Int32))))))) + (r1_v cc (2 : Int32) ((ft &&& (255 : Int32)) % (5 : Int32)) (((ft &&& (255 : Int32)) % (5 : Int32)) + ((((ft.toUInt32 >>> ((8 : Int32) &&& 31).toUInt32).toInt32) &&& (255 : Int32)) % ((5 : Int32) - ((ft &&& (255 : Int32)) % (5 : Int32))))))) + (r1_v dd (3 : Int32) ((ft &&& (255 : Int32)) % (5 : Int32)) (((ft &&& (255 : Int32)) % (5 : Int32)) + ((((ft.toUInt32 >>> ((8 : Int32) &&& 31).toUInt32).toInt32) &&& (255 : Int32)) % ((5 : Int32) - ((ft &&& (255 : Int32)) % (5 : Int32)))))))), .val (.int (((((r1_v aa (0 : Int32) ((ft &&& (255 : Int32)) % (5 : Int32)) (((ft &&& (255 : Int32)) % (5 : Int32)) + ((((ft.toUInt32 >>> ((8 : Int32) &&& 31).toUInt32).toInt32) &&& (255 : Int32)) % ((5 : Int32) - ((ft &&& (255 : Int32)) % (5 : Int32)))))) + (r1_v bb (1 : Int32) ((ft &&& (255 : Int32)) % (5 : Int32)) (((ft &&& (255 : Int32)) % (5 : Int32)) + ((((ft.toUInt32 >>> ((8 : Int32) &&& 31).toUInt32).toInt32) &&& (255 : Int32)) % ((5 : Int32) - ((ft &&& (255 : Int32)) % (5 : Int32))))))) + (r1_v cc (2 : Int32) ((ft &&& (255 : Int32)) % (5 : Int32)) (((ft &&& (255 : Int32)) % (5 : Int32)) + ((((ft.toUInt32 >>> ((8 : Int32) &&& 31).toUInt32).toInt32) &&& (255 : Int32)) % ((5 : Int32) - ((ft &&& (255 : Int32)) % (5 : Int32))))))) + (r1_v dd (3 : Int32) ((ft &&& (255 : Int32)) % (5 : Int32)) (((ft &&& (255 : Int32)) % (5 : Int32)) + ((((ft.toUInt32 >>> ((8 : Int32) &&& 31).toUInt32).toInt32) &&& (255 : Int32)) % ((5 : Int32) - ((ft &&& (255 : Int32)) % (5 : Int32))))))) % (256 : Int32))), .val (.int ((own_sum (up (up (up (up zI 0 (aa.toInt8.toInt32)) 1 (bb.toInt8.toInt32)) 2 (cc.toInt8.toInt32)) 3 (dd.toInt8.toInt32)) kk fn (0 : Int32)) &&& (255 : Int32)))] [])) _
    refine XS.iconst X19.here hx rfl (hb hby at_121) ?_
    show Steps p.tables e below (T19.setTop (mkF m 122 #[.val (.int aa), .val (.int bb), .val (.int cc), .val (.int dd), .val (.int ft), .val (.ref b1), .val (.int ((ft &&& (255 : Int32)) % (5 : Int32))), .val (.int (((ft &&& (255 : Int32)) % (5 : Int32)) + ((((ft.toUInt32 >>> ((8 : Int32) &&& 31).toUInt32).toInt32) &&& (255 : Int32)) % ((5 : Int32) - ((ft &&& (255 : Int32)) % (5 : Int32)))))), .val (.int ((((r1_v aa (0 : Int32) ((ft &&& (255 : Int32)) % (5 : Int32)) (((ft &&& (255 : Int32)) % (5 : Int32)) + ((((ft.toUInt32 >>> ((8 : Int32) &&& 31).toUInt32).toInt32) &&& (255 : Int32)) % ((5 : Int32) - ((ft &&& (255 : Int32)) % (5 : Int32)))))) + (r1_v bb (1 : Int32) ((ft &&& (255 : Int32)) % (5 : Int32)) (((ft &&& (255 : Int32)) % (5 : Int32)) + ((((ft.toUInt32 >>> ((8 : Int32) &&& 31).toUInt32).toInt32) &&& (255 : Int32)) % ((5 : Int32) - ((ft &&& (255 : Int32)) % (5 : Int32))))))) + (r1_v cc (2 : Int32) ((ft &&& (255 : Int32)) % (5 : Int32)) (((ft &&& (255 : Int32)) % (5 : Int32)) + ((((ft.toUInt32 >>> ((8 : Int32) &&& 31).toUInt32).toInt32) &&& (255 : Int32)) % ((5 : Int32) - ((ft &&& (255 : Int32)) % (5 : Int32))))))) + (r1_v dd (3 : Int32) ((ft &&& (255 : Int32)) % (5 : Int32)) (((ft &&& (255 : Int32)) % (5 : Int32)) + ((((ft.toUInt32 >>> ((8 : Int32) &&& 31).toUInt32).toInt32) &&& (255 : Int32)) % ((5 : Int32) - ((ft &&& (255 : Int32)) % (5 : Int32)))))))), .val (.int (((((r1_v aa (0 : Int32) ((ft &&& (255 : Int32)) % (5 : Int32)) (((ft &&& (255 : Int32)) % (5 : Int32)) + ((((ft.toUInt32 >>> ((8 : Int32) &&& 31).toUInt32).toInt32) &&& (255 : Int32)) % ((5 : Int32) - ((ft &&& (255 : Int32)) % (5 : Int32)))))) + (r1_v bb (1 : Int32) ((ft &&& (255 : Int32)) % (5 : Int32)) (((ft &&& (255 : Int32)) % (5 : Int32)) + ((((ft.toUInt32 >>> ((8 : Int32) &&& 31).toUInt32).toInt32) &&& (255 : Int32)) % ((5 : Int32) - ((ft &&& (255 : Int32)) % (5 : Int32))))))) + (r1_v cc (2 : Int32) ((ft &&& (255 : Int32)) % (5 : Int32)) (((ft &&& (255 : Int32)) % (5 : Int32)) + ((((ft.toUInt32 >>> ((8 : Int32) &&& 31).toUInt32).toInt32) &&& (255 : Int32)) % ((5 : Int32) - ((ft &&& (255 : Int32)) % (5 : Int32))))))) + (r1_v dd (3 : Int32) ((ft &&& (255 : Int32)) % (5 : Int32)) (((ft &&& (255 : Int32)) % (5 : Int32)) + ((((ft.toUInt32 >>> ((8 : Int32) &&& 31).toUInt32).toInt32) &&& (255 : Int32)) % ((5 : Int32) - ((ft &&& (255 : Int32)) % (5 : Int32))))))) % (256 : Int32))), .val (.int ((own_sum (up (up (up (up zI 0 (aa.toInt8.toInt32)) 1 (bb.toInt8.toInt32)) 2 (cc.toInt8.toInt32)) 3 (dd.toInt8.toInt32)) kk fn (0 : Int32)) &&& (255 : Int32)))] [(.int (1 : Int32))])) _
    refine XS.goto X19.here hx rfl (pc0 := 122) (pc' := 126) rfl (hb hby at_122) (by decide) (by decide) ?_
    show Steps p.tables e below (T19.setTop (mkF m 126 #[.val (.int aa), .val (.int bb), .val (.int cc), .val (.int dd), .val (.int ft), .val (.ref b1), .val (.int ((ft &&& (255 : Int32)) % (5 : Int32))), .val (.int (((ft &&& (255 : Int32)) % (5 : Int32)) + ((((ft.toUInt32 >>> ((8 : Int32) &&& 31).toUInt32).toInt32) &&& (255 : Int32)) % ((5 : Int32) - ((ft &&& (255 : Int32)) % (5 : Int32)))))), .val (.int ((((r1_v aa (0 : Int32) ((ft &&& (255 : Int32)) % (5 : Int32)) (((ft &&& (255 : Int32)) % (5 : Int32)) + ((((ft.toUInt32 >>> ((8 : Int32) &&& 31).toUInt32).toInt32) &&& (255 : Int32)) % ((5 : Int32) - ((ft &&& (255 : Int32)) % (5 : Int32)))))) + (r1_v bb (1 : Int32) ((ft &&& (255 : Int32)) % (5 : Int32)) (((ft &&& (255 : Int32)) % (5 : Int32)) + ((((ft.toUInt32 >>> ((8 : Int32) &&& 31).toUInt32).toInt32) &&& (255 : Int32)) % ((5 : Int32) - ((ft &&& (255 : Int32)) % (5 : Int32))))))) + (r1_v cc (2 : Int32) ((ft &&& (255 : Int32)) % (5 : Int32)) (((ft &&& (255 : Int32)) % (5 : Int32)) + ((((ft.toUInt32 >>> ((8 : Int32) &&& 31).toUInt32).toInt32) &&& (255 : Int32)) % ((5 : Int32) - ((ft &&& (255 : Int32)) % (5 : Int32))))))) + (r1_v dd (3 : Int32) ((ft &&& (255 : Int32)) % (5 : Int32)) (((ft &&& (255 : Int32)) % (5 : Int32)) + ((((ft.toUInt32 >>> ((8 : Int32) &&& 31).toUInt32).toInt32) &&& (255 : Int32)) % ((5 : Int32) - ((ft &&& (255 : Int32)) % (5 : Int32)))))))), .val (.int (((((r1_v aa (0 : Int32) ((ft &&& (255 : Int32)) % (5 : Int32)) (((ft &&& (255 : Int32)) % (5 : Int32)) + ((((ft.toUInt32 >>> ((8 : Int32) &&& 31).toUInt32).toInt32) &&& (255 : Int32)) % ((5 : Int32) - ((ft &&& (255 : Int32)) % (5 : Int32)))))) + (r1_v bb (1 : Int32) ((ft &&& (255 : Int32)) % (5 : Int32)) (((ft &&& (255 : Int32)) % (5 : Int32)) + ((((ft.toUInt32 >>> ((8 : Int32) &&& 31).toUInt32).toInt32) &&& (255 : Int32)) % ((5 : Int32) - ((ft &&& (255 : Int32)) % (5 : Int32))))))) + (r1_v cc (2 : Int32) ((ft &&& (255 : Int32)) % (5 : Int32)) (((ft &&& (255 : Int32)) % (5 : Int32)) + ((((ft.toUInt32 >>> ((8 : Int32) &&& 31).toUInt32).toInt32) &&& (255 : Int32)) % ((5 : Int32) - ((ft &&& (255 : Int32)) % (5 : Int32))))))) + (r1_v dd (3 : Int32) ((ft &&& (255 : Int32)) % (5 : Int32)) (((ft &&& (255 : Int32)) % (5 : Int32)) + ((((ft.toUInt32 >>> ((8 : Int32) &&& 31).toUInt32).toInt32) &&& (255 : Int32)) % ((5 : Int32) - ((ft &&& (255 : Int32)) % (5 : Int32))))))) % (256 : Int32))), .val (.int ((own_sum (up (up (up (up zI 0 (aa.toInt8.toInt32)) 1 (bb.toInt8.toInt32)) 2 (cc.toInt8.toInt32)) 3 (dd.toInt8.toInt32)) kk fn (0 : Int32)) &&& (255 : Int32)))] [(.int (1 : Int32))])) _
    exact retN X19 hx (t := .boolean) Bd.returns (by simp) (hb hby at_126) hr
  · show Q0 Z aa bb cc dd ft h0 n0 _ T19.heap _
    rw [e19]
    exact ⟨rfl, N19⟩
set_option maxRecDepth 65536 in
set_option maxHeartbeats 40000000 in
theorem comes_1 {Post : Tables → Env → Array Value → State → Outcome → State → Prop} (hpost : ∀ tb e args s v u, (limb_1_1.after args s (.returned v) u = true ∧ limb_1_2.after args s (.returned v) u = true ∧ True) → FrameEnd s (.returned v) u (Jvm.fieldLocs frame_1_writes args s ++ Jvm.arrayLocs frame_1_arrays args s ++ Jvm.staticLocs frame_1_statics s) 16 128 → Post tb e args s (.returned v) u) :
    ArmFor flags0 classFile x code maxLocals ret World_1 tables_1 room_1 Calls_1 rest_1 Pre_1 Post := by
  intro l hfl _ _ p e ha hc hk s m args below hf hA hF happ hP
  obtain ⟨hcalls, hrest, hpre⟩ := hP
  obtain ⟨-, -, -, hnamed, -, -, -, hat⟩ := (Spec.applies_iff hf).mp happ
  obtain ⟨hg, hn⟩ := and_e (Cond.before_iff.mp (show (Jvm.Cond.and given_1 narrow_1).before args s = true from hpre))
  obtain ⟨gv1, gv2⟩ := and_e hg
  obtain ⟨gv3, gv4⟩ := and_e gv2
  obtain ⟨gv5, gv6⟩ := and_e gv4
  obtain ⟨gv7, gv8⟩ := and_e gv6
  obtain ⟨gv9, gv10⟩ := and_e gv8
  obtain ⟨w0, w1, w2, w3, w4, rfl⟩ : ∃ w0 w1 w2 w3 w4 : Value, args = #[w0, w1, w2, w3, w4] := by
    have hs : args.size = 5 := by simpa [Cond.value, given_1] using gv1
    obtain ⟨L⟩ := args
    match L, hs with
    | [w0, w1, w2, w3, w4], _ => exact ⟨w0, w1, w2, w3, w4, rfl⟩
  have hw := fun d (hd : d ∈ tables_1) => atoms_spec (ws := Jvm.Cond.code x code maxLocals ret :: tables_1) hat d (List.mem_cons_of_mem _ hd)
  have hfit : Fit s := fun {y c} hc i hi => by
    obtain ⟨ha, rfl⟩ := Array.getElem?_eq_some_iff.mp hc
    have q := List.all_eq_true.mp ((Array.all_eq_true_iff_forall_mem.mp hF) _ (Array.getElem_mem ha)) i (List.mem_range.mpr hi)
    simpa [Array.getElem?_eq_getElem hi] using q
  obtain ⟨i0, ei0⟩ := is_v gv3
  obtain rfl : w0 = (.int i0) := Option.some.inj ei0
  obtain ⟨i1, ei1⟩ := is_v gv5
  obtain rfl : w1 = (.int i1) := Option.some.inj ei1
  obtain ⟨i2, ei2⟩ := is_v gv7
  obtain rfl : w2 = (.int i2) := Option.some.inj ei2
  obtain ⟨i3, ei3⟩ := is_v gv9
  obtain rfl : w3 = (.int i3) := Option.some.inj ei3
  obtain ⟨i4, ei4⟩ := is_v gv10
  obtain rfl : w4 = (.int i4) := Option.some.inj ei4
  obtain ⟨n, o, h1, h2, h3, _, L, rfl, ⟨rfl, N⟩, hq⟩ := rm0 l s _ hw tables_1 i0 i1 i2 i3 i4 s.heap s.heap.size (Nat.le_refl _) p e ha hc hk s m _ below hf ((Spec.applies_iff_loose hf).mp happ).1 ⟨rfl, State.Warmed39.refl s, rfl⟩ trivial
  refine ⟨n, _, h1, h2, h3, hpost _ _ _ _ _ _ ⟨Cond.after_iff.mpr rfl, Cond.after_iff.mpr (eq_i res_at (Term.int_eval (1)) rfl), trivial⟩ ⟨hq.1, hq.2.1, (hq.2.2.sift fun y hy => Or.inr (N y hy)).mono (by decide) (by decide)⟩⟩
theorem main_1_1 : Claimed_1_1 := comes_1 fun _ _ _ _ _ _ h hF => ⟨h.1, hF⟩
theorem main_1_2 : Claimed_1_2 := comes_1 fun _ _ _ _ _ _ h hF => ⟨h.2.1, hF⟩
end Jvm.Pilot.@@N@@
namespace Jvm.Pilot.@@N@@
open Jvm Jvm.ClassFile Sem Op Lib Jvm.Free Jvm.Stand Jvm.Pilot.@@N@@.Jvm.D
/-! MADE BY PROGRAM (witnessworld.py) out of the Statement's table words and the real class files: 9 classes; the members and pool entries that the words name. The judged class is class 1, her method 1. -/
namespace start1
open Jvm.ClassFile
def u (s : String) : CpInfo := .utf8 (stringToUtf16 s)
/-- a pool by its gaps: so many unusable entries, then the entry; so many at the end -/
def gap : Nat → List CpInfo → List CpInfo
  | 0, r => r
  | n + 1, r => .unusable :: gap n r
def poolList (es : List (Nat × CpInfo)) (last : Nat) : List CpInfo := es.foldr (fun e r => gap e.1 (e.2 :: r)) (gap last [])
def pool (es : List (Nat × CpInfo)) (last : Nat) : Array CpInfo := ⟨poolList es last⟩
def fileOf (pool : Array CpInfo) (this : Nat) (attrs : Array Attribute := #[]) (ms : Array MethodInfo := #[]) (fl : Nat := 33) (sup : Nat := 0) (ifs : Array Nat := #[]) (fds : Array FieldInfo := #[]) : ClassFile where
  minorVersion := 0
  majorVersion := 65
  constantPool := pool
  accessFlags := fl
  thisClass := this
  superClass := sup
  interfaces := ifs
  fields := fds
  methods := ms
  attributes := attrs
def plain (name : String) (sup : Option ClassId) : Class where
  name := name
  kind := .ordinary
  loader := none
  accessFlags := 33
  super := sup
  interfaces := #[]
  cf := none
  fields := #[]
  methods := #[]
  instanceTypes := #[]
  staticTypes := #[]
  resolved := #[]
  callSites := []
  init := .initialized
  statics := none
  mirror := none

def pool0 : Array CpInfo := pool [(5, u "<init>"), (0, u "()V"), (1, .class_ 10), (1, u "java/lang/Object")] 113

def k0m0 : Method := { name := "<init>", desc := "()V", sig := { parameters := [], returnType := none }, accessFlags := 1, code := none }
/-- java/lang/Object -/
def k0 : Class := { plain "java/lang/Object" none with
  accessFlags := 33
  interfaces := #[]
  cf := some (fileOf pool0 8 #[] #[{ accessFlags := 1, nameIndex := 5, descriptorIndex := 6, attributes := #[] }] 33 0 #[] #[])
  fields := #[]
  methods := #[k0m0]
  instanceTypes := #[]
  staticTypes := #[]
  resolved := Array.replicate 124 none
  statics := none }

def pool1 : Array CpInfo := pool [(2, .class_ 4), (1, u "java/lang/Object"), (0, u "<init>"), (0, u "()V"), (0, .methodref 8 9), (0, .class_ 10), (0, .nameAndType 11 12), (0, u "com/example/tillwire/tillwire/core/check/ByteSumOfPinLaw"), (0, u "term"), (0, u "(IIII)I"), (0, .methodref 14 15), (0, .class_ 16), (0, .nameAndType 17 18), (0, u "com/example/tillwire/tillwire/core/check/ByteSum"), (0, u "of"), (0, u "([BII)I"), (2, u "law"), (0, u "(IIIII)Z")] 5

def k1m0 : Method := { name := "<init>", desc := "()V", sig := { parameters := [], returnType := none }, accessFlags := 2, code := none }
def k1c1 : Code := { maxStack := 5, maxLocals := 11, code := code, exceptionTable := #[], attributes := #[] }
def k1m1 : Method := { name := "law", desc := "(IIIII)Z", sig := { parameters := [.int, .int, .int, .int, .int], returnType := some .boolean }, accessFlags := 9, code := some k1c1 }
def k1c2 : Code := { maxStack := 2, maxLocals := 4, code := method_3_code, exceptionTable := #[], attributes := #[] }
def k1m2 : Method := { name := "term", desc := "(IIII)I", sig := { parameters := [.int, .int, .int, .int], returnType := some .int }, accessFlags := 10, code := some k1c2 }
/-- com/example/tillwire/tillwire/core/check/ByteSumOfPinLaw -/
def k1 : Class := { plain "com/example/tillwire/tillwire/core/check/ByteSumOfPinLaw" (some 0) with
  accessFlags := 49
  interfaces := #[]
  cf := some (fileOf pool1 8 #[] #[{ accessFlags := 2, nameIndex := 5, descriptorIndex := 6, attributes := #[] }, { accessFlags := 9, nameIndex := 21, descriptorIndex := 22, attributes := #[] }, { accessFlags := 10, nameIndex := 11, descriptorIndex := 12, attributes := #[] }] 49 2 #[] #[])
  fields := #[]
  methods := #[k1m0, k1m1, k1m2]
  instanceTypes := #[]
  staticTypes := #[]
  resolved := Array.replicate 28 none
  statics := none }

def pool2 : Array CpInfo := pool [(2, .class_ 4), (1, u "java/lang/Object"), (0, u "<init>"), (0, u "()V"), (0, .class_ 8), (0, u "com/example/tillwire/tillwire/core/check/ByteSum"), (2, u "of"), (0, u "([BII)I")] 3

def k2m0 : Method := { name := "<init>", desc := "()V", sig := { parameters := [], returnType := none }, accessFlags := 2, code := none }
def k2c1 : Code := { maxStack := 3, maxLocals := 5, code := prog_13_method_2_code, exceptionTable := #[], attributes := #[] }
def k2m1 : Method := { name := "of", desc := "([BII)I", sig := { parameters := [(.array .byte), .int, .int], returnType := some .int }, accessFlags := 9, code := some k2c1 }
/-- com/example/tillwire/tillwire/core/check/ByteSum -/
def k2 : Class := { plain "com/example/tillwire/tillwire/core/check/ByteSum" (some 0) with
  accessFlags := 49
  interfaces := #[]
  cf := some (fileOf pool2 7 #[] #[{ accessFlags := 2, nameIndex := 5, descriptorIndex := 6, attributes := #[] }, { accessFlags := 9, nameIndex := 11, descriptorIndex := 12, attributes := #[] }] 49 2 #[] #[])
  fields := #[]
  methods := #[k2m0, k2m1]
  instanceTypes := #[]
  staticTypes := #[]
  resolved := Array.replicate 16 none
  statics := none }

def pool3 : Array CpInfo := pool [(1, u "java/lang/Cloneable"), (0, .class_ 1), (0, u "java/lang/Object"), (0, .class_ 3)] 3

/-- java/lang/Cloneable -/
def k3 : Class := { plain "java/lang/Cloneable" (some 0) with
  accessFlags := 1537
  interfaces := #[]
  cf := some (fileOf pool3 2 #[] #[] 1537 4 #[] #[])
  fields := #[]
  methods := #[]
  instanceTypes := #[]
  staticTypes := #[]
  resolved := Array.replicate 8 none
  statics := none }

def pool4 : Array CpInfo := pool [(1, u "java/io/Serializable"), (0, .class_ 1), (0, u "java/lang/Object"), (0, .class_ 3)] 3

/-- java/io/Serializable -/
def k4 : Class := { plain "java/io/Serializable" (some 0) with
  accessFlags := 1537
  interfaces := #[]
  cf := some (fileOf pool4 2 #[] #[] 1537 4 #[] #[])
  fields := #[]
  methods := #[]
  instanceTypes := #[]
  staticTypes := #[]
  resolved := Array.replicate 8 none
  statics := none }

/-- the primitive byte -/
def k5 : Class := { plain "byte" none with kind := .primitive 'B', accessFlags := 0x411 }
/-- [B -/
def k6 : Class := { plain "[B" (some 0) with kind := .array 5 .byte, interfaces := #[3, 4], accessFlags := 1041 }

/-- the primitive int -/
def k7 : Class := { plain "int" none with kind := .primitive 'I', accessFlags := 0x411 }
/-- [I -/
def k8 : Class := { plain "[I" (some 0) with kind := .array 7 .int, interfaces := #[3, 4], accessFlags := 1041 }

def heap : Heap := #[]
def classes : Array Class := #[k0, k1, k2, k3, k4, k5, k6, k7, k8]
def interned : List (Array UInt16 × Addr) := []
def slotsUsed : Nat := 0
def theMethod : MethodId := ⟨1, 1⟩
def args0 : Array Value := #[.int 1, .int 2, .int 3, .int 4, .int 513]
def aboutOver (below : List Frame) : State where
  vm := { classes := classes, interned := interned.toArray }
  heap := heap
  slotsUsed := slotsUsed
  threads := #[{ frames := .invoking theMethod args0 :: below }]
def below0 : List Frame := [.native { method := ⟨0, 0⟩, args := #[] }]
def about1 : State := aboutOver below0
def p0 : Program := .bare "" "" ""
def e0 : Env := launch0.env 0 0 0
theorem w_frames : about1.frames = Frame.invoking theMethod args0 :: below0 := rfl
set_option maxRecDepth 65536 in
theorem w_args : argsFit about1.vm theMethod args0 = true := by decide +kernel
set_option maxRecDepth 65536 in
theorem w_heap : heapFits about1 = true := by decide +kernel
set_option maxRecDepth 65536 in
theorem w_runnable : about1.curStatus? = some .runnable := by decide +kernel
set_option maxRecDepth 65536 in
theorem w_alone : about1.alone = true := by decide +kernel
set_option maxRecDepth 65536 in
theorem w_named : about1.methodNamed? x = some theMethod := by decide +kernel
set_option maxRecDepth 65536 in
theorem w_hears : about1.hears theMethod below0 = true := by decide +kernel
set_option maxRecDepth 65536 in
theorem w_ripe : about1.ripe theMethod args0 below0 = true := by decide +kernel
theorem w_running : about1.status = .running := rfl
set_option maxRecDepth 65536 in
theorem w_room : about1.hasRoom e0.platform room_1 = true :=
  launch0.hasRoom_least _ room_1 (by decide +kernel) (by decide +kernel) (by decide +kernel) (by decide +kernel) (by decide +kernel) (by decide +kernel)
theorem allAtoms_all (ts : List Jvm.Cond) (a : Array Jvm.Value) (st : Jvm.State) : (allAtoms ts).before a st = ts.all (fun c => c.before a st) := by
  induction ts with
  | nil => rfl
  | cons c t ih =>
    show (Jvm.Cond.and c (allAtoms t)).before a st = _
    rw [Jvm.Cond.before_and, ih, List.all_cons]
def words1 : List Jvm.Cond := Jvm.Cond.code x code maxLocals ret :: tables_1
/-- a 'code' word, met by the world's own term for the bytes: nothing is compared byte by byte -/
theorem code_word {y : MethodName} {bytes : ByteArray} {mx : Nat} {rt : Option FieldType} {a : Array Value} {s : State} {m : MethodId} {meth : Method} {c : Code} (h1 : s.methodNamed? y = some m) (h2 : s.vm.method? m = some meth) (h3 : meth.code = some c) (h4 : c.code = bytes)
    (h5 : (c.maxLocals == mx && c.exceptionTable.isEmpty && decide (c.maxStack ≤ mostOperands) && decide (meth.sig.returnType = rt) && !meth.locks && decide (parseMethodDescriptor y.desc = some meth.sig)) = true) : (Jvm.Cond.code y bytes mx rt).before a s = true := by
  simp only [Bool.and_eq_true, beq_iff_eq, Bool.not_eq_true', decide_eq_true_eq] at h5
  obtain ⟨⟨⟨⟨⟨g1, g2⟩, g3⟩, g4⟩, g5⟩, g6⟩ := h5
  simp [Cond.before, Cond.holds, Cond.value, h1, h2, h3, h4, g1, g2, g3, g4, g5, g6]
def isCode : Jvm.Cond → Bool
  | .code _ _ _ _ => true
  | _ => false
theorem all_split {L : List Jvm.Cond} {P : Jvm.Cond → Bool} (h1 : L.all (fun c => isCode c || P c) = true) (h2 : ∀ c ∈ L.filter isCode, P c = true) : L.all P = true := by
  refine List.all_eq_true.mpr fun c hc => ?_
  have h := List.all_eq_true.mp h1 c hc
  rcases Bool.eq_false_or_eq_true (isCode c) with hi | hi
  · exact h2 c (List.mem_filter.mpr ⟨hc, hi⟩)
  · simpa [hi] using h
set_option maxRecDepth 65536 in
theorem w_c0 : (Jvm.Cond.code x code maxLocals ret).before args0 about1 = true := code_word (m := ⟨1, 1⟩) (meth := k1m1) (c := k1c1) (by decide +kernel) rfl rfl rfl (by decide +kernel)
set_option maxRecDepth 65536 in
theorem w_c1 : (Jvm.Cond.code ({ cls := "com/example/tillwire/tillwire/core/check/ByteSumOfPinLaw", name := "term", desc := "(IIII)I" } : Jvm.MethodName) method_3_code (4 : Nat) (Option.some Jvm.ClassFile.FieldType.int)).before args0 about1 = true := code_word (m := ⟨1, 2⟩) (meth := k1m2) (c := k1c2) (by decide +kernel) rfl rfl rfl (by decide +kernel)
set_option maxRecDepth 65536 in
theorem w_c2 : (Jvm.Cond.code ({ cls := "com/example/tillwire/tillwire/core/check/ByteSum", name := "of", desc := "([BII)I" } : Jvm.MethodName) prog_13_method_2_code (5 : Nat) (Option.some Jvm.ClassFile.FieldType.int)).before args0 about1 = true := code_word (m := ⟨2, 1⟩) (meth := k2m1) (c := k2c1) (by decide +kernel) rfl rfl rfl (by decide +kernel)
def codes1 : List Jvm.Cond := [Jvm.Cond.code x code maxLocals ret, Jvm.Cond.code ({ cls := "com/example/tillwire/tillwire/core/check/ByteSumOfPinLaw", name := "term", desc := "(IIII)I" } : Jvm.MethodName) method_3_code (4 : Nat) (Option.some Jvm.ClassFile.FieldType.int), Jvm.Cond.code ({ cls := "com/example/tillwire/tillwire/core/check/ByteSum", name := "of", desc := "([BII)I" } : Jvm.MethodName) prog_13_method_2_code (5 : Nat) (Option.some Jvm.ClassFile.FieldType.int)]
set_option maxRecDepth 65536 in
theorem codes_eq : words1.filter isCode = codes1 := rfl
theorem w_codes : ∀ c ∈ words1.filter isCode, c.before args0 about1 = true := by
  rw [codes_eq]
  intro c hc
  simp only [codes1, List.mem_cons, List.not_mem_nil, or_false] at hc
  rcases hc with rfl | rfl | rfl
  · exact w_c0
  · exact w_c1
  · exact w_c2
set_option maxRecDepth 65536 in
theorem w_t1 : words1.all (fun c => isCode c || c.before args0 about1) = true := by decide +kernel
theorem w_tables : (allAtoms (Jvm.Cond.code x code maxLocals ret :: tables_1)).before args0 about1 = true := by
  rw [allAtoms_all]
  show words1.all (fun c => c.before args0 about1) = true
  refine all_split ?_ w_codes
  rw [w_t1]
set_option maxRecDepth 65536 in
theorem w_case : (Jvm.Cond.and given_1 narrow_1).before args0 about1 = true := by decide +kernel
theorem w_applies : (headSpec (Jvm.Cond.code x code maxLocals ret :: tables_1) room_1).applies x e0.platform about1 = true :=
  (Spec.applies_iff w_frames).mpr ⟨w_running, w_runnable, w_alone, w_named, w_hears, w_ripe, w_room, w_tables⟩
theorem atStart : AtStart classFile x code maxLocals ret World_1 tables_1 room_1 Calls_1 rest_1 Pre_1 launch0 p0 e0 about1 theMethod args0 below0 :=
  ⟨lists_1, trivial, launch0.admits_env _ _ _, launch0.least_env, fairChoices_fair.cas, fairChoices_fair.clock, w_frames, w_args, w_heap, w_applies, trivial, trivial, w_case⟩
end start1
theorem witness_1 : WitnessClaimed_1 := ⟨start1.p0, start1.e0, start1.about1, start1.theMethod, start1.args0, start1.below0, start1.atStart⟩
end Jvm.Pilot.@@N@@
