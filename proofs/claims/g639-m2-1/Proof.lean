import JvmDerived
import JvmDerived.Pilot.@@N@@Statement
import JvmDerived.Pilot.@@N@@Code
set_option linter.unusedVariables false
set_option linter.unusedSimpArgs false
namespace Jvm.RoadKit
open Sem ClassFile Op Lib Jvm.Stand Jvm.Free Jvm.LawKit
section New
variable {p : Program} {l : Launch} {e : Env} {R : Room} {s : State} {m : MethodId} {args : Array Value} {below : List Frame} {meth : Method} {c : Code} {T : State} {locs : List Loc} {cells slots : Nat}
theorem retI (X : Stand p l e R s m args below meth c T locs cells slots) (hx : p.tables.exec = Jvm.exec) {pc : Nat} {Ls : Array Slot} {z : Int32} {rest : List Value} (hret : meth.sig.returnType = some .int) (hd : decode c.code pc = .ok (.ireturn, 1)) {fs : List Frame}
    (hl : ∀ (f : JFrame) (acts : List Action), f.method = m → f.locked = none → f.entered = [] → (doReturn e (T.setTop f) acts (some (.int z))).1 = T.setFrames fs) : Steps p.tables e below (T.setTop (mkF m pc Ls (.int z :: rest))) (T.setFrames fs) := by
  have hm' : T.vm.method? m = some meth := X.method'
  have hn : narrow .int (.int z) = .int z := rfl
  show Steps p.tables e below (T.setTop { method := m, pc := pc, locals := Ls, stack := _ :: rest, locked := none }) _
  jvm_step X.here [X.here.top, hx, hd, hm', hret, hn]
  first | (intro acts; rw [hl _ acts rfl rfl rfl]) | rw [hl _ _ rfl rfl rfl]
  exact Steps.refl _
end New
/-! own: a long's comparison, an array by a function -/
theorem own_tltL {x y : Int64} (h : x < y) : ifCond.holds .lt (lcmpW x y) = true ∧ ifCond.holds .ge (lcmpW x y) = false ∧ ifCond.holds .gt (lcmpW y x) = true ∧ ifCond.holds .le (lcmpW y x) = false := by
  have h1 := (lc_lt x y).mpr h
  have h2 := (lc_gt y x).mpr h
  rw [← lcW] at h1 h2
  simp only [if0]
  exact ⟨(tlt h1).1, (tlt h1).2.1, (tlt h2).2.2.1, (tlt h2).2.2.2⟩
theorem own_fltL {x y : Int64} (h : ¬ x < y) : ifCond.holds .lt (lcmpW x y) = false ∧ ifCond.holds .ge (lcmpW x y) = true ∧ ifCond.holds .gt (lcmpW y x) = false ∧ ifCond.holds .le (lcmpW y x) = true := by
  have h1 := mt (lc_lt x y).mp h
  have h2 := mt (lc_gt y x).mp h
  rw [← lcW] at h1 h2
  simp only [if0]
  exact ⟨(flt h1).1, (flt h1).2.1, (flt h2).2.2.1, (flt h2).2.2.2⟩
theorem own_teqL {x y : Int64} (h : x = y) : ifCond.holds .eq (lcmpW x y) = true ∧ ifCond.holds .ne (lcmpW x y) = false := by
  have h1 := (lc_eq x y).mpr h
  rw [← lcW] at h1
  simp only [if0]
  exact teq h1
theorem own_feqL {x y : Int64} (h : ¬ x = y) : ifCond.holds .eq (lcmpW x y) = false ∧ ifCond.holds .ne (lcmpW x y) = true := by
  have h1 := mt (lc_eq x y).mp h
  rw [← lcW] at h1
  simp only [if0]
  exact feq h1
theorem own_iadd {x y : Int32} {X Y : Int} (hx : x.toInt = X) (hy : y.toInt = Y) (h1 : -2147483648 ≤ X + Y) (h2 : X + Y < 2147483648) : (x + y).toInt = X + Y := by
  have := c_iadd x y; have := rng32 (x + y); omega
theorem own_isub {x y : Int32} {X Y : Int} (hx : x.toInt = X) (hy : y.toInt = Y) (h1 : -2147483648 ≤ X - Y) (h2 : X - Y < 2147483648) : (x - y).toInt = X - Y := by
  have := c_isub x y; have := rng32 (x - y); omega
theorem own_imul {x y : Int32} {X Y : Int} (hx : x.toInt = X) (hy : y.toInt = Y) (h1 : -2147483648 ≤ X * Y) (h2 : X * Y < 2147483648) : (x * y).toInt = X * Y := by
  have := c_imul x y; have := rng32 (x * y); subst hx hy; omega
theorem own_ladd {x y : Int64} {X Y : Int} (hx : x.toInt = X) (hy : y.toInt = Y) (h1 : -9223372036854775808 ≤ X + Y) (h2 : X + Y < 9223372036854775808) : (x + y).toInt = X + Y := by
  have := c_ladd x y; have := rng64 (x + y); omega
theorem own_lsub {x y : Int64} {X Y : Int} (hx : x.toInt = X) (hy : y.toInt = Y) (h1 : -9223372036854775808 ≤ X - Y) (h2 : X - Y < 9223372036854775808) : (x - y).toInt = X - Y := by
  have := c_lsub x y; have := rng64 (x - y); omega
theorem own_lmul {x y : Int64} {X Y : Int} (hx : x.toInt = X) (hy : y.toInt = Y) (h1 : -9223372036854775808 ≤ X * Y) (h2 : X * Y < 9223372036854775808) : (x * y).toInt = X * Y := by
  have := c_lmul x y; have := rng64 (x * y); subst hx hy; omega
theorem own_maskL (x m : Int64) (k : Nat) (M : Int) (hM : m.toInt = M) (hk : k ≤ 63) (hm : m.toBitVec.toNat = 2 ^ k - 1) : 0 ≤ (x &&& m).toInt ∧ (x &&& m).toInt ≤ M := by
  have h := c_maskL x m k hk hm
  have h2 := c_maskL m m k hk hm
  have e : m &&& m = m := by simp
  rw [e] at h2
  have p : (0 : Int) < ((2 ^ k : Nat) : Int) := by have := Nat.two_pow_pos k; omega
  have a1 := Int.emod_nonneg x.toInt (show ((2 ^ k : Nat) : Int) ≠ 0 by omega)
  have a2 := Int.emod_lt_of_pos x.toInt p
  have hmi : m.toInt = ((2 ^ k - 1 : Nat) : Int) := by
    have h3 : m.toInt = (m.toBitVec.toNat : Int) := by
      show m.toBitVec.toInt = _
      rw [BitVec.toInt_eq_toNat_cond, hm]
      have : 2 ^ k ≤ 2 ^ 63 := Nat.pow_le_pow_right (by decide) hk
      split <;> omega
    rw [h3, hm]
  omega
theorem own_nb (x : Int32) : nar .byte (x.toInt8.toInt32) = x.toInt8.toInt32 := by
  show (x.toInt8.toInt32).toInt8.toInt32 = _
  simp
theorem own_sel {args : Array Value} {s : State} {y z : MethodName} (hi : (Cond.instanceMethod y).before args s = true) (hp : (Cond.privateMethod y).before args s = true) (h2 : (Cond.selects y.cls z z).before args s = true) (hc : z.cls = y.cls)
    (hy : y.cls ≠ "java/lang/invoke/MethodHandle" ∧ y.cls ≠ "java/lang/invoke/VarHandle") : (Cond.selects y.cls y y).before args s = true := by
  obtain ⟨mk, meth, hn, hm, -, -⟩ := Cond.instanceMethod_spec hi
  obtain ⟨c, r, m2, -, -, f3, -, k, f4, f5⟩ := Cond.selects_spec h2
  have e1 := findClass_of_methodNamed hn
  have e2 := findClass_of_methodNamed f3
  rw [hc, e1] at e2
  have e3 : m2.cls = mk.cls := (Option.some.inj e2).symm
  have e4 := State.methodFound?_of_named hn hy
  have e5 := selectMethod_private (p := {}) (c := mk.cls) hm (Cond.privateMethod_at hp mk meth hn hm)
  rw [e3] at f4
  simp [Cond.before, Cond.holds, Cond.value, e1, e4, hn, e5, f4, f5]
def AF (Z : State) (h : Heap) (a : Addr) (ty : FieldType) (n : Nat) (g : Nat → Value) : Prop := ∃ c : Cell, Arr Z h a c ty ∧ c.slots.size = n ∧ ∀ j, j < n → c.slots[j]? = some (g j)
abbrev AI (Z : State) (h : Heap) (a : Addr) (ty : FieldType) (n : Nat) (f : Nat → Int32) : Prop := AF Z h a ty n (fun j => .int (f j))
abbrev AJ (Z : State) (h : Heap) (a : Addr) (ty : FieldType) (n : Nat) (f : Nat → Int64) : Prop := AF Z h a ty n (fun j => .long (f j))
abbrev AD (Z : State) (h : Heap) (a : Addr) (ty : FieldType) (n : Nat) (f : Nat → UInt64) : Prop := AF Z h a ty n (fun j => .double (f j))
def up {α : Type} (f : Nat → α) (i : Nat) (v : α) : Nat → α := fun j => if j = i then v else f j
def zI : Nat → Int32 := fun _ => 0
def zJ : Nat → Int64 := fun _ => 0
section Arrs
variable {Z : State} {h h' : Heap} {a b : Addr} {ty : FieldType} {n : Nat} {g g' : Nat → Value}
theorem AF.lt (F : AF Z h a ty n g) : a < h.size := by obtain ⟨c, A, -⟩ := F; exact A.lt
theorem AF.ext (F : AF Z h a ty n g) (E : Ext h h') : AF Z h' a ty n g := by obtain ⟨c, A, r⟩ := F; exact ⟨c, A.ext E, r⟩
theorem AF.other {sl : Nat} {v : Value} (F : AF Z h b ty n g) (W : Wr h h' a sl v) (q : b ≠ a) : AF Z h' b ty n g := by obtain ⟨c, A, r⟩ := F; exact ⟨c, A.other W q, r⟩
theorem AF.keep {ws : List Addr} (F : AF Z h a ty n g) (K : Keep h h' ws) (q : a ∉ ws) : AF Z h' a ty n g := by obtain ⟨c, A, r⟩ := F; exact ⟨c, ⟨K.2.1 a c A.1 q, A.2⟩, r⟩
theorem AF.re (F : AF Z h a ty n g) (q : ∀ j, j < n → g j = g' j) : AF Z h a ty n g' := by obtain ⟨c, A, S, H⟩ := F; exact ⟨c, A, S, fun j hj => by rw [H j hj, q j hj]⟩
theorem AF.at (F : AF Z h a ty n g) {j : Int32} (i : Nat) (hj : j.toInt = i) (hi : i < n) : ∃ c : Cell, Arr Z h a c ty ∧ ¬ (j < 0 ∨ c.slots.size ≤ j.toNatClampNeg) ∧ c.slots[j.toNatClampNeg]? = some (g i) := by
  obtain ⟨c, A, S, H⟩ := F
  have e : j.toNatClampNeg = i := by simp only [Int32.toNatClampNeg, hj]; omega
  refine ⟨c, A, ?_, by rw [e]; exact H i hi⟩
  rw [e, S, Int32.lt_iff_toInt_lt, hj]
  have : (0 : Int32).toInt = 0 := rfl
  omega
theorem AF.len (F : AF Z h a ty n g) : ∃ c : Cell, Arr Z h a c ty ∧ c.slots.size = n := by obtain ⟨c, A, S, -⟩ := F; exact ⟨c, A, S⟩
theorem AF.set {k : Nat} {v : Value} (F : AF Z h a ty n g) (W : Wr h h' a k v) : AF Z h' a ty n (fun j => if j = k then v else g j) := by
  obtain ⟨c, A, S, H⟩ := F
  refine ⟨_, A.same W, by rw [sz_set]; exact S, fun j hj => ?_⟩
  by_cases q : j = k
  · subst q; simp [Cell.setSlot, S, hj]
  · show _ = some (if j = k then v else g j)
    rw [if_neg q]; have := H j hj; simp only [Cell.setSlot] at this ⊢; rw [Array.getElem?_setIfInBounds_ne (Ne.symm q)]; exact this
theorem own_tn {j : Int32} {i : Nat} (hj : j.toInt = i) : j.toNatClampNeg = i := by simp only [Int32.toNatClampNeg, hj]; omega
theorem AF.setI {f : Nat → Int32} {j : Int32} {v : Int32} (F : AI Z h a ty n f) (W : Wr h h' a j.toNatClampNeg (.int v)) (i : Nat) (hj : j.toInt = i) : AI Z h' a ty n (up f i v) := by
  rw [own_tn hj] at W
  exact (AF.set F W).re fun k _ => by by_cases q : k = i <;> simp [up, q]
theorem AF.setJ {f : Nat → Int64} {j : Int32} {v : Int64} (F : AJ Z h a ty n f) (W : Wr h h' a j.toNatClampNeg (.long v)) (i : Nat) (hj : j.toInt = i) : AJ Z h' a ty n (up f i v) := by
  rw [own_tn hj] at W
  exact (AF.set F W).re fun k _ => by by_cases q : k = i <;> simp [up, q]
theorem AF.setD {f : Nat → UInt64} {j : Int32} {v : UInt64} (F : AD Z h a ty n f) (W : Wr h h' a j.toNatClampNeg (.double v)) (i : Nat) (hj : j.toInt = i) : AD Z h' a ty n (up f i v) := by
  rw [own_tn hj] at W
  exact (AF.set F W).re fun k _ => by by_cases q : k = i <;> simp [up, q]
theorem AF.new {k : ClassId} {z : Int32} (A : Arr Z h a (newA k ty z) ty) (hz : z.toInt = n) : AF Z h a ty n (fun _ => defaultValue ty) :=
  ⟨_, A, by rw [sz_new]; exact own_tn hz, fun j hj => by simp [newA, own_tn hz, hj]⟩
end Arrs
end Jvm.RoadKit
namespace Jvm.Pilot.@@N@@
open Jvm Jvm.ClassFile Sem Op Lib Jvm.Free Jvm.Stand Jvm.LawKit Jvm.RoadKit Bundle Jvm.Pilot.@@N@@.Jvm.D
theorem ef_1 (m : MethodId) (xa : Int64) (xb : Int64) : entryFrame m #[(.long xa), (.long xb)] 4 = mkF m 0 #[.val (.long xa), .second, .val (.long xb), .second] [] := by first | (simp [entryFrame, mkF, argsToLocals, Value.category]; done) | rfl
theorem d1_0 : decode jdk_29_method_70_code 0 = .ok (.lload_n 0, 1) := by decide +kernel
theorem d1_1 : decode jdk_29_method_70_code 1 = .ok (.lload_n 2, 1) := by decide +kernel
theorem d1_2 : decode jdk_29_method_70_code 2 = .ok (.lcmp, 1) := by decide +kernel
theorem d1_3 : decode jdk_29_method_70_code 3 = .ok (.ifCond .gt 7, 3) := by decide +kernel
theorem d1_10 : decode jdk_29_method_70_code 10 = .ok (.lload_n 2, 1) := by decide +kernel
theorem d1_11 : decode jdk_29_method_70_code 11 = .ok (.lreturn, 1) := by decide +kernel
theorem d1_6 : decode jdk_29_method_70_code 6 = .ok (.lload_n 0, 1) := by decide +kernel
theorem d1_7 : decode jdk_29_method_70_code 7 = .ok (.goto 4, 3) := by decide +kernel
def r1_v (xa : Int64) (xb : Int64) : Int64 := (if xb < xa then xb else xa)
def Q1 (Z : State) (xa : Int64) (xb : Int64) (h0 : Heap) (n0 : Nat) (v : Option Value) (h : Heap) (L : List Loc) : Prop := v = some (.long (r1_v xa xb)) ∧ Fr n0 L ∧ h = h0
set_option maxRecDepth 65536 in
set_option maxHeartbeats 40000000 in
theorem rm1 (l : Launch) (Z : State) (a0 : Array Value) (hw : ∀ d ∈ tables_1, d.before a0 Z = true) (ws : List Jvm.Cond) (xa : Int64) (xb : Int64) (h0 : Heap) (n0 : Nat) (Z0 : n0 ≤ h0.size) :
    MetFree l (⟨"java/lang/Math", "min", "(JJ)J"⟩ : MethodName) (head1 (Jvm.Cond.code (⟨"java/lang/Math", "min", "(JJ)J"⟩ : MethodName) jdk_29_method_70_code 4 (some .long) :: ws) ({ frames := 0, cells := 0, slots := 0, locals := 0 } : Room)) (fun a U => a = #[(.long xa), (.long xb)] ∧ Z.Warmed39 U.vm ∧ U.heap = h0) (fun _ _ _ _ _ => True) (fun _ U o U' => ∃ v L, o = .returned v ∧ Q1 Z xa xb h0 n0 v U'.heap L ∧ FrameEnd U o U' L ({ frames := 0, cells := 0, slots := 0, locals := 0 } : Room).cells ({ frames := 0, cells := 0, slots := 0, locals := 0 } : Room).slots) := by
  refine MetFree.of_bodySF (Jvm.Free.JP.mathPlain rfl (by decide +kernel)) hisR ?_
  intro p e s m args below meth c s₁ Bd hml0 hP hK
  obtain ⟨rfl, hZ, hh⟩ := hP
  have hx := Bd.exec
  have hby := Bd.bytes
  have hml : c.maxLocals = 4 := hml0
  have hown : s.vm.findClass "java/lang/Math" = some m.cls := findClass_of_methodNamed Bd.named
  have hnm := (name_of_methodNamed Bd.named Bd.method).1
  have X0 : Stand p l e ({ frames := 0, cells := 0, slots := 0, locals := 0 } : Room) s m #[(.long xa), (.long xb)] below meth c s₁ [] 0 0 := Stand.of_body Bd
  have e0 : s₁.heap = h0 := by rw [← hh, Bd.state]; rfl
  have N0 := Fr.nil n0
  have K0 : Keep h0 h0 [] := Keep.refl h0 _
  have pre0 : ∀ t, Steps p.tables e below (s₁.setTop (mkF m 0 #[.val (.long xa), .second, .val (.long xb), .second] [])) t → Steps p.tables e below (s₁.setTop (entryFrame m #[(.long xa), (.long xb)] 4)) t := fun t k => castTop (ef_1 m xa xb) k
  have pre1 : ∀ t, Steps p.tables e below (s₁.setTop (mkF m 3 #[.val (.long xa), .second, .val (.long xb), .second] [(.int (lcmpW xa xb))])) t → Steps p.tables e below (s₁.setTop (entryFrame m #[(.long xa), (.long xb)] 4)) t := by
    intro t k
    refine pre0 _ ?_
    show Steps p.tables e below (s₁.setTop (mkF m 0 #[.val (.long xa), .second, .val (.long xb), .second] [])) _
    refine XS.lloadN X0.here hx rfl (hb hby d1_0) rfl ?_
    show Steps p.tables e below (s₁.setTop (mkF m 1 #[.val (.long xa), .second, .val (.long xb), .second] [(.long xa)])) _
    refine XS.lloadN X0.here hx rfl (hb hby d1_1) rfl ?_
    show Steps p.tables e below (s₁.setTop (mkF m 2 #[.val (.long xa), .second, .val (.long xb), .second] [(.long xb), (.long xa)])) _
    refine XS.lcmp X0.here hx rfl (hb hby d1_2) rfl ?_
    exact k
  by_cases hk2 : xb < xa
  · obtain ⟨fs, hr, hrun, hended, hW, hsame⟩ := X0.leave (v := some (.long xb)) (fun h => by rw [Bd.returns] at h; cases h)
    refine ⟨_, _, pre1 _ ?_, hrun, hended, _, _, rfl, ?_, ⟨_, rfl⟩, hW, hsame.mono (by decide) (by decide)⟩
    · show Steps p.tables e below (s₁.setTop (mkF m 3 #[.val (.long xa), .second, .val (.long xb), .second] [(.int (lcmpW xa xb))])) _
      refine XS.ifYes X0.here hx rfl (pc0 := 3) (pc' := 10) rfl (hb hby d1_3) rfl (own_tltL hk2).2.2.1 (by decide) (by decide) ?_
      show Steps p.tables e below (s₁.setTop (mkF m 10 #[.val (.long xa), .second, .val (.long xb), .second] [])) _
      refine XS.lloadN X0.here hx rfl (hb hby d1_10) rfl ?_
      show Steps p.tables e below (s₁.setTop (mkF m 11 #[.val (.long xa), .second, .val (.long xb), .second] [(.long xb)])) _
      exact retOut X0 hx Bd.returns rfl (Or.inr (Or.inl ⟨rfl, rfl, _, rfl⟩)) (hb hby d1_11) hr
    · show Q1 Z xa xb h0 n0 _ s₁.heap _
      rw [e0]
      have ev3 : (r1_v xa xb) = xb := by unfold r1_v; rw [if_pos hk2]
      exact ⟨(congrArg (fun z => some (Value.long z)) ev3.symm), N0, rfl⟩
  · obtain ⟨fs, hr, hrun, hended, hW, hsame⟩ := X0.leave (v := some (.long xa)) (fun h => by rw [Bd.returns] at h; cases h)
    refine ⟨_, _, pre1 _ ?_, hrun, hended, _, _, rfl, ?_, ⟨_, rfl⟩, hW, hsame.mono (by decide) (by decide)⟩
    · show Steps p.tables e below (s₁.setTop (mkF m 3 #[.val (.long xa), .second, .val (.long xb), .second] [(.int (lcmpW xa xb))])) _
      refine XS.ifNo X0.here hx rfl (hb hby d1_3) rfl (own_fltL hk2).2.2.1 ?_
      show Steps p.tables e below (s₁.setTop (mkF m 6 #[.val (.long xa), .second, .val (.long xb), .second] [])) _
      refine XS.lloadN X0.here hx rfl (hb hby d1_6) rfl ?_
      show Steps p.tables e below (s₁.setTop (mkF m 7 #[.val (.long xa), .second, .val (.long xb), .second] [(.long xa)])) _
      refine XS.goto X0.here hx rfl (pc0 := 7) (pc' := 11) rfl (hb hby d1_7) (by decide) (by decide) ?_
      show Steps p.tables e below (s₁.setTop (mkF m 11 #[.val (.long xa), .second, .val (.long xb), .second] [(.long xa)])) _
      exact retOut X0 hx Bd.returns rfl (Or.inr (Or.inl ⟨rfl, rfl, _, rfl⟩)) (hb hby d1_11) hr
    · show Q1 Z xa xb h0 n0 _ s₁.heap _
      rw [e0]
      have ev4 : (r1_v xa xb) = xa := by unfold r1_v; rw [if_neg hk2]
      exact ⟨(congrArg (fun z => some (Value.long z)) ev4.symm), N0, rfl⟩
theorem ef_2 (m : MethodId) (xa : Int64) (xb : Int64) : entryFrame m #[(.long xa), (.long xb)] 4 = mkF m 0 #[.val (.long xa), .second, .val (.long xb), .second] [] := by first | (simp [entryFrame, mkF, argsToLocals, Value.category]; done) | rfl
theorem d2_0 : decode jdk_29_method_66_code 0 = .ok (.lload_n 0, 1) := by decide +kernel
theorem d2_1 : decode jdk_29_method_66_code 1 = .ok (.lload_n 2, 1) := by decide +kernel
theorem d2_2 : decode jdk_29_method_66_code 2 = .ok (.lcmp, 1) := by decide +kernel
theorem d2_3 : decode jdk_29_method_66_code 3 = .ok (.ifCond .lt 7, 3) := by decide +kernel
theorem d2_10 : decode jdk_29_method_66_code 10 = .ok (.lload_n 2, 1) := by decide +kernel
theorem d2_11 : decode jdk_29_method_66_code 11 = .ok (.lreturn, 1) := by decide +kernel
theorem d2_6 : decode jdk_29_method_66_code 6 = .ok (.lload_n 0, 1) := by decide +kernel
theorem d2_7 : decode jdk_29_method_66_code 7 = .ok (.goto 4, 3) := by decide +kernel
def r2_v (xa : Int64) (xb : Int64) : Int64 := (if xa < xb then xb else xa)
def Q2 (Z : State) (xa : Int64) (xb : Int64) (h0 : Heap) (n0 : Nat) (v : Option Value) (h : Heap) (L : List Loc) : Prop := v = some (.long (r2_v xa xb)) ∧ Fr n0 L ∧ h = h0
set_option maxRecDepth 65536 in
set_option maxHeartbeats 40000000 in
theorem rm2 (l : Launch) (Z : State) (a0 : Array Value) (hw : ∀ d ∈ tables_1, d.before a0 Z = true) (ws : List Jvm.Cond) (xa : Int64) (xb : Int64) (h0 : Heap) (n0 : Nat) (Z0 : n0 ≤ h0.size) :
    MetFree l (⟨"java/lang/Math", "max", "(JJ)J"⟩ : MethodName) (head1 (Jvm.Cond.code (⟨"java/lang/Math", "max", "(JJ)J"⟩ : MethodName) jdk_29_method_66_code 4 (some .long) :: ws) ({ frames := 0, cells := 0, slots := 0, locals := 0 } : Room)) (fun a U => a = #[(.long xa), (.long xb)] ∧ Z.Warmed39 U.vm ∧ U.heap = h0) (fun _ _ _ _ _ => True) (fun _ U o U' => ∃ v L, o = .returned v ∧ Q2 Z xa xb h0 n0 v U'.heap L ∧ FrameEnd U o U' L ({ frames := 0, cells := 0, slots := 0, locals := 0 } : Room).cells ({ frames := 0, cells := 0, slots := 0, locals := 0 } : Room).slots) := by
  refine MetFree.of_bodySF (Jvm.Free.JP.mathPlain rfl (by decide +kernel)) hisR ?_
  intro p e s m args below meth c s₁ Bd hml0 hP hK
  obtain ⟨rfl, hZ, hh⟩ := hP
  have hx := Bd.exec
  have hby := Bd.bytes
  have hml : c.maxLocals = 4 := hml0
  have hown : s.vm.findClass "java/lang/Math" = some m.cls := findClass_of_methodNamed Bd.named
  have hnm := (name_of_methodNamed Bd.named Bd.method).1
  have X0 : Stand p l e ({ frames := 0, cells := 0, slots := 0, locals := 0 } : Room) s m #[(.long xa), (.long xb)] below meth c s₁ [] 0 0 := Stand.of_body Bd
  have e0 : s₁.heap = h0 := by rw [← hh, Bd.state]; rfl
  have N0 := Fr.nil n0
  have K0 : Keep h0 h0 [] := Keep.refl h0 _
  have pre0 : ∀ t, Steps p.tables e below (s₁.setTop (mkF m 0 #[.val (.long xa), .second, .val (.long xb), .second] [])) t → Steps p.tables e below (s₁.setTop (entryFrame m #[(.long xa), (.long xb)] 4)) t := fun t k => castTop (ef_2 m xa xb) k
  have pre1 : ∀ t, Steps p.tables e below (s₁.setTop (mkF m 3 #[.val (.long xa), .second, .val (.long xb), .second] [(.int (lcmpW xa xb))])) t → Steps p.tables e below (s₁.setTop (entryFrame m #[(.long xa), (.long xb)] 4)) t := by
    intro t k
    refine pre0 _ ?_
    show Steps p.tables e below (s₁.setTop (mkF m 0 #[.val (.long xa), .second, .val (.long xb), .second] [])) _
    refine XS.lloadN X0.here hx rfl (hb hby d2_0) rfl ?_
    show Steps p.tables e below (s₁.setTop (mkF m 1 #[.val (.long xa), .second, .val (.long xb), .second] [(.long xa)])) _
    refine XS.lloadN X0.here hx rfl (hb hby d2_1) rfl ?_
    show Steps p.tables e below (s₁.setTop (mkF m 2 #[.val (.long xa), .second, .val (.long xb), .second] [(.long xb), (.long xa)])) _
    refine XS.lcmp X0.here hx rfl (hb hby d2_2) rfl ?_
    exact k
  by_cases hk2 : xa < xb
  · obtain ⟨fs, hr, hrun, hended, hW, hsame⟩ := X0.leave (v := some (.long xb)) (fun h => by rw [Bd.returns] at h; cases h)
    refine ⟨_, _, pre1 _ ?_, hrun, hended, _, _, rfl, ?_, ⟨_, rfl⟩, hW, hsame.mono (by decide) (by decide)⟩
    · show Steps p.tables e below (s₁.setTop (mkF m 3 #[.val (.long xa), .second, .val (.long xb), .second] [(.int (lcmpW xa xb))])) _
      refine XS.ifYes X0.here hx rfl (pc0 := 3) (pc' := 10) rfl (hb hby d2_3) rfl (own_tltL hk2).1 (by decide) (by decide) ?_
      show Steps p.tables e below (s₁.setTop (mkF m 10 #[.val (.long xa), .second, .val (.long xb), .second] [])) _
      refine XS.lloadN X0.here hx rfl (hb hby d2_10) rfl ?_
      show Steps p.tables e below (s₁.setTop (mkF m 11 #[.val (.long xa), .second, .val (.long xb), .second] [(.long xb)])) _
      exact retOut X0 hx Bd.returns rfl (Or.inr (Or.inl ⟨rfl, rfl, _, rfl⟩)) (hb hby d2_11) hr
    · show Q2 Z xa xb h0 n0 _ s₁.heap _
      rw [e0]
      have ev3 : (r2_v xa xb) = xb := by unfold r2_v; rw [if_pos hk2]
      exact ⟨(congrArg (fun z => some (Value.long z)) ev3.symm), N0, rfl⟩
  · obtain ⟨fs, hr, hrun, hended, hW, hsame⟩ := X0.leave (v := some (.long xa)) (fun h => by rw [Bd.returns] at h; cases h)
    refine ⟨_, _, pre1 _ ?_, hrun, hended, _, _, rfl, ?_, ⟨_, rfl⟩, hW, hsame.mono (by decide) (by decide)⟩
    · show Steps p.tables e below (s₁.setTop (mkF m 3 #[.val (.long xa), .second, .val (.long xb), .second] [(.int (lcmpW xa xb))])) _
      refine XS.ifNo X0.here hx rfl (hb hby d2_3) rfl (own_fltL hk2).1 ?_
      show Steps p.tables e below (s₁.setTop (mkF m 6 #[.val (.long xa), .second, .val (.long xb), .second] [])) _
      refine XS.lloadN X0.here hx rfl (hb hby d2_6) rfl ?_
      show Steps p.tables e below (s₁.setTop (mkF m 7 #[.val (.long xa), .second, .val (.long xb), .second] [(.long xa)])) _
      refine XS.goto X0.here hx rfl (pc0 := 7) (pc' := 11) rfl (hb hby d2_7) (by decide) (by decide) ?_
      show Steps p.tables e below (s₁.setTop (mkF m 11 #[.val (.long xa), .second, .val (.long xb), .second] [(.long xa)])) _
      exact retOut X0 hx Bd.returns rfl (Or.inr (Or.inl ⟨rfl, rfl, _, rfl⟩)) (hb hby d2_11) hr
    · show Q2 Z xa xb h0 n0 _ s₁.heap _
      rw [e0]
      have ev4 : (r2_v xa xb) = xa := by unfold r2_v; rw [if_neg hk2]
      exact ⟨(congrArg (fun z => some (Value.long z)) ev4.symm), N0, rfl⟩
theorem ef_3 (m : MethodId) (mo : Int32) (lo : Int64) (hi : Int64) (pp : Int64) : entryFrame m #[(.int mo), (.long lo), (.long hi), (.long pp)] 7 = mkF m 0 #[.val (.int mo), .val (.long lo), .second, .val (.long hi), .second, .val (.long pp), .second] [] := by first | (simp [entryFrame, mkF, argsToLocals, Value.category]; done) | rfl
theorem d3_0 : decode method_3_code 0 = .ok (.iload_n 0, 1) := by decide +kernel
theorem d3_1 : decode method_3_code 1 = .ok (.ifCond .ne 6, 3) := by decide +kernel
theorem d3_4 : decode method_3_code 4 = .ok (.lload 5, 2) := by decide +kernel
theorem d3_6 : decode method_3_code 6 = .ok (.lreturn, 1) := by decide +kernel
theorem d3_7 : decode method_3_code 7 = .ok (.iload_n 0, 1) := by decide +kernel
theorem d3_8 : decode method_3_code 8 = .ok (.iconst 1, 1) := by decide +kernel
theorem d3_9 : decode method_3_code 9 = .ok (.if_icmp .ne 5, 3) := by decide +kernel
theorem d3_12 : decode method_3_code 12 = .ok (.lload_n 1, 1) := by decide +kernel
theorem d3_13 : decode method_3_code 13 = .ok (.lreturn, 1) := by decide +kernel
theorem d3_14 : decode method_3_code 14 = .ok (.iload_n 0, 1) := by decide +kernel
theorem d3_15 : decode method_3_code 15 = .ok (.iconst 2, 1) := by decide +kernel
theorem d3_16 : decode method_3_code 16 = .ok (.if_icmp .ne 5, 3) := by decide +kernel
theorem d3_19 : decode method_3_code 19 = .ok (.lload_n 3, 1) := by decide +kernel
theorem d3_20 : decode method_3_code 20 = .ok (.lreturn, 1) := by decide +kernel
theorem d3_21 : decode method_3_code 21 = .ok (.iload_n 0, 1) := by decide +kernel
theorem d3_22 : decode method_3_code 22 = .ok (.iconst 3, 1) := by decide +kernel
theorem d3_23 : decode method_3_code 23 = .ok (.if_icmp .ne 7, 3) := by decide +kernel
theorem d3_26 : decode method_3_code 26 = .ok (.lload_n 1, 1) := by decide +kernel
theorem d3_27 : decode method_3_code 27 = .ok (.lconst 1, 1) := by decide +kernel
theorem d3_28 : decode method_3_code 28 = .ok (.ladd, 1) := by decide +kernel
theorem d3_29 : decode method_3_code 29 = .ok (.lreturn, 1) := by decide +kernel
theorem d3_30 : decode method_3_code 30 = .ok (.iload_n 0, 1) := by decide +kernel
theorem d3_31 : decode method_3_code 31 = .ok (.iconst 4, 1) := by decide +kernel
theorem d3_32 : decode method_3_code 32 = .ok (.if_icmp .ne 7, 3) := by decide +kernel
theorem d3_35 : decode method_3_code 35 = .ok (.lload_n 3, 1) := by decide +kernel
theorem d3_36 : decode method_3_code 36 = .ok (.lconst 1, 1) := by decide +kernel
theorem d3_37 : decode method_3_code 37 = .ok (.lsub, 1) := by decide +kernel
theorem d3_38 : decode method_3_code 38 = .ok (.lreturn, 1) := by decide +kernel
theorem d3_39 : decode method_3_code 39 = .ok (.iload_n 0, 1) := by decide +kernel
theorem d3_40 : decode method_3_code 40 = .ok (.iconst 5, 1) := by decide +kernel
theorem d3_41 : decode method_3_code 41 = .ok (.if_icmp .ne 7, 3) := by decide +kernel
theorem d3_44 : decode method_3_code 44 = .ok (.lload_n 1, 1) := by decide +kernel
theorem d3_45 : decode method_3_code 45 = .ok (.lconst 1, 1) := by decide +kernel
theorem d3_46 : decode method_3_code 46 = .ok (.lsub, 1) := by decide +kernel
theorem d3_47 : decode method_3_code 47 = .ok (.lreturn, 1) := by decide +kernel
theorem d3_48 : decode method_3_code 48 = .ok (.iload_n 0, 1) := by decide +kernel
theorem d3_49 : decode method_3_code 49 = .ok (.bipush 6, 2) := by decide +kernel
theorem d3_51 : decode method_3_code 51 = .ok (.if_icmp .ne 7, 3) := by decide +kernel
theorem d3_54 : decode method_3_code 54 = .ok (.lload_n 3, 1) := by decide +kernel
theorem d3_55 : decode method_3_code 55 = .ok (.lconst 1, 1) := by decide +kernel
theorem d3_56 : decode method_3_code 56 = .ok (.ladd, 1) := by decide +kernel
theorem d3_57 : decode method_3_code 57 = .ok (.lreturn, 1) := by decide +kernel
theorem d3_58 : decode method_3_code 58 = .ok (.lload 5, 2) := by decide +kernel
theorem d3_60 : decode method_3_code 60 = .ok (.ldc2_w 7, 3) := by decide +kernel
theorem d3_63 : decode method_3_code 63 = .ok (.land, 1) := by decide +kernel
theorem d3_64 : decode method_3_code 64 = .ok (.lreturn, 1) := by decide +kernel
def r3_v (mo : Int32) (lo : Int64) (hi : Int64) (pp : Int64) : Int64 := (if mo = (0 : Int32) then pp else (if mo = (1 : Int32) then lo else (if mo = (2 : Int32) then hi else (if mo = (3 : Int32) then (lo + (1 : Int64)) else (if mo = (4 : Int32) then (hi - (1 : Int64)) else (if mo = (5 : Int32) then (lo - (1 : Int64)) else (if mo = (6 : Int32) then (hi + (1 : Int64)) else (pp &&& (4294967295 : Int64)))))))))
theorem pn_com_example_bundles_to_brokers_bundlestobrokers_model_BundleRangeCanCutAtPinLaw : plainName "com/example/bundles_to_brokers/bundlestobrokers/model/BundleRangeCanCutAtPinLaw" = true := by first | (simp [plainName, overriddenIn]; done) | decide +kernel
def Q3 (Z : State) (mo : Int32) (lo : Int64) (hi : Int64) (pp : Int64) (h0 : Heap) (n0 : Nat) (v : Option Value) (h : Heap) (L : List Loc) : Prop := v = some (.long (r3_v mo lo hi pp)) ∧ Fr n0 L ∧ h = h0
set_option maxRecDepth 65536 in
set_option maxHeartbeats 40000000 in
theorem rm3 (l : Launch) (Z : State) (a0 : Array Value) (hw : ∀ d ∈ tables_1, d.before a0 Z = true) (ws : List Jvm.Cond) (mo : Int32) (lo : Int64) (hi : Int64) (pp : Int64) (h0 : Heap) (n0 : Nat) (Z0 : n0 ≤ h0.size) :
    MetFree l (⟨"com/example/bundles_to_brokers/bundlestobrokers/model/BundleRangeCanCutAtPinLaw", "pick", "(IJJJ)J"⟩ : MethodName) (head1 (Jvm.Cond.code (⟨"com/example/bundles_to_brokers/bundlestobrokers/model/BundleRangeCanCutAtPinLaw", "pick", "(IJJJ)J"⟩ : MethodName) method_3_code 7 (some .long) :: ws) ({ frames := 0, cells := 0, slots := 0, locals := 0 } : Room)) (fun a U => a = #[(.int mo), (.long lo), (.long hi), (.long pp)] ∧ Z.Warmed39 U.vm ∧ U.heap = h0) (fun _ _ _ _ _ => True) (fun _ U o U' => ∃ v L, o = .returned v ∧ Q3 Z mo lo hi pp h0 n0 v U'.heap L ∧ FrameEnd U o U' L ({ frames := 0, cells := 0, slots := 0, locals := 0 } : Room).cells ({ frames := 0, cells := 0, slots := 0, locals := 0 } : Room).slots) := by
  refine MetFree.of_bodySF (plainFor_of_name pn_com_example_bundles_to_brokers_bundlestobrokers_model_BundleRangeCanCutAtPinLaw) hisR ?_
  intro p e s m args below meth c s₁ Bd hml0 hP hK
  obtain ⟨rfl, hZ, hh⟩ := hP
  have hx := Bd.exec
  have hby := Bd.bytes
  have hml : c.maxLocals = 7 := hml0
  have hown : s.vm.findClass "com/example/bundles_to_brokers/bundlestobrokers/model/BundleRangeCanCutAtPinLaw" = some m.cls := findClass_of_methodNamed Bd.named
  have hnm := (name_of_methodNamed Bd.named Bd.method).1
  have X0 : Stand p l e ({ frames := 0, cells := 0, slots := 0, locals := 0 } : Room) s m #[(.int mo), (.long lo), (.long hi), (.long pp)] below meth c s₁ [] 0 0 := Stand.of_body Bd
  have e0 : s₁.heap = h0 := by rw [← hh, Bd.state]; rfl
  have N0 := Fr.nil n0
  have K0 : Keep h0 h0 [] := Keep.refl h0 _
  have pre0 : ∀ t, Steps p.tables e below (s₁.setTop (mkF m 0 #[.val (.int mo), .val (.long lo), .second, .val (.long hi), .second, .val (.long pp), .second] [])) t → Steps p.tables e below (s₁.setTop (entryFrame m #[(.int mo), (.long lo), (.long hi), (.long pp)] 7)) t := fun t k => castTop (ef_3 m mo lo hi pp) k
  have pre1 : ∀ t, Steps p.tables e below (s₁.setTop (mkF m 1 #[.val (.int mo), .val (.long lo), .second, .val (.long hi), .second, .val (.long pp), .second] [(.int mo)])) t → Steps p.tables e below (s₁.setTop (entryFrame m #[(.int mo), (.long lo), (.long hi), (.long pp)] 7)) t := by
    intro t k
    refine pre0 _ ?_
    show Steps p.tables e below (s₁.setTop (mkF m 0 #[.val (.int mo), .val (.long lo), .second, .val (.long hi), .second, .val (.long pp), .second] [])) _
    refine XS.iloadN X0.here hx rfl (hb hby d3_0) rfl ?_
    exact k
  by_cases hk2 : mo = (0 : Int32)
  · obtain ⟨fs, hr, hrun, hended, hW, hsame⟩ := X0.leave (v := some (.long pp)) (fun h => by rw [Bd.returns] at h; cases h)
    refine ⟨_, _, pre1 _ ?_, hrun, hended, _, _, rfl, ?_, ⟨_, rfl⟩, hW, hsame.mono (by decide) (by decide)⟩
    · show Steps p.tables e below (s₁.setTop (mkF m 1 #[.val (.int mo), .val (.long lo), .second, .val (.long hi), .second, .val (.long pp), .second] [(.int mo)])) _
      refine XS.ifNo X0.here hx rfl (hb hby d3_1) rfl ((if0 _ _).trans (teq hk2).2) ?_
      show Steps p.tables e below (s₁.setTop (mkF m 4 #[.val (.int mo), .val (.long lo), .second, .val (.long hi), .second, .val (.long pp), .second] [])) _
      refine XS.lload X0.here hx rfl (hb hby d3_4) rfl ?_
      show Steps p.tables e below (s₁.setTop (mkF m 6 #[.val (.int mo), .val (.long lo), .second, .val (.long hi), .second, .val (.long pp), .second] [(.long pp)])) _
      exact retOut X0 hx Bd.returns rfl (Or.inr (Or.inl ⟨rfl, rfl, _, rfl⟩)) (hb hby d3_6) hr
    · show Q3 Z mo lo hi pp h0 n0 _ s₁.heap _
      rw [e0]
      have ev15 : (r3_v mo lo hi pp) = pp := by unfold r3_v; rw [if_pos hk2]
      exact ⟨(congrArg (fun z => some (Value.long z)) ev15.symm), N0, rfl⟩
  · have pre3 : ∀ t, Steps p.tables e below (s₁.setTop (mkF m 9 #[.val (.int mo), .val (.long lo), .second, .val (.long hi), .second, .val (.long pp), .second] [(.int (1 : Int32)), (.int mo)])) t → Steps p.tables e below (s₁.setTop (entryFrame m #[(.int mo), (.long lo), (.long hi), (.long pp)] 7)) t := by
      intro t k
      refine pre1 _ ?_
      show Steps p.tables e below (s₁.setTop (mkF m 1 #[.val (.int mo), .val (.long lo), .second, .val (.long hi), .second, .val (.long pp), .second] [(.int mo)])) _
      refine XS.ifYes X0.here hx rfl (pc0 := 1) (pc' := 7) rfl (hb hby d3_1) rfl ((if0 _ _).trans (feq hk2).2) (by decide) (by decide) ?_
      show Steps p.tables e below (s₁.setTop (mkF m 7 #[.val (.int mo), .val (.long lo), .second, .val (.long hi), .second, .val (.long pp), .second] [])) _
      refine XS.iloadN X0.here hx rfl (hb hby d3_7) rfl ?_
      show Steps p.tables e below (s₁.setTop (mkF m 8 #[.val (.int mo), .val (.long lo), .second, .val (.long hi), .second, .val (.long pp), .second] [(.int mo)])) _
      refine XS.iconst X0.here hx rfl (hb hby d3_8) ?_
      exact k
    by_cases hk4 : mo = (1 : Int32)
    · obtain ⟨fs, hr, hrun, hended, hW, hsame⟩ := X0.leave (v := some (.long lo)) (fun h => by rw [Bd.returns] at h; cases h)
      refine ⟨_, _, pre3 _ ?_, hrun, hended, _, _, rfl, ?_, ⟨_, rfl⟩, hW, hsame.mono (by decide) (by decide)⟩
      · show Steps p.tables e below (s₁.setTop (mkF m 9 #[.val (.int mo), .val (.long lo), .second, .val (.long hi), .second, .val (.long pp), .second] [(.int (1 : Int32)), (.int mo)])) _
        refine XS.icmpNo X0.here hx rfl (hb hby d3_9) rfl (teq hk4).2 ?_
        show Steps p.tables e below (s₁.setTop (mkF m 12 #[.val (.int mo), .val (.long lo), .second, .val (.long hi), .second, .val (.long pp), .second] [])) _
        refine XS.lloadN X0.here hx rfl (hb hby d3_12) rfl ?_
        show Steps p.tables e below (s₁.setTop (mkF m 13 #[.val (.int mo), .val (.long lo), .second, .val (.long hi), .second, .val (.long pp), .second] [(.long lo)])) _
        exact retOut X0 hx Bd.returns rfl (Or.inr (Or.inl ⟨rfl, rfl, _, rfl⟩)) (hb hby d3_13) hr
      · show Q3 Z mo lo hi pp h0 n0 _ s₁.heap _
        rw [e0]
        have ev16 : (r3_v mo lo hi pp) = lo := by unfold r3_v; rw [if_neg hk2, if_pos hk4]
        exact ⟨(congrArg (fun z => some (Value.long z)) ev16.symm), N0, rfl⟩
    · have pre5 : ∀ t, Steps p.tables e below (s₁.setTop (mkF m 16 #[.val (.int mo), .val (.long lo), .second, .val (.long hi), .second, .val (.long pp), .second] [(.int (2 : Int32)), (.int mo)])) t → Steps p.tables e below (s₁.setTop (entryFrame m #[(.int mo), (.long lo), (.long hi), (.long pp)] 7)) t := by
        intro t k
        refine pre3 _ ?_
        show Steps p.tables e below (s₁.setTop (mkF m 9 #[.val (.int mo), .val (.long lo), .second, .val (.long hi), .second, .val (.long pp), .second] [(.int (1 : Int32)), (.int mo)])) _
        refine XS.icmpYes X0.here hx rfl (pc0 := 9) (pc' := 14) rfl (hb hby d3_9) rfl (feq hk4).2 (by decide) (by decide) ?_
        show Steps p.tables e below (s₁.setTop (mkF m 14 #[.val (.int mo), .val (.long lo), .second, .val (.long hi), .second, .val (.long pp), .second] [])) _
        refine XS.iloadN X0.here hx rfl (hb hby d3_14) rfl ?_
        show Steps p.tables e below (s₁.setTop (mkF m 15 #[.val (.int mo), .val (.long lo), .second, .val (.long hi), .second, .val (.long pp), .second] [(.int mo)])) _
        refine XS.iconst X0.here hx rfl (hb hby d3_15) ?_
        exact k
      by_cases hk6 : mo = (2 : Int32)
      · obtain ⟨fs, hr, hrun, hended, hW, hsame⟩ := X0.leave (v := some (.long hi)) (fun h => by rw [Bd.returns] at h; cases h)
        refine ⟨_, _, pre5 _ ?_, hrun, hended, _, _, rfl, ?_, ⟨_, rfl⟩, hW, hsame.mono (by decide) (by decide)⟩
        · show Steps p.tables e below (s₁.setTop (mkF m 16 #[.val (.int mo), .val (.long lo), .second, .val (.long hi), .second, .val (.long pp), .second] [(.int (2 : Int32)), (.int mo)])) _
          refine XS.icmpNo X0.here hx rfl (hb hby d3_16) rfl (teq hk6).2 ?_
          show Steps p.tables e below (s₁.setTop (mkF m 19 #[.val (.int mo), .val (.long lo), .second, .val (.long hi), .second, .val (.long pp), .second] [])) _
          refine XS.lloadN X0.here hx rfl (hb hby d3_19) rfl ?_
          show Steps p.tables e below (s₁.setTop (mkF m 20 #[.val (.int mo), .val (.long lo), .second, .val (.long hi), .second, .val (.long pp), .second] [(.long hi)])) _
          exact retOut X0 hx Bd.returns rfl (Or.inr (Or.inl ⟨rfl, rfl, _, rfl⟩)) (hb hby d3_20) hr
        · show Q3 Z mo lo hi pp h0 n0 _ s₁.heap _
          rw [e0]
          have ev17 : (r3_v mo lo hi pp) = hi := by unfold r3_v; rw [if_neg hk2, if_neg hk4, if_pos hk6]
          exact ⟨(congrArg (fun z => some (Value.long z)) ev17.symm), N0, rfl⟩
      · have pre7 : ∀ t, Steps p.tables e below (s₁.setTop (mkF m 23 #[.val (.int mo), .val (.long lo), .second, .val (.long hi), .second, .val (.long pp), .second] [(.int (3 : Int32)), (.int mo)])) t → Steps p.tables e below (s₁.setTop (entryFrame m #[(.int mo), (.long lo), (.long hi), (.long pp)] 7)) t := by
          intro t k
          refine pre5 _ ?_
          show Steps p.tables e below (s₁.setTop (mkF m 16 #[.val (.int mo), .val (.long lo), .second, .val (.long hi), .second, .val (.long pp), .second] [(.int (2 : Int32)), (.int mo)])) _
          refine XS.icmpYes X0.here hx rfl (pc0 := 16) (pc' := 21) rfl (hb hby d3_16) rfl (feq hk6).2 (by decide) (by decide) ?_
          show Steps p.tables e below (s₁.setTop (mkF m 21 #[.val (.int mo), .val (.long lo), .second, .val (.long hi), .second, .val (.long pp), .second] [])) _
          refine XS.iloadN X0.here hx rfl (hb hby d3_21) rfl ?_
          show Steps p.tables e below (s₁.setTop (mkF m 22 #[.val (.int mo), .val (.long lo), .second, .val (.long hi), .second, .val (.long pp), .second] [(.int mo)])) _
          refine XS.iconst X0.here hx rfl (hb hby d3_22) ?_
          exact k
        by_cases hk8 : mo = (3 : Int32)
        · obtain ⟨fs, hr, hrun, hended, hW, hsame⟩ := X0.leave (v := some (.long (lo + (1 : Int64)))) (fun h => by rw [Bd.returns] at h; cases h)
          refine ⟨_, _, pre7 _ ?_, hrun, hended, _, _, rfl, ?_, ⟨_, rfl⟩, hW, hsame.mono (by decide) (by decide)⟩
          · show Steps p.tables e below (s₁.setTop (mkF m 23 #[.val (.int mo), .val (.long lo), .second, .val (.long hi), .second, .val (.long pp), .second] [(.int (3 : Int32)), (.int mo)])) _
            refine XS.icmpNo X0.here hx rfl (hb hby d3_23) rfl (teq hk8).2 ?_
            show Steps p.tables e below (s₁.setTop (mkF m 26 #[.val (.int mo), .val (.long lo), .second, .val (.long hi), .second, .val (.long pp), .second] [])) _
            refine XS.lloadN X0.here hx rfl (hb hby d3_26) rfl ?_
            show Steps p.tables e below (s₁.setTop (mkF m 27 #[.val (.int mo), .val (.long lo), .second, .val (.long hi), .second, .val (.long pp), .second] [(.long lo)])) _
            refine XS.lconst X0.here hx rfl (hb hby d3_27) ?_
            show Steps p.tables e below (s₁.setTop (mkF m 28 #[.val (.int mo), .val (.long lo), .second, .val (.long hi), .second, .val (.long pp), .second] [(.long (1 : Int64)), (.long lo)])) _
            refine XS.ladd X0.here hx rfl (hb hby d3_28) rfl ?_
            show Steps p.tables e below (s₁.setTop (mkF m 29 #[.val (.int mo), .val (.long lo), .second, .val (.long hi), .second, .val (.long pp), .second] [(.long (lo + (1 : Int64)))])) _
            exact retOut X0 hx Bd.returns rfl (Or.inr (Or.inl ⟨rfl, rfl, _, rfl⟩)) (hb hby d3_29) hr
          · show Q3 Z mo lo hi pp h0 n0 _ s₁.heap _
            rw [e0]
            have ev18 : (r3_v mo lo hi pp) = (lo + (1 : Int64)) := by unfold r3_v; rw [if_neg hk2, if_neg hk4, if_neg hk6, if_pos hk8]
            exact ⟨(congrArg (fun z => some (Value.long z)) ev18.symm), N0, rfl⟩
        · have pre9 : ∀ t, Steps p.tables e below (s₁.setTop (mkF m 32 #[.val (.int mo), .val (.long lo), .second, .val (.long hi), .second, .val (.long pp), .second] [(.int (4 : Int32)), (.int mo)])) t → Steps p.tables e below (s₁.setTop (entryFrame m #[(.int mo), (.long lo), (.long hi), (.long pp)] 7)) t := by
            intro t k
            refine pre7 _ ?_
            show Steps p.tables e below (s₁.setTop (mkF m 23 #[.val (.int mo), .val (.long lo), .second, .val (.long hi), .second, .val (.long pp), .second] [(.int (3 : Int32)), (.int mo)])) _
            refine XS.icmpYes X0.here hx rfl (pc0 := 23) (pc' := 30) rfl (hb hby d3_23) rfl (feq hk8).2 (by decide) (by decide) ?_
            show Steps p.tables e below (s₁.setTop (mkF m 30 #[.val (.int mo), .val (.long lo), .second, .val (.long hi), .second, .val (.long pp), .second] [])) _
            refine XS.iloadN X0.here hx rfl (hb hby d3_30) rfl ?_
            show Steps p.tables e below (s₁.setTop (mkF m 31 #[.val (.int mo), .val (.long lo), .second, .val (.long hi), .second, .val (.long pp), .second] [(.int mo)])) _
            refine XS.iconst X0.here hx rfl (hb hby d3_31) ?_
            exact k
          by_cases hk10 : mo = (4 : Int32)
          · obtain ⟨fs, hr, hrun, hended, hW, hsame⟩ := X0.leave (v := some (.long (hi - (1 : Int64)))) (fun h => by rw [Bd.returns] at h; cases h)
            refine ⟨_, _, pre9 _ ?_, hrun, hended, _, _, rfl, ?_, ⟨_, rfl⟩, hW, hsame.mono (by decide) (by decide)⟩
            · show Steps p.tables e below (s₁.setTop (mkF m 32 #[.val (.int mo), .val (.long lo), .second, .val (.long hi), .second, .val (.long pp), .second] [(.int (4 : Int32)), (.int mo)])) _
              refine XS.icmpNo X0.here hx rfl (hb hby d3_32) rfl (teq hk10).2 ?_
              show Steps p.tables e below (s₁.setTop (mkF m 35 #[.val (.int mo), .val (.long lo), .second, .val (.long hi), .second, .val (.long pp), .second] [])) _
              refine XS.lloadN X0.here hx rfl (hb hby d3_35) rfl ?_
              show Steps p.tables e below (s₁.setTop (mkF m 36 #[.val (.int mo), .val (.long lo), .second, .val (.long hi), .second, .val (.long pp), .second] [(.long hi)])) _
              refine XS.lconst X0.here hx rfl (hb hby d3_36) ?_
              show Steps p.tables e below (s₁.setTop (mkF m 37 #[.val (.int mo), .val (.long lo), .second, .val (.long hi), .second, .val (.long pp), .second] [(.long (1 : Int64)), (.long hi)])) _
              refine XS.lsub X0.here hx rfl (hb hby d3_37) rfl ?_
              show Steps p.tables e below (s₁.setTop (mkF m 38 #[.val (.int mo), .val (.long lo), .second, .val (.long hi), .second, .val (.long pp), .second] [(.long (hi - (1 : Int64)))])) _
              exact retOut X0 hx Bd.returns rfl (Or.inr (Or.inl ⟨rfl, rfl, _, rfl⟩)) (hb hby d3_38) hr
            · show Q3 Z mo lo hi pp h0 n0 _ s₁.heap _
              rw [e0]
              have ev19 : (r3_v mo lo hi pp) = (hi - (1 : Int64)) := by unfold r3_v; rw [if_neg hk2, if_neg hk4, if_neg hk6, if_neg hk8, if_pos hk10]
              exact ⟨(congrArg (fun z => some (Value.long z)) ev19.symm), N0, rfl⟩
          · have pre11 : ∀ t, Steps p.tables e below (s₁.setTop (mkF m 41 #[.val (.int mo), .val (.long lo), .second, .val (.long hi), .second, .val (.long pp), .second] [(.int (5 : Int32)), (.int mo)])) t → Steps p.tables e below (s₁.setTop (entryFrame m #[(.int mo), (.long lo), (.long hi), (.long pp)] 7)) t := by
              intro t k
              refine pre9 _ ?_
              show Steps p.tables e below (s₁.setTop (mkF m 32 #[.val (.int mo), .val (.long lo), .second, .val (.long hi), .second, .val (.long pp), .second] [(.int (4 : Int32)), (.int mo)])) _
              refine XS.icmpYes X0.here hx rfl (pc0 := 32) (pc' := 39) rfl (hb hby d3_32) rfl (feq hk10).2 (by decide) (by decide) ?_
              show Steps p.tables e below (s₁.setTop (mkF m 39 #[.val (.int mo), .val (.long lo), .second, .val (.long hi), .second, .val (.long pp), .second] [])) _
              refine XS.iloadN X0.here hx rfl (hb hby d3_39) rfl ?_
              show Steps p.tables e below (s₁.setTop (mkF m 40 #[.val (.int mo), .val (.long lo), .second, .val (.long hi), .second, .val (.long pp), .second] [(.int mo)])) _
              refine XS.iconst X0.here hx rfl (hb hby d3_40) ?_
              exact k
            by_cases hk12 : mo = (5 : Int32)
            · obtain ⟨fs, hr, hrun, hended, hW, hsame⟩ := X0.leave (v := some (.long (lo - (1 : Int64)))) (fun h => by rw [Bd.returns] at h; cases h)
              refine ⟨_, _, pre11 _ ?_, hrun, hended, _, _, rfl, ?_, ⟨_, rfl⟩, hW, hsame.mono (by decide) (by decide)⟩
              · show Steps p.tables e below (s₁.setTop (mkF m 41 #[.val (.int mo), .val (.long lo), .second, .val (.long hi), .second, .val (.long pp), .second] [(.int (5 : Int32)), (.int mo)])) _
                refine XS.icmpNo X0.here hx rfl (hb hby d3_41) rfl (teq hk12).2 ?_
                show Steps p.tables e below (s₁.setTop (mkF m 44 #[.val (.int mo), .val (.long lo), .second, .val (.long hi), .second, .val (.long pp), .second] [])) _
                refine XS.lloadN X0.here hx rfl (hb hby d3_44) rfl ?_
                show Steps p.tables e below (s₁.setTop (mkF m 45 #[.val (.int mo), .val (.long lo), .second, .val (.long hi), .second, .val (.long pp), .second] [(.long lo)])) _
                refine XS.lconst X0.here hx rfl (hb hby d3_45) ?_
                show Steps p.tables e below (s₁.setTop (mkF m 46 #[.val (.int mo), .val (.long lo), .second, .val (.long hi), .second, .val (.long pp), .second] [(.long (1 : Int64)), (.long lo)])) _
                refine XS.lsub X0.here hx rfl (hb hby d3_46) rfl ?_
                show Steps p.tables e below (s₁.setTop (mkF m 47 #[.val (.int mo), .val (.long lo), .second, .val (.long hi), .second, .val (.long pp), .second] [(.long (lo - (1 : Int64)))])) _
                exact retOut X0 hx Bd.returns rfl (Or.inr (Or.inl ⟨rfl, rfl, _, rfl⟩)) (hb hby d3_47) hr
              · show Q3 Z mo lo hi pp h0 n0 _ s₁.heap _
                rw [e0]
                have ev20 : (r3_v mo lo hi pp) = (lo - (1 : Int64)) := by unfold r3_v; rw [if_neg hk2, if_neg hk4, if_neg hk6, if_neg hk8, if_neg hk10, if_pos hk12]
                exact ⟨(congrArg (fun z => some (Value.long z)) ev20.symm), N0, rfl⟩
            · have pre13 : ∀ t, Steps p.tables e below (s₁.setTop (mkF m 51 #[.val (.int mo), .val (.long lo), .second, .val (.long hi), .second, .val (.long pp), .second] [(.int (6 : Int32)), (.int mo)])) t → Steps p.tables e below (s₁.setTop (entryFrame m #[(.int mo), (.long lo), (.long hi), (.long pp)] 7)) t := by
                intro t k
                refine pre11 _ ?_
                show Steps p.tables e below (s₁.setTop (mkF m 41 #[.val (.int mo), .val (.long lo), .second, .val (.long hi), .second, .val (.long pp), .second] [(.int (5 : Int32)), (.int mo)])) _
                refine XS.icmpYes X0.here hx rfl (pc0 := 41) (pc' := 48) rfl (hb hby d3_41) rfl (feq hk12).2 (by decide) (by decide) ?_
                show Steps p.tables e below (s₁.setTop (mkF m 48 #[.val (.int mo), .val (.long lo), .second, .val (.long hi), .second, .val (.long pp), .second] [])) _
                refine XS.iloadN X0.here hx rfl (hb hby d3_48) rfl ?_
                show Steps p.tables e below (s₁.setTop (mkF m 49 #[.val (.int mo), .val (.long lo), .second, .val (.long hi), .second, .val (.long pp), .second] [(.int mo)])) _
                refine XS.bipush X0.here hx rfl (hb hby d3_49) ?_
                exact k
              by_cases hk14 : mo = (6 : Int32)
              · obtain ⟨fs, hr, hrun, hended, hW, hsame⟩ := X0.leave (v := some (.long (hi + (1 : Int64)))) (fun h => by rw [Bd.returns] at h; cases h)
                refine ⟨_, _, pre13 _ ?_, hrun, hended, _, _, rfl, ?_, ⟨_, rfl⟩, hW, hsame.mono (by decide) (by decide)⟩
                · show Steps p.tables e below (s₁.setTop (mkF m 51 #[.val (.int mo), .val (.long lo), .second, .val (.long hi), .second, .val (.long pp), .second] [(.int (6 : Int32)), (.int mo)])) _
                  refine XS.icmpNo X0.here hx rfl (hb hby d3_51) rfl (teq hk14).2 ?_
                  show Steps p.tables e below (s₁.setTop (mkF m 54 #[.val (.int mo), .val (.long lo), .second, .val (.long hi), .second, .val (.long pp), .second] [])) _
                  refine XS.lloadN X0.here hx rfl (hb hby d3_54) rfl ?_
                  show Steps p.tables e below (s₁.setTop (mkF m 55 #[.val (.int mo), .val (.long lo), .second, .val (.long hi), .second, .val (.long pp), .second] [(.long hi)])) _
                  refine XS.lconst X0.here hx rfl (hb hby d3_55) ?_
                  show Steps p.tables e below (s₁.setTop (mkF m 56 #[.val (.int mo), .val (.long lo), .second, .val (.long hi), .second, .val (.long pp), .second] [(.long (1 : Int64)), (.long hi)])) _
                  refine XS.ladd X0.here hx rfl (hb hby d3_56) rfl ?_
                  show Steps p.tables e below (s₁.setTop (mkF m 57 #[.val (.int mo), .val (.long lo), .second, .val (.long hi), .second, .val (.long pp), .second] [(.long (hi + (1 : Int64)))])) _
                  exact retOut X0 hx Bd.returns rfl (Or.inr (Or.inl ⟨rfl, rfl, _, rfl⟩)) (hb hby d3_57) hr
                · show Q3 Z mo lo hi pp h0 n0 _ s₁.heap _
                  rw [e0]
                  have ev21 : (r3_v mo lo hi pp) = (hi + (1 : Int64)) := by unfold r3_v; rw [if_neg hk2, if_neg hk4, if_neg hk6, if_neg hk8, if_neg hk10, if_neg hk12, if_pos hk14]
                  exact ⟨(congrArg (fun z => some (Value.long z)) ev21.symm), N0, rfl⟩
              · obtain ⟨fs, hr, hrun, hended, hW, hsame⟩ := X0.leave (v := some (.long (pp &&& (4294967295 : Int64)))) (fun h => by rw [Bd.returns] at h; cases h)
                refine ⟨_, _, pre13 _ ?_, hrun, hended, _, _, rfl, ?_, ⟨_, rfl⟩, hW, hsame.mono (by decide) (by decide)⟩
                · show Steps p.tables e below (s₁.setTop (mkF m 51 #[.val (.int mo), .val (.long lo), .second, .val (.long hi), .second, .val (.long pp), .second] [(.int (6 : Int32)), (.int mo)])) _
                  refine XS.icmpYes X0.here hx rfl (pc0 := 51) (pc' := 58) rfl (hb hby d3_51) rfl (feq hk14).2 (by decide) (by decide) ?_
                  show Steps p.tables e below (s₁.setTop (mkF m 58 #[.val (.int mo), .val (.long lo), .second, .val (.long hi), .second, .val (.long pp), .second] [])) _
                  refine XS.lload X0.here hx rfl (hb hby d3_58) rfl ?_
                  show Steps p.tables e below (s₁.setTop (mkF m 60 #[.val (.int mo), .val (.long lo), .second, .val (.long hi), .second, .val (.long pp), .second] [(.long pp)])) _
                  refine X0.ldc2Long hx hown (mvT hZ (hw _ (List.mem_of_getElem? (i := 0) rfl))) (g := (mkF m 60 #[.val (.int mo), .val (.long lo), .second, .val (.long hi), .second, .val (.long pp), .second] [(.long pp)])) rfl (hb hby d3_60) _ ?_
                  show Steps p.tables e below (s₁.setTop (mkF m 63 #[.val (.int mo), .val (.long lo), .second, .val (.long hi), .second, .val (.long pp), .second] [(.long (4294967295 : Int64)), (.long pp)])) _
                  refine XS.land X0.here hx rfl (hb hby d3_63) rfl ?_
                  show Steps p.tables e below (s₁.setTop (mkF m 64 #[.val (.int mo), .val (.long lo), .second, .val (.long hi), .second, .val (.long pp), .second] [(.long (pp &&& (4294967295 : Int64)))])) _
                  exact retOut X0 hx Bd.returns rfl (Or.inr (Or.inl ⟨rfl, rfl, _, rfl⟩)) (hb hby d3_64) hr
                · show Q3 Z mo lo hi pp h0 n0 _ s₁.heap _
                  rw [e0]
                  have ev22 : (r3_v mo lo hi pp) = (pp &&& (4294967295 : Int64)) := by unfold r3_v; rw [if_neg hk2, if_neg hk4, if_neg hk6, if_neg hk8, if_neg hk10, if_neg hk12, if_neg hk14]
                  exact ⟨(congrArg (fun z => some (Value.long z)) ev22.symm), N0, rfl⟩
theorem ef_5 (m : MethodId) (ra : Addr) : entryFrame m #[(.ref ra)] 1 = mkF m 0 #[.val (.ref ra)] [] := by first | (simp [entryFrame, mkF, argsToLocals, Value.category]; done) | rfl
theorem d5_0 : decode jdk_30_method_1_code 0 = .ok (.aload_n 0, 1) := by decide +kernel
theorem d5_1 : decode jdk_30_method_1_code 1 = .ok (.invokespecial 1, 3) := by decide +kernel
theorem d5_4 : decode jdk_30_method_1_code 4 = .ok (.return_, 1) := by decide +kernel
theorem pn_java_lang_Record : plainName "java/lang/Record" = true := by first | (simp [plainName, overriddenIn]; done) | decide +kernel
def Q5 (Z : State) (ra : Addr) (h0 : Heap) (n0 : Nat) (v : Option Value) (h : Heap) (L : List Loc) : Prop := v = none ∧ Fr n0 L ∧ h = h0
set_option maxRecDepth 65536 in
set_option maxHeartbeats 40000000 in
theorem rm5 (l : Launch) (Z : State) (a0 : Array Value) (hw : ∀ d ∈ tables_1, d.before a0 Z = true) (ws : List Jvm.Cond) (ra : Addr) (h0 : Heap) (n0 : Nat) (Z0 : n0 ≤ h0.size) :
    MetFree l (⟨"java/lang/Record", "<init>", "()V"⟩ : MethodName) (head1 (Jvm.Cond.code (⟨"java/lang/Record", "<init>", "()V"⟩ : MethodName) jdk_30_method_1_code 1 none :: ws) ({ frames := 1, cells := 0, slots := 0, locals := 12 } : Room)) (fun a U => a = #[(.ref ra)] ∧ Z.Warmed39 U.vm ∧ U.heap = h0) (fun _ _ _ _ _ => True) (fun _ U o U' => ∃ v L, o = .returned v ∧ Q5 Z ra h0 n0 v U'.heap L ∧ FrameEnd U o U' L ({ frames := 1, cells := 0, slots := 0, locals := 12 } : Room).cells ({ frames := 1, cells := 0, slots := 0, locals := 12 } : Room).slots) := by
  refine MetFree.of_bodySF (plainFor_of_name pn_java_lang_Record) hisR ?_
  intro p e s m args below meth c s₁ Bd hml0 hP hK
  obtain ⟨rfl, hZ, hh⟩ := hP
  have hx := Bd.exec
  have hby := Bd.bytes
  have hml : c.maxLocals = 1 := hml0
  have hown : s.vm.findClass "java/lang/Record" = some m.cls := findClass_of_methodNamed Bd.named
  have hnm := (name_of_methodNamed Bd.named Bd.method).1
  have X0 : Stand p l e ({ frames := 1, cells := 0, slots := 0, locals := 12 } : Room) s m #[(.ref ra)] below meth c s₁ [] 0 0 := Stand.of_body Bd
  have e0 : s₁.heap = h0 := by rw [← hh, Bd.state]; rfl
  have N0 := Fr.nil n0
  have K0 : Keep h0 h0 [] := Keep.refl h0 _
  have pre0 : ∀ t, Steps p.tables e below (s₁.setTop (mkF m 0 #[.val (.ref ra)] [])) t → Steps p.tables e below (s₁.setTop (entryFrame m #[(.ref ra)] 1)) t := fun t k => castTop (ef_5 m ra) k
  obtain ⟨T1, X1, e1, st1⟩ := initO X0 hx hZ hown (hw _ (List.mem_of_getElem? (i := 23) rfl)) (hw _ (List.mem_of_getElem? (i := 24) rfl)) (hw _ (List.mem_of_getElem? (i := 25) rfl)) e0 (g := (mkF m 1 #[.val (.ref ra)] [(.ref ra)])) rfl (by rw [hml]; rfl) rfl (hb hby d5_1) (by decide) (W := 0) (by show 2 * 0 + _ ≤ _; exact Nat.le_of_eq rfl) (by decide)
  obtain ⟨fs, hr, hrun, hended, hW, hsame⟩ := X1.leave (v := none) (fun _ => rfl)
  refine ⟨_, _, pre0 _ ?_, hrun, hended, _, _, rfl, ?_, ⟨_, rfl⟩, hW, hsame.mono (by decide) (by decide)⟩
  · show Steps p.tables e below (s₁.setTop (mkF m 0 #[.val (.ref ra)] [])) _
    refine XS.aloadN X0.here hx rfl (hb hby d5_0) rfl rfl ?_
    show Steps p.tables e below (s₁.setTop (mkF m 1 #[.val (.ref ra)] [(.ref ra)])) _
    refine st1 _ ?_
    show Steps p.tables e below (T1.setTop (mkF m 4 #[.val (.ref ra)] [])) _
    exact X1.returnOut hx Bd.returns (hb hby d5_4) hr
  · show Q5 Z ra h0 n0 _ T1.heap _
    rw [e1]
    exact ⟨rfl, N0, rfl⟩
theorem ef_7 (m : MethodId) (xa : Int64) : entryFrame m #[(.long xa)] 2 = mkF m 0 #[.val (.long xa), .second] [] := by first | (simp [entryFrame, mkF, argsToLocals, Value.category]; done) | rfl
theorem d7_0 : decode prog_14_method_5_code 0 = .ok (.lload_n 0, 1) := by decide +kernel
theorem d7_1 : decode prog_14_method_5_code 1 = .ok (.lconst 0, 1) := by decide +kernel
theorem d7_2 : decode prog_14_method_5_code 2 = .ok (.lcmp, 1) := by decide +kernel
theorem d7_3 : decode prog_14_method_5_code 3 = .ok (.ifCond .lt 11, 3) := by decide +kernel
theorem d7_6 : decode prog_14_method_5_code 6 = .ok (.lload_n 0, 1) := by decide +kernel
theorem d7_7 : decode prog_14_method_5_code 7 = .ok (.ldc2_w 62, 3) := by decide +kernel
theorem d7_10 : decode prog_14_method_5_code 10 = .ok (.lcmp, 1) := by decide +kernel
theorem d7_11 : decode prog_14_method_5_code 11 = .ok (.ifCond .le 17, 3) := by decide +kernel
theorem d7_28 : decode prog_14_method_5_code 28 = .ok (.return_, 1) := by decide +kernel
theorem pn_com_example_bundles_to_brokers_bundlestobrokers_model_HashSpace : plainName "com/example/bundles_to_brokers/bundlestobrokers/model/HashSpace" = true := by first | (simp [plainName, overriddenIn]; done) | decide +kernel
def Q7 (Z : State) (xa : Int64) (h0 : Heap) (n0 : Nat) (v : Option Value) (h : Heap) (L : List Loc) : Prop := v = none ∧ Fr n0 L ∧ h = h0
set_option maxRecDepth 65536 in
set_option maxHeartbeats 40000000 in
theorem rm7 (l : Launch) (Z : State) (a0 : Array Value) (hw : ∀ d ∈ tables_1, d.before a0 Z = true) (ws : List Jvm.Cond) (xa : Int64) (h0 : Heap) (n0 : Nat) (Z0 : n0 ≤ h0.size) (hc3 : ¬ (xa < (0 : Int64))) (hc11 : ¬ ((4294967295 : Int64) < xa)) :
    MetFree l (⟨"com/example/bundles_to_brokers/bundlestobrokers/model/HashSpace", "checkInSpace", "(J)V"⟩ : MethodName) (head1 (Jvm.Cond.code (⟨"com/example/bundles_to_brokers/bundlestobrokers/model/HashSpace", "checkInSpace", "(J)V"⟩ : MethodName) prog_14_method_5_code 2 none :: ws) ({ frames := 0, cells := 0, slots := 0, locals := 0 } : Room)) (fun a U => a = #[(.long xa)] ∧ Z.Warmed39 U.vm ∧ U.heap = h0) (fun _ _ _ _ _ => True) (fun _ U o U' => ∃ v L, o = .returned v ∧ Q7 Z xa h0 n0 v U'.heap L ∧ FrameEnd U o U' L ({ frames := 0, cells := 0, slots := 0, locals := 0 } : Room).cells ({ frames := 0, cells := 0, slots := 0, locals := 0 } : Room).slots) := by
  refine MetFree.of_bodySF (plainFor_of_name pn_com_example_bundles_to_brokers_bundlestobrokers_model_HashSpace) hisR ?_
  intro p e s m args below meth c s₁ Bd hml0 hP hK
  obtain ⟨rfl, hZ, hh⟩ := hP
  have hx := Bd.exec
  have hby := Bd.bytes
  have hml : c.maxLocals = 2 := hml0
  have hown : s.vm.findClass "com/example/bundles_to_brokers/bundlestobrokers/model/HashSpace" = some m.cls := findClass_of_methodNamed Bd.named
  have hnm := (name_of_methodNamed Bd.named Bd.method).1
  have X0 : Stand p l e ({ frames := 0, cells := 0, slots := 0, locals := 0 } : Room) s m #[(.long xa)] below meth c s₁ [] 0 0 := Stand.of_body Bd
  have e0 : s₁.heap = h0 := by rw [← hh, Bd.state]; rfl
  have N0 := Fr.nil n0
  have K0 : Keep h0 h0 [] := Keep.refl h0 _
  have pre0 : ∀ t, Steps p.tables e below (s₁.setTop (mkF m 0 #[.val (.long xa), .second] [])) t → Steps p.tables e below (s₁.setTop (entryFrame m #[(.long xa)] 2)) t := fun t k => castTop (ef_7 m xa) k
  obtain ⟨fs, hr, hrun, hended, hW, hsame⟩ := X0.leave (v := none) (fun _ => rfl)
  refine ⟨_, _, pre0 _ ?_, hrun, hended, _, _, rfl, ?_, ⟨_, rfl⟩, hW, hsame.mono (by decide) (by decide)⟩
  · show Steps p.tables e below (s₁.setTop (mkF m 0 #[.val (.long xa), .second] [])) _
    refine XS.lloadN X0.here hx rfl (hb hby d7_0) rfl ?_
    show Steps p.tables e below (s₁.setTop (mkF m 1 #[.val (.long xa), .second] [(.long xa)])) _
    refine XS.lconst X0.here hx rfl (hb hby d7_1) ?_
    show Steps p.tables e below (s₁.setTop (mkF m 2 #[.val (.long xa), .second] [(.long (0 : Int64)), (.long xa)])) _
    refine XS.lcmp X0.here hx rfl (hb hby d7_2) rfl ?_
    show Steps p.tables e below (s₁.setTop (mkF m 3 #[.val (.long xa), .second] [(.int (lcmpW xa (0 : Int64)))])) _
    refine XS.ifNo X0.here hx rfl (hb hby d7_3) rfl (own_fltL hc3).1 ?_
    show Steps p.tables e below (s₁.setTop (mkF m 6 #[.val (.long xa), .second] [])) _
    refine XS.lloadN X0.here hx rfl (hb hby d7_6) rfl ?_
    show Steps p.tables e below (s₁.setTop (mkF m 7 #[.val (.long xa), .second] [(.long xa)])) _
    refine X0.ldc2Long hx hown (mvT hZ (hw _ (List.mem_of_getElem? (i := 30) rfl))) (g := (mkF m 7 #[.val (.long xa), .second] [(.long xa)])) rfl (hb hby d7_7) _ ?_
    show Steps p.tables e below (s₁.setTop (mkF m 10 #[.val (.long xa), .second] [(.long (4294967295 : Int64)), (.long xa)])) _
    refine XS.lcmp X0.here hx rfl (hb hby d7_10) rfl ?_
    show Steps p.tables e below (s₁.setTop (mkF m 11 #[.val (.long xa), .second] [(.int (lcmpW xa (4294967295 : Int64)))])) _
    refine XS.ifYes X0.here hx rfl (pc0 := 11) (pc' := 28) rfl (hb hby d7_11) rfl (own_fltL hc11).2.2.2 (by decide) (by decide) ?_
    show Steps p.tables e below (s₁.setTop (mkF m 28 #[.val (.long xa), .second] [])) _
    exact X0.returnOut hx Bd.returns (hb hby d7_28) hr
  · show Q7 Z xa h0 n0 _ s₁.heap _
    rw [e0]
    exact ⟨rfl, N0, rfl⟩
theorem d4_0 : decode prog_10_method_1_code 0 = .ok (.aload_n 0, 1) := by decide +kernel
theorem pd_0 : parseMethodDescriptor "()V" = some ⟨[], none⟩ := by decide +kernel
theorem d4_1 : decode prog_10_method_1_code 1 = .ok (.invokespecial 1, 3) := by decide +kernel
theorem d4_4 : decode prog_10_method_1_code 4 = .ok (.lload_n 1, 1) := by decide +kernel
theorem pd_1 : parseMethodDescriptor "(J)V" = some ⟨[.long], none⟩ := by decide +kernel
theorem d4_5 : decode prog_10_method_1_code 5 = .ok (.invokestatic 7, 3) := by decide +kernel
theorem d4_8 : decode prog_10_method_1_code 8 = .ok (.lload_n 3, 1) := by decide +kernel
theorem d4_9 : decode prog_10_method_1_code 9 = .ok (.invokestatic 7, 3) := by decide +kernel
theorem d4_12 : decode prog_10_method_1_code 12 = .ok (.lload_n 1, 1) := by decide +kernel
theorem d4_13 : decode prog_10_method_1_code 13 = .ok (.lload_n 3, 1) := by decide +kernel
theorem d4_14 : decode prog_10_method_1_code 14 = .ok (.lcmp, 1) := by decide +kernel
theorem d4_15 : decode prog_10_method_1_code 15 = .ok (.ifCond .lt 21, 3) := by decide +kernel
theorem d4_36 : decode prog_10_method_1_code 36 = .ok (.aload_n 0, 1) := by decide +kernel
theorem d4_37 : decode prog_10_method_1_code 37 = .ok (.lload_n 1, 1) := by decide +kernel
theorem d4_38 : decode prog_10_method_1_code 38 = .ok (.putfield 28, 3) := by decide +kernel
theorem d4_41 : decode prog_10_method_1_code 41 = .ok (.aload_n 0, 1) := by decide +kernel
theorem d4_42 : decode prog_10_method_1_code 42 = .ok (.lload_n 3, 1) := by decide +kernel
theorem d4_43 : decode prog_10_method_1_code 43 = .ok (.putfield 32, 3) := by decide +kernel
theorem d4_46 : decode prog_10_method_1_code 46 = .ok (.return_, 1) := by decide +kernel
theorem ef_4 (m : MethodId) (ra : Addr) (lo : Int64) (hi : Int64) : entryFrame m #[(.ref ra), (.long lo), (.long hi)] 5 = mkF m 0 #[.val (.ref ra), .val (.long lo), .second, .val (.long hi), .second] [] := by first | (simp [entryFrame, mkF, argsToLocals, Value.category]; done) | rfl
theorem pn_com_example_bundles_to_brokers_bundlestobrokers_model_BundleRange : plainName "com/example/bundles_to_brokers/bundlestobrokers/model/BundleRange" = true := by first | (simp [plainName, overriddenIn]; done) | decide +kernel
def Q4 (Z : State) (ra : Addr) (lo : Int64) (hi : Int64) (u_lower_ra : Int64) (u_upper_ra : Int64) (h0 : Heap) (n0 : Nat) (v : Option Value) (h : Heap) (L : List Loc) : Prop := v = none ∧ Fr n0 L ∧ Keep h0 h [ra] ∧ Fld Z h ra "com/example/bundles_to_brokers/bundlestobrokers/model/BundleRange" "lower" "J" (.long lo) ∧ Fld Z h ra "com/example/bundles_to_brokers/bundlestobrokers/model/BundleRange" "upper" "J" (.long hi)
set_option maxRecDepth 65536 in
set_option maxHeartbeats 40000000 in
theorem rm4 (l : Launch) (Z : State) (a0 : Array Value) (hw : ∀ d ∈ tables_1, d.before a0 Z = true) (ws : List Jvm.Cond) (ra : Addr) (lo : Int64) (hi : Int64) (u_lower_ra : Int64) (u_upper_ra : Int64) (h0 : Heap) (n0 : Nat) (Z0 : n0 ≤ h0.size) (hlo0 : ¬ (lo < (0 : Int64))) (hlo1 : ¬ ((4294967295 : Int64) < lo)) (hhi0 : ¬ (hi < (0 : Int64))) (hhi1 : ¬ ((4294967295 : Int64) < hi)) (E_ra : Exa Z h0 ra "com/example/bundles_to_brokers/bundlestobrokers/model/BundleRange") (F_lower_ra : Fld Z h0 ra "com/example/bundles_to_brokers/bundlestobrokers/model/BundleRange" "lower" "J" (.long u_lower_ra)) (F_upper_ra : Fld Z h0 ra "com/example/bundles_to_brokers/bundlestobrokers/model/BundleRange" "upper" "J" (.long u_upper_ra)) (hc15 : (lo < hi)) (g_ra : n0 ≤ ra) :
    MetFree l (⟨"com/example/bundles_to_brokers/bundlestobrokers/model/BundleRange", "<init>", "(JJ)V"⟩ : MethodName) (head1 (Jvm.Cond.code (⟨"com/example/bundles_to_brokers/bundlestobrokers/model/BundleRange", "<init>", "(JJ)V"⟩ : MethodName) prog_10_method_1_code 5 none :: ws) ({ frames := 2, cells := 0, slots := 0, locals := 24 } : Room)) (fun a U => a = #[(.ref ra), (.long lo), (.long hi)] ∧ Z.Warmed39 U.vm ∧ U.heap = h0) (fun _ _ _ _ _ => True) (fun _ U o U' => ∃ v L, o = .returned v ∧ Q4 Z ra lo hi u_lower_ra u_upper_ra h0 n0 v U'.heap L ∧ FrameEnd U o U' L ({ frames := 2, cells := 0, slots := 0, locals := 24 } : Room).cells ({ frames := 2, cells := 0, slots := 0, locals := 24 } : Room).slots) := by
  refine MetFree.of_bodySF (plainFor_of_name pn_com_example_bundles_to_brokers_bundlestobrokers_model_BundleRange) hisR ?_
  intro p e s m args below meth c s₁ Bd hml0 hP hK
  obtain ⟨rfl, hZ, hh⟩ := hP
  have hx := Bd.exec
  have hby := Bd.bytes
  have hml : c.maxLocals = 5 := hml0
  have hown : s.vm.findClass "com/example/bundles_to_brokers/bundlestobrokers/model/BundleRange" = some m.cls := findClass_of_methodNamed Bd.named
  have hnm := (name_of_methodNamed Bd.named Bd.method).1
  have X0 : Stand p l e ({ frames := 2, cells := 0, slots := 0, locals := 24 } : Room) s m #[(.ref ra), (.long lo), (.long hi)] below meth c s₁ [] 0 0 := Stand.of_body Bd
  have e0 : s₁.heap = h0 := by rw [← hh, Bd.state]; rfl
  have N0 := Fr.nil n0
  have K0 : Keep h0 h0 [ra] := Keep.refl h0 _
  have pre0 : ∀ t, Steps p.tables e below (s₁.setTop (mkF m 0 #[.val (.ref ra), .val (.long lo), .second, .val (.long hi), .second] [])) t → Steps p.tables e below (s₁.setTop (entryFrame m #[(.ref ra), (.long lo), (.long hi)] 5)) t := fun t k => castTop (ef_4 m ra lo hi) k
  obtain ⟨_, _, ⟨T1, L1, k1, n1⟩, -, X1, ⟨Lc1, hQ1, l1, y1, z1⟩, st1⟩ := X0.specialBack hx (y := (⟨"java/lang/Record", "<init>", "()V"⟩ : MethodName)) rfl hown (mvT hZ (hw _ (List.mem_of_getElem? (i := 18) rfl))) (mvT hZ (hw _ (List.mem_of_getElem? (i := 19) rfl))) (mvT hZ (hw _ (List.mem_of_getElem? (i := 22) rfl))) (by decide) (backOf (W := 0) (rm5 l Z a0 hw [] ra h0 n0 Z0 ) hZ (hw _ (List.mem_of_getElem? (i := 22) rfl)) (hw _ (List.mem_of_getElem? (i := 21) rfl)) (by decide) (by decide)) (g := (mkF m 1 #[.val (.ref ra), .val (.long lo), .second, .val (.long hi), .second] [(.ref ra)])) rfl (by rw [hml]; rfl) (Steps.refl _) (a := ra) (argsL := []) (rest := []) (lenOf pd_0 rfl) rfl (by show 2 * 0 + _ ≤ _; exact Nat.le_of_eq rfl) (hb hby d4_1) (fun _ _ => ⟨rfl, e0, (by decide : 0 + 0 ≤ _), (by decide : 0 + 0 ≤ _)⟩)
  dsimp only [Pt.U, Pt.locs, Pt.cells, Pt.slots] at X1 l1 y1 z1 st1 hQ1
  subst l1 y1 z1
  obtain ⟨rfl, N1q, e1⟩ := hQ1
  have N1 := Fr.app N0 N1q
  obtain ⟨_, _, ⟨T2, L2, k2, n2⟩, -, X2, ⟨Lc2, hQ2, l2, y2, z2⟩, st2⟩ := Jvm.LawKit.callS X1 hx (y := (⟨"com/example/bundles_to_brokers/bundlestobrokers/model/HashSpace", "checkInSpace", "(J)V"⟩ : MethodName)) hown (mvT hZ (hw _ (List.mem_of_getElem? (i := 26) rfl))) (mvT hZ (hw _ (List.mem_of_getElem? (i := 27) rfl))) (mvT hZ (hw _ (List.mem_of_getElem? (i := 28) rfl))) (mvT hZ (hw _ (List.mem_of_getElem? (i := 29) rfl))) (by decide) (backOf (W := 0) (rm7 l Z a0 hw [] lo h0 n0 Z0 (hlo0) (hlo1)) hZ (hw _ (List.mem_of_getElem? (i := 29) rfl)) (hw _ (List.mem_of_getElem? (i := 28) rfl)) (by decide) (by decide)) (g := (mkF m 5 #[.val (.ref ra), .val (.long lo), .second, .val (.long hi), .second] [(.long lo)])) rfl (by rw [hml]; rfl) (argsL := [(.long lo)]) (rest := []) (lenOf pd_1 rfl) rfl (by show 2 * 0 + _ ≤ _; exact Nat.le_of_eq rfl) (hb hby d4_5) (fun _ _ => ⟨rfl, e1, (by decide : 0 + 0 ≤ _), (by decide : 0 + 0 ≤ _)⟩)
  dsimp only [Pt.U, Pt.locs, Pt.cells, Pt.slots] at X2 l2 y2 z2 st2 hQ2
  subst l2 y2 z2
  obtain ⟨rfl, N2q, e2⟩ := hQ2
  have N2 := Fr.app N1 N2q
  obtain ⟨_, _, ⟨T3, L3, k3, n3⟩, -, X3, ⟨Lc3, hQ3, l3, y3, z3⟩, st3⟩ := Jvm.LawKit.callS X2 hx (y := (⟨"com/example/bundles_to_brokers/bundlestobrokers/model/HashSpace", "checkInSpace", "(J)V"⟩ : MethodName)) hown (mvT hZ (hw _ (List.mem_of_getElem? (i := 26) rfl))) (mvT hZ (hw _ (List.mem_of_getElem? (i := 27) rfl))) (mvT hZ (hw _ (List.mem_of_getElem? (i := 28) rfl))) (mvT hZ (hw _ (List.mem_of_getElem? (i := 29) rfl))) (by decide) (backOf (W := 0) (rm7 l Z a0 hw [] hi h0 n0 Z0 (hhi0) (hhi1)) hZ (hw _ (List.mem_of_getElem? (i := 29) rfl)) (hw _ (List.mem_of_getElem? (i := 28) rfl)) (by decide) (by decide)) (g := (mkF m 9 #[.val (.ref ra), .val (.long lo), .second, .val (.long hi), .second] [(.long hi)])) rfl (by rw [hml]; rfl) (argsL := [(.long hi)]) (rest := []) (lenOf pd_1 rfl) rfl (by show 2 * 0 + _ ≤ _; exact Nat.le_of_eq rfl) (hb hby d4_9) (fun _ _ => ⟨rfl, e2, (by decide : 0 + 0 ≤ _), (by decide : 0 + 0 ≤ _)⟩)
  dsimp only [Pt.U, Pt.locs, Pt.cells, Pt.slots] at X3 l3 y3 z3 st3 hQ3
  subst l3 y3 z3
  obtain ⟨rfl, N3q, e3⟩ := hQ3
  have N3 := Fr.app N2 N3q
  obtain ⟨T4, h4, X4, e4, W4, st4⟩ := putF X3 hx hZ hown (host := "") (Or.inl (hw _ (List.mem_of_getElem? (i := 31) rfl))) Via.refl e3 F_lower_ra E_ra (Or.inr ⟨(hw _ (List.mem_of_getElem? (i := 32) rfl)), rfl, hnm⟩) (hw _ (List.mem_of_getElem? (i := 13) rfl)) (ty := .long) (by decide) rfl rfl (g := (mkF m 38 #[.val (.ref ra), .val (.long lo), .second, .val (.long hi), .second] [(.long lo), (.ref ra)])) rfl rfl (hb hby d4_38)
  have N4 := Fr.snoc X4 N3 g_ra
  have Z4 : n0 ≤ h4.size := Nat.le_trans Z0 (Keep.of_wr W4).1
  have K4 : Keep h0 h4 [ra] := K0.wr W4 (Or.inl (List.mem_of_getElem? (i := 0) rfl))
  have f5 : Fld Z h4 ra "com/example/bundles_to_brokers/bundlestobrokers/model/BundleRange" "lower" "J" (.long lo) := F_lower_ra.same W4
  have f6 : Exa Z h4 ra "com/example/bundles_to_brokers/bundlestobrokers/model/BundleRange" := E_ra.wr W4
  have f7 : Fld Z h4 ra "com/example/bundles_to_brokers/bundlestobrokers/model/BundleRange" "upper" "J" (.long u_upper_ra) := F_upper_ra.other W4 (Or.inr (slot_ne (Or.inr (hw _ (List.mem_of_getElem? (i := 34) rfl))) (Or.inr (hw _ (List.mem_of_getElem? (i := 32) rfl))) (by decide) (t := .long) (t' := .long) (by decide) (by decide)))
  obtain ⟨T8, h8, X8, e8, W8, st8⟩ := putF X4 hx hZ hown (host := "") (Or.inl (hw _ (List.mem_of_getElem? (i := 33) rfl))) Via.refl e4 f7 f6 (Or.inr ⟨(hw _ (List.mem_of_getElem? (i := 34) rfl)), rfl, hnm⟩) (hw _ (List.mem_of_getElem? (i := 13) rfl)) (ty := .long) (by decide) rfl rfl (g := (mkF m 43 #[.val (.ref ra), .val (.long lo), .second, .val (.long hi), .second] [(.long hi), (.ref ra)])) rfl rfl (hb hby d4_43)
  have N8 := Fr.snoc X8 N4 g_ra
  have Z8 : n0 ≤ h8.size := Nat.le_trans Z4 (Keep.of_wr W8).1
  have K8 : Keep h0 h8 [ra] := K4.wr W8 (Or.inl (List.mem_of_getElem? (i := 0) rfl))
  have f9 : Fld Z h8 ra "com/example/bundles_to_brokers/bundlestobrokers/model/BundleRange" "upper" "J" (.long hi) := f7.same W8
  have f10 : Exa Z h8 ra "com/example/bundles_to_brokers/bundlestobrokers/model/BundleRange" := f6.wr W8
  have f11 : Fld Z h8 ra "com/example/bundles_to_brokers/bundlestobrokers/model/BundleRange" "lower" "J" (.long lo) := f5.other W8 (Or.inr (slot_ne (Or.inr (hw _ (List.mem_of_getElem? (i := 32) rfl))) (Or.inr (hw _ (List.mem_of_getElem? (i := 34) rfl))) (by decide) (t := .long) (t' := .long) (by decide) (by decide)))
  obtain ⟨fs, hr, hrun, hended, hW, hsame⟩ := X8.leave (v := none) (fun _ => rfl)
  refine ⟨_, _, pre0 _ ?_, hrun, hended, _, _, rfl, ?_, ⟨_, rfl⟩, hW, hsame.mono (by decide) (by decide)⟩
  · show Steps p.tables e below (s₁.setTop (mkF m 0 #[.val (.ref ra), .val (.long lo), .second, .val (.long hi), .second] [])) _
    refine XS.aloadN X0.here hx rfl (hb hby d4_0) rfl rfl ?_
    show Steps p.tables e below (s₁.setTop (mkF m 1 #[.val (.ref ra), .val (.long lo), .second, .val (.long hi), .second] [(.ref ra)])) _
    refine st1.trans ?_
    show Steps p.tables e below (T1.setTop (mkF m 4 #[.val (.ref ra), .val (.long lo), .second, .val (.long hi), .second] [])) _
    refine XS.lloadN X1.here hx rfl (hb hby d4_4) rfl ?_
    show Steps p.tables e below (T1.setTop (mkF m 5 #[.val (.ref ra), .val (.long lo), .second, .val (.long hi), .second] [(.long lo)])) _
    refine st2 _ ?_
    show Steps p.tables e below (T2.setTop (mkF m 8 #[.val (.ref ra), .val (.long lo), .second, .val (.long hi), .second] [])) _
    refine XS.lloadN X2.here hx rfl (hb hby d4_8) rfl ?_
    show Steps p.tables e below (T2.setTop (mkF m 9 #[.val (.ref ra), .val (.long lo), .second, .val (.long hi), .second] [(.long hi)])) _
    refine st3 _ ?_
    show Steps p.tables e below (T3.setTop (mkF m 12 #[.val (.ref ra), .val (.long lo), .second, .val (.long hi), .second] [])) _
    refine XS.lloadN X3.here hx rfl (hb hby d4_12) rfl ?_
    show Steps p.tables e below (T3.setTop (mkF m 13 #[.val (.ref ra), .val (.long lo), .second, .val (.long hi), .second] [(.long lo)])) _
    refine XS.lloadN X3.here hx rfl (hb hby d4_13) rfl ?_
    show Steps p.tables e below (T3.setTop (mkF m 14 #[.val (.ref ra), .val (.long lo), .second, .val (.long hi), .second] [(.long hi), (.long lo)])) _
    refine XS.lcmp X3.here hx rfl (hb hby d4_14) rfl ?_
    show Steps p.tables e below (T3.setTop (mkF m 15 #[.val (.ref ra), .val (.long lo), .second, .val (.long hi), .second] [(.int (lcmpW lo hi))])) _
    refine XS.ifYes X3.here hx rfl (pc0 := 15) (pc' := 36) rfl (hb hby d4_15) rfl (own_tltL hc15).1 (by decide) (by decide) ?_
    show Steps p.tables e below (T3.setTop (mkF m 36 #[.val (.ref ra), .val (.long lo), .second, .val (.long hi), .second] [])) _
    refine XS.aloadN X3.here hx rfl (hb hby d4_36) rfl rfl ?_
    show Steps p.tables e below (T3.setTop (mkF m 37 #[.val (.ref ra), .val (.long lo), .second, .val (.long hi), .second] [(.ref ra)])) _
    refine XS.lloadN X3.here hx rfl (hb hby d4_37) rfl ?_
    show Steps p.tables e below (T3.setTop (mkF m 38 #[.val (.ref ra), .val (.long lo), .second, .val (.long hi), .second] [(.long lo), (.ref ra)])) _
    refine st4 _ ?_
    show Steps p.tables e below (T4.setTop (mkF m 41 #[.val (.ref ra), .val (.long lo), .second, .val (.long hi), .second] [])) _
    refine XS.aloadN X4.here hx rfl (hb hby d4_41) rfl rfl ?_
    show Steps p.tables e below (T4.setTop (mkF m 42 #[.val (.ref ra), .val (.long lo), .second, .val (.long hi), .second] [(.ref ra)])) _
    refine XS.lloadN X4.here hx rfl (hb hby d4_42) rfl ?_
    show Steps p.tables e below (T4.setTop (mkF m 43 #[.val (.ref ra), .val (.long lo), .second, .val (.long hi), .second] [(.long hi), (.ref ra)])) _
    refine st8 _ ?_
    show Steps p.tables e below (T8.setTop (mkF m 46 #[.val (.ref ra), .val (.long lo), .second, .val (.long hi), .second] [])) _
    exact X8.returnOut hx Bd.returns (hb hby d4_46) hr
  · show Q4 Z ra lo hi u_lower_ra u_upper_ra h0 n0 _ T8.heap _
    rw [e8]
    exact ⟨rfl, N8, K8, f11, f9⟩
theorem ef_8 (m : MethodId) (ra : Addr) (hq : Int64) : entryFrame m #[(.ref ra), (.long hq)] 3 = mkF m 0 #[.val (.ref ra), .val (.long hq), .second] [] := by first | (simp [entryFrame, mkF, argsToLocals, Value.category]; done) | rfl
theorem d8_0 : decode prog_10_method_4_code 0 = .ok (.lload_n 1, 1) := by decide +kernel
theorem d8_1 : decode prog_10_method_4_code 1 = .ok (.aload_n 0, 1) := by decide +kernel
theorem d8_2 : decode prog_10_method_4_code 2 = .ok (.getfield 28, 3) := by decide +kernel
theorem d8_5 : decode prog_10_method_4_code 5 = .ok (.lcmp, 1) := by decide +kernel
theorem d8_6 : decode prog_10_method_4_code 6 = .ok (.ifCond .le 16, 3) := by decide +kernel
theorem d8_9 : decode prog_10_method_4_code 9 = .ok (.lload_n 1, 1) := by decide +kernel
theorem d8_10 : decode prog_10_method_4_code 10 = .ok (.aload_n 0, 1) := by decide +kernel
theorem d8_11 : decode prog_10_method_4_code 11 = .ok (.getfield 32, 3) := by decide +kernel
theorem d8_14 : decode prog_10_method_4_code 14 = .ok (.lcmp, 1) := by decide +kernel
theorem d8_15 : decode prog_10_method_4_code 15 = .ok (.ifCond .ge 7, 3) := by decide +kernel
theorem d8_18 : decode prog_10_method_4_code 18 = .ok (.iconst 1, 1) := by decide +kernel
theorem d8_19 : decode prog_10_method_4_code 19 = .ok (.goto 4, 3) := by decide +kernel
theorem d8_23 : decode prog_10_method_4_code 23 = .ok (.ireturn, 1) := by decide +kernel
theorem d8_22 : decode prog_10_method_4_code 22 = .ok (.iconst 0, 1) := by decide +kernel
def r8_v (hq : Int64) (w_lower : Int64) (w_upper : Int64) : Int32 := (if w_lower < hq then (if hq < w_upper then (1 : Int32) else (0 : Int32)) else (0 : Int32))
def Q8 (Z : State) (ra : Addr) (hq : Int64) (w_lower : Int64) (w_upper : Int64) (h0 : Heap) (n0 : Nat) (v : Option Value) (h : Heap) (L : List Loc) : Prop := v = some (.int (r8_v hq w_lower w_upper)) ∧ Fr n0 L ∧ h = h0
set_option maxRecDepth 65536 in
set_option maxHeartbeats 40000000 in
theorem rm8 (l : Launch) (Z : State) (a0 : Array Value) (hw : ∀ d ∈ tables_1, d.before a0 Z = true) (ws : List Jvm.Cond) (ra : Addr) (hq : Int64) (w_lower : Int64) (w_upper : Int64) (h0 : Heap) (n0 : Nat) (Z0 : n0 ≤ h0.size) (F_lower_ra : Fld Z h0 ra "com/example/bundles_to_brokers/bundlestobrokers/model/BundleRange" "lower" "J" (.long w_lower)) (F_upper_ra : Fld Z h0 ra "com/example/bundles_to_brokers/bundlestobrokers/model/BundleRange" "upper" "J" (.long w_upper)) :
    MetFree l (⟨"com/example/bundles_to_brokers/bundlestobrokers/model/BundleRange", "canCutAt", "(J)Z"⟩ : MethodName) (head1 (Jvm.Cond.code (⟨"com/example/bundles_to_brokers/bundlestobrokers/model/BundleRange", "canCutAt", "(J)Z"⟩ : MethodName) prog_10_method_4_code 3 (some .boolean) :: ws) ({ frames := 0, cells := 0, slots := 0, locals := 0 } : Room)) (fun a U => a = #[(.ref ra), (.long hq)] ∧ Z.Warmed39 U.vm ∧ U.heap = h0) (fun _ _ _ _ _ => True) (fun _ U o U' => ∃ v L, o = .returned v ∧ Q8 Z ra hq w_lower w_upper h0 n0 v U'.heap L ∧ FrameEnd U o U' L ({ frames := 0, cells := 0, slots := 0, locals := 0 } : Room).cells ({ frames := 0, cells := 0, slots := 0, locals := 0 } : Room).slots) := by
  refine MetFree.of_bodySF (plainFor_of_name pn_com_example_bundles_to_brokers_bundlestobrokers_model_BundleRange) hisR ?_
  intro p e s m args below meth c s₁ Bd hml0 hP hK
  obtain ⟨rfl, hZ, hh⟩ := hP
  have hx := Bd.exec
  have hby := Bd.bytes
  have hml : c.maxLocals = 3 := hml0
  have hown : s.vm.findClass "com/example/bundles_to_brokers/bundlestobrokers/model/BundleRange" = some m.cls := findClass_of_methodNamed Bd.named
  have hnm := (name_of_methodNamed Bd.named Bd.method).1
  have X0 : Stand p l e ({ frames := 0, cells := 0, slots := 0, locals := 0 } : Room) s m #[(.ref ra), (.long hq)] below meth c s₁ [] 0 0 := Stand.of_body Bd
  have e0 : s₁.heap = h0 := by rw [← hh, Bd.state]; rfl
  have N0 := Fr.nil n0
  have K0 : Keep h0 h0 [] := Keep.refl h0 _
  have pre0 : ∀ t, Steps p.tables e below (s₁.setTop (mkF m 0 #[.val (.ref ra), .val (.long hq), .second] [])) t → Steps p.tables e below (s₁.setTop (entryFrame m #[(.ref ra), (.long hq)] 3)) t := fun t k => castTop (ef_8 m ra hq) k
  obtain ⟨T1, X1, e1, st1⟩ := getF X0 hx hZ hown (host := "") (Or.inl (hw _ (List.mem_of_getElem? (i := 31) rfl))) Via.refl e0 F_lower_ra (g := (mkF m 2 #[.val (.ref ra), .val (.long hq), .second] [(.ref ra), (.long hq)])) rfl rfl (hb hby d8_2)
  have pre2 : ∀ t, Steps p.tables e below (T1.setTop (mkF m 6 #[.val (.ref ra), .val (.long hq), .second] [(.int (lcmpW hq w_lower))])) t → Steps p.tables e below (s₁.setTop (entryFrame m #[(.ref ra), (.long hq)] 3)) t := by
    intro t k
    refine pre0 _ ?_
    show Steps p.tables e below (s₁.setTop (mkF m 0 #[.val (.ref ra), .val (.long hq), .second] [])) _
    refine XS.lloadN X0.here hx rfl (hb hby d8_0) rfl ?_
    show Steps p.tables e below (s₁.setTop (mkF m 1 #[.val (.ref ra), .val (.long hq), .second] [(.long hq)])) _
    refine XS.aloadN X0.here hx rfl (hb hby d8_1) rfl rfl ?_
    show Steps p.tables e below (s₁.setTop (mkF m 2 #[.val (.ref ra), .val (.long hq), .second] [(.ref ra), (.long hq)])) _
    refine st1 _ ?_
    show Steps p.tables e below (T1.setTop (mkF m 5 #[.val (.ref ra), .val (.long hq), .second] [(.long w_lower), (.long hq)])) _
    refine XS.lcmp X1.here hx rfl (hb hby d8_5) rfl ?_
    exact k
  by_cases hk3 : w_lower < hq
  · obtain ⟨T4, X4, e4, st4⟩ := getF X1 hx hZ hown (host := "") (Or.inl (hw _ (List.mem_of_getElem? (i := 33) rfl))) Via.refl e1 F_upper_ra (g := (mkF m 11 #[.val (.ref ra), .val (.long hq), .second] [(.ref ra), (.long hq)])) rfl rfl (hb hby d8_11)
    have pre5 : ∀ t, Steps p.tables e below (T4.setTop (mkF m 15 #[.val (.ref ra), .val (.long hq), .second] [(.int (lcmpW hq w_upper))])) t → Steps p.tables e below (s₁.setTop (entryFrame m #[(.ref ra), (.long hq)] 3)) t := by
      intro t k
      refine pre2 _ ?_
      show Steps p.tables e below (T1.setTop (mkF m 6 #[.val (.ref ra), .val (.long hq), .second] [(.int (lcmpW hq w_lower))])) _
      refine XS.ifNo X1.here hx rfl (hb hby d8_6) rfl (own_tltL hk3).2.2.2 ?_
      show Steps p.tables e below (T1.setTop (mkF m 9 #[.val (.ref ra), .val (.long hq), .second] [])) _
      refine XS.lloadN X1.here hx rfl (hb hby d8_9) rfl ?_
      show Steps p.tables e below (T1.setTop (mkF m 10 #[.val (.ref ra), .val (.long hq), .second] [(.long hq)])) _
      refine XS.aloadN X1.here hx rfl (hb hby d8_10) rfl rfl ?_
      show Steps p.tables e below (T1.setTop (mkF m 11 #[.val (.ref ra), .val (.long hq), .second] [(.ref ra), (.long hq)])) _
      refine st4 _ ?_
      show Steps p.tables e below (T4.setTop (mkF m 14 #[.val (.ref ra), .val (.long hq), .second] [(.long w_upper), (.long hq)])) _
      refine XS.lcmp X4.here hx rfl (hb hby d8_14) rfl ?_
      exact k
    by_cases hk6 : hq < w_upper
    · obtain ⟨fs, hr, hrun, hended, hW, hsame⟩ := X4.leave (v := some (.int (1 : Int32))) (fun h => by rw [Bd.returns] at h; cases h)
      refine ⟨_, _, pre5 _ ?_, hrun, hended, _, _, rfl, ?_, ⟨_, rfl⟩, hW, hsame.mono (by decide) (by decide)⟩
      · show Steps p.tables e below (T4.setTop (mkF m 15 #[.val (.ref ra), .val (.long hq), .second] [(.int (lcmpW hq w_upper))])) _
        refine XS.ifNo X4.here hx rfl (hb hby d8_15) rfl (own_tltL hk6).2.1 ?_
        show Steps p.tables e below (T4.setTop (mkF m 18 #[.val (.ref ra), .val (.long hq), .second] [])) _
        refine XS.iconst X4.here hx rfl (hb hby d8_18) ?_
        show Steps p.tables e below (T4.setTop (mkF m 19 #[.val (.ref ra), .val (.long hq), .second] [(.int (1 : Int32))])) _
        refine XS.goto X4.here hx rfl (pc0 := 19) (pc' := 23) rfl (hb hby d8_19) (by decide) (by decide) ?_
        show Steps p.tables e below (T4.setTop (mkF m 23 #[.val (.ref ra), .val (.long hq), .second] [(.int (1 : Int32))])) _
        exact retN X4 hx (t := .boolean) Bd.returns (by simp) (hb hby d8_23) hr
      · show Q8 Z ra hq w_lower w_upper h0 n0 _ T4.heap _
        rw [e4]
        have ev7 : (r8_v hq w_lower w_upper) = (1 : Int32) := by unfold r8_v; rw [if_pos hk3, if_pos hk6]
        exact ⟨(congrArg (fun z => some (Value.int z)) ev7.symm), N0, rfl⟩
    · obtain ⟨fs, hr, hrun, hended, hW, hsame⟩ := X4.leave (v := some (.int (0 : Int32))) (fun h => by rw [Bd.returns] at h; cases h)
      refine ⟨_, _, pre5 _ ?_, hrun, hended, _, _, rfl, ?_, ⟨_, rfl⟩, hW, hsame.mono (by decide) (by decide)⟩
      · show Steps p.tables e below (T4.setTop (mkF m 15 #[.val (.ref ra), .val (.long hq), .second] [(.int (lcmpW hq w_upper))])) _
        refine XS.ifYes X4.here hx rfl (pc0 := 15) (pc' := 22) rfl (hb hby d8_15) rfl (own_fltL hk6).2.1 (by decide) (by decide) ?_
        show Steps p.tables e below (T4.setTop (mkF m 22 #[.val (.ref ra), .val (.long hq), .second] [])) _
        refine XS.iconst X4.here hx rfl (hb hby d8_22) ?_
        show Steps p.tables e below (T4.setTop (mkF m 23 #[.val (.ref ra), .val (.long hq), .second] [(.int (0 : Int32))])) _
        exact retN X4 hx (t := .boolean) Bd.returns (by simp) (hb hby d8_23) hr
      · show Q8 Z ra hq w_lower w_upper h0 n0 _ T4.heap _
        rw [e4]
        have ev8 : (r8_v hq w_lower w_upper) = (0 : Int32) := by unfold r8_v; rw [if_pos hk3, if_neg hk6]
        exact ⟨(congrArg (fun z => some (Value.int z)) ev8.symm), N0, rfl⟩
  · obtain ⟨fs, hr, hrun, hended, hW, hsame⟩ := X1.leave (v := some (.int (0 : Int32))) (fun h => by rw [Bd.returns] at h; cases h)
    refine ⟨_, _, pre2 _ ?_, hrun, hended, _, _, rfl, ?_, ⟨_, rfl⟩, hW, hsame.mono (by decide) (by decide)⟩
    · show Steps p.tables e below (T1.setTop (mkF m 6 #[.val (.ref ra), .val (.long hq), .second] [(.int (lcmpW hq w_lower))])) _
      refine XS.ifYes X1.here hx rfl (pc0 := 6) (pc' := 22) rfl (hb hby d8_6) rfl (own_fltL hk3).2.2.2 (by decide) (by decide) ?_
      show Steps p.tables e below (T1.setTop (mkF m 22 #[.val (.ref ra), .val (.long hq), .second] [])) _
      refine XS.iconst X1.here hx rfl (hb hby d8_22) ?_
      show Steps p.tables e below (T1.setTop (mkF m 23 #[.val (.ref ra), .val (.long hq), .second] [(.int (0 : Int32))])) _
      exact retN X1 hx (t := .boolean) Bd.returns (by simp) (hb hby d8_23) hr
    · show Q8 Z ra hq w_lower w_upper h0 n0 _ T1.heap _
      rw [e1]
      have ev9 : (r8_v hq w_lower w_upper) = (0 : Int32) := by unfold r8_v; rw [if_neg hk3]
      exact ⟨(congrArg (fun z => some (Value.int z)) ev9.symm), N0, rfl⟩
theorem ef_9 (m : MethodId) (ra : Addr) (hq : Int64) : entryFrame m #[(.ref ra), (.long hq)] 3 = mkF m 0 #[.val (.ref ra), .val (.long hq), .second] [] := by first | (simp [entryFrame, mkF, argsToLocals, Value.category]; done) | rfl
theorem d9_0 : decode prog_10_method_3_code 0 = .ok (.lload_n 1, 1) := by decide +kernel
theorem d9_1 : decode prog_10_method_3_code 1 = .ok (.aload_n 0, 1) := by decide +kernel
theorem d9_2 : decode prog_10_method_3_code 2 = .ok (.getfield 28, 3) := by decide +kernel
theorem d9_5 : decode prog_10_method_3_code 5 = .ok (.lcmp, 1) := by decide +kernel
theorem d9_6 : decode prog_10_method_3_code 6 = .ok (.ifCond .lt 36, 3) := by decide +kernel
theorem d9_42 : decode prog_10_method_3_code 42 = .ok (.iconst 0, 1) := by decide +kernel
theorem d9_43 : decode prog_10_method_3_code 43 = .ok (.ireturn, 1) := by decide +kernel
theorem d9_9 : decode prog_10_method_3_code 9 = .ok (.lload_n 1, 1) := by decide +kernel
theorem d9_10 : decode prog_10_method_3_code 10 = .ok (.aload_n 0, 1) := by decide +kernel
theorem d9_11 : decode prog_10_method_3_code 11 = .ok (.getfield 32, 3) := by decide +kernel
theorem d9_14 : decode prog_10_method_3_code 14 = .ok (.lcmp, 1) := by decide +kernel
theorem d9_15 : decode prog_10_method_3_code 15 = .ok (.ifCond .lt 23, 3) := by decide +kernel
theorem d9_38 : decode prog_10_method_3_code 38 = .ok (.iconst 1, 1) := by decide +kernel
theorem d9_39 : decode prog_10_method_3_code 39 = .ok (.goto 4, 3) := by decide +kernel
theorem d9_18 : decode prog_10_method_3_code 18 = .ok (.aload_n 0, 1) := by decide +kernel
theorem d9_19 : decode prog_10_method_3_code 19 = .ok (.getfield 32, 3) := by decide +kernel
theorem d9_22 : decode prog_10_method_3_code 22 = .ok (.ldc2_w 64, 3) := by decide +kernel
theorem d9_25 : decode prog_10_method_3_code 25 = .ok (.lcmp, 1) := by decide +kernel
theorem d9_26 : decode prog_10_method_3_code 26 = .ok (.ifCond .ne 16, 3) := by decide +kernel
theorem d9_29 : decode prog_10_method_3_code 29 = .ok (.lload_n 1, 1) := by decide +kernel
theorem d9_30 : decode prog_10_method_3_code 30 = .ok (.aload_n 0, 1) := by decide +kernel
theorem d9_31 : decode prog_10_method_3_code 31 = .ok (.getfield 32, 3) := by decide +kernel
theorem d9_34 : decode prog_10_method_3_code 34 = .ok (.lcmp, 1) := by decide +kernel
theorem d9_35 : decode prog_10_method_3_code 35 = .ok (.ifCond .ne 7, 3) := by decide +kernel
def r9_v (hq : Int64) (w_lower : Int64) (w_upper : Int64) : Int32 := (if hq < w_lower then (0 : Int32) else (if hq < w_upper then (1 : Int32) else (if w_upper = (4294967295 : Int64) then (if hq = w_upper then (1 : Int32) else (0 : Int32)) else (0 : Int32))))
def Q9 (Z : State) (ra : Addr) (hq : Int64) (w_lower : Int64) (w_upper : Int64) (h0 : Heap) (n0 : Nat) (v : Option Value) (h : Heap) (L : List Loc) : Prop := v = some (.int (r9_v hq w_lower w_upper)) ∧ Fr n0 L ∧ h = h0
set_option maxRecDepth 65536 in
set_option maxHeartbeats 40000000 in
theorem rm9 (l : Launch) (Z : State) (a0 : Array Value) (hw : ∀ d ∈ tables_1, d.before a0 Z = true) (ws : List Jvm.Cond) (ra : Addr) (hq : Int64) (w_lower : Int64) (w_upper : Int64) (h0 : Heap) (n0 : Nat) (Z0 : n0 ≤ h0.size) (F_lower_ra : Fld Z h0 ra "com/example/bundles_to_brokers/bundlestobrokers/model/BundleRange" "lower" "J" (.long w_lower)) (F_upper_ra : Fld Z h0 ra "com/example/bundles_to_brokers/bundlestobrokers/model/BundleRange" "upper" "J" (.long w_upper)) :
    MetFree l (⟨"com/example/bundles_to_brokers/bundlestobrokers/model/BundleRange", "contains", "(J)Z"⟩ : MethodName) (head1 (Jvm.Cond.code (⟨"com/example/bundles_to_brokers/bundlestobrokers/model/BundleRange", "contains", "(J)Z"⟩ : MethodName) prog_10_method_3_code 3 (some .boolean) :: ws) ({ frames := 0, cells := 0, slots := 0, locals := 0 } : Room)) (fun a U => a = #[(.ref ra), (.long hq)] ∧ Z.Warmed39 U.vm ∧ U.heap = h0) (fun _ _ _ _ _ => True) (fun _ U o U' => ∃ v L, o = .returned v ∧ Q9 Z ra hq w_lower w_upper h0 n0 v U'.heap L ∧ FrameEnd U o U' L ({ frames := 0, cells := 0, slots := 0, locals := 0 } : Room).cells ({ frames := 0, cells := 0, slots := 0, locals := 0 } : Room).slots) := by
  refine MetFree.of_bodySF (plainFor_of_name pn_com_example_bundles_to_brokers_bundlestobrokers_model_BundleRange) hisR ?_
  intro p e s m args below meth c s₁ Bd hml0 hP hK
  obtain ⟨rfl, hZ, hh⟩ := hP
  have hx := Bd.exec
  have hby := Bd.bytes
  have hml : c.maxLocals = 3 := hml0
  have hown : s.vm.findClass "com/example/bundles_to_brokers/bundlestobrokers/model/BundleRange" = some m.cls := findClass_of_methodNamed Bd.named
  have hnm := (name_of_methodNamed Bd.named Bd.method).1
  have X0 : Stand p l e ({ frames := 0, cells := 0, slots := 0, locals := 0 } : Room) s m #[(.ref ra), (.long hq)] below meth c s₁ [] 0 0 := Stand.of_body Bd
  have e0 : s₁.heap = h0 := by rw [← hh, Bd.state]; rfl
  have N0 := Fr.nil n0
  have K0 : Keep h0 h0 [] := Keep.refl h0 _
  have pre0 : ∀ t, Steps p.tables e below (s₁.setTop (mkF m 0 #[.val (.ref ra), .val (.long hq), .second] [])) t → Steps p.tables e below (s₁.setTop (entryFrame m #[(.ref ra), (.long hq)] 3)) t := fun t k => castTop (ef_9 m ra hq) k
  obtain ⟨T1, X1, e1, st1⟩ := getF X0 hx hZ hown (host := "") (Or.inl (hw _ (List.mem_of_getElem? (i := 31) rfl))) Via.refl e0 F_lower_ra (g := (mkF m 2 #[.val (.ref ra), .val (.long hq), .second] [(.ref ra), (.long hq)])) rfl rfl (hb hby d9_2)
  have pre2 : ∀ t, Steps p.tables e below (T1.setTop (mkF m 6 #[.val (.ref ra), .val (.long hq), .second] [(.int (lcmpW hq w_lower))])) t → Steps p.tables e below (s₁.setTop (entryFrame m #[(.ref ra), (.long hq)] 3)) t := by
    intro t k
    refine pre0 _ ?_
    show Steps p.tables e below (s₁.setTop (mkF m 0 #[.val (.ref ra), .val (.long hq), .second] [])) _
    refine XS.lloadN X0.here hx rfl (hb hby d9_0) rfl ?_
    show Steps p.tables e below (s₁.setTop (mkF m 1 #[.val (.ref ra), .val (.long hq), .second] [(.long hq)])) _
    refine XS.aloadN X0.here hx rfl (hb hby d9_1) rfl rfl ?_
    show Steps p.tables e below (s₁.setTop (mkF m 2 #[.val (.ref ra), .val (.long hq), .second] [(.ref ra), (.long hq)])) _
    refine st1 _ ?_
    show Steps p.tables e below (T1.setTop (mkF m 5 #[.val (.ref ra), .val (.long hq), .second] [(.long w_lower), (.long hq)])) _
    refine XS.lcmp X1.here hx rfl (hb hby d9_5) rfl ?_
    exact k
  by_cases hk3 : hq < w_lower
  · obtain ⟨fs, hr, hrun, hended, hW, hsame⟩ := X1.leave (v := some (.int (0 : Int32))) (fun h => by rw [Bd.returns] at h; cases h)
    refine ⟨_, _, pre2 _ ?_, hrun, hended, _, _, rfl, ?_, ⟨_, rfl⟩, hW, hsame.mono (by decide) (by decide)⟩
    · show Steps p.tables e below (T1.setTop (mkF m 6 #[.val (.ref ra), .val (.long hq), .second] [(.int (lcmpW hq w_lower))])) _
      refine XS.ifYes X1.here hx rfl (pc0 := 6) (pc' := 42) rfl (hb hby d9_6) rfl (own_tltL hk3).1 (by decide) (by decide) ?_
      show Steps p.tables e below (T1.setTop (mkF m 42 #[.val (.ref ra), .val (.long hq), .second] [])) _
      refine XS.iconst X1.here hx rfl (hb hby d9_42) ?_
      show Steps p.tables e below (T1.setTop (mkF m 43 #[.val (.ref ra), .val (.long hq), .second] [(.int (0 : Int32))])) _
      exact retN X1 hx (t := .boolean) Bd.returns (by simp) (hb hby d9_43) hr
    · show Q9 Z ra hq w_lower w_upper h0 n0 _ T1.heap _
      rw [e1]
      have ev13 : (r9_v hq w_lower w_upper) = (0 : Int32) := by unfold r9_v; rw [if_pos hk3]
      exact ⟨(congrArg (fun z => some (Value.int z)) ev13.symm), N0, rfl⟩
  · obtain ⟨T4, X4, e4, st4⟩ := getF X1 hx hZ hown (host := "") (Or.inl (hw _ (List.mem_of_getElem? (i := 33) rfl))) Via.refl e1 F_upper_ra (g := (mkF m 11 #[.val (.ref ra), .val (.long hq), .second] [(.ref ra), (.long hq)])) rfl rfl (hb hby d9_11)
    have pre5 : ∀ t, Steps p.tables e below (T4.setTop (mkF m 15 #[.val (.ref ra), .val (.long hq), .second] [(.int (lcmpW hq w_upper))])) t → Steps p.tables e below (s₁.setTop (entryFrame m #[(.ref ra), (.long hq)] 3)) t := by
      intro t k
      refine pre2 _ ?_
      show Steps p.tables e below (T1.setTop (mkF m 6 #[.val (.ref ra), .val (.long hq), .second] [(.int (lcmpW hq w_lower))])) _
      refine XS.ifNo X1.here hx rfl (hb hby d9_6) rfl (own_fltL hk3).1 ?_
      show Steps p.tables e below (T1.setTop (mkF m 9 #[.val (.ref ra), .val (.long hq), .second] [])) _
      refine XS.lloadN X1.here hx rfl (hb hby d9_9) rfl ?_
      show Steps p.tables e below (T1.setTop (mkF m 10 #[.val (.ref ra), .val (.long hq), .second] [(.long hq)])) _
      refine XS.aloadN X1.here hx rfl (hb hby d9_10) rfl rfl ?_
      show Steps p.tables e below (T1.setTop (mkF m 11 #[.val (.ref ra), .val (.long hq), .second] [(.ref ra), (.long hq)])) _
      refine st4 _ ?_
      show Steps p.tables e below (T4.setTop (mkF m 14 #[.val (.ref ra), .val (.long hq), .second] [(.long w_upper), (.long hq)])) _
      refine XS.lcmp X4.here hx rfl (hb hby d9_14) rfl ?_
      exact k
    by_cases hk6 : hq < w_upper
    · obtain ⟨fs, hr, hrun, hended, hW, hsame⟩ := X4.leave (v := some (.int (1 : Int32))) (fun h => by rw [Bd.returns] at h; cases h)
      refine ⟨_, _, pre5 _ ?_, hrun, hended, _, _, rfl, ?_, ⟨_, rfl⟩, hW, hsame.mono (by decide) (by decide)⟩
      · show Steps p.tables e below (T4.setTop (mkF m 15 #[.val (.ref ra), .val (.long hq), .second] [(.int (lcmpW hq w_upper))])) _
        refine XS.ifYes X4.here hx rfl (pc0 := 15) (pc' := 38) rfl (hb hby d9_15) rfl (own_tltL hk6).1 (by decide) (by decide) ?_
        show Steps p.tables e below (T4.setTop (mkF m 38 #[.val (.ref ra), .val (.long hq), .second] [])) _
        refine XS.iconst X4.here hx rfl (hb hby d9_38) ?_
        show Steps p.tables e below (T4.setTop (mkF m 39 #[.val (.ref ra), .val (.long hq), .second] [(.int (1 : Int32))])) _
        refine XS.goto X4.here hx rfl (pc0 := 39) (pc' := 43) rfl (hb hby d9_39) (by decide) (by decide) ?_
        show Steps p.tables e below (T4.setTop (mkF m 43 #[.val (.ref ra), .val (.long hq), .second] [(.int (1 : Int32))])) _
        exact retN X4 hx (t := .boolean) Bd.returns (by simp) (hb hby d9_43) hr
      · show Q9 Z ra hq w_lower w_upper h0 n0 _ T4.heap _
        rw [e4]
        have ev14 : (r9_v hq w_lower w_upper) = (1 : Int32) := by unfold r9_v; rw [if_neg hk3, if_pos hk6]
        exact ⟨(congrArg (fun z => some (Value.int z)) ev14.symm), N0, rfl⟩
    · obtain ⟨T7, X7, e7, st7⟩ := getF X4 hx hZ hown (host := "") (Or.inl (hw _ (List.mem_of_getElem? (i := 33) rfl))) Via.refl e4 F_upper_ra (g := (mkF m 19 #[.val (.ref ra), .val (.long hq), .second] [(.ref ra)])) rfl rfl (hb hby d9_19)
      have pre8 : ∀ t, Steps p.tables e below (T7.setTop (mkF m 26 #[.val (.ref ra), .val (.long hq), .second] [(.int (lcmpW w_upper (4294967295 : Int64)))])) t → Steps p.tables e below (s₁.setTop (entryFrame m #[(.ref ra), (.long hq)] 3)) t := by
        intro t k
        refine pre5 _ ?_
        show Steps p.tables e below (T4.setTop (mkF m 15 #[.val (.ref ra), .val (.long hq), .second] [(.int (lcmpW hq w_upper))])) _
        refine XS.ifNo X4.here hx rfl (hb hby d9_15) rfl (own_fltL hk6).1 ?_
        show Steps p.tables e below (T4.setTop (mkF m 18 #[.val (.ref ra), .val (.long hq), .second] [])) _
        refine XS.aloadN X4.here hx rfl (hb hby d9_18) rfl rfl ?_
        show Steps p.tables e below (T4.setTop (mkF m 19 #[.val (.ref ra), .val (.long hq), .second] [(.ref ra)])) _
        refine st7 _ ?_
        show Steps p.tables e below (T7.setTop (mkF m 22 #[.val (.ref ra), .val (.long hq), .second] [(.long w_upper)])) _
        refine X7.ldc2Long hx hown (mvT hZ (hw _ (List.mem_of_getElem? (i := 45) rfl))) (g := (mkF m 22 #[.val (.ref ra), .val (.long hq), .second] [(.long w_upper)])) rfl (hb hby d9_22) _ ?_
        show Steps p.tables e below (T7.setTop (mkF m 25 #[.val (.ref ra), .val (.long hq), .second] [(.long (4294967295 : Int64)), (.long w_upper)])) _
        refine XS.lcmp X7.here hx rfl (hb hby d9_25) rfl ?_
        exact k
      by_cases hk9 : w_upper = (4294967295 : Int64)
      · obtain ⟨T10, X10, e10, st10⟩ := getF X7 hx hZ hown (host := "") (Or.inl (hw _ (List.mem_of_getElem? (i := 33) rfl))) Via.refl e7 F_upper_ra (g := (mkF m 31 #[.val (.ref ra), .val (.long hq), .second] [(.ref ra), (.long hq)])) rfl rfl (hb hby d9_31)
        have pre11 : ∀ t, Steps p.tables e below (T10.setTop (mkF m 35 #[.val (.ref ra), .val (.long hq), .second] [(.int (lcmpW hq w_upper))])) t → Steps p.tables e below (s₁.setTop (entryFrame m #[(.ref ra), (.long hq)] 3)) t := by
          intro t k
          refine pre8 _ ?_
          show Steps p.tables e below (T7.setTop (mkF m 26 #[.val (.ref ra), .val (.long hq), .second] [(.int (lcmpW w_upper (4294967295 : Int64)))])) _
          refine XS.ifNo X7.here hx rfl (hb hby d9_26) rfl (own_teqL hk9).2 ?_
          show Steps p.tables e below (T7.setTop (mkF m 29 #[.val (.ref ra), .val (.long hq), .second] [])) _
          refine XS.lloadN X7.here hx rfl (hb hby d9_29) rfl ?_
          show Steps p.tables e below (T7.setTop (mkF m 30 #[.val (.ref ra), .val (.long hq), .second] [(.long hq)])) _
          refine XS.aloadN X7.here hx rfl (hb hby d9_30) rfl rfl ?_
          show Steps p.tables e below (T7.setTop (mkF m 31 #[.val (.ref ra), .val (.long hq), .second] [(.ref ra), (.long hq)])) _
          refine st10 _ ?_
          show Steps p.tables e below (T10.setTop (mkF m 34 #[.val (.ref ra), .val (.long hq), .second] [(.long w_upper), (.long hq)])) _
          refine XS.lcmp X10.here hx rfl (hb hby d9_34) rfl ?_
          exact k
        by_cases hk12 : hq = w_upper
        · obtain ⟨fs, hr, hrun, hended, hW, hsame⟩ := X10.leave (v := some (.int (1 : Int32))) (fun h => by rw [Bd.returns] at h; cases h)
          refine ⟨_, _, pre11 _ ?_, hrun, hended, _, _, rfl, ?_, ⟨_, rfl⟩, hW, hsame.mono (by decide) (by decide)⟩
          · show Steps p.tables e below (T10.setTop (mkF m 35 #[.val (.ref ra), .val (.long hq), .second] [(.int (lcmpW hq w_upper))])) _
            refine XS.ifNo X10.here hx rfl (hb hby d9_35) rfl (own_teqL hk12).2 ?_
            show Steps p.tables e below (T10.setTop (mkF m 38 #[.val (.ref ra), .val (.long hq), .second] [])) _
            refine XS.iconst X10.here hx rfl (hb hby d9_38) ?_
            show Steps p.tables e below (T10.setTop (mkF m 39 #[.val (.ref ra), .val (.long hq), .second] [(.int (1 : Int32))])) _
            refine XS.goto X10.here hx rfl (pc0 := 39) (pc' := 43) rfl (hb hby d9_39) (by decide) (by decide) ?_
            show Steps p.tables e below (T10.setTop (mkF m 43 #[.val (.ref ra), .val (.long hq), .second] [(.int (1 : Int32))])) _
            exact retN X10 hx (t := .boolean) Bd.returns (by simp) (hb hby d9_43) hr
          · show Q9 Z ra hq w_lower w_upper h0 n0 _ T10.heap _
            rw [e10]
            have ev15 : (r9_v hq w_lower w_upper) = (1 : Int32) := by unfold r9_v; rw [if_neg hk3, if_neg hk6, if_pos hk9, if_pos hk12]
            exact ⟨(congrArg (fun z => some (Value.int z)) ev15.symm), N0, rfl⟩
        · obtain ⟨fs, hr, hrun, hended, hW, hsame⟩ := X10.leave (v := some (.int (0 : Int32))) (fun h => by rw [Bd.returns] at h; cases h)
          refine ⟨_, _, pre11 _ ?_, hrun, hended, _, _, rfl, ?_, ⟨_, rfl⟩, hW, hsame.mono (by decide) (by decide)⟩
          · show Steps p.tables e below (T10.setTop (mkF m 35 #[.val (.ref ra), .val (.long hq), .second] [(.int (lcmpW hq w_upper))])) _
            refine XS.ifYes X10.here hx rfl (pc0 := 35) (pc' := 42) rfl (hb hby d9_35) rfl (own_feqL hk12).2 (by decide) (by decide) ?_
            show Steps p.tables e below (T10.setTop (mkF m 42 #[.val (.ref ra), .val (.long hq), .second] [])) _
            refine XS.iconst X10.here hx rfl (hb hby d9_42) ?_
            show Steps p.tables e below (T10.setTop (mkF m 43 #[.val (.ref ra), .val (.long hq), .second] [(.int (0 : Int32))])) _
            exact retN X10 hx (t := .boolean) Bd.returns (by simp) (hb hby d9_43) hr
          · show Q9 Z ra hq w_lower w_upper h0 n0 _ T10.heap _
            rw [e10]
            have ev16 : (r9_v hq w_lower w_upper) = (0 : Int32) := by unfold r9_v; rw [if_neg hk3, if_neg hk6, if_pos hk9, if_neg hk12]
            exact ⟨(congrArg (fun z => some (Value.int z)) ev16.symm), N0, rfl⟩
      · obtain ⟨fs, hr, hrun, hended, hW, hsame⟩ := X7.leave (v := some (.int (0 : Int32))) (fun h => by rw [Bd.returns] at h; cases h)
        refine ⟨_, _, pre8 _ ?_, hrun, hended, _, _, rfl, ?_, ⟨_, rfl⟩, hW, hsame.mono (by decide) (by decide)⟩
        · show Steps p.tables e below (T7.setTop (mkF m 26 #[.val (.ref ra), .val (.long hq), .second] [(.int (lcmpW w_upper (4294967295 : Int64)))])) _
          refine XS.ifYes X7.here hx rfl (pc0 := 26) (pc' := 42) rfl (hb hby d9_26) rfl (own_feqL hk9).2 (by decide) (by decide) ?_
          show Steps p.tables e below (T7.setTop (mkF m 42 #[.val (.ref ra), .val (.long hq), .second] [])) _
          refine XS.iconst X7.here hx rfl (hb hby d9_42) ?_
          show Steps p.tables e below (T7.setTop (mkF m 43 #[.val (.ref ra), .val (.long hq), .second] [(.int (0 : Int32))])) _
          exact retN X7 hx (t := .boolean) Bd.returns (by simp) (hb hby d9_43) hr
        · show Q9 Z ra hq w_lower w_upper h0 n0 _ T7.heap _
          rw [e7]
          have ev17 : (r9_v hq w_lower w_upper) = (0 : Int32) := by unfold r9_v; rw [if_neg hk3, if_neg hk6, if_neg hk9]
          exact ⟨(congrArg (fun z => some (Value.int z)) ev17.symm), N0, rfl⟩
theorem ef_0 (m : MethodId) (xx : Int64) (yy : Int64) (pv : Int64) (mo : Int32) : entryFrame m #[(.long xx), (.long yy), (.long pv), (.int mo)] maxLocals = mkF m 0 #[.val (.long xx), .second, .val (.long yy), .second, .val (.long pv), .second, .val (.int mo), .unset, .unset, .unset, .unset, .unset, .unset, .unset, .unset, .unset, .unset, .unset, .unset, .unset] [] := by first | (simp [entryFrame, mkF, argsToLocals, Value.category, maxLocals]; done) | rfl
theorem pd_2 : parseMethodDescriptor "(JJ)J" = some ⟨[.long, .long], some .long⟩ := by decide +kernel
theorem pd_3 : parseMethodDescriptor "(IJJJ)J" = some ⟨[.int, .long, .long, .long], some .long⟩ := by decide +kernel
theorem pd_4 : parseMethodDescriptor "(JJ)V" = some ⟨[.long, .long], none⟩ := by decide +kernel
theorem pd_5 : parseMethodDescriptor "(J)Z" = some ⟨[.long], some .boolean⟩ := by decide +kernel
def j0_32_l11 (xx : Int64) (yy : Int64) : Int64 := (if (r1_v (xx &&& (4294967295 : Int64)) (yy &&& (4294967295 : Int64))) = (r2_v (xx &&& (4294967295 : Int64)) (yy &&& (4294967295 : Int64))) then (if (r2_v (xx &&& (4294967295 : Int64)) (yy &&& (4294967295 : Int64))) < (4294967295 : Int64) then (r1_v (xx &&& (4294967295 : Int64)) (yy &&& (4294967295 : Int64))) else ((r1_v (xx &&& (4294967295 : Int64)) (yy &&& (4294967295 : Int64))) - (1 : Int64))) else (r1_v (xx &&& (4294967295 : Int64)) (yy &&& (4294967295 : Int64))))
def j0_32_l13 (xx : Int64) (yy : Int64) : Int64 := (if (r1_v (xx &&& (4294967295 : Int64)) (yy &&& (4294967295 : Int64))) = (r2_v (xx &&& (4294967295 : Int64)) (yy &&& (4294967295 : Int64))) then (if (r2_v (xx &&& (4294967295 : Int64)) (yy &&& (4294967295 : Int64))) < (4294967295 : Int64) then ((r2_v (xx &&& (4294967295 : Int64)) (yy &&& (4294967295 : Int64))) + (1 : Int64)) else (r2_v (xx &&& (4294967295 : Int64)) (yy &&& (4294967295 : Int64)))) else (r2_v (xx &&& (4294967295 : Int64)) (yy &&& (4294967295 : Int64))))
def j0_109_l19 (xx : Int64) (yy : Int64) (pv : Int64) (mo : Int32) : Int32 := (if (r9_v (r3_v (mo &&& (7 : Int32)) (j0_32_l11 xx yy) (j0_32_l13 xx yy) pv) (j0_32_l11 xx yy) (j0_32_l13 xx yy)) = (0 : Int32) then (0 : Int32) else (if (r3_v (mo &&& (7 : Int32)) (j0_32_l11 xx yy) (j0_32_l13 xx yy) pv) = (j0_32_l11 xx yy) then (0 : Int32) else (if (r3_v (mo &&& (7 : Int32)) (j0_32_l11 xx yy) (j0_32_l13 xx yy) pv) = (j0_32_l13 xx yy) then (0 : Int32) else (1 : Int32))))
theorem own_mm (xa xb : Int64) : (r1_v xa xb).toInt ≤ (r2_v xa xb).toInt ∧ ((r1_v xa xb).toInt = xa.toInt ∨ (r1_v xa xb).toInt = xb.toInt) ∧ ((r2_v xa xb).toInt = xa.toInt ∨ (r2_v xa xb).toInt = xb.toInt) := by
  unfold r1_v r2_v
  simp only [Int64.lt_iff_toInt_lt, Int32.reduceToInt, Int64.reduceToInt]
  repeat' split
  all_goals first | omega | (simp only [Int32.reduceToInt, Int64.reduceToInt] at *; omega) | (simp at *; done) | (simp at *; omega)
theorem own_lh (xx yy : Int64) : 0 ≤ (j0_32_l11 xx yy).toInt ∧ (j0_32_l11 xx yy).toInt < (j0_32_l13 xx yy).toInt ∧ (j0_32_l13 xx yy).toInt ≤ 4294967295 := by
  unfold j0_32_l11 j0_32_l13
  have := own_mm (xx &&& (4294967295 : Int64)) (yy &&& (4294967295 : Int64))
  have : 0 ≤ (xx &&& (4294967295 : Int64)).toInt ∧ (xx &&& (4294967295 : Int64)).toInt ≤ 4294967295 := own_maskL xx (4294967295 : Int64) 32 4294967295 rfl (by decide) (by decide)
  generalize (xx &&& (4294967295 : Int64)) = u1_ at *
  have : 0 ≤ (yy &&& (4294967295 : Int64)).toInt ∧ (yy &&& (4294967295 : Int64)).toInt ≤ 4294967295 := own_maskL yy (4294967295 : Int64) 32 4294967295 rfl (by decide) (by decide)
  generalize (yy &&& (4294967295 : Int64)) = u2_ at *
  generalize (r2_v u1_ u2_) = u3_ at *
  first | have : (u3_ + (1 : Int64)).toInt = u3_.toInt + 1 := own_ladd rfl rfl (by omega) (by omega) | (have := c_ladd u3_ (1 : Int64); simp only [Int32.reduceToInt, Int64.reduceToInt] at this; have := rng64 (u3_ + (1 : Int64)))
  generalize (u3_ + (1 : Int64)) = u4_ at *
  generalize (r1_v u1_ u2_) = u5_ at *
  first | have : (u5_ - (1 : Int64)).toInt = u5_.toInt - 1 := own_lsub rfl rfl (by omega) (by omega) | (have := c_lsub u5_ (1 : Int64); simp only [Int32.reduceToInt, Int64.reduceToInt] at this; have := rng64 (u5_ - (1 : Int64)))
  generalize (u5_ - (1 : Int64)) = u6_ at *
  try simp only [Int32.reduceToInt, Int64.reduceToInt] at *
  simp only [Int64.lt_iff_toInt_lt, ← Int64.toInt_inj, Int32.reduceToInt, Int64.reduceToInt]
  repeat' split
  all_goals first | omega | (simp only [Int32.reduceToInt, Int64.reduceToInt] at *; omega) | (simp at *; done) | (simp at *; omega)
theorem own_l0 (xx yy : Int64) : ¬ ((j0_32_l11 xx yy) < (0 : Int64)) := by
  have := own_lh xx yy
  try simp only [Int32.reduceToInt, Int64.reduceToInt] at *
  simp only [Int64.lt_iff_toInt_lt, ← Int64.toInt_inj, ne_eq, Int32.reduceToInt, Int64.reduceToInt]
  omega
theorem own_l1 (xx yy : Int64) : ¬ ((4294967295 : Int64) < (j0_32_l11 xx yy)) := by
  have := own_lh xx yy
  try simp only [Int32.reduceToInt, Int64.reduceToInt] at *
  simp only [Int64.lt_iff_toInt_lt, ← Int64.toInt_inj, ne_eq, Int32.reduceToInt, Int64.reduceToInt]
  omega
theorem own_h0 (xx yy : Int64) : ¬ ((j0_32_l13 xx yy) < (0 : Int64)) := by
  have := own_lh xx yy
  try simp only [Int32.reduceToInt, Int64.reduceToInt] at *
  simp only [Int64.lt_iff_toInt_lt, ← Int64.toInt_inj, ne_eq, Int32.reduceToInt, Int64.reduceToInt]
  omega
theorem own_h1 (xx yy : Int64) : ¬ ((4294967295 : Int64) < (j0_32_l13 xx yy)) := by
  have := own_lh xx yy
  try simp only [Int32.reduceToInt, Int64.reduceToInt] at *
  simp only [Int64.lt_iff_toInt_lt, ← Int64.toInt_inj, ne_eq, Int32.reduceToInt, Int64.reduceToInt]
  omega
theorem own_lt (xx yy : Int64) : (j0_32_l11 xx yy) < (j0_32_l13 xx yy) := by
  have := own_lh xx yy
  try simp only [Int32.reduceToInt, Int64.reduceToInt] at *
  simp only [Int64.lt_iff_toInt_lt, ← Int64.toInt_inj, ne_eq, Int32.reduceToInt, Int64.reduceToInt]
  omega
theorem own_r9 (p l h : Int64) : ((r9_v p l h) = (0 : Int32)) ↔ (p < l ∨ (¬ p < h ∧ ¬ (h = (4294967295 : Int64) ∧ p = h))) := by
  unfold r9_v
  by_cases c1 : p < l
  · simp [c1]
  · by_cases c2 : p < h
    · simp [c1, c2]
    · by_cases c3 : h = (4294967295 : Int64)
      · by_cases c4 : p = h
        · rw [if_neg c1, if_neg c2, if_pos c3, if_pos c4]; simp [c1, c2, c3, c4]; rw [c4, c3] at c1; simpa using c1
        · rw [if_neg c1, if_neg c2, if_pos c3, if_neg c4]; simp [c2, c4]
      · rw [if_neg c1, if_neg c2, if_neg c3]; simp [c2, c3]
theorem own_fin (xx yy pv : Int64) (mo : Int32) : (r8_v (r3_v (mo &&& (7 : Int32)) (j0_32_l11 xx yy) (j0_32_l13 xx yy) pv) (j0_32_l11 xx yy) (j0_32_l13 xx yy)) = (j0_109_l19 xx yy pv mo) := by
  have := own_lh xx yy
  unfold j0_109_l19
  generalize (r3_v (mo &&& (7 : Int32)) (j0_32_l11 xx yy) (j0_32_l13 xx yy) pv) = pos
  simp only [own_r9]
  unfold r8_v
  try simp only [Int32.reduceToInt, Int64.reduceToInt] at *
  simp only [Int64.lt_iff_toInt_lt, ← Int64.toInt_inj, Int32.reduceToInt, Int64.reduceToInt]
  repeat' split
  all_goals first | rfl | (exfalso; omega) | (exfalso; simp only [Int32.reduceToInt, Int64.reduceToInt] at *; omega) | (exfalso; simp at *; done) | (exfalso; simp at *; omega)
def Q0 (Z : State) (xx : Int64) (yy : Int64) (pv : Int64) (mo : Int32) (h0 : Heap) (n0 : Nat) (v : Option Value) (h : Heap) (L : List Loc) : Prop := v = some (.int (1 : Int32)) ∧ Fr n0 L
set_option maxRecDepth 65536 in
set_option maxHeartbeats 40000000 in
theorem rm0 (l : Launch) (Z : State) (a0 : Array Value) (hw : ∀ d ∈ tables_1, d.before a0 Z = true) (ws : List Jvm.Cond) (xx : Int64) (yy : Int64) (pv : Int64) (mo : Int32) (h0 : Heap) (n0 : Nat) (Z0 : n0 ≤ h0.size) :
    MetFree l x (head1 (Jvm.Cond.code x code maxLocals ret :: ws) room_1) (fun a U => a = #[(.long xx), (.long yy), (.long pv), (.int mo)] ∧ Z.Warmed39 U.vm ∧ U.heap = h0) (fun _ _ _ _ _ => True) (fun _ U o U' => ∃ v L, o = .returned v ∧ Q0 Z xx yy pv mo h0 n0 v U'.heap L ∧ FrameEnd U o U' L room_1.cells room_1.slots) := by
  refine MetFree.of_bodySF (plainFor_of_name pn_com_example_bundles_to_brokers_bundlestobrokers_model_BundleRangeCanCutAtPinLaw) hisR ?_
  intro p e s m args below meth c s₁ Bd hml0 hP hK
  obtain ⟨rfl, hZ, hh⟩ := hP
  have hx := Bd.exec
  have hby := Bd.bytes
  have hml : c.maxLocals = 20 := hml0
  have hown : s.vm.findClass "com/example/bundles_to_brokers/bundlestobrokers/model/BundleRangeCanCutAtPinLaw" = some m.cls := findClass_of_methodNamed Bd.named
  have hnm := (name_of_methodNamed Bd.named Bd.method).1
  have X0 : Stand p l e room_1 s m #[(.long xx), (.long yy), (.long pv), (.int mo)] below meth c s₁ [] 0 0 := Stand.of_body Bd
  have e0 : s₁.heap = h0 := by rw [← hh, Bd.state]; rfl
  have N0 := Fr.nil n0
  have K0 : Keep h0 h0 [] := Keep.refl h0 _
  have pre0 : ∀ t, Steps p.tables e below (s₁.setTop (mkF m 0 #[.val (.long xx), .second, .val (.long yy), .second, .val (.long pv), .second, .val (.int mo), .unset, .unset, .unset, .unset, .unset, .unset, .unset, .unset, .unset, .unset, .unset, .unset, .unset] [])) t → Steps p.tables e below (s₁.setTop (entryFrame m #[(.long xx), (.long yy), (.long pv), (.int mo)] maxLocals)) t := fun t k => castTop (ef_0 m xx yy pv mo) k
  obtain ⟨_, _, ⟨T1, L1, k1, n1⟩, -, X1, ⟨Lc1, hQ1, l1, y1, z1⟩, st1⟩ := Jvm.LawKit.callS X0 hx (y := (⟨"java/lang/Math", "min", "(JJ)J"⟩ : MethodName)) hown (mvT hZ (hw _ (List.mem_of_getElem? (i := 1) rfl))) (mvT hZ (hw _ (List.mem_of_getElem? (i := 2) rfl))) (mvT hZ (hw _ (List.mem_of_getElem? (i := 3) rfl))) (mvT hZ (hw _ (List.mem_of_getElem? (i := 4) rfl))) (by decide) (backOf (W := 0) (rm1 l Z a0 hw [] (xx &&& (4294967295 : Int64)) (yy &&& (4294967295 : Int64)) h0 n0 Z0 ) hZ (hw _ (List.mem_of_getElem? (i := 4) rfl)) (hw _ (List.mem_of_getElem? (i := 3) rfl)) (by decide) (by decide)) (g := (mkF m 18 #[.val (.long xx), .second, .val (.long yy), .second, .val (.long pv), .second, .val (.int mo), .val (.long (xx &&& (4294967295 : Int64))), .second, .val (.long (yy &&& (4294967295 : Int64))), .second, .unset, .unset, .unset, .unset, .unset, .unset, .unset, .unset, .unset] [(.long (yy &&& (4294967295 : Int64))), (.long (xx &&& (4294967295 : Int64)))])) rfl (by rw [hml]; rfl) (argsL := [(.long (xx &&& (4294967295 : Int64))), (.long (yy &&& (4294967295 : Int64)))]) (rest := []) (lenOf pd_2 rfl) rfl (by show 2 * 0 + _ ≤ _; exact Nat.le_of_eq rfl) (hb hby at_18) (fun _ _ => ⟨rfl, e0, (by decide : 0 + 0 ≤ _), (by decide : 0 + 0 ≤ _)⟩)
  dsimp only [Pt.U, Pt.locs, Pt.cells, Pt.slots] at X1 l1 y1 z1 st1 hQ1
  subst l1 y1 z1
  obtain ⟨rfl, N1q, e1⟩ := hQ1
  have N1 := Fr.app N0 N1q
  obtain ⟨_, _, ⟨T2, L2, k2, n2⟩, -, X2, ⟨Lc2, hQ2, l2, y2, z2⟩, st2⟩ := Jvm.LawKit.callS X1 hx (y := (⟨"java/lang/Math", "max", "(JJ)J"⟩ : MethodName)) hown (mvT hZ (hw _ (List.mem_of_getElem? (i := 5) rfl))) (mvT hZ (hw _ (List.mem_of_getElem? (i := 6) rfl))) (mvT hZ (hw _ (List.mem_of_getElem? (i := 3) rfl))) (mvT hZ (hw _ (List.mem_of_getElem? (i := 7) rfl))) (by decide) (backOf (W := 0) (rm2 l Z a0 hw [] (xx &&& (4294967295 : Int64)) (yy &&& (4294967295 : Int64)) h0 n0 Z0 ) hZ (hw _ (List.mem_of_getElem? (i := 7) rfl)) (hw _ (List.mem_of_getElem? (i := 3) rfl)) (by decide) (by decide)) (g := (mkF m 27 #[.val (.long xx), .second, .val (.long yy), .second, .val (.long pv), .second, .val (.int mo), .val (.long (xx &&& (4294967295 : Int64))), .second, .val (.long (yy &&& (4294967295 : Int64))), .second, .val (.long (r1_v (xx &&& (4294967295 : Int64)) (yy &&& (4294967295 : Int64)))), .second, .unset, .unset, .unset, .unset, .unset, .unset, .unset] [(.long (yy &&& (4294967295 : Int64))), (.long (xx &&& (4294967295 : Int64)))])) rfl (by rw [hml]; rfl) (argsL := [(.long (xx &&& (4294967295 : Int64))), (.long (yy &&& (4294967295 : Int64)))]) (rest := []) (lenOf pd_2 rfl) rfl (by show 2 * 0 + _ ≤ _; exact Nat.le_of_eq rfl) (hb hby at_27) (fun _ _ => ⟨rfl, e1, (by decide : 0 + 0 ≤ _), (by decide : 0 + 0 ≤ _)⟩)
  dsimp only [Pt.U, Pt.locs, Pt.cells, Pt.slots] at X2 l2 y2 z2 st2 hQ2
  subst l2 y2 z2
  obtain ⟨rfl, N2q, e2⟩ := hQ2
  have N2 := Fr.app N1 N2q
  have pre11 : ∀ t, Steps p.tables e below (T2.setTop (mkF m 32 #[.val (.long xx), .second, .val (.long yy), .second, .val (.long pv), .second, .val (.int mo), .val (.long (xx &&& (4294967295 : Int64))), .second, .val (.long (yy &&& (4294967295 : Int64))), .second, .val (.long (r1_v (xx &&& (4294967295 : Int64)) (yy &&& (4294967295 : Int64)))), .second, .val (.long (r2_v (xx &&& (4294967295 : Int64)) (yy &&& (4294967295 : Int64)))), .second, .unset, .unset, .unset, .unset, .unset] [])) t → Steps p.tables e below (s₁.setTop (entryFrame m #[(.long xx), (.long yy), (.long pv), (.int mo)] maxLocals)) t := by
    intro t k
    refine pre0 _ ?_
    show Steps p.tables e below (s₁.setTop (mkF m 0 #[.val (.long xx), .second, .val (.long yy), .second, .val (.long pv), .second, .val (.int mo), .unset, .unset, .unset, .unset, .unset, .unset, .unset, .unset, .unset, .unset, .unset, .unset, .unset] [])) _
    refine XS.lloadN X0.here hx rfl (hb hby at_0) rfl ?_
    show Steps p.tables e below (s₁.setTop (mkF m 1 #[.val (.long xx), .second, .val (.long yy), .second, .val (.long pv), .second, .val (.int mo), .unset, .unset, .unset, .unset, .unset, .unset, .unset, .unset, .unset, .unset, .unset, .unset, .unset] [(.long xx)])) _
    refine X0.ldc2Long hx hown (mvT hZ (hw _ (List.mem_of_getElem? (i := 0) rfl))) (g := (mkF m 1 #[.val (.long xx), .second, .val (.long yy), .second, .val (.long pv), .second, .val (.int mo), .unset, .unset, .unset, .unset, .unset, .unset, .unset, .unset, .unset, .unset, .unset, .unset, .unset] [(.long xx)])) rfl (hb hby at_1) _ ?_
    show Steps p.tables e below (s₁.setTop (mkF m 4 #[.val (.long xx), .second, .val (.long yy), .second, .val (.long pv), .second, .val (.int mo), .unset, .unset, .unset, .unset, .unset, .unset, .unset, .unset, .unset, .unset, .unset, .unset, .unset] [(.long (4294967295 : Int64)), (.long xx)])) _
    refine XS.land X0.here hx rfl (hb hby at_4) rfl ?_
    show Steps p.tables e below (s₁.setTop (mkF m 5 #[.val (.long xx), .second, .val (.long yy), .second, .val (.long pv), .second, .val (.int mo), .unset, .unset, .unset, .unset, .unset, .unset, .unset, .unset, .unset, .unset, .unset, .unset, .unset] [(.long (xx &&& (4294967295 : Int64)))])) _
    refine XS.lstore X0.here hx rfl (hb hby at_5) rfl (l' := #[.val (.long xx), .second, .val (.long yy), .second, .val (.long pv), .second, .val (.int mo), .val (.long (xx &&& (4294967295 : Int64))), .second, .unset, .unset, .unset, .unset, .unset, .unset, .unset, .unset, .unset, .unset, .unset]) rfl ?_
    show Steps p.tables e below (s₁.setTop (mkF m 7 #[.val (.long xx), .second, .val (.long yy), .second, .val (.long pv), .second, .val (.int mo), .val (.long (xx &&& (4294967295 : Int64))), .second, .unset, .unset, .unset, .unset, .unset, .unset, .unset, .unset, .unset, .unset, .unset] [])) _
    refine XS.lloadN X0.here hx rfl (hb hby at_7) rfl ?_
    show Steps p.tables e below (s₁.setTop (mkF m 8 #[.val (.long xx), .second, .val (.long yy), .second, .val (.long pv), .second, .val (.int mo), .val (.long (xx &&& (4294967295 : Int64))), .second, .unset, .unset, .unset, .unset, .unset, .unset, .unset, .unset, .unset, .unset, .unset] [(.long yy)])) _
    refine X0.ldc2Long hx hown (mvT hZ (hw _ (List.mem_of_getElem? (i := 0) rfl))) (g := (mkF m 8 #[.val (.long xx), .second, .val (.long yy), .second, .val (.long pv), .second, .val (.int mo), .val (.long (xx &&& (4294967295 : Int64))), .second, .unset, .unset, .unset, .unset, .unset, .unset, .unset, .unset, .unset, .unset, .unset] [(.long yy)])) rfl (hb hby at_8) _ ?_
    show Steps p.tables e below (s₁.setTop (mkF m 11 #[.val (.long xx), .second, .val (.long yy), .second, .val (.long pv), .second, .val (.int mo), .val (.long (xx &&& (4294967295 : Int64))), .second, .unset, .unset, .unset, .unset, .unset, .unset, .unset, .unset, .unset, .unset, .unset] [(.long (4294967295 : Int64)), (.long yy)])) _
    refine XS.land X0.here hx rfl (hb hby at_11) rfl ?_
    show Steps p.tables e below (s₁.setTop (mkF m 12 #[.val (.long xx), .second, .val (.long yy), .second, .val (.long pv), .second, .val (.int mo), .val (.long (xx &&& (4294967295 : Int64))), .second, .unset, .unset, .unset, .unset, .unset, .unset, .unset, .unset, .unset, .unset, .unset] [(.long (yy &&& (4294967295 : Int64)))])) _
    refine XS.lstore X0.here hx rfl (hb hby at_12) rfl (l' := #[.val (.long xx), .second, .val (.long yy), .second, .val (.long pv), .second, .val (.int mo), .val (.long (xx &&& (4294967295 : Int64))), .second, .val (.long (yy &&& (4294967295 : Int64))), .second, .unset, .unset, .unset, .unset, .unset, .unset, .unset, .unset, .unset]) rfl ?_
    show Steps p.tables e below (s₁.setTop (mkF m 14 #[.val (.long xx), .second, .val (.long yy), .second, .val (.long pv), .second, .val (.int mo), .val (.long (xx &&& (4294967295 : Int64))), .second, .val (.long (yy &&& (4294967295 : Int64))), .second, .unset, .unset, .unset, .unset, .unset, .unset, .unset, .unset, .unset] [])) _
    refine XS.lload X0.here hx rfl (hb hby at_14) rfl ?_
    show Steps p.tables e below (s₁.setTop (mkF m 16 #[.val (.long xx), .second, .val (.long yy), .second, .val (.long pv), .second, .val (.int mo), .val (.long (xx &&& (4294967295 : Int64))), .second, .val (.long (yy &&& (4294967295 : Int64))), .second, .unset, .unset, .unset, .unset, .unset, .unset, .unset, .unset, .unset] [(.long (xx &&& (4294967295 : Int64)))])) _
    refine XS.lload X0.here hx rfl (hb hby at_16) rfl ?_
    show Steps p.tables e below (s₁.setTop (mkF m 18 #[.val (.long xx), .second, .val (.long yy), .second, .val (.long pv), .second, .val (.int mo), .val (.long (xx &&& (4294967295 : Int64))), .second, .val (.long (yy &&& (4294967295 : Int64))), .second, .unset, .unset, .unset, .unset, .unset, .unset, .unset, .unset, .unset] [(.long (yy &&& (4294967295 : Int64))), (.long (xx &&& (4294967295 : Int64)))])) _
    refine st1 _ ?_
    show Steps p.tables e below (T1.setTop (mkF m 21 #[.val (.long xx), .second, .val (.long yy), .second, .val (.long pv), .second, .val (.int mo), .val (.long (xx &&& (4294967295 : Int64))), .second, .val (.long (yy &&& (4294967295 : Int64))), .second, .unset, .unset, .unset, .unset, .unset, .unset, .unset, .unset, .unset] [(.long (r1_v (xx &&& (4294967295 : Int64)) (yy &&& (4294967295 : Int64))))])) _
    refine XS.lstore X1.here hx rfl (hb hby at_21) rfl (l' := #[.val (.long xx), .second, .val (.long yy), .second, .val (.long pv), .second, .val (.int mo), .val (.long (xx &&& (4294967295 : Int64))), .second, .val (.long (yy &&& (4294967295 : Int64))), .second, .val (.long (r1_v (xx &&& (4294967295 : Int64)) (yy &&& (4294967295 : Int64)))), .second, .unset, .unset, .unset, .unset, .unset, .unset, .unset]) rfl ?_
    show Steps p.tables e below (T1.setTop (mkF m 23 #[.val (.long xx), .second, .val (.long yy), .second, .val (.long pv), .second, .val (.int mo), .val (.long (xx &&& (4294967295 : Int64))), .second, .val (.long (yy &&& (4294967295 : Int64))), .second, .val (.long (r1_v (xx &&& (4294967295 : Int64)) (yy &&& (4294967295 : Int64)))), .second, .unset, .unset, .unset, .unset, .unset, .unset, .unset] [])) _
    refine XS.lload X1.here hx rfl (hb hby at_23) rfl ?_
    show Steps p.tables e below (T1.setTop (mkF m 25 #[.val (.long xx), .second, .val (.long yy), .second, .val (.long pv), .second, .val (.int mo), .val (.long (xx &&& (4294967295 : Int64))), .second, .val (.long (yy &&& (4294967295 : Int64))), .second, .val (.long (r1_v (xx &&& (4294967295 : Int64)) (yy &&& (4294967295 : Int64)))), .second, .unset, .unset, .unset, .unset, .unset, .unset, .unset] [(.long (xx &&& (4294967295 : Int64)))])) _
    refine XS.lload X1.here hx rfl (hb hby at_25) rfl ?_
    show Steps p.tables e below (T1.setTop (mkF m 27 #[.val (.long xx), .second, .val (.long yy), .second, .val (.long pv), .second, .val (.int mo), .val (.long (xx &&& (4294967295 : Int64))), .second, .val (.long (yy &&& (4294967295 : Int64))), .second, .val (.long (r1_v (xx &&& (4294967295 : Int64)) (yy &&& (4294967295 : Int64)))), .second, .unset, .unset, .unset, .unset, .unset, .unset, .unset] [(.long (yy &&& (4294967295 : Int64))), (.long (xx &&& (4294967295 : Int64)))])) _
    refine st2 _ ?_
    show Steps p.tables e below (T2.setTop (mkF m 30 #[.val (.long xx), .second, .val (.long yy), .second, .val (.long pv), .second, .val (.int mo), .val (.long (xx &&& (4294967295 : Int64))), .second, .val (.long (yy &&& (4294967295 : Int64))), .second, .val (.long (r1_v (xx &&& (4294967295 : Int64)) (yy &&& (4294967295 : Int64)))), .second, .unset, .unset, .unset, .unset, .unset, .unset, .unset] [(.long (r2_v (xx &&& (4294967295 : Int64)) (yy &&& (4294967295 : Int64))))])) _
    refine XS.lstore X2.here hx rfl (hb hby at_30) rfl (l' := #[.val (.long xx), .second, .val (.long yy), .second, .val (.long pv), .second, .val (.int mo), .val (.long (xx &&& (4294967295 : Int64))), .second, .val (.long (yy &&& (4294967295 : Int64))), .second, .val (.long (r1_v (xx &&& (4294967295 : Int64)) (yy &&& (4294967295 : Int64)))), .second, .val (.long (r2_v (xx &&& (4294967295 : Int64)) (yy &&& (4294967295 : Int64)))), .second, .unset, .unset, .unset, .unset, .unset]) rfl ?_
    exact k
  have pre12 : ∀ t, Steps p.tables e below (T2.setTop (mkF m 64 #[.val (.long xx), .second, .val (.long yy), .second, .val (.long pv), .second, .val (.int mo), .val (.long (xx &&& (4294967295 : Int64))), .second, .val (.long (yy &&& (4294967295 : Int64))), .second, .val (.long (j0_32_l11 xx yy)), .second, .val (.long (j0_32_l13 xx yy)), .second, .unset, .unset, .unset, .unset, .unset] [])) t → Steps p.tables e below (s₁.setTop (entryFrame m #[(.long xx), (.long yy), (.long pv), (.int mo)] maxLocals)) t := by
    intro t k
    refine pre11 _ ?_
    show Steps p.tables e below (T2.setTop (mkF m 32 #[.val (.long xx), .second, .val (.long yy), .second, .val (.long pv), .second, .val (.int mo), .val (.long (xx &&& (4294967295 : Int64))), .second, .val (.long (yy &&& (4294967295 : Int64))), .second, .val (.long (r1_v (xx &&& (4294967295 : Int64)) (yy &&& (4294967295 : Int64)))), .second, .val (.long (r2_v (xx &&& (4294967295 : Int64)) (yy &&& (4294967295 : Int64)))), .second, .unset, .unset, .unset, .unset, .unset] [])) _
    refine XS.lload X2.here hx rfl (hb hby at_32) rfl ?_
    show Steps p.tables e below (T2.setTop (mkF m 34 #[.val (.long xx), .second, .val (.long yy), .second, .val (.long pv), .second, .val (.int mo), .val (.long (xx &&& (4294967295 : Int64))), .second, .val (.long (yy &&& (4294967295 : Int64))), .second, .val (.long (r1_v (xx &&& (4294967295 : Int64)) (yy &&& (4294967295 : Int64)))), .second, .val (.long (r2_v (xx &&& (4294967295 : Int64)) (yy &&& (4294967295 : Int64)))), .second, .unset, .unset, .unset, .unset, .unset] [(.long (r1_v (xx &&& (4294967295 : Int64)) (yy &&& (4294967295 : Int64))))])) _
    refine XS.lload X2.here hx rfl (hb hby at_34) rfl ?_
    show Steps p.tables e below (T2.setTop (mkF m 36 #[.val (.long xx), .second, .val (.long yy), .second, .val (.long pv), .second, .val (.int mo), .val (.long (xx &&& (4294967295 : Int64))), .second, .val (.long (yy &&& (4294967295 : Int64))), .second, .val (.long (r1_v (xx &&& (4294967295 : Int64)) (yy &&& (4294967295 : Int64)))), .second, .val (.long (r2_v (xx &&& (4294967295 : Int64)) (yy &&& (4294967295 : Int64)))), .second, .unset, .unset, .unset, .unset, .unset] [(.long (r2_v (xx &&& (4294967295 : Int64)) (yy &&& (4294967295 : Int64)))), (.long (r1_v (xx &&& (4294967295 : Int64)) (yy &&& (4294967295 : Int64))))])) _
    refine XS.lcmp X2.here hx rfl (hb hby at_36) rfl ?_
    by_cases hk3 : (r1_v (xx &&& (4294967295 : Int64)) (yy &&& (4294967295 : Int64))) = (r2_v (xx &&& (4294967295 : Int64)) (yy &&& (4294967295 : Int64)))
    · show Steps p.tables e below (T2.setTop (mkF m 37 #[.val (.long xx), .second, .val (.long yy), .second, .val (.long pv), .second, .val (.int mo), .val (.long (xx &&& (4294967295 : Int64))), .second, .val (.long (yy &&& (4294967295 : Int64))), .second, .val (.long (r1_v (xx &&& (4294967295 : Int64)) (yy &&& (4294967295 : Int64)))), .second, .val (.long (r2_v (xx &&& (4294967295 : Int64)) (yy &&& (4294967295 : Int64)))), .second, .unset, .unset, .unset, .unset, .unset] [(.int (lcmpW (r1_v (xx &&& (4294967295 : Int64)) (yy &&& (4294967295 : Int64))) (r2_v (xx &&& (4294967295 : Int64)) (yy &&& (4294967295 : Int64)))))])) _
      refine XS.ifNo X2.here hx rfl (hb hby at_37) rfl (own_teqL hk3).2 ?_
      show Steps p.tables e below (T2.setTop (mkF m 40 #[.val (.long xx), .second, .val (.long yy), .second, .val (.long pv), .second, .val (.int mo), .val (.long (xx &&& (4294967295 : Int64))), .second, .val (.long (yy &&& (4294967295 : Int64))), .second, .val (.long (r1_v (xx &&& (4294967295 : Int64)) (yy &&& (4294967295 : Int64)))), .second, .val (.long (r2_v (xx &&& (4294967295 : Int64)) (yy &&& (4294967295 : Int64)))), .second, .unset, .unset, .unset, .unset, .unset] [])) _
      refine XS.lload X2.here hx rfl (hb hby at_40) rfl ?_
      show Steps p.tables e below (T2.setTop (mkF m 42 #[.val (.long xx), .second, .val (.long yy), .second, .val (.long pv), .second, .val (.int mo), .val (.long (xx &&& (4294967295 : Int64))), .second, .val (.long (yy &&& (4294967295 : Int64))), .second, .val (.long (r1_v (xx &&& (4294967295 : Int64)) (yy &&& (4294967295 : Int64)))), .second, .val (.long (r2_v (xx &&& (4294967295 : Int64)) (yy &&& (4294967295 : Int64)))), .second, .unset, .unset, .unset, .unset, .unset] [(.long (r2_v (xx &&& (4294967295 : Int64)) (yy &&& (4294967295 : Int64))))])) _
      refine X2.ldc2Long hx hown (mvT hZ (hw _ (List.mem_of_getElem? (i := 0) rfl))) (g := (mkF m 42 #[.val (.long xx), .second, .val (.long yy), .second, .val (.long pv), .second, .val (.int mo), .val (.long (xx &&& (4294967295 : Int64))), .second, .val (.long (yy &&& (4294967295 : Int64))), .second, .val (.long (r1_v (xx &&& (4294967295 : Int64)) (yy &&& (4294967295 : Int64)))), .second, .val (.long (r2_v (xx &&& (4294967295 : Int64)) (yy &&& (4294967295 : Int64)))), .second, .unset, .unset, .unset, .unset, .unset] [(.long (r2_v (xx &&& (4294967295 : Int64)) (yy &&& (4294967295 : Int64))))])) rfl (hb hby at_42) _ ?_
      show Steps p.tables e below (T2.setTop (mkF m 45 #[.val (.long xx), .second, .val (.long yy), .second, .val (.long pv), .second, .val (.int mo), .val (.long (xx &&& (4294967295 : Int64))), .second, .val (.long (yy &&& (4294967295 : Int64))), .second, .val (.long (r1_v (xx &&& (4294967295 : Int64)) (yy &&& (4294967295 : Int64)))), .second, .val (.long (r2_v (xx &&& (4294967295 : Int64)) (yy &&& (4294967295 : Int64)))), .second, .unset, .unset, .unset, .unset, .unset] [(.long (4294967295 : Int64)), (.long (r2_v (xx &&& (4294967295 : Int64)) (yy &&& (4294967295 : Int64))))])) _
      refine XS.lcmp X2.here hx rfl (hb hby at_45) rfl ?_
      by_cases hk4 : (r2_v (xx &&& (4294967295 : Int64)) (yy &&& (4294967295 : Int64))) < (4294967295 : Int64)
      · show Steps p.tables e below (T2.setTop (mkF m 46 #[.val (.long xx), .second, .val (.long yy), .second, .val (.long pv), .second, .val (.int mo), .val (.long (xx &&& (4294967295 : Int64))), .second, .val (.long (yy &&& (4294967295 : Int64))), .second, .val (.long (r1_v (xx &&& (4294967295 : Int64)) (yy &&& (4294967295 : Int64)))), .second, .val (.long (r2_v (xx &&& (4294967295 : Int64)) (yy &&& (4294967295 : Int64)))), .second, .unset, .unset, .unset, .unset, .unset] [(.int (lcmpW (r2_v (xx &&& (4294967295 : Int64)) (yy &&& (4294967295 : Int64))) (4294967295 : Int64)))])) _
        refine XS.ifNo X2.here hx rfl (hb hby at_46) rfl (own_tltL hk4).2.1 ?_
        show Steps p.tables e below (T2.setTop (mkF m 49 #[.val (.long xx), .second, .val (.long yy), .second, .val (.long pv), .second, .val (.int mo), .val (.long (xx &&& (4294967295 : Int64))), .second, .val (.long (yy &&& (4294967295 : Int64))), .second, .val (.long (r1_v (xx &&& (4294967295 : Int64)) (yy &&& (4294967295 : Int64)))), .second, .val (.long (r2_v (xx &&& (4294967295 : Int64)) (yy &&& (4294967295 : Int64)))), .second, .unset, .unset, .unset, .unset, .unset] [])) _
        refine XS.lload X2.here hx rfl (hb hby at_49) rfl ?_
        show Steps p.tables e below (T2.setTop (mkF m 51 #[.val (.long xx), .second, .val (.long yy), .second, .val (.long pv), .second, .val (.int mo), .val (.long (xx &&& (4294967295 : Int64))), .second, .val (.long (yy &&& (4294967295 : Int64))), .second, .val (.long (r1_v (xx &&& (4294967295 : Int64)) (yy &&& (4294967295 : Int64)))), .second, .val (.long (r2_v (xx &&& (4294967295 : Int64)) (yy &&& (4294967295 : Int64)))), .second, .unset, .unset, .unset, .unset, .unset] [(.long (r2_v (xx &&& (4294967295 : Int64)) (yy &&& (4294967295 : Int64))))])) _
        refine XS.lconst X2.here hx rfl (hb hby at_51) ?_
        show Steps p.tables e below (T2.setTop (mkF m 52 #[.val (.long xx), .second, .val (.long yy), .second, .val (.long pv), .second, .val (.int mo), .val (.long (xx &&& (4294967295 : Int64))), .second, .val (.long (yy &&& (4294967295 : Int64))), .second, .val (.long (r1_v (xx &&& (4294967295 : Int64)) (yy &&& (4294967295 : Int64)))), .second, .val (.long (r2_v (xx &&& (4294967295 : Int64)) (yy &&& (4294967295 : Int64)))), .second, .unset, .unset, .unset, .unset, .unset] [(.long (1 : Int64)), (.long (r2_v (xx &&& (4294967295 : Int64)) (yy &&& (4294967295 : Int64))))])) _
        refine XS.ladd X2.here hx rfl (hb hby at_52) rfl ?_
        show Steps p.tables e below (T2.setTop (mkF m 53 #[.val (.long xx), .second, .val (.long yy), .second, .val (.long pv), .second, .val (.int mo), .val (.long (xx &&& (4294967295 : Int64))), .second, .val (.long (yy &&& (4294967295 : Int64))), .second, .val (.long (r1_v (xx &&& (4294967295 : Int64)) (yy &&& (4294967295 : Int64)))), .second, .val (.long (r2_v (xx &&& (4294967295 : Int64)) (yy &&& (4294967295 : Int64)))), .second, .unset, .unset, .unset, .unset, .unset] [(.long ((r2_v (xx &&& (4294967295 : Int64)) (yy &&& (4294967295 : Int64))) + (1 : Int64)))])) _
        refine XS.lstore X2.here hx rfl (hb hby at_53) rfl (l' := #[.val (.long xx), .second, .val (.long yy), .second, .val (.long pv), .second, .val (.int mo), .val (.long (xx &&& (4294967295 : Int64))), .second, .val (.long (yy &&& (4294967295 : Int64))), .second, .val (.long (r1_v (xx &&& (4294967295 : Int64)) (yy &&& (4294967295 : Int64)))), .second, .val (.long ((r2_v (xx &&& (4294967295 : Int64)) (yy &&& (4294967295 : Int64))) + (1 : Int64))), .second, .unset, .unset, .unset, .unset, .unset]) rfl ?_
        show Steps p.tables e below (T2.setTop (mkF m 55 #[.val (.long xx), .second, .val (.long yy), .second, .val (.long pv), .second, .val (.int mo), .val (.long (xx &&& (4294967295 : Int64))), .second, .val (.long (yy &&& (4294967295 : Int64))), .second, .val (.long (r1_v (xx &&& (4294967295 : Int64)) (yy &&& (4294967295 : Int64)))), .second, .val (.long ((r2_v (xx &&& (4294967295 : Int64)) (yy &&& (4294967295 : Int64))) + (1 : Int64))), .second, .unset, .unset, .unset, .unset, .unset] [])) _
        refine XS.goto X2.here hx rfl (pc0 := 55) (pc' := 64) rfl (hb hby at_55) (by decide) (by decide) ?_
        have ev5 : (j0_32_l11 xx yy) = (r1_v (xx &&& (4294967295 : Int64)) (yy &&& (4294967295 : Int64))) := by unfold j0_32_l11; rw [if_pos hk3, if_pos hk4]
        have ev8 : (j0_32_l13 xx yy) = ((r2_v (xx &&& (4294967295 : Int64)) (yy &&& (4294967295 : Int64))) + (1 : Int64)) := by unfold j0_32_l13; rw [if_pos hk3, if_pos hk4]
        rw [ev5, ev8] at k
        exact k
      · show Steps p.tables e below (T2.setTop (mkF m 46 #[.val (.long xx), .second, .val (.long yy), .second, .val (.long pv), .second, .val (.int mo), .val (.long (xx &&& (4294967295 : Int64))), .second, .val (.long (yy &&& (4294967295 : Int64))), .second, .val (.long (r1_v (xx &&& (4294967295 : Int64)) (yy &&& (4294967295 : Int64)))), .second, .val (.long (r2_v (xx &&& (4294967295 : Int64)) (yy &&& (4294967295 : Int64)))), .second, .unset, .unset, .unset, .unset, .unset] [(.int (lcmpW (r2_v (xx &&& (4294967295 : Int64)) (yy &&& (4294967295 : Int64))) (4294967295 : Int64)))])) _
        refine XS.ifYes X2.here hx rfl (pc0 := 46) (pc' := 58) rfl (hb hby at_46) rfl (own_fltL hk4).2.1 (by decide) (by decide) ?_
        show Steps p.tables e below (T2.setTop (mkF m 58 #[.val (.long xx), .second, .val (.long yy), .second, .val (.long pv), .second, .val (.int mo), .val (.long (xx &&& (4294967295 : Int64))), .second, .val (.long (yy &&& (4294967295 : Int64))), .second, .val (.long (r1_v (xx &&& (4294967295 : Int64)) (yy &&& (4294967295 : Int64)))), .second, .val (.long (r2_v (xx &&& (4294967295 : Int64)) (yy &&& (4294967295 : Int64)))), .second, .unset, .unset, .unset, .unset, .unset] [])) _
        refine XS.lload X2.here hx rfl (hb hby at_58) rfl ?_
        show Steps p.tables e below (T2.setTop (mkF m 60 #[.val (.long xx), .second, .val (.long yy), .second, .val (.long pv), .second, .val (.int mo), .val (.long (xx &&& (4294967295 : Int64))), .second, .val (.long (yy &&& (4294967295 : Int64))), .second, .val (.long (r1_v (xx &&& (4294967295 : Int64)) (yy &&& (4294967295 : Int64)))), .second, .val (.long (r2_v (xx &&& (4294967295 : Int64)) (yy &&& (4294967295 : Int64)))), .second, .unset, .unset, .unset, .unset, .unset] [(.long (r1_v (xx &&& (4294967295 : Int64)) (yy &&& (4294967295 : Int64))))])) _
        refine XS.lconst X2.here hx rfl (hb hby at_60) ?_
        show Steps p.tables e below (T2.setTop (mkF m 61 #[.val (.long xx), .second, .val (.long yy), .second, .val (.long pv), .second, .val (.int mo), .val (.long (xx &&& (4294967295 : Int64))), .second, .val (.long (yy &&& (4294967295 : Int64))), .second, .val (.long (r1_v (xx &&& (4294967295 : Int64)) (yy &&& (4294967295 : Int64)))), .second, .val (.long (r2_v (xx &&& (4294967295 : Int64)) (yy &&& (4294967295 : Int64)))), .second, .unset, .unset, .unset, .unset, .unset] [(.long (1 : Int64)), (.long (r1_v (xx &&& (4294967295 : Int64)) (yy &&& (4294967295 : Int64))))])) _
        refine XS.lsub X2.here hx rfl (hb hby at_61) rfl ?_
        show Steps p.tables e below (T2.setTop (mkF m 62 #[.val (.long xx), .second, .val (.long yy), .second, .val (.long pv), .second, .val (.int mo), .val (.long (xx &&& (4294967295 : Int64))), .second, .val (.long (yy &&& (4294967295 : Int64))), .second, .val (.long (r1_v (xx &&& (4294967295 : Int64)) (yy &&& (4294967295 : Int64)))), .second, .val (.long (r2_v (xx &&& (4294967295 : Int64)) (yy &&& (4294967295 : Int64)))), .second, .unset, .unset, .unset, .unset, .unset] [(.long ((r1_v (xx &&& (4294967295 : Int64)) (yy &&& (4294967295 : Int64))) - (1 : Int64)))])) _
        refine XS.lstore X2.here hx rfl (hb hby at_62) rfl (l' := #[.val (.long xx), .second, .val (.long yy), .second, .val (.long pv), .second, .val (.int mo), .val (.long (xx &&& (4294967295 : Int64))), .second, .val (.long (yy &&& (4294967295 : Int64))), .second, .val (.long ((r1_v (xx &&& (4294967295 : Int64)) (yy &&& (4294967295 : Int64))) - (1 : Int64))), .second, .val (.long (r2_v (xx &&& (4294967295 : Int64)) (yy &&& (4294967295 : Int64)))), .second, .unset, .unset, .unset, .unset, .unset]) rfl ?_
        have ev6 : (j0_32_l11 xx yy) = ((r1_v (xx &&& (4294967295 : Int64)) (yy &&& (4294967295 : Int64))) - (1 : Int64)) := by unfold j0_32_l11; rw [if_pos hk3, if_neg hk4]
        have ev9 : (j0_32_l13 xx yy) = (r2_v (xx &&& (4294967295 : Int64)) (yy &&& (4294967295 : Int64))) := by unfold j0_32_l13; rw [if_pos hk3, if_neg hk4]
        rw [ev6, ev9] at k
        exact k
    · show Steps p.tables e below (T2.setTop (mkF m 37 #[.val (.long xx), .second, .val (.long yy), .second, .val (.long pv), .second, .val (.int mo), .val (.long (xx &&& (4294967295 : Int64))), .second, .val (.long (yy &&& (4294967295 : Int64))), .second, .val (.long (r1_v (xx &&& (4294967295 : Int64)) (yy &&& (4294967295 : Int64)))), .second, .val (.long (r2_v (xx &&& (4294967295 : Int64)) (yy &&& (4294967295 : Int64)))), .second, .unset, .unset, .unset, .unset, .unset] [(.int (lcmpW (r1_v (xx &&& (4294967295 : Int64)) (yy &&& (4294967295 : Int64))) (r2_v (xx &&& (4294967295 : Int64)) (yy &&& (4294967295 : Int64)))))])) _
      refine XS.ifYes X2.here hx rfl (pc0 := 37) (pc' := 64) rfl (hb hby at_37) rfl (own_feqL hk3).2 (by decide) (by decide) ?_
      have ev7 : (j0_32_l11 xx yy) = (r1_v (xx &&& (4294967295 : Int64)) (yy &&& (4294967295 : Int64))) := by unfold j0_32_l11; rw [if_neg hk3]
      have ev10 : (j0_32_l13 xx yy) = (r2_v (xx &&& (4294967295 : Int64)) (yy &&& (4294967295 : Int64))) := by unfold j0_32_l13; rw [if_neg hk3]
      rw [ev7, ev10] at k
      exact k
  obtain ⟨_, _, ⟨T13, L13, k13, n13⟩, -, X13, ⟨Lc13, hQ13, l13, y13, z13⟩, st13⟩ := Jvm.LawKit.callS X2 hx (y := (⟨"com/example/bundles_to_brokers/bundlestobrokers/model/BundleRangeCanCutAtPinLaw", "pick", "(IJJJ)J"⟩ : MethodName)) hown (mvT hZ (hw _ (List.mem_of_getElem? (i := 8) rfl))) (mvT hZ (hw _ (List.mem_of_getElem? (i := 9) rfl))) (mvT hZ (hw _ (List.mem_of_getElem? (i := 10) rfl))) (mvT hZ (hw _ (List.mem_of_getElem? (i := 11) rfl))) (by decide) (backOf (W := 0) (rm3 l Z a0 hw [] (mo &&& (7 : Int32)) (j0_32_l11 xx yy) (j0_32_l13 xx yy) pv h0 n0 Z0 ) hZ (hw _ (List.mem_of_getElem? (i := 11) rfl)) (hw _ (List.mem_of_getElem? (i := 10) rfl)) (by decide) (by decide)) (g := (mkF m 75 #[.val (.long xx), .second, .val (.long yy), .second, .val (.long pv), .second, .val (.int mo), .val (.long (xx &&& (4294967295 : Int64))), .second, .val (.long (yy &&& (4294967295 : Int64))), .second, .val (.long (j0_32_l11 xx yy)), .second, .val (.long (j0_32_l13 xx yy)), .second, .unset, .unset, .unset, .unset, .unset] [(.long pv), (.long (j0_32_l13 xx yy)), (.long (j0_32_l11 xx yy)), (.int (mo &&& (7 : Int32)))])) rfl (by rw [hml]; rfl) (argsL := [(.int (mo &&& (7 : Int32))), (.long (j0_32_l11 xx yy)), (.long (j0_32_l13 xx yy)), (.long pv)]) (rest := []) (lenOf pd_3 rfl) rfl (by show 2 * 0 + _ ≤ _; exact Nat.le_of_eq rfl) (hb hby at_75) (fun _ _ => ⟨rfl, e2, (by decide : 0 + 0 ≤ _), (by decide : 0 + 0 ≤ _)⟩)
  dsimp only [Pt.U, Pt.locs, Pt.cells, Pt.slots] at X13 l13 y13 z13 st13 hQ13
  subst l13 y13 z13
  obtain ⟨rfl, N13q, e13⟩ := hQ13
  have N13 := Fr.app N2 N13q
  obtain ⟨T14, h14, X14, e14, E14, A14, D14, -, st14⟩ := newO X13 hx hZ hown (hw _ (List.mem_of_getElem? (i := 12) rfl)) (hw _ (List.mem_of_getElem? (i := 13) rfl)) (hw _ (List.mem_of_getElem? (i := 14) rfl)) e13 (g := (mkF m 80 #[.val (.long xx), .second, .val (.long yy), .second, .val (.long pv), .second, .val (.int mo), .val (.long (xx &&& (4294967295 : Int64))), .second, .val (.long (yy &&& (4294967295 : Int64))), .second, .val (.long (j0_32_l11 xx yy)), .second, .val (.long (j0_32_l13 xx yy)), .second, .val (.long (r3_v (mo &&& (7 : Int32)) (j0_32_l11 xx yy) (j0_32_l13 xx yy) pv)), .second, .unset, .unset, .unset] [])) rfl (hb hby at_80) (by decide) (by decide)
  obtain ⟨b14, g14⟩ : ∃ z, z = h0.size := ⟨_, rfl⟩
  rw [← g14] at A14 D14 st14
  have gg14 : n0 ≤ b14 := Nat.le_trans Z0 (Nat.le_of_eq g14.symm)
  have Z14 : n0 ≤ h14.size := Nat.le_trans Z0 E14.1
  have f15 : Fld Z h14 b14 "com/example/bundles_to_brokers/bundlestobrokers/model/BundleRange" "lower" "J" (.long (0 : Int64)) := D14 (Or.inr (hw _ (List.mem_of_getElem? (i := 32) rfl))) (ty := .long) (by decide)
  have f16 : Fld Z h14 b14 "com/example/bundles_to_brokers/bundlestobrokers/model/BundleRange" "upper" "J" (.long (0 : Int64)) := D14 (Or.inr (hw _ (List.mem_of_getElem? (i := 34) rfl))) (ty := .long) (by decide)
  obtain ⟨_, _, ⟨T17, L17, k17, n17⟩, -, X17, ⟨Lc17, hQ17, l17, y17, z17⟩, st17⟩ := X14.specialBack hx (y := (⟨"com/example/bundles_to_brokers/bundlestobrokers/model/BundleRange", "<init>", "(JJ)V"⟩ : MethodName)) rfl hown (mvT hZ (hw _ (List.mem_of_getElem? (i := 15) rfl))) (mvT hZ (hw _ (List.mem_of_getElem? (i := 16) rfl))) (mvT hZ (hw _ (List.mem_of_getElem? (i := 17) rfl))) (by decide) (backOf (W := 1) (rm4 l Z a0 hw [] b14 (j0_32_l11 xx yy) (j0_32_l13 xx yy) (0 : Int64) (0 : Int64) h14 n0 Z14 (own_l0 xx yy) (own_l1 xx yy) (own_h0 xx yy) (own_h1 xx yy) A14 f15 f16 (own_lt xx yy) gg14) hZ (hw _ (List.mem_of_getElem? (i := 17) rfl)) (hw _ (List.mem_of_getElem? (i := 14) rfl)) (by decide) (by decide)) (g := (mkF m 88 #[.val (.long xx), .second, .val (.long yy), .second, .val (.long pv), .second, .val (.int mo), .val (.long (xx &&& (4294967295 : Int64))), .second, .val (.long (yy &&& (4294967295 : Int64))), .second, .val (.long (j0_32_l11 xx yy)), .second, .val (.long (j0_32_l13 xx yy)), .second, .val (.long (r3_v (mo &&& (7 : Int32)) (j0_32_l11 xx yy) (j0_32_l13 xx yy) pv)), .second, .unset, .unset, .unset] [(.long (j0_32_l13 xx yy)), (.long (j0_32_l11 xx yy)), (.ref b14), (.ref b14)])) rfl (by rw [hml]; rfl) (Steps.refl _) (a := b14) (argsL := [(.long (j0_32_l11 xx yy)), (.long (j0_32_l13 xx yy))]) (rest := [(.ref b14)]) (lenOf pd_4 rfl) rfl (by show 2 * 0 + _ ≤ _; exact Nat.le_of_eq rfl) (hb hby at_88) (fun _ _ => ⟨rfl, e14, (by decide : 1 + 0 ≤ _), (by decide : 2 + 0 ≤ _)⟩)
  dsimp only [Pt.U, Pt.locs, Pt.cells, Pt.slots] at X17 l17 y17 z17 st17 hQ17
  subst l17 y17 z17
  obtain ⟨rfl, N17q, K17c, f18, f19⟩ := hQ17
  have N17 := Fr.app N13 N17q
  have f20 : Exa Z T17.heap b14 "com/example/bundles_to_brokers/bundlestobrokers/model/BundleRange" := A14.keep K17c
  have Z17 : n0 ≤ T17.heap.size := Nat.le_trans Z14 K17c.1
  obtain ⟨cq21, kq21, q21a, q21b, q21c⟩ := isOf hZ rfl f20
  obtain ⟨_, _, ⟨T21, L21, k21, n21⟩, -, X21, ⟨Lc21, hQ21, l21, y21, z21⟩, st21⟩ := X17.virtualBack hx (y := (⟨"com/example/bundles_to_brokers/bundlestobrokers/model/BundleRange", "canCutAt", "(J)Z"⟩ : MethodName)) (z := (⟨"com/example/bundles_to_brokers/bundlestobrokers/model/BundleRange", "canCutAt", "(J)Z"⟩ : MethodName)) hown (mvT hZ (hw _ (List.mem_of_getElem? (i := 35) rfl))) (mvT hZ (hw _ (List.mem_of_getElem? (i := 36) rfl))) (notFace_of_selects (args := #[]) (mvT hZ (hw _ (List.mem_of_getElem? (i := 38) rfl)))) (mvT hZ (hw _ (List.mem_of_getElem? (i := 38) rfl))) (mvT hZ (hw _ (List.mem_of_getElem? (i := 37) rfl))) (by decide) (backOf (W := 0) (rm8 l Z a0 hw [] b14 (r3_v (mo &&& (7 : Int32)) (j0_32_l11 xx yy) (j0_32_l13 xx yy) pv) (j0_32_l11 xx yy) (j0_32_l13 xx yy) T17.heap n0 Z17 f18 f19) hZ (hw _ (List.mem_of_getElem? (i := 39) rfl)) (hw _ (List.mem_of_getElem? (i := 14) rfl)) (by decide) (by decide)) q21a q21c (g := (mkF m 97 #[.val (.long xx), .second, .val (.long yy), .second, .val (.long pv), .second, .val (.int mo), .val (.long (xx &&& (4294967295 : Int64))), .second, .val (.long (yy &&& (4294967295 : Int64))), .second, .val (.long (j0_32_l11 xx yy)), .second, .val (.long (j0_32_l13 xx yy)), .second, .val (.long (r3_v (mo &&& (7 : Int32)) (j0_32_l11 xx yy) (j0_32_l13 xx yy) pv)), .second, .val (.ref b14), .unset, .unset] [(.long (r3_v (mo &&& (7 : Int32)) (j0_32_l11 xx yy) (j0_32_l13 xx yy) pv)), (.ref b14)])) rfl (by rw [hml]; rfl) (Steps.refl _) (argsL := [(.long (r3_v (mo &&& (7 : Int32)) (j0_32_l11 xx yy) (j0_32_l13 xx yy) pv))]) (rest := []) (lenOf pd_5 rfl) rfl (by show 2 * 0 + _ ≤ _; exact Nat.le_of_eq rfl) (hb hby at_97) (fun _ _ => ⟨rfl, rfl, (by decide : 1 + 0 ≤ _), (by decide : 2 + 0 ≤ _)⟩)
  dsimp only [Pt.U, Pt.locs, Pt.cells, Pt.slots] at X21 l21 y21 z21 st21 hQ21
  subst l21 y21 z21
  obtain ⟨rfl, N21q, e21⟩ := hQ21
  have N21 := Fr.app N17 N21q
  obtain ⟨cq22, kq22, q22a, q22b, q22c⟩ := isOf hZ e21 f20
  obtain ⟨_, _, ⟨T22, L22, k22, n22⟩, -, X22, ⟨Lc22, hQ22, l22, y22, z22⟩, st22⟩ := X21.virtualBack hx (y := (⟨"com/example/bundles_to_brokers/bundlestobrokers/model/BundleRange", "contains", "(J)Z"⟩ : MethodName)) (z := (⟨"com/example/bundles_to_brokers/bundlestobrokers/model/BundleRange", "contains", "(J)Z"⟩ : MethodName)) hown (mvT hZ (hw _ (List.mem_of_getElem? (i := 40) rfl))) (mvT hZ (hw _ (List.mem_of_getElem? (i := 41) rfl))) (notFace_of_selects (args := #[]) (mvT hZ (hw _ (List.mem_of_getElem? (i := 43) rfl)))) (mvT hZ (hw _ (List.mem_of_getElem? (i := 43) rfl))) (mvT hZ (hw _ (List.mem_of_getElem? (i := 42) rfl))) (by decide) (backOf (W := 0) (rm9 l Z a0 hw [] b14 (r3_v (mo &&& (7 : Int32)) (j0_32_l11 xx yy) (j0_32_l13 xx yy) pv) (j0_32_l11 xx yy) (j0_32_l13 xx yy) T17.heap n0 Z17 f18 f19) hZ (hw _ (List.mem_of_getElem? (i := 44) rfl)) (hw _ (List.mem_of_getElem? (i := 14) rfl)) (by decide) (by decide)) q22a q22c (g := (mkF m 106 #[.val (.long xx), .second, .val (.long yy), .second, .val (.long pv), .second, .val (.int mo), .val (.long (xx &&& (4294967295 : Int64))), .second, .val (.long (yy &&& (4294967295 : Int64))), .second, .val (.long (j0_32_l11 xx yy)), .second, .val (.long (j0_32_l13 xx yy)), .second, .val (.long (r3_v (mo &&& (7 : Int32)) (j0_32_l11 xx yy) (j0_32_l13 xx yy) pv)), .second, .val (.ref b14), .val (.int (r8_v (r3_v (mo &&& (7 : Int32)) (j0_32_l11 xx yy) (j0_32_l13 xx yy) pv) (j0_32_l11 xx yy) (j0_32_l13 xx yy))), .unset] [(.long (r3_v (mo &&& (7 : Int32)) (j0_32_l11 xx yy) (j0_32_l13 xx yy) pv)), (.ref b14)])) rfl (by rw [hml]; rfl) (Steps.refl _) (argsL := [(.long (r3_v (mo &&& (7 : Int32)) (j0_32_l11 xx yy) (j0_32_l13 xx yy) pv))]) (rest := []) (lenOf pd_5 rfl) rfl (by show 2 * 0 + _ ≤ _; exact Nat.le_of_eq rfl) (hb hby at_106) (fun _ _ => ⟨rfl, e21, (by decide : 1 + 0 ≤ _), (by decide : 2 + 0 ≤ _)⟩)
  dsimp only [Pt.U, Pt.locs, Pt.cells, Pt.slots] at X22 l22 y22 z22 st22 hQ22
  subst l22 y22 z22
  obtain ⟨rfl, N22q, e22⟩ := hQ22
  have N22 := Fr.app N21 N22q
  have pre30 : ∀ t, Steps p.tables e below (T22.setTop (mkF m 109 #[.val (.long xx), .second, .val (.long yy), .second, .val (.long pv), .second, .val (.int mo), .val (.long (xx &&& (4294967295 : Int64))), .second, .val (.long (yy &&& (4294967295 : Int64))), .second, .val (.long (j0_32_l11 xx yy)), .second, .val (.long (j0_32_l13 xx yy)), .second, .val (.long (r3_v (mo &&& (7 : Int32)) (j0_32_l11 xx yy) (j0_32_l13 xx yy) pv)), .second, .val (.ref b14), .val (.int (r8_v (r3_v (mo &&& (7 : Int32)) (j0_32_l11 xx yy) (j0_32_l13 xx yy) pv) (j0_32_l11 xx yy) (j0_32_l13 xx yy))), .unset] [(.int (r9_v (r3_v (mo &&& (7 : Int32)) (j0_32_l11 xx yy) (j0_32_l13 xx yy) pv) (j0_32_l11 xx yy) (j0_32_l13 xx yy)))])) t → Steps p.tables e below (s₁.setTop (entryFrame m #[(.long xx), (.long yy), (.long pv), (.int mo)] maxLocals)) t := by
    intro t k
    refine pre12 _ ?_
    show Steps p.tables e below (T2.setTop (mkF m 64 #[.val (.long xx), .second, .val (.long yy), .second, .val (.long pv), .second, .val (.int mo), .val (.long (xx &&& (4294967295 : Int64))), .second, .val (.long (yy &&& (4294967295 : Int64))), .second, .val (.long (j0_32_l11 xx yy)), .second, .val (.long (j0_32_l13 xx yy)), .second, .unset, .unset, .unset, .unset, .unset] [])) _
    refine XS.iload X2.here hx rfl (hb hby at_64) rfl ?_
    show Steps p.tables e below (T2.setTop (mkF m 66 #[.val (.long xx), .second, .val (.long yy), .second, .val (.long pv), .second, .val (.int mo), .val (.long (xx &&& (4294967295 : Int64))), .second, .val (.long (yy &&& (4294967295 : Int64))), .second, .val (.long (j0_32_l11 xx yy)), .second, .val (.long (j0_32_l13 xx yy)), .second, .unset, .unset, .unset, .unset, .unset] [(.int mo)])) _
    refine XS.bipush X2.here hx rfl (hb hby at_66) ?_
    show Steps p.tables e below (T2.setTop (mkF m 68 #[.val (.long xx), .second, .val (.long yy), .second, .val (.long pv), .second, .val (.int mo), .val (.long (xx &&& (4294967295 : Int64))), .second, .val (.long (yy &&& (4294967295 : Int64))), .second, .val (.long (j0_32_l11 xx yy)), .second, .val (.long (j0_32_l13 xx yy)), .second, .unset, .unset, .unset, .unset, .unset] [(.int (7 : Int32)), (.int mo)])) _
    refine XS.iand X2.here hx rfl (hb hby at_68) rfl ?_
    show Steps p.tables e below (T2.setTop (mkF m 69 #[.val (.long xx), .second, .val (.long yy), .second, .val (.long pv), .second, .val (.int mo), .val (.long (xx &&& (4294967295 : Int64))), .second, .val (.long (yy &&& (4294967295 : Int64))), .second, .val (.long (j0_32_l11 xx yy)), .second, .val (.long (j0_32_l13 xx yy)), .second, .unset, .unset, .unset, .unset, .unset] [(.int (mo &&& (7 : Int32)))])) _
    refine XS.lload X2.here hx rfl (hb hby at_69) rfl ?_
    show Steps p.tables e below (T2.setTop (mkF m 71 #[.val (.long xx), .second, .val (.long yy), .second, .val (.long pv), .second, .val (.int mo), .val (.long (xx &&& (4294967295 : Int64))), .second, .val (.long (yy &&& (4294967295 : Int64))), .second, .val (.long (j0_32_l11 xx yy)), .second, .val (.long (j0_32_l13 xx yy)), .second, .unset, .unset, .unset, .unset, .unset] [(.long (j0_32_l11 xx yy)), (.int (mo &&& (7 : Int32)))])) _
    refine XS.lload X2.here hx rfl (hb hby at_71) rfl ?_
    show Steps p.tables e below (T2.setTop (mkF m 73 #[.val (.long xx), .second, .val (.long yy), .second, .val (.long pv), .second, .val (.int mo), .val (.long (xx &&& (4294967295 : Int64))), .second, .val (.long (yy &&& (4294967295 : Int64))), .second, .val (.long (j0_32_l11 xx yy)), .second, .val (.long (j0_32_l13 xx yy)), .second, .unset, .unset, .unset, .unset, .unset] [(.long (j0_32_l13 xx yy)), (.long (j0_32_l11 xx yy)), (.int (mo &&& (7 : Int32)))])) _
    refine XS.lload X2.here hx rfl (hb hby at_73) rfl ?_
    show Steps p.tables e below (T2.setTop (mkF m 75 #[.val (.long xx), .second, .val (.long yy), .second, .val (.long pv), .second, .val (.int mo), .val (.long (xx &&& (4294967295 : Int64))), .second, .val (.long (yy &&& (4294967295 : Int64))), .second, .val (.long (j0_32_l11 xx yy)), .second, .val (.long (j0_32_l13 xx yy)), .second, .unset, .unset, .unset, .unset, .unset] [(.long pv), (.long (j0_32_l13 xx yy)), (.long (j0_32_l11 xx yy)), (.int (mo &&& (7 : Int32)))])) _
    refine st13 _ ?_
    show Steps p.tables e below (T13.setTop (mkF m 78 #[.val (.long xx), .second, .val (.long yy), .second, .val (.long pv), .second, .val (.int mo), .val (.long (xx &&& (4294967295 : Int64))), .second, .val (.long (yy &&& (4294967295 : Int64))), .second, .val (.long (j0_32_l11 xx yy)), .second, .val (.long (j0_32_l13 xx yy)), .second, .unset, .unset, .unset, .unset, .unset] [(.long (r3_v (mo &&& (7 : Int32)) (j0_32_l11 xx yy) (j0_32_l13 xx yy) pv))])) _
    refine XS.lstore X13.here hx rfl (hb hby at_78) rfl (l' := #[.val (.long xx), .second, .val (.long yy), .second, .val (.long pv), .second, .val (.int mo), .val (.long (xx &&& (4294967295 : Int64))), .second, .val (.long (yy &&& (4294967295 : Int64))), .second, .val (.long (j0_32_l11 xx yy)), .second, .val (.long (j0_32_l13 xx yy)), .second, .val (.long (r3_v (mo &&& (7 : Int32)) (j0_32_l11 xx yy) (j0_32_l13 xx yy) pv)), .second, .unset, .unset, .unset]) rfl ?_
    show Steps p.tables e below (T13.setTop (mkF m 80 #[.val (.long xx), .second, .val (.long yy), .second, .val (.long pv), .second, .val (.int mo), .val (.long (xx &&& (4294967295 : Int64))), .second, .val (.long (yy &&& (4294967295 : Int64))), .second, .val (.long (j0_32_l11 xx yy)), .second, .val (.long (j0_32_l13 xx yy)), .second, .val (.long (r3_v (mo &&& (7 : Int32)) (j0_32_l11 xx yy) (j0_32_l13 xx yy) pv)), .second, .unset, .unset, .unset] [])) _
    refine st14 _ ?_
    show Steps p.tables e below (T14.setTop (mkF m 83 #[.val (.long xx), .second, .val (.long yy), .second, .val (.long pv), .second, .val (.int mo), .val (.long (xx &&& (4294967295 : Int64))), .second, .val (.long (yy &&& (4294967295 : Int64))), .second, .val (.long (j0_32_l11 xx yy)), .second, .val (.long (j0_32_l13 xx yy)), .second, .val (.long (r3_v (mo &&& (7 : Int32)) (j0_32_l11 xx yy) (j0_32_l13 xx yy) pv)), .second, .unset, .unset, .unset] [(.ref b14)])) _
    refine XS.dup X14.here hx rfl (hb hby at_83) rfl rfl ?_
    show Steps p.tables e below (T14.setTop (mkF m 84 #[.val (.long xx), .second, .val (.long yy), .second, .val (.long pv), .second, .val (.int mo), .val (.long (xx &&& (4294967295 : Int64))), .second, .val (.long (yy &&& (4294967295 : Int64))), .second, .val (.long (j0_32_l11 xx yy)), .second, .val (.long (j0_32_l13 xx yy)), .second, .val (.long (r3_v (mo &&& (7 : Int32)) (j0_32_l11 xx yy) (j0_32_l13 xx yy) pv)), .second, .unset, .unset, .unset] [(.ref b14), (.ref b14)])) _
    refine XS.lload X14.here hx rfl (hb hby at_84) rfl ?_
    show Steps p.tables e below (T14.setTop (mkF m 86 #[.val (.long xx), .second, .val (.long yy), .second, .val (.long pv), .second, .val (.int mo), .val (.long (xx &&& (4294967295 : Int64))), .second, .val (.long (yy &&& (4294967295 : Int64))), .second, .val (.long (j0_32_l11 xx yy)), .second, .val (.long (j0_32_l13 xx yy)), .second, .val (.long (r3_v (mo &&& (7 : Int32)) (j0_32_l11 xx yy) (j0_32_l13 xx yy) pv)), .second, .unset, .unset, .unset] [(.long (j0_32_l11 xx yy)), (.ref b14), (.ref b14)])) _
    refine XS.lload X14.here hx rfl (hb hby at_86) rfl ?_
    show Steps p.tables e below (T14.setTop (mkF m 88 #[.val (.long xx), .second, .val (.long yy), .second, .val (.long pv), .second, .val (.int mo), .val (.long (xx &&& (4294967295 : Int64))), .second, .val (.long (yy &&& (4294967295 : Int64))), .second, .val (.long (j0_32_l11 xx yy)), .second, .val (.long (j0_32_l13 xx yy)), .second, .val (.long (r3_v (mo &&& (7 : Int32)) (j0_32_l11 xx yy) (j0_32_l13 xx yy) pv)), .second, .unset, .unset, .unset] [(.long (j0_32_l13 xx yy)), (.long (j0_32_l11 xx yy)), (.ref b14), (.ref b14)])) _
    refine st17.trans ?_
    show Steps p.tables e below (T17.setTop (mkF m 91 #[.val (.long xx), .second, .val (.long yy), .second, .val (.long pv), .second, .val (.int mo), .val (.long (xx &&& (4294967295 : Int64))), .second, .val (.long (yy &&& (4294967295 : Int64))), .second, .val (.long (j0_32_l11 xx yy)), .second, .val (.long (j0_32_l13 xx yy)), .second, .val (.long (r3_v (mo &&& (7 : Int32)) (j0_32_l11 xx yy) (j0_32_l13 xx yy) pv)), .second, .unset, .unset, .unset] [(.ref b14)])) _
    refine XS.astore X17.here hx rfl (hb hby at_91) rfl rfl (l' := #[.val (.long xx), .second, .val (.long yy), .second, .val (.long pv), .second, .val (.int mo), .val (.long (xx &&& (4294967295 : Int64))), .second, .val (.long (yy &&& (4294967295 : Int64))), .second, .val (.long (j0_32_l11 xx yy)), .second, .val (.long (j0_32_l13 xx yy)), .second, .val (.long (r3_v (mo &&& (7 : Int32)) (j0_32_l11 xx yy) (j0_32_l13 xx yy) pv)), .second, .val (.ref b14), .unset, .unset]) rfl ?_
    show Steps p.tables e below (T17.setTop (mkF m 93 #[.val (.long xx), .second, .val (.long yy), .second, .val (.long pv), .second, .val (.int mo), .val (.long (xx &&& (4294967295 : Int64))), .second, .val (.long (yy &&& (4294967295 : Int64))), .second, .val (.long (j0_32_l11 xx yy)), .second, .val (.long (j0_32_l13 xx yy)), .second, .val (.long (r3_v (mo &&& (7 : Int32)) (j0_32_l11 xx yy) (j0_32_l13 xx yy) pv)), .second, .val (.ref b14), .unset, .unset] [])) _
    refine XS.aload X17.here hx rfl (hb hby at_93) rfl rfl ?_
    show Steps p.tables e below (T17.setTop (mkF m 95 #[.val (.long xx), .second, .val (.long yy), .second, .val (.long pv), .second, .val (.int mo), .val (.long (xx &&& (4294967295 : Int64))), .second, .val (.long (yy &&& (4294967295 : Int64))), .second, .val (.long (j0_32_l11 xx yy)), .second, .val (.long (j0_32_l13 xx yy)), .second, .val (.long (r3_v (mo &&& (7 : Int32)) (j0_32_l11 xx yy) (j0_32_l13 xx yy) pv)), .second, .val (.ref b14), .unset, .unset] [(.ref b14)])) _
    refine XS.lload X17.here hx rfl (hb hby at_95) rfl ?_
    show Steps p.tables e below (T17.setTop (mkF m 97 #[.val (.long xx), .second, .val (.long yy), .second, .val (.long pv), .second, .val (.int mo), .val (.long (xx &&& (4294967295 : Int64))), .second, .val (.long (yy &&& (4294967295 : Int64))), .second, .val (.long (j0_32_l11 xx yy)), .second, .val (.long (j0_32_l13 xx yy)), .second, .val (.long (r3_v (mo &&& (7 : Int32)) (j0_32_l11 xx yy) (j0_32_l13 xx yy) pv)), .second, .val (.ref b14), .unset, .unset] [(.long (r3_v (mo &&& (7 : Int32)) (j0_32_l11 xx yy) (j0_32_l13 xx yy) pv)), (.ref b14)])) _
    refine st21.trans ?_
    show Steps p.tables e below (T21.setTop (mkF m 100 #[.val (.long xx), .second, .val (.long yy), .second, .val (.long pv), .second, .val (.int mo), .val (.long (xx &&& (4294967295 : Int64))), .second, .val (.long (yy &&& (4294967295 : Int64))), .second, .val (.long (j0_32_l11 xx yy)), .second, .val (.long (j0_32_l13 xx yy)), .second, .val (.long (r3_v (mo &&& (7 : Int32)) (j0_32_l11 xx yy) (j0_32_l13 xx yy) pv)), .second, .val (.ref b14), .unset, .unset] [(.int (r8_v (r3_v (mo &&& (7 : Int32)) (j0_32_l11 xx yy) (j0_32_l13 xx yy) pv) (j0_32_l11 xx yy) (j0_32_l13 xx yy)))])) _
    refine XS.istore X21.here hx rfl (hb hby at_100) rfl (l' := #[.val (.long xx), .second, .val (.long yy), .second, .val (.long pv), .second, .val (.int mo), .val (.long (xx &&& (4294967295 : Int64))), .second, .val (.long (yy &&& (4294967295 : Int64))), .second, .val (.long (j0_32_l11 xx yy)), .second, .val (.long (j0_32_l13 xx yy)), .second, .val (.long (r3_v (mo &&& (7 : Int32)) (j0_32_l11 xx yy) (j0_32_l13 xx yy) pv)), .second, .val (.ref b14), .val (.int (r8_v (r3_v (mo &&& (7 : Int32)) (j0_32_l11 xx yy) (j0_32_l13 xx yy) pv) (j0_32_l11 xx yy) (j0_32_l13 xx yy))), .unset]) rfl ?_
    show Steps p.tables e below (T21.setTop (mkF m 102 #[.val (.long xx), .second, .val (.long yy), .second, .val (.long pv), .second, .val (.int mo), .val (.long (xx &&& (4294967295 : Int64))), .second, .val (.long (yy &&& (4294967295 : Int64))), .second, .val (.long (j0_32_l11 xx yy)), .second, .val (.long (j0_32_l13 xx yy)), .second, .val (.long (r3_v (mo &&& (7 : Int32)) (j0_32_l11 xx yy) (j0_32_l13 xx yy) pv)), .second, .val (.ref b14), .val (.int (r8_v (r3_v (mo &&& (7 : Int32)) (j0_32_l11 xx yy) (j0_32_l13 xx yy) pv) (j0_32_l11 xx yy) (j0_32_l13 xx yy))), .unset] [])) _
    refine XS.aload X21.here hx rfl (hb hby at_102) rfl rfl ?_
    show Steps p.tables e below (T21.setTop (mkF m 104 #[.val (.long xx), .second, .val (.long yy), .second, .val (.long pv), .second, .val (.int mo), .val (.long (xx &&& (4294967295 : Int64))), .second, .val (.long (yy &&& (4294967295 : Int64))), .second, .val (.long (j0_32_l11 xx yy)), .second, .val (.long (j0_32_l13 xx yy)), .second, .val (.long (r3_v (mo &&& (7 : Int32)) (j0_32_l11 xx yy) (j0_32_l13 xx yy) pv)), .second, .val (.ref b14), .val (.int (r8_v (r3_v (mo &&& (7 : Int32)) (j0_32_l11 xx yy) (j0_32_l13 xx yy) pv) (j0_32_l11 xx yy) (j0_32_l13 xx yy))), .unset] [(.ref b14)])) _
    refine XS.lload X21.here hx rfl (hb hby at_104) rfl ?_
    show Steps p.tables e below (T21.setTop (mkF m 106 #[.val (.long xx), .second, .val (.long yy), .second, .val (.long pv), .second, .val (.int mo), .val (.long (xx &&& (4294967295 : Int64))), .second, .val (.long (yy &&& (4294967295 : Int64))), .second, .val (.long (j0_32_l11 xx yy)), .second, .val (.long (j0_32_l13 xx yy)), .second, .val (.long (r3_v (mo &&& (7 : Int32)) (j0_32_l11 xx yy) (j0_32_l13 xx yy) pv)), .second, .val (.ref b14), .val (.int (r8_v (r3_v (mo &&& (7 : Int32)) (j0_32_l11 xx yy) (j0_32_l13 xx yy) pv) (j0_32_l11 xx yy) (j0_32_l13 xx yy))), .unset] [(.long (r3_v (mo &&& (7 : Int32)) (j0_32_l11 xx yy) (j0_32_l13 xx yy) pv)), (.ref b14)])) _
    refine st22.trans ?_
    exact k
  have pre31 : ∀ t, Steps p.tables e below (T22.setTop (mkF m 135 #[.val (.long xx), .second, .val (.long yy), .second, .val (.long pv), .second, .val (.int mo), .val (.long (xx &&& (4294967295 : Int64))), .second, .val (.long (yy &&& (4294967295 : Int64))), .second, .val (.long (j0_32_l11 xx yy)), .second, .val (.long (j0_32_l13 xx yy)), .second, .val (.long (r3_v (mo &&& (7 : Int32)) (j0_32_l11 xx yy) (j0_32_l13 xx yy) pv)), .second, .val (.ref b14), .val (.int (r8_v (r3_v (mo &&& (7 : Int32)) (j0_32_l11 xx yy) (j0_32_l13 xx yy) pv) (j0_32_l11 xx yy) (j0_32_l13 xx yy))), .val (.int (j0_109_l19 xx yy pv mo))] [])) t → Steps p.tables e below (s₁.setTop (entryFrame m #[(.long xx), (.long yy), (.long pv), (.int mo)] maxLocals)) t := by
    intro t k
    refine pre30 _ ?_
    by_cases hk23 : (r9_v (r3_v (mo &&& (7 : Int32)) (j0_32_l11 xx yy) (j0_32_l13 xx yy) pv) (j0_32_l11 xx yy) (j0_32_l13 xx yy)) = (0 : Int32)
    · show Steps p.tables e below (T22.setTop (mkF m 109 #[.val (.long xx), .second, .val (.long yy), .second, .val (.long pv), .second, .val (.int mo), .val (.long (xx &&& (4294967295 : Int64))), .second, .val (.long (yy &&& (4294967295 : Int64))), .second, .val (.long (j0_32_l11 xx yy)), .second, .val (.long (j0_32_l13 xx yy)), .second, .val (.long (r3_v (mo &&& (7 : Int32)) (j0_32_l11 xx yy) (j0_32_l13 xx yy) pv)), .second, .val (.ref b14), .val (.int (r8_v (r3_v (mo &&& (7 : Int32)) (j0_32_l11 xx yy) (j0_32_l13 xx yy) pv) (j0_32_l11 xx yy) (j0_32_l13 xx yy))), .unset] [(.int (r9_v (r3_v (mo &&& (7 : Int32)) (j0_32_l11 xx yy) (j0_32_l13 xx yy) pv) (j0_32_l11 xx yy) (j0_32_l13 xx yy)))])) _
      refine XS.ifYes X22.here hx rfl (pc0 := 109) (pc' := 132) rfl (hb hby at_109) rfl ((if0 _ _).trans (teq hk23).1) (by decide) (by decide) ?_
      show Steps p.tables e below (T22.setTop (mkF m 132 #[.val (.long xx), .second, .val (.long yy), .second, .val (.long pv), .second, .val (.int mo), .val (.long (xx &&& (4294967295 : Int64))), .second, .val (.long (yy &&& (4294967295 : Int64))), .second, .val (.long (j0_32_l11 xx yy)), .second, .val (.long (j0_32_l13 xx yy)), .second, .val (.long (r3_v (mo &&& (7 : Int32)) (j0_32_l11 xx yy) (j0_32_l13 xx yy) pv)), .second, .val (.ref b14), .val (.int (r8_v (r3_v (mo &&& (7 : Int32)) (j0_32_l11 xx yy) (j0_32_l13 xx yy) pv) (j0_32_l11 xx yy) (j0_32_l13 xx yy))), .unset] [])) _
      refine XS.iconst X22.here hx rfl (hb hby at_132) ?_
      show Steps p.tables e below (T22.setTop (mkF m 133 #[.val (.long xx), .second, .val (.long yy), .second, .val (.long pv), .second, .val (.int mo), .val (.long (xx &&& (4294967295 : Int64))), .second, .val (.long (yy &&& (4294967295 : Int64))), .second, .val (.long (j0_32_l11 xx yy)), .second, .val (.long (j0_32_l13 xx yy)), .second, .val (.long (r3_v (mo &&& (7 : Int32)) (j0_32_l11 xx yy) (j0_32_l13 xx yy) pv)), .second, .val (.ref b14), .val (.int (r8_v (r3_v (mo &&& (7 : Int32)) (j0_32_l11 xx yy) (j0_32_l13 xx yy) pv) (j0_32_l11 xx yy) (j0_32_l13 xx yy))), .unset] [(.int (0 : Int32))])) _
      refine XS.istore X22.here hx rfl (hb hby at_133) rfl (l' := #[.val (.long xx), .second, .val (.long yy), .second, .val (.long pv), .second, .val (.int mo), .val (.long (xx &&& (4294967295 : Int64))), .second, .val (.long (yy &&& (4294967295 : Int64))), .second, .val (.long (j0_32_l11 xx yy)), .second, .val (.long (j0_32_l13 xx yy)), .second, .val (.long (r3_v (mo &&& (7 : Int32)) (j0_32_l11 xx yy) (j0_32_l13 xx yy) pv)), .second, .val (.ref b14), .val (.int (r8_v (r3_v (mo &&& (7 : Int32)) (j0_32_l11 xx yy) (j0_32_l13 xx yy) pv) (j0_32_l11 xx yy) (j0_32_l13 xx yy))), .val (.int (0 : Int32))]) rfl ?_
      have ev26 : (j0_109_l19 xx yy pv mo) = (0 : Int32) := by unfold j0_109_l19; rw [if_pos hk23]
      rw [ev26] at k
      exact k
    · show Steps p.tables e below (T22.setTop (mkF m 109 #[.val (.long xx), .second, .val (.long yy), .second, .val (.long pv), .second, .val (.int mo), .val (.long (xx &&& (4294967295 : Int64))), .second, .val (.long (yy &&& (4294967295 : Int64))), .second, .val (.long (j0_32_l11 xx yy)), .second, .val (.long (j0_32_l13 xx yy)), .second, .val (.long (r3_v (mo &&& (7 : Int32)) (j0_32_l11 xx yy) (j0_32_l13 xx yy) pv)), .second, .val (.ref b14), .val (.int (r8_v (r3_v (mo &&& (7 : Int32)) (j0_32_l11 xx yy) (j0_32_l13 xx yy) pv) (j0_32_l11 xx yy) (j0_32_l13 xx yy))), .unset] [(.int (r9_v (r3_v (mo &&& (7 : Int32)) (j0_32_l11 xx yy) (j0_32_l13 xx yy) pv) (j0_32_l11 xx yy) (j0_32_l13 xx yy)))])) _
      refine XS.ifNo X22.here hx rfl (hb hby at_109) rfl ((if0 _ _).trans (feq hk23).1) ?_
      show Steps p.tables e below (T22.setTop (mkF m 112 #[.val (.long xx), .second, .val (.long yy), .second, .val (.long pv), .second, .val (.int mo), .val (.long (xx &&& (4294967295 : Int64))), .second, .val (.long (yy &&& (4294967295 : Int64))), .second, .val (.long (j0_32_l11 xx yy)), .second, .val (.long (j0_32_l13 xx yy)), .second, .val (.long (r3_v (mo &&& (7 : Int32)) (j0_32_l11 xx yy) (j0_32_l13 xx yy) pv)), .second, .val (.ref b14), .val (.int (r8_v (r3_v (mo &&& (7 : Int32)) (j0_32_l11 xx yy) (j0_32_l13 xx yy) pv) (j0_32_l11 xx yy) (j0_32_l13 xx yy))), .unset] [])) _
      refine XS.lload X22.here hx rfl (hb hby at_112) rfl ?_
      show Steps p.tables e below (T22.setTop (mkF m 114 #[.val (.long xx), .second, .val (.long yy), .second, .val (.long pv), .second, .val (.int mo), .val (.long (xx &&& (4294967295 : Int64))), .second, .val (.long (yy &&& (4294967295 : Int64))), .second, .val (.long (j0_32_l11 xx yy)), .second, .val (.long (j0_32_l13 xx yy)), .second, .val (.long (r3_v (mo &&& (7 : Int32)) (j0_32_l11 xx yy) (j0_32_l13 xx yy) pv)), .second, .val (.ref b14), .val (.int (r8_v (r3_v (mo &&& (7 : Int32)) (j0_32_l11 xx yy) (j0_32_l13 xx yy) pv) (j0_32_l11 xx yy) (j0_32_l13 xx yy))), .unset] [(.long (r3_v (mo &&& (7 : Int32)) (j0_32_l11 xx yy) (j0_32_l13 xx yy) pv))])) _
      refine XS.lload X22.here hx rfl (hb hby at_114) rfl ?_
      show Steps p.tables e below (T22.setTop (mkF m 116 #[.val (.long xx), .second, .val (.long yy), .second, .val (.long pv), .second, .val (.int mo), .val (.long (xx &&& (4294967295 : Int64))), .second, .val (.long (yy &&& (4294967295 : Int64))), .second, .val (.long (j0_32_l11 xx yy)), .second, .val (.long (j0_32_l13 xx yy)), .second, .val (.long (r3_v (mo &&& (7 : Int32)) (j0_32_l11 xx yy) (j0_32_l13 xx yy) pv)), .second, .val (.ref b14), .val (.int (r8_v (r3_v (mo &&& (7 : Int32)) (j0_32_l11 xx yy) (j0_32_l13 xx yy) pv) (j0_32_l11 xx yy) (j0_32_l13 xx yy))), .unset] [(.long (j0_32_l11 xx yy)), (.long (r3_v (mo &&& (7 : Int32)) (j0_32_l11 xx yy) (j0_32_l13 xx yy) pv))])) _
      refine XS.lcmp X22.here hx rfl (hb hby at_116) rfl ?_
      by_cases hk24 : (r3_v (mo &&& (7 : Int32)) (j0_32_l11 xx yy) (j0_32_l13 xx yy) pv) = (j0_32_l11 xx yy)
      · show Steps p.tables e below (T22.setTop (mkF m 117 #[.val (.long xx), .second, .val (.long yy), .second, .val (.long pv), .second, .val (.int mo), .val (.long (xx &&& (4294967295 : Int64))), .second, .val (.long (yy &&& (4294967295 : Int64))), .second, .val (.long (j0_32_l11 xx yy)), .second, .val (.long (j0_32_l13 xx yy)), .second, .val (.long (r3_v (mo &&& (7 : Int32)) (j0_32_l11 xx yy) (j0_32_l13 xx yy) pv)), .second, .val (.ref b14), .val (.int (r8_v (r3_v (mo &&& (7 : Int32)) (j0_32_l11 xx yy) (j0_32_l13 xx yy) pv) (j0_32_l11 xx yy) (j0_32_l13 xx yy))), .unset] [(.int (lcmpW (r3_v (mo &&& (7 : Int32)) (j0_32_l11 xx yy) (j0_32_l13 xx yy) pv) (j0_32_l11 xx yy)))])) _
        refine XS.ifYes X22.here hx rfl (pc0 := 117) (pc' := 132) rfl (hb hby at_117) rfl (own_teqL hk24).1 (by decide) (by decide) ?_
        show Steps p.tables e below (T22.setTop (mkF m 132 #[.val (.long xx), .second, .val (.long yy), .second, .val (.long pv), .second, .val (.int mo), .val (.long (xx &&& (4294967295 : Int64))), .second, .val (.long (yy &&& (4294967295 : Int64))), .second, .val (.long (j0_32_l11 xx yy)), .second, .val (.long (j0_32_l13 xx yy)), .second, .val (.long (r3_v (mo &&& (7 : Int32)) (j0_32_l11 xx yy) (j0_32_l13 xx yy) pv)), .second, .val (.ref b14), .val (.int (r8_v (r3_v (mo &&& (7 : Int32)) (j0_32_l11 xx yy) (j0_32_l13 xx yy) pv) (j0_32_l11 xx yy) (j0_32_l13 xx yy))), .unset] [])) _
        refine XS.iconst X22.here hx rfl (hb hby at_132) ?_
        show Steps p.tables e below (T22.setTop (mkF m 133 #[.val (.long xx), .second, .val (.long yy), .second, .val (.long pv), .second, .val (.int mo), .val (.long (xx &&& (4294967295 : Int64))), .second, .val (.long (yy &&& (4294967295 : Int64))), .second, .val (.long (j0_32_l11 xx yy)), .second, .val (.long (j0_32_l13 xx yy)), .second, .val (.long (r3_v (mo &&& (7 : Int32)) (j0_32_l11 xx yy) (j0_32_l13 xx yy) pv)), .second, .val (.ref b14), .val (.int (r8_v (r3_v (mo &&& (7 : Int32)) (j0_32_l11 xx yy) (j0_32_l13 xx yy) pv) (j0_32_l11 xx yy) (j0_32_l13 xx yy))), .unset] [(.int (0 : Int32))])) _
        refine XS.istore X22.here hx rfl (hb hby at_133) rfl (l' := #[.val (.long xx), .second, .val (.long yy), .second, .val (.long pv), .second, .val (.int mo), .val (.long (xx &&& (4294967295 : Int64))), .second, .val (.long (yy &&& (4294967295 : Int64))), .second, .val (.long (j0_32_l11 xx yy)), .second, .val (.long (j0_32_l13 xx yy)), .second, .val (.long (r3_v (mo &&& (7 : Int32)) (j0_32_l11 xx yy) (j0_32_l13 xx yy) pv)), .second, .val (.ref b14), .val (.int (r8_v (r3_v (mo &&& (7 : Int32)) (j0_32_l11 xx yy) (j0_32_l13 xx yy) pv) (j0_32_l11 xx yy) (j0_32_l13 xx yy))), .val (.int (0 : Int32))]) rfl ?_
        have ev27 : (j0_109_l19 xx yy pv mo) = (0 : Int32) := by unfold j0_109_l19; rw [if_neg hk23, if_pos hk24]
        rw [ev27] at k
        exact k
      · show Steps p.tables e below (T22.setTop (mkF m 117 #[.val (.long xx), .second, .val (.long yy), .second, .val (.long pv), .second, .val (.int mo), .val (.long (xx &&& (4294967295 : Int64))), .second, .val (.long (yy &&& (4294967295 : Int64))), .second, .val (.long (j0_32_l11 xx yy)), .second, .val (.long (j0_32_l13 xx yy)), .second, .val (.long (r3_v (mo &&& (7 : Int32)) (j0_32_l11 xx yy) (j0_32_l13 xx yy) pv)), .second, .val (.ref b14), .val (.int (r8_v (r3_v (mo &&& (7 : Int32)) (j0_32_l11 xx yy) (j0_32_l13 xx yy) pv) (j0_32_l11 xx yy) (j0_32_l13 xx yy))), .unset] [(.int (lcmpW (r3_v (mo &&& (7 : Int32)) (j0_32_l11 xx yy) (j0_32_l13 xx yy) pv) (j0_32_l11 xx yy)))])) _
        refine XS.ifNo X22.here hx rfl (hb hby at_117) rfl (own_feqL hk24).1 ?_
        show Steps p.tables e below (T22.setTop (mkF m 120 #[.val (.long xx), .second, .val (.long yy), .second, .val (.long pv), .second, .val (.int mo), .val (.long (xx &&& (4294967295 : Int64))), .second, .val (.long (yy &&& (4294967295 : Int64))), .second, .val (.long (j0_32_l11 xx yy)), .second, .val (.long (j0_32_l13 xx yy)), .second, .val (.long (r3_v (mo &&& (7 : Int32)) (j0_32_l11 xx yy) (j0_32_l13 xx yy) pv)), .second, .val (.ref b14), .val (.int (r8_v (r3_v (mo &&& (7 : Int32)) (j0_32_l11 xx yy) (j0_32_l13 xx yy) pv) (j0_32_l11 xx yy) (j0_32_l13 xx yy))), .unset] [])) _
        refine XS.lload X22.here hx rfl (hb hby at_120) rfl ?_
        show Steps p.tables e below (T22.setTop (mkF m 122 #[.val (.long xx), .second, .val (.long yy), .second, .val (.long pv), .second, .val (.int mo), .val (.long (xx &&& (4294967295 : Int64))), .second, .val (.long (yy &&& (4294967295 : Int64))), .second, .val (.long (j0_32_l11 xx yy)), .second, .val (.long (j0_32_l13 xx yy)), .second, .val (.long (r3_v (mo &&& (7 : Int32)) (j0_32_l11 xx yy) (j0_32_l13 xx yy) pv)), .second, .val (.ref b14), .val (.int (r8_v (r3_v (mo &&& (7 : Int32)) (j0_32_l11 xx yy) (j0_32_l13 xx yy) pv) (j0_32_l11 xx yy) (j0_32_l13 xx yy))), .unset] [(.long (r3_v (mo &&& (7 : Int32)) (j0_32_l11 xx yy) (j0_32_l13 xx yy) pv))])) _
        refine XS.lload X22.here hx rfl (hb hby at_122) rfl ?_
        show Steps p.tables e below (T22.setTop (mkF m 124 #[.val (.long xx), .second, .val (.long yy), .second, .val (.long pv), .second, .val (.int mo), .val (.long (xx &&& (4294967295 : Int64))), .second, .val (.long (yy &&& (4294967295 : Int64))), .second, .val (.long (j0_32_l11 xx yy)), .second, .val (.long (j0_32_l13 xx yy)), .second, .val (.long (r3_v (mo &&& (7 : Int32)) (j0_32_l11 xx yy) (j0_32_l13 xx yy) pv)), .second, .val (.ref b14), .val (.int (r8_v (r3_v (mo &&& (7 : Int32)) (j0_32_l11 xx yy) (j0_32_l13 xx yy) pv) (j0_32_l11 xx yy) (j0_32_l13 xx yy))), .unset] [(.long (j0_32_l13 xx yy)), (.long (r3_v (mo &&& (7 : Int32)) (j0_32_l11 xx yy) (j0_32_l13 xx yy) pv))])) _
        refine XS.lcmp X22.here hx rfl (hb hby at_124) rfl ?_
        by_cases hk25 : (r3_v (mo &&& (7 : Int32)) (j0_32_l11 xx yy) (j0_32_l13 xx yy) pv) = (j0_32_l13 xx yy)
        · show Steps p.tables e below (T22.setTop (mkF m 125 #[.val (.long xx), .second, .val (.long yy), .second, .val (.long pv), .second, .val (.int mo), .val (.long (xx &&& (4294967295 : Int64))), .second, .val (.long (yy &&& (4294967295 : Int64))), .second, .val (.long (j0_32_l11 xx yy)), .second, .val (.long (j0_32_l13 xx yy)), .second, .val (.long (r3_v (mo &&& (7 : Int32)) (j0_32_l11 xx yy) (j0_32_l13 xx yy) pv)), .second, .val (.ref b14), .val (.int (r8_v (r3_v (mo &&& (7 : Int32)) (j0_32_l11 xx yy) (j0_32_l13 xx yy) pv) (j0_32_l11 xx yy) (j0_32_l13 xx yy))), .unset] [(.int (lcmpW (r3_v (mo &&& (7 : Int32)) (j0_32_l11 xx yy) (j0_32_l13 xx yy) pv) (j0_32_l13 xx yy)))])) _
          refine XS.ifYes X22.here hx rfl (pc0 := 125) (pc' := 132) rfl (hb hby at_125) rfl (own_teqL hk25).1 (by decide) (by decide) ?_
          show Steps p.tables e below (T22.setTop (mkF m 132 #[.val (.long xx), .second, .val (.long yy), .second, .val (.long pv), .second, .val (.int mo), .val (.long (xx &&& (4294967295 : Int64))), .second, .val (.long (yy &&& (4294967295 : Int64))), .second, .val (.long (j0_32_l11 xx yy)), .second, .val (.long (j0_32_l13 xx yy)), .second, .val (.long (r3_v (mo &&& (7 : Int32)) (j0_32_l11 xx yy) (j0_32_l13 xx yy) pv)), .second, .val (.ref b14), .val (.int (r8_v (r3_v (mo &&& (7 : Int32)) (j0_32_l11 xx yy) (j0_32_l13 xx yy) pv) (j0_32_l11 xx yy) (j0_32_l13 xx yy))), .unset] [])) _
          refine XS.iconst X22.here hx rfl (hb hby at_132) ?_
          show Steps p.tables e below (T22.setTop (mkF m 133 #[.val (.long xx), .second, .val (.long yy), .second, .val (.long pv), .second, .val (.int mo), .val (.long (xx &&& (4294967295 : Int64))), .second, .val (.long (yy &&& (4294967295 : Int64))), .second, .val (.long (j0_32_l11 xx yy)), .second, .val (.long (j0_32_l13 xx yy)), .second, .val (.long (r3_v (mo &&& (7 : Int32)) (j0_32_l11 xx yy) (j0_32_l13 xx yy) pv)), .second, .val (.ref b14), .val (.int (r8_v (r3_v (mo &&& (7 : Int32)) (j0_32_l11 xx yy) (j0_32_l13 xx yy) pv) (j0_32_l11 xx yy) (j0_32_l13 xx yy))), .unset] [(.int (0 : Int32))])) _
          refine XS.istore X22.here hx rfl (hb hby at_133) rfl (l' := #[.val (.long xx), .second, .val (.long yy), .second, .val (.long pv), .second, .val (.int mo), .val (.long (xx &&& (4294967295 : Int64))), .second, .val (.long (yy &&& (4294967295 : Int64))), .second, .val (.long (j0_32_l11 xx yy)), .second, .val (.long (j0_32_l13 xx yy)), .second, .val (.long (r3_v (mo &&& (7 : Int32)) (j0_32_l11 xx yy) (j0_32_l13 xx yy) pv)), .second, .val (.ref b14), .val (.int (r8_v (r3_v (mo &&& (7 : Int32)) (j0_32_l11 xx yy) (j0_32_l13 xx yy) pv) (j0_32_l11 xx yy) (j0_32_l13 xx yy))), .val (.int (0 : Int32))]) rfl ?_
          have ev28 : (j0_109_l19 xx yy pv mo) = (0 : Int32) := by unfold j0_109_l19; rw [if_neg hk23, if_neg hk24, if_pos hk25]
          rw [ev28] at k
          exact k
        · show Steps p.tables e below (T22.setTop (mkF m 125 #[.val (.long xx), .second, .val (.long yy), .second, .val (.long pv), .second, .val (.int mo), .val (.long (xx &&& (4294967295 : Int64))), .second, .val (.long (yy &&& (4294967295 : Int64))), .second, .val (.long (j0_32_l11 xx yy)), .second, .val (.long (j0_32_l13 xx yy)), .second, .val (.long (r3_v (mo &&& (7 : Int32)) (j0_32_l11 xx yy) (j0_32_l13 xx yy) pv)), .second, .val (.ref b14), .val (.int (r8_v (r3_v (mo &&& (7 : Int32)) (j0_32_l11 xx yy) (j0_32_l13 xx yy) pv) (j0_32_l11 xx yy) (j0_32_l13 xx yy))), .unset] [(.int (lcmpW (r3_v (mo &&& (7 : Int32)) (j0_32_l11 xx yy) (j0_32_l13 xx yy) pv) (j0_32_l13 xx yy)))])) _
          refine XS.ifNo X22.here hx rfl (hb hby at_125) rfl (own_feqL hk25).1 ?_
          show Steps p.tables e below (T22.setTop (mkF m 128 #[.val (.long xx), .second, .val (.long yy), .second, .val (.long pv), .second, .val (.int mo), .val (.long (xx &&& (4294967295 : Int64))), .second, .val (.long (yy &&& (4294967295 : Int64))), .second, .val (.long (j0_32_l11 xx yy)), .second, .val (.long (j0_32_l13 xx yy)), .second, .val (.long (r3_v (mo &&& (7 : Int32)) (j0_32_l11 xx yy) (j0_32_l13 xx yy) pv)), .second, .val (.ref b14), .val (.int (r8_v (r3_v (mo &&& (7 : Int32)) (j0_32_l11 xx yy) (j0_32_l13 xx yy) pv) (j0_32_l11 xx yy) (j0_32_l13 xx yy))), .unset] [])) _
          refine XS.iconst X22.here hx rfl (hb hby at_128) ?_
          show Steps p.tables e below (T22.setTop (mkF m 129 #[.val (.long xx), .second, .val (.long yy), .second, .val (.long pv), .second, .val (.int mo), .val (.long (xx &&& (4294967295 : Int64))), .second, .val (.long (yy &&& (4294967295 : Int64))), .second, .val (.long (j0_32_l11 xx yy)), .second, .val (.long (j0_32_l13 xx yy)), .second, .val (.long (r3_v (mo &&& (7 : Int32)) (j0_32_l11 xx yy) (j0_32_l13 xx yy) pv)), .second, .val (.ref b14), .val (.int (r8_v (r3_v (mo &&& (7 : Int32)) (j0_32_l11 xx yy) (j0_32_l13 xx yy) pv) (j0_32_l11 xx yy) (j0_32_l13 xx yy))), .unset] [(.int (1 : Int32))])) _
          refine XS.goto X22.here hx rfl (pc0 := 129) (pc' := 133) rfl (hb hby at_129) (by decide) (by decide) ?_
          show Steps p.tables e below (T22.setTop (mkF m 133 #[.val (.long xx), .second, .val (.long yy), .second, .val (.long pv), .second, .val (.int mo), .val (.long (xx &&& (4294967295 : Int64))), .second, .val (.long (yy &&& (4294967295 : Int64))), .second, .val (.long (j0_32_l11 xx yy)), .second, .val (.long (j0_32_l13 xx yy)), .second, .val (.long (r3_v (mo &&& (7 : Int32)) (j0_32_l11 xx yy) (j0_32_l13 xx yy) pv)), .second, .val (.ref b14), .val (.int (r8_v (r3_v (mo &&& (7 : Int32)) (j0_32_l11 xx yy) (j0_32_l13 xx yy) pv) (j0_32_l11 xx yy) (j0_32_l13 xx yy))), .unset] [(.int (1 : Int32))])) _
          refine XS.istore X22.here hx rfl (hb hby at_133) rfl (l' := #[.val (.long xx), .second, .val (.long yy), .second, .val (.long pv), .second, .val (.int mo), .val (.long (xx &&& (4294967295 : Int64))), .second, .val (.long (yy &&& (4294967295 : Int64))), .second, .val (.long (j0_32_l11 xx yy)), .second, .val (.long (j0_32_l13 xx yy)), .second, .val (.long (r3_v (mo &&& (7 : Int32)) (j0_32_l11 xx yy) (j0_32_l13 xx yy) pv)), .second, .val (.ref b14), .val (.int (r8_v (r3_v (mo &&& (7 : Int32)) (j0_32_l11 xx yy) (j0_32_l13 xx yy) pv) (j0_32_l11 xx yy) (j0_32_l13 xx yy))), .val (.int (1 : Int32))]) rfl ?_
          have ev29 : (j0_109_l19 xx yy pv mo) = (1 : Int32) := by unfold j0_109_l19; rw [if_neg hk23, if_neg hk24, if_neg hk25]
          rw [ev29] at k
          exact k
  obtain ⟨fs, hr, hrun, hended, hW, hsame⟩ := X22.leave (v := some (.int (1 : Int32))) (fun h => by rw [Bd.returns] at h; cases h)
  refine ⟨_, _, pre31 _ ?_, hrun, hended, _, _, rfl, ?_, ⟨_, rfl⟩, hW, hsame.mono (by decide) (by decide)⟩
  · show Steps p.tables e below (T22.setTop (mkF m 135 #[.val (.long xx), .second, .val (.long yy), .second, .val (.long pv), .second, .val (.int mo), .val (.long (xx &&& (4294967295 : Int64))), .second, .val (.long (yy &&& (4294967295 : Int64))), .second, .val (.long (j0_32_l11 xx yy)), .second, .val (.long (j0_32_l13 xx yy)), .second, .val (.long (r3_v (mo &&& (7 : Int32)) (j0_32_l11 xx yy) (j0_32_l13 xx yy) pv)), .second, .val (.ref b14), .val (.int (r8_v (r3_v (mo &&& (7 : Int32)) (j0_32_l11 xx yy) (j0_32_l13 xx yy) pv) (j0_32_l11 xx yy) (j0_32_l13 xx yy))), .val (.int (j0_109_l19 xx yy pv mo))] [])) _
    refine XS.iload X22.here hx rfl (hb hby at_135) rfl ?_
    show Steps p.tables e below (T22.setTop (mkF m 137 #[.val (.long xx), .second, .val (.long yy), .second, .val (.long pv), .second, .val (.int mo), .val (.long (xx &&& (4294967295 : Int64))), .second, .val (.long (yy &&& (4294967295 : Int64))), .second, .val (.long (j0_32_l11 xx yy)), .second, .val (.long (j0_32_l13 xx yy)), .second, .val (.long (r3_v (mo &&& (7 : Int32)) (j0_32_l11 xx yy) (j0_32_l13 xx yy) pv)), .second, .val (.ref b14), .val (.int (r8_v (r3_v (mo &&& (7 : Int32)) (j0_32_l11 xx yy) (j0_32_l13 xx yy) pv) (j0_32_l11 xx yy) (j0_32_l13 xx yy))), .val (.int (j0_109_l19 xx yy pv mo))] [(.int (r8_v (r3_v (mo &&& (7 : Int32)) (j0_32_l11 xx yy) (j0_32_l13 xx yy) pv) (j0_32_l11 xx yy) (j0_32_l13 xx yy)))])) _
    refine XS.iload X22.here hx rfl (hb hby at_137) rfl ?_
    show Steps p.tables e below (T22.setTop (mkF m 139 #[.val (.long xx), .second, .val (.long yy), .second, .val (.long pv), .second, .val (.int mo), .val (.long (xx &&& (4294967295 : Int64))), .second, .val (.long (yy &&& (4294967295 : Int64))), .second, .val (.long (j0_32_l11 xx yy)), .second, .val (.long (j0_32_l13 xx yy)), .second, .val (.long (r3_v (mo &&& (7 : Int32)) (j0_32_l11 xx yy) (j0_32_l13 xx yy) pv)), .second, .val (.ref b14), .val (.int (r8_v (r3_v (mo &&& (7 : Int32)) (j0_32_l11 xx yy) (j0_32_l13 xx yy) pv) (j0_32_l11 xx yy) (j0_32_l13 xx yy))), .val (.int (j0_109_l19 xx yy pv mo))] [(.int (j0_109_l19 xx yy pv mo)), (.int (r8_v (r3_v (mo &&& (7 : Int32)) (j0_32_l11 xx yy) (j0_32_l13 xx yy) pv) (j0_32_l11 xx yy) (j0_32_l13 xx yy)))])) _
    refine XS.icmpNo X22.here hx rfl (hb hby at_139) rfl (teq (own_fin xx yy pv mo : ((r8_v (r3_v (mo &&& (7 : Int32)) (j0_32_l11 xx yy) (j0_32_l13 xx yy) pv) (j0_32_l11 xx yy) (j0_32_l13 xx yy)) = (j0_109_l19 xx yy pv mo)))).2 ?_
    show Steps p.tables e below (T22.setTop (mkF m 142 #[.val (.long xx), .second, .val (.long yy), .second, .val (.long pv), .second, .val (.int mo), .val (.long (xx &&& (4294967295 : Int64))), .second, .val (.long (yy &&& (4294967295 : Int64))), .second, .val (.long (j0_32_l11 xx yy)), .second, .val (.long (j0_32_l13 xx yy)), .second, .val (.long (r3_v (mo &&& (7 : Int32)) (j0_32_l11 xx yy) (j0_32_l13 xx yy) pv)), .second, .val (.ref b14), .val (.int (r8_v (r3_v (mo &&& (7 : Int32)) (j0_32_l11 xx yy) (j0_32_l13 xx yy) pv) (j0_32_l11 xx yy) (j0_32_l13 xx yy))), .val (.int (j0_109_l19 xx yy pv mo))] [])) _
    refine XS.iconst X22.here hx rfl (hb hby at_142) ?_
    show Steps p.tables e below (T22.setTop (mkF m 143 #[.val (.long xx), .second, .val (.long yy), .second, .val (.long pv), .second, .val (.int mo), .val (.long (xx &&& (4294967295 : Int64))), .second, .val (.long (yy &&& (4294967295 : Int64))), .second, .val (.long (j0_32_l11 xx yy)), .second, .val (.long (j0_32_l13 xx yy)), .second, .val (.long (r3_v (mo &&& (7 : Int32)) (j0_32_l11 xx yy) (j0_32_l13 xx yy) pv)), .second, .val (.ref b14), .val (.int (r8_v (r3_v (mo &&& (7 : Int32)) (j0_32_l11 xx yy) (j0_32_l13 xx yy) pv) (j0_32_l11 xx yy) (j0_32_l13 xx yy))), .val (.int (j0_109_l19 xx yy pv mo))] [(.int (1 : Int32))])) _
    refine XS.goto X22.here hx rfl (pc0 := 143) (pc' := 147) rfl (hb hby at_143) (by decide) (by decide) ?_
    show Steps p.tables e below (T22.setTop (mkF m 147 #[.val (.long xx), .second, .val (.long yy), .second, .val (.long pv), .second, .val (.int mo), .val (.long (xx &&& (4294967295 : Int64))), .second, .val (.long (yy &&& (4294967295 : Int64))), .second, .val (.long (j0_32_l11 xx yy)), .second, .val (.long (j0_32_l13 xx yy)), .second, .val (.long (r3_v (mo &&& (7 : Int32)) (j0_32_l11 xx yy) (j0_32_l13 xx yy) pv)), .second, .val (.ref b14), .val (.int (r8_v (r3_v (mo &&& (7 : Int32)) (j0_32_l11 xx yy) (j0_32_l13 xx yy) pv) (j0_32_l11 xx yy) (j0_32_l13 xx yy))), .val (.int (j0_109_l19 xx yy pv mo))] [(.int (1 : Int32))])) _
    exact retN X22 hx (t := .boolean) Bd.returns (by simp) (hb hby at_147) hr
  · show Q0 Z xx yy pv mo h0 n0 _ T22.heap _
    rw [e22]
    exact ⟨rfl, N22⟩
set_option maxRecDepth 65536 in
set_option maxHeartbeats 40000000 in
theorem comes_1 {Post : Tables → Env → Array Value → State → Outcome → State → Prop} (hpost : ∀ tb e args s v u, (limb_1_1.after args s (.returned v) u = true ∧ limb_1_2.after args s (.returned v) u = true ∧ True) → FrameEnd s (.returned v) u (Jvm.fieldLocs frame_1_writes args s ++ Jvm.arrayLocs frame_1_arrays args s ++ Jvm.staticLocs frame_1_statics s) 16 128 → Post tb e args s (.returned v) u) :
    ArmFor flags0 classFile x code maxLocals ret World_1 tables_1 room_1 Calls_1 rest_1 Pre_1 Post := by
  intro l hfl _ _ p e ha hc hk s m args below hf hA hF happ hP
  obtain ⟨hcalls, hrest, hpre⟩ := hP
  obtain ⟨-, -, -, hnamed, -, -, -, hat⟩ := (Spec.applies_iff hf).mp happ
  obtain ⟨hg, hn⟩ := and_e (Cond.before_iff.mp (show (Jvm.Cond.and given_1 narrow_1).before args s = true from hpre))
  obtain ⟨gv1, gv2⟩ := and_e hg
  obtain ⟨gv3, gv4⟩ := and_e gv2
  obtain ⟨gv5, gv6⟩ := and_e gv4
  obtain ⟨gv7, gv8⟩ := and_e gv6
  obtain ⟨w0, w1, w2, w3, rfl⟩ : ∃ w0 w1 w2 w3 : Value, args = #[w0, w1, w2, w3] := by
    have hs : args.size = 4 := by simpa [Cond.value, given_1] using gv1
    obtain ⟨L⟩ := args
    match L, hs with
    | [w0, w1, w2, w3], _ => exact ⟨w0, w1, w2, w3, rfl⟩
  have hw := fun d (hd : d ∈ tables_1) => atoms_spec (ws := Jvm.Cond.code x code maxLocals ret :: tables_1) hat d (List.mem_cons_of_mem _ hd)
  have hfit : Fit s := fun {y c} hc i hi => by
    obtain ⟨ha, rfl⟩ := Array.getElem?_eq_some_iff.mp hc
    have q := List.all_eq_true.mp ((Array.all_eq_true_iff_forall_mem.mp hF) _ (Array.getElem_mem ha)) i (List.mem_range.mpr hi)
    simpa [Array.getElem?_eq_getElem hi] using q
  obtain ⟨i0, ei0⟩ := isL_v gv3
  obtain rfl : w0 = (.long i0) := Option.some.inj ei0
  obtain ⟨i1, ei1⟩ := isL_v gv5
  obtain rfl : w1 = (.long i1) := Option.some.inj ei1
  obtain ⟨i2, ei2⟩ := isL_v gv7
  obtain rfl : w2 = (.long i2) := Option.some.inj ei2
  obtain ⟨i3, ei3⟩ := is_v gv8
  obtain rfl : w3 = (.int i3) := Option.some.inj ei3
  obtain ⟨n, o, h1, h2, h3, _, L, rfl, ⟨rfl, N⟩, hq⟩ := rm0 l s _ hw tables_1 i0 i1 i2 i3 s.heap s.heap.size (Nat.le_refl _) p e ha hc hk s m _ below hf ((Spec.applies_iff_loose hf).mp happ).1 ⟨rfl, State.Warmed39.refl s, rfl⟩ trivial
  refine ⟨n, _, h1, h2, h3, hpost _ _ _ _ _ _ ⟨Cond.after_iff.mpr rfl, Cond.after_iff.mpr (eq_i res_at (Term.int_eval (1)) rfl), trivial⟩ ⟨hq.1, hq.2.1, (hq.2.2.sift fun y hy => Or.inr (N y hy)).mono (by decide) (by decide)⟩⟩
theorem main_1_1 : Claimed_1_1 := comes_1 fun _ _ _ _ _ _ h hF => ⟨h.1, hF⟩
theorem main_1_2 : Claimed_1_2 := comes_1 fun _ _ _ _ _ _ h hF => ⟨h.2.1, hF⟩
end Jvm.Pilot.@@N@@
namespace Jvm.Pilot.@@N@@
open Jvm Jvm.ClassFile Sem Op Lib Jvm.Free Jvm.Stand Jvm.Pilot.@@N@@.Jvm.D
/-! MADE BY PROGRAM (witnessworld.py) out of the Statement's table words and the real class files: 12 classes; the members and pool entries that the words name. The judged class is class 1, her method 1. -/
namespace start1
open Jvm.ClassFile
def u (s : String) : CpInfo := .utf8 (stringToUtf16 s)
/-- a pool by its gaps: so many unusable entries, then the entry; so many at the end -/
def gap : Nat → List CpInfo → List CpInfo
  | 0, r => r
  | n + 1, r => .unusable :: gap n r
def poolList (es : List (Nat × CpInfo)) (last : Nat) : List CpInfo := es.foldr (fun e r => gap e.1 (e.2 :: r)) (gap last [])
def pool (es : List (Nat × CpInfo)) (last : Nat) : Array CpInfo := ⟨poolList es last⟩
def fileOf (pool : Array CpInfo) (this : Nat) (attrs : Array Attribute := #[]) (ms : Array MethodInfo := #[]) (fl : Nat := 33) (sup : Nat := 0) (ifs : Array Nat := #[]) (fds : Array FieldInfo := #[]) : ClassFile where
  minorVersion := 0
  majorVersion := 65
  constantPool := pool
  accessFlags := fl
  thisClass := this
  superClass := sup
  interfaces := ifs
  fields := fds
  methods := ms
  attributes := attrs
def plain (name : String) (sup : Option ClassId) : Class where
  name := name
  kind := .ordinary
  loader := none
  accessFlags := 33
  super := sup
  interfaces := #[]
  cf := none
  fields := #[]
  methods := #[]
  instanceTypes := #[]
  staticTypes := #[]
  resolved := #[]
  callSites := []
  init := .initialized
  statics := none
  mirror := none

def pool0 : Array CpInfo := pool [(5, u "<init>"), (0, u "()V"), (1, .class_ 10), (1, u "java/lang/Object")] 113

def k0c0 : Code := { maxStack := 0, maxLocals := 1, code := object_method_1_code, exceptionTable := #[], attributes := #[] }
def k0m0 : Method := { name := "<init>", desc := "()V", sig := { parameters := [], returnType := none }, accessFlags := 1, code := some k0c0 }
/-- java/lang/Object -/
def k0 : Class := { plain "java/lang/Object" none with
  accessFlags := 33
  interfaces := #[]
  cf := some (fileOf pool0 8 #[] #[{ accessFlags := 1, nameIndex := 5, descriptorIndex := 6, attributes := #[] }] 33 0 #[] #[])
  fields := #[]
  methods := #[k0m0]
  instanceTypes := #[]
  staticTypes := #[]
  resolved := Array.replicate 124 none
  statics := none }

def pool1 : Array CpInfo := pool [(2, .class_ 4), (1, u "java/lang/Object"), (0, u "<init>"), (0, u "()V"), (0, .long 4294967295), (1, .methodref 10 11), (0, .class_ 12), (0, .nameAndType 13 14), (0, u "java/lang/Math"), (0, u "min"), (0, u "(JJ)J"), (0, .methodref 10 16), (0, .nameAndType 17 14), (0, u "max"), (0, .methodref 19 20), (0, .class_ 21), (0, .nameAndType 22 23), (0, u "com/example/bundles_to_brokers/bundlestobrokers/model/BundleRangeCanCutAtPinLaw"), (0, u "pick"), (0, u "(IJJJ)J"), (0, .class_ 25), (0, u "com/example/bundles_to_brokers/bundlestobrokers/model/BundleRange"), (0, .methodref 24 27), (0, .nameAndType 5 28), (0, u "(JJ)V"), (0, .methodref 24 30), (0, .nameAndType 31 32), (0, u "canCutAt"), (0, u "(J)Z"), (0, .methodref 24 34), (0, .nameAndType 35 32), (0, u "contains"), (2, u "law"), (0, u "(JJJI)Z")] 3

def k1m0 : Method := { name := "<init>", desc := "()V", sig := { parameters := [], returnType := none }, accessFlags := 2, code := none }
def k1c1 : Code := { maxStack := 7, maxLocals := 20, code := code, exceptionTable := #[], attributes := #[] }
def k1m1 : Method := { name := "law", desc := "(JJJI)Z", sig := { parameters := [.long, .long, .long, .int], returnType := some .boolean }, accessFlags := 9, code := some k1c1 }
def k1c2 : Code := { maxStack := 4, maxLocals := 7, code := method_3_code, exceptionTable := #[], attributes := #[] }
def k1m2 : Method := { name := "pick", desc := "(IJJJ)J", sig := { parameters := [.int, .long, .long, .long], returnType := some .long }, accessFlags := 10, code := some k1c2 }
/-- com/example/bundles_to_brokers/bundlestobrokers/model/BundleRangeCanCutAtPinLaw -/
def k1 : Class := { plain "com/example/bundles_to_brokers/bundlestobrokers/model/BundleRangeCanCutAtPinLaw" (some 0) with
  accessFlags := 49
  interfaces := #[]
  cf := some (fileOf pool1 19 #[] #[{ accessFlags := 2, nameIndex := 5, descriptorIndex := 6, attributes := #[] }, { accessFlags := 9, nameIndex := 38, descriptorIndex := 39, attributes := #[] }, { accessFlags := 10, nameIndex := 22, descriptorIndex := 23, attributes := #[] }] 49 2 #[] #[])
  fields := #[]
  methods := #[k1m0, k1m1, k1m2]
  instanceTypes := #[]
  staticTypes := #[]
  resolved := Array.replicate 43 none
  statics := none }

def pool2 : Array CpInfo := pool [(1, .class_ 2), (0, u "java/lang/Math"), (1, .class_ 6), (1, u "java/lang/Object"), (0, u "<init>"), (0, u "()V"), (89, .class_ 100), (1, u "java/lang/Math$RandomNumberGeneratorHolder"), (20, u "(JJ)J"), (50, u "negativeZeroFloatBits"), (0, u "J"), (2, u "negativeZeroDoubleBits"), (21, u "max"), (2, u "min"), (43, u "$assertionsDisabled"), (0, u "Z"), (91, u "twoToTheDoubleScaleDown"), (0, u "D"), (4, u "twoToTheDoubleScaleUp"), (9, u "E"), (3, u "PI"), (2, u "TAU"), (2, u "DEGREES_TO_RADIANS"), (0, u "RADIANS_TO_DEGREES")] 94

def k2m0 : Method := { name := "<init>", desc := "()V", sig := { parameters := [], returnType := none }, accessFlags := 2, code := none }
def k2c1 : Code := { maxStack := 4, maxLocals := 4, code := jdk_29_method_66_code, exceptionTable := #[], attributes := #[] }
def k2m1 : Method := { name := "max", desc := "(JJ)J", sig := { parameters := [.long, .long], returnType := some .long }, accessFlags := 9, code := some k2c1 }
def k2c2 : Code := { maxStack := 4, maxLocals := 4, code := jdk_29_method_70_code, exceptionTable := #[], attributes := #[] }
def k2m2 : Method := { name := "min", desc := "(JJ)J", sig := { parameters := [.long, .long], returnType := some .long }, accessFlags := 9, code := some k2c2 }
/-- java/lang/Math -/
def k2 : Class := { plain "java/lang/Math" (some 0) with
  accessFlags := 49
  interfaces := #[]
  cf := some (fileOf pool2 1 #[.nestMembers #[98]] #[{ accessFlags := 2, nameIndex := 7, descriptorIndex := 8, attributes := #[] }, { accessFlags := 9, nameIndex := 198, descriptorIndex := 121, attributes := #[] }, { accessFlags := 9, nameIndex := 201, descriptorIndex := 121, attributes := #[] }] 49 4 #[] #[{ accessFlags := 25, nameIndex := 354, descriptorIndex := 339, attributes := #[] }, { accessFlags := 25, nameIndex := 358, descriptorIndex := 339, attributes := #[] }, { accessFlags := 25, nameIndex := 361, descriptorIndex := 339, attributes := #[] }, { accessFlags := 26, nameIndex := 364, descriptorIndex := 339, attributes := #[] }, { accessFlags := 26, nameIndex := 365, descriptorIndex := 339, attributes := #[] }, { accessFlags := 26, nameIndex := 172, descriptorIndex := 173, attributes := #[] }, { accessFlags := 26, nameIndex := 176, descriptorIndex := 173, attributes := #[] }, { accessFlags := 8, nameIndex := 344, descriptorIndex := 339, attributes := #[] }, { accessFlags := 8, nameIndex := 338, descriptorIndex := 339, attributes := #[] }, { accessFlags := 4120, nameIndex := 245, descriptorIndex := 246, attributes := #[] }])
  fields := #[{ name := "E", type := .double, accessFlags := 25, slot := 0, constantValue := 0 }, { name := "PI", type := .double, accessFlags := 25, slot := 1, constantValue := 0 }, { name := "TAU", type := .double, accessFlags := 25, slot := 2, constantValue := 0 }, { name := "DEGREES_TO_RADIANS", type := .double, accessFlags := 26, slot := 3, constantValue := 0 }, { name := "RADIANS_TO_DEGREES", type := .double, accessFlags := 26, slot := 4, constantValue := 0 }, { name := "negativeZeroFloatBits", type := .long, accessFlags := 26, slot := 5, constantValue := 0 }, { name := "negativeZeroDoubleBits", type := .long, accessFlags := 26, slot := 6, constantValue := 0 }, { name := "twoToTheDoubleScaleUp", type := .double, accessFlags := 8, slot := 7, constantValue := 0 }, { name := "twoToTheDoubleScaleDown", type := .double, accessFlags := 8, slot := 8, constantValue := 0 }, { name := "$assertionsDisabled", type := .boolean, accessFlags := 4120, slot := 9, constantValue := 0 }]
  methods := #[k2m0, k2m1, k2m2]
  instanceTypes := #[]
  staticTypes := #[.double, .double, .double, .double, .double, .long, .long, .double, .double, .boolean]
  resolved := Array.replicate 460 none
  statics := none }

def pool3 : Array CpInfo := pool [(1, .methodref 2 3), (0, .class_ 4), (0, .nameAndType 5 6), (0, u "java/lang/Object"), (0, u "<init>"), (0, u "()V"), (0, .class_ 8), (0, u "java/lang/Record")] 13

def k3c0 : Code := { maxStack := 1, maxLocals := 1, code := jdk_30_method_1_code, exceptionTable := #[], attributes := #[] }
def k3m0 : Method := { name := "<init>", desc := "()V", sig := { parameters := [], returnType := none }, accessFlags := 4, code := some k3c0 }
/-- java/lang/Record -/
def k3 : Class := { plain "java/lang/Record" (some 0) with
  accessFlags := 1057
  interfaces := #[]
  cf := some (fileOf pool3 7 #[] #[{ accessFlags := 4, nameIndex := 5, descriptorIndex := 6, attributes := #[] }] 1057 2 #[] #[])
  fields := #[]
  methods := #[k3m0]
  instanceTypes := #[]
  staticTypes := #[]
  resolved := Array.replicate 22 none
  statics := none }

def pool4 : Array CpInfo := pool [(1, .methodref 2 3), (0, .class_ 4), (0, .nameAndType 5 6), (0, u "java/lang/Record"), (0, u "<init>"), (0, u "()V"), (0, .methodref 8 9), (0, .class_ 10), (0, .nameAndType 11 12), (0, u "com/example/bundles_to_brokers/bundlestobrokers/model/HashSpace"), (0, u "checkInSpace"), (0, u "(J)V"), (3, .class_ 18), (1, u "com/example/bundles_to_brokers/bundlestobrokers/model/BundleRange"), (9, .fieldref 16 29), (0, .nameAndType 30 31), (0, u "lower"), (0, u "J"), (0, .fieldref 16 33), (0, .nameAndType 34 31), (0, u "upper"), (28, u "(JJ)V"), (0, .long 4294967295), (49, u "NOTATION"), (0, u "Ljava/lang/String;"), (8, u "contains"), (0, u "(J)Z"), (0, u "canCutAt")] 38

def k4c0 : Code := { maxStack := 6, maxLocals := 5, code := prog_10_method_1_code, exceptionTable := #[], attributes := #[] }
def k4m0 : Method := { name := "<init>", desc := "(JJ)V", sig := { parameters := [.long, .long], returnType := none }, accessFlags := 1, code := some k4c0 }
def k4c1 : Code := { maxStack := 4, maxLocals := 3, code := prog_10_method_3_code, exceptionTable := #[], attributes := #[] }
def k4m1 : Method := { name := "contains", desc := "(J)Z", sig := { parameters := [.long], returnType := some .boolean }, accessFlags := 1, code := some k4c1 }
def k4c2 : Code := { maxStack := 4, maxLocals := 3, code := prog_10_method_4_code, exceptionTable := #[], attributes := #[] }
def k4m2 : Method := { name := "canCutAt", desc := "(J)Z", sig := { parameters := [.long], returnType := some .boolean }, accessFlags := 1, code := some k4c2 }
/-- com/example/bundles_to_brokers/bundlestobrokers/model/BundleRange -/
def k4 : Class := { plain "com/example/bundles_to_brokers/bundlestobrokers/model/BundleRange" (some 3) with
  accessFlags := 49
  interfaces := #[]
  cf := some (fileOf pool4 16 #[] #[{ accessFlags := 1, nameIndex := 5, descriptorIndex := 63, attributes := #[] }, { accessFlags := 1, nameIndex := 124, descriptorIndex := 125, attributes := #[] }, { accessFlags := 1, nameIndex := 126, descriptorIndex := 125, attributes := #[] }] 49 2 #[] #[{ accessFlags := 18, nameIndex := 30, descriptorIndex := 31, attributes := #[] }, { accessFlags := 18, nameIndex := 34, descriptorIndex := 31, attributes := #[] }, { accessFlags := 26, nameIndex := 114, descriptorIndex := 115, attributes := #[] }])
  fields := #[{ name := "lower", type := .long, accessFlags := 18, slot := 0, constantValue := 0 }, { name := "upper", type := .long, accessFlags := 18, slot := 1, constantValue := 0 }, { name := "NOTATION", type := (.object "java/lang/String"), accessFlags := 26, slot := 0, constantValue := 0 }]
  methods := #[k4m0, k4m1, k4m2]
  instanceTypes := #[.long, .long]
  staticTypes := #[(.object "java/lang/String")]
  resolved := Array.replicate 165 none
  statics := none }

def pool5 : Array CpInfo := pool [(1, .class_ 2), (0, u "com/example/bundles_to_brokers/bundlestobrokers/model/HashSpace"), (1, .class_ 6), (1, u "java/lang/Object"), (0, u "<init>"), (0, u "()V"), (2, u "checkInSpace"), (0, u "(J)V"), (49, .long 4294967295), (8, u "MAX"), (0, u "J"), (1, u "SIZE"), (2, u "PREFIX"), (0, u "Ljava/lang/String;"), (0, u "DIGITS"), (0, u "I"), (1, u "NOTATION")] 25

def k5m0 : Method := { name := "<init>", desc := "()V", sig := { parameters := [], returnType := none }, accessFlags := 2, code := none }
def k5c1 : Code := { maxStack := 4, maxLocals := 2, code := prog_14_method_5_code, exceptionTable := #[], attributes := #[] }
def k5m1 : Method := { name := "checkInSpace", desc := "(J)V", sig := { parameters := [.long], returnType := none }, accessFlags := 8, code := some k5c1 }
/-- com/example/bundles_to_brokers/bundlestobrokers/model/HashSpace -/
def k5 : Class := { plain "com/example/bundles_to_brokers/bundlestobrokers/model/HashSpace" (some 0) with
  accessFlags := 33
  interfaces := #[]
  cf := some (fileOf pool5 1 #[] #[{ accessFlags := 2, nameIndex := 7, descriptorIndex := 8, attributes := #[] }, { accessFlags := 8, nameIndex := 11, descriptorIndex := 12, attributes := #[] }] 33 4 #[] #[{ accessFlags := 25, nameIndex := 71, descriptorIndex := 72, attributes := #[] }, { accessFlags := 25, nameIndex := 74, descriptorIndex := 72, attributes := #[] }, { accessFlags := 26, nameIndex := 77, descriptorIndex := 78, attributes := #[] }, { accessFlags := 26, nameIndex := 79, descriptorIndex := 80, attributes := #[] }, { accessFlags := 26, nameIndex := 82, descriptorIndex := 78, attributes := #[] }])
  fields := #[{ name := "MAX", type := .long, accessFlags := 25, slot := 0, constantValue := 0 }, { name := "SIZE", type := .long, accessFlags := 25, slot := 1, constantValue := 0 }, { name := "PREFIX", type := (.object "java/lang/String"), accessFlags := 26, slot := 2, constantValue := 0 }, { name := "DIGITS", type := .int, accessFlags := 26, slot := 3, constantValue := 0 }, { name := "NOTATION", type := (.object "java/lang/String"), accessFlags := 26, slot := 4, constantValue := 0 }]
  methods := #[k5m0, k5m1]
  instanceTypes := #[]
  staticTypes := #[.long, .long, (.object "java/lang/String"), .int, (.object "java/lang/String")]
  resolved := Array.replicate 108 none
  statics := none }

def pool6 : Array CpInfo := pool [(1, u "java/lang/Cloneable"), (0, .class_ 1), (0, u "java/lang/Object"), (0, .class_ 3)] 3

/-- java/lang/Cloneable -/
def k6 : Class := { plain "java/lang/Cloneable" (some 0) with
  accessFlags := 1537
  interfaces := #[]
  cf := some (fileOf pool6 2 #[] #[] 1537 4 #[] #[])
  fields := #[]
  methods := #[]
  instanceTypes := #[]
  staticTypes := #[]
  resolved := Array.replicate 8 none
  statics := none }

def pool7 : Array CpInfo := pool [(1, u "java/io/Serializable"), (0, .class_ 1), (0, u "java/lang/Object"), (0, .class_ 3)] 3

/-- java/io/Serializable -/
def k7 : Class := { plain "java/io/Serializable" (some 0) with
  accessFlags := 1537
  interfaces := #[]
  cf := some (fileOf pool7 2 #[] #[] 1537 4 #[] #[])
  fields := #[]
  methods := #[]
  instanceTypes := #[]
  staticTypes := #[]
  resolved := Array.replicate 8 none
  statics := none }

/-- the primitive byte -/
def k8 : Class := { plain "byte" none with kind := .primitive 'B', accessFlags := 0x411 }
/-- [B -/
def k9 : Class := { plain "[B" (some 0) with kind := .array 8 .byte, interfaces := #[6, 7], accessFlags := 1041 }

/-- the primitive int -/
def k10 : Class := { plain "int" none with kind := .primitive 'I', accessFlags := 0x411 }
/-- [I -/
def k11 : Class := { plain "[I" (some 0) with kind := .array 10 .int, interfaces := #[6, 7], accessFlags := 1041 }

def heap : Heap := #[]
def classes : Array Class := #[k0, k1, k2, k3, k4, k5, k6, k7, k8, k9, k10, k11]
def interned : List (Array UInt16 × Addr) := []
def slotsUsed : Nat := 0
def theMethod : MethodId := ⟨1, 1⟩
def args0 : Array Value := #[.long 100, .long 5000, .long 700, .int 0]
def aboutOver (below : List Frame) : State where
  vm := { classes := classes, interned := interned.toArray }
  heap := heap
  slotsUsed := slotsUsed
  threads := #[{ frames := .invoking theMethod args0 :: below }]
def below0 : List Frame := [.native { method := ⟨0, 0⟩, args := #[] }]
def about1 : State := aboutOver below0
def p0 : Program := .bare "" "" ""
def e0 : Env := launch0.env 0 0 0
theorem w_frames : about1.frames = Frame.invoking theMethod args0 :: below0 := rfl
set_option maxRecDepth 65536 in
theorem w_args : argsFit about1.vm theMethod args0 = true := by decide +kernel
set_option maxRecDepth 65536 in
theorem w_heap : heapFits about1 = true := by decide +kernel
set_option maxRecDepth 65536 in
theorem w_runnable : about1.curStatus? = some .runnable := by decide +kernel
set_option maxRecDepth 65536 in
theorem w_alone : about1.alone = true := by decide +kernel
set_option maxRecDepth 65536 in
theorem w_named : about1.methodNamed? x = some theMethod := by decide +kernel
set_option maxRecDepth 65536 in
theorem w_hears : about1.hears theMethod below0 = true := by decide +kernel
set_option maxRecDepth 65536 in
theorem w_ripe : about1.ripe theMethod args0 below0 = true := by decide +kernel
theorem w_running : about1.status = .running := rfl
set_option maxRecDepth 65536 in
theorem w_room : about1.hasRoom e0.platform room_1 = true :=
  launch0.hasRoom_least _ room_1 (by decide +kernel) (by decide +kernel) (by decide +kernel) (by decide +kernel) (by decide +kernel) (by decide +kernel)
theorem allAtoms_all (ts : List Jvm.Cond) (a : Array Jvm.Value) (st : Jvm.State) : (allAtoms ts).before a st = ts.all (fun c => c.before a st) := by
  induction ts with
  | nil => rfl
  | cons c t ih =>
    show (Jvm.Cond.and c (allAtoms t)).before a st = _
    rw [Jvm.Cond.before_and, ih, List.all_cons]
def words1 : List Jvm.Cond := Jvm.Cond.code x code maxLocals ret :: tables_1
/-- a 'code' word, met by the world's own term for the bytes: nothing is compared byte by byte -/
theorem code_word {y : MethodName} {bytes : ByteArray} {mx : Nat} {rt : Option FieldType} {a : Array Value} {s : State} {m : MethodId} {meth : Method} {c : Code} (h1 : s.methodNamed? y = some m) (h2 : s.vm.method? m = some meth) (h3 : meth.code = some c) (h4 : c.code = bytes)
    (h5 : (c.maxLocals == mx && c.exceptionTable.isEmpty && decide (c.maxStack ≤ mostOperands) && decide (meth.sig.returnType = rt) && !meth.locks && decide (parseMethodDescriptor y.desc = some meth.sig)) = true) : (Jvm.Cond.code y bytes mx rt).before a s = true := by
  simp only [Bool.and_eq_true, beq_iff_eq, Bool.not_eq_true', decide_eq_true_eq] at h5
  obtain ⟨⟨⟨⟨⟨g1, g2⟩, g3⟩, g4⟩, g5⟩, g6⟩ := h5
  simp [Cond.before, Cond.holds, Cond.value, h1, h2, h3, h4, g1, g2, g3, g4, g5, g6]
def isCode : Jvm.Cond → Bool
  | .code _ _ _ _ => true
  | _ => false
theorem all_split {L : List Jvm.Cond} {P : Jvm.Cond → Bool} (h1 : L.all (fun c => isCode c || P c) = true) (h2 : ∀ c ∈ L.filter isCode, P c = true) : L.all P = true := by
  refine List.all_eq_true.mpr fun c hc => ?_
  have h := List.all_eq_true.mp h1 c hc
  rcases Bool.eq_false_or_eq_true (isCode c) with hi | hi
  · exact h2 c (List.mem_filter.mpr ⟨hc, hi⟩)
  · simpa [hi] using h
set_option maxRecDepth 65536 in
theorem w_c0 : (Jvm.Cond.code x code maxLocals ret).before args0 about1 = true := code_word (m := ⟨1, 1⟩) (meth := k1m1) (c := k1c1) (by decide +kernel) rfl rfl rfl (by decide +kernel)
set_option maxRecDepth 65536 in
theorem w_c1 : (Jvm.Cond.code ({ cls := "java/lang/Math", name := "min", desc := "(JJ)J" } : Jvm.MethodName) jdk_29_method_70_code (4 : Nat) (Option.some Jvm.ClassFile.FieldType.long)).before args0 about1 = true := code_word (m := ⟨2, 2⟩) (meth := k2m2) (c := k2c2) (by decide +kernel) rfl rfl rfl (by decide +kernel)
set_option maxRecDepth 65536 in
theorem w_c2 : (Jvm.Cond.code ({ cls := "java/lang/Math", name := "max", desc := "(JJ)J" } : Jvm.MethodName) jdk_29_method_66_code (4 : Nat) (Option.some Jvm.ClassFile.FieldType.long)).before args0 about1 = true := code_word (m := ⟨2, 1⟩) (meth := k2m1) (c := k2c1) (by decide +kernel) rfl rfl rfl (by decide +kernel)
set_option maxRecDepth 65536 in
theorem w_c3 : (Jvm.Cond.code ({ cls := "com/example/bundles_to_brokers/bundlestobrokers/model/BundleRangeCanCutAtPinLaw", name := "pick", desc := "(IJJJ)J" } : Jvm.MethodName) method_3_code (7 : Nat) (Option.some Jvm.ClassFile.FieldType.long)).before args0 about1 = true := code_word (m := ⟨1, 2⟩) (meth := k1m2) (c := k1c2) (by decide +kernel) rfl rfl rfl (by decide +kernel)
set_option maxRecDepth 65536 in
theorem w_c4 : (Jvm.Cond.code ({ cls := "com/example/bundles_to_brokers/bundlestobrokers/model/BundleRange", name := "<init>", desc := "(JJ)V" } : Jvm.MethodName) prog_10_method_1_code (5 : Nat) (Option.none : Option Jvm.ClassFile.FieldType)).before args0 about1 = true := code_word (m := ⟨4, 0⟩) (meth := k4m0) (c := k4c0) (by decide +kernel) rfl rfl rfl (by decide +kernel)
set_option maxRecDepth 65536 in
theorem w_c5 : (Jvm.Cond.code ({ cls := "java/lang/Record", name := "<init>", desc := "()V" } : Jvm.MethodName) jdk_30_method_1_code (1 : Nat) (Option.none : Option Jvm.ClassFile.FieldType)).before args0 about1 = true := code_word (m := ⟨3, 0⟩) (meth := k3m0) (c := k3c0) (by decide +kernel) rfl rfl rfl (by decide +kernel)
set_option maxRecDepth 65536 in
theorem w_c6 : (Jvm.Cond.code ({ cls := "java/lang/Object", name := "<init>", desc := "()V" } : Jvm.MethodName) object_method_1_code (1 : Nat) (Option.none : Option Jvm.ClassFile.FieldType)).before args0 about1 = true := code_word (m := ⟨0, 0⟩) (meth := k0m0) (c := k0c0) (by decide +kernel) rfl rfl rfl (by decide +kernel)
set_option maxRecDepth 65536 in
theorem w_c7 : (Jvm.Cond.code ({ cls := "com/example/bundles_to_brokers/bundlestobrokers/model/HashSpace", name := "checkInSpace", desc := "(J)V" } : Jvm.MethodName) prog_14_method_5_code (2 : Nat) (Option.none : Option Jvm.ClassFile.FieldType)).before args0 about1 = true := code_word (m := ⟨5, 1⟩) (meth := k5m1) (c := k5c1) (by decide +kernel) rfl rfl rfl (by decide +kernel)
set_option maxRecDepth 65536 in
theorem w_c8 : (Jvm.Cond.code ({ cls := "com/example/bundles_to_brokers/bundlestobrokers/model/BundleRange", name := "canCutAt", desc := "(J)Z" } : Jvm.MethodName) prog_10_method_4_code (3 : Nat) (Option.some Jvm.ClassFile.FieldType.boolean)).before args0 about1 = true := code_word (m := ⟨4, 2⟩) (meth := k4m2) (c := k4c2) (by decide +kernel) rfl rfl rfl (by decide +kernel)
set_option maxRecDepth 65536 in
theorem w_c9 : (Jvm.Cond.code ({ cls := "com/example/bundles_to_brokers/bundlestobrokers/model/BundleRange", name := "contains", desc := "(J)Z" } : Jvm.MethodName) prog_10_method_3_code (3 : Nat) (Option.some Jvm.ClassFile.FieldType.boolean)).before args0 about1 = true := code_word (m := ⟨4, 1⟩) (meth := k4m1) (c := k4c1) (by decide +kernel) rfl rfl rfl (by decide +kernel)
def codes1 : List Jvm.Cond := [Jvm.Cond.code x code maxLocals ret, Jvm.Cond.code ({ cls := "java/lang/Math", name := "min", desc := "(JJ)J" } : Jvm.MethodName) jdk_29_method_70_code (4 : Nat) (Option.some Jvm.ClassFile.FieldType.long), Jvm.Cond.code ({ cls := "java/lang/Math", name := "max", desc := "(JJ)J" } : Jvm.MethodName) jdk_29_method_66_code (4 : Nat) (Option.some Jvm.ClassFile.FieldType.long), Jvm.Cond.code ({ cls := "com/example/bundles_to_brokers/bundlestobrokers/model/BundleRangeCanCutAtPinLaw", name := "pick", desc := "(IJJJ)J" } : Jvm.MethodName) method_3_code (7 : Nat) (Option.some Jvm.ClassFile.FieldType.long), Jvm.Cond.code ({ cls := "com/example/bundles_to_brokers/bundlestobrokers/model/BundleRange", name := "<init>", desc := "(JJ)V" } : Jvm.MethodName) prog_10_method_1_code (5 : Nat) (Option.none : Option Jvm.ClassFile.FieldType), Jvm.Cond.code ({ cls := "java/lang/Record", name := "<init>", desc := "()V" } : Jvm.MethodName) jdk_30_method_1_code (1 : Nat) (Option.none : Option Jvm.ClassFile.FieldType), Jvm.Cond.code ({ cls := "java/lang/Object", name := "<init>", desc := "()V" } : Jvm.MethodName) object_method_1_code (1 : Nat) (Option.none : Option Jvm.ClassFile.FieldType), Jvm.Cond.code ({ cls := "com/example/bundles_to_brokers/bundlestobrokers/model/HashSpace", name := "checkInSpace", desc := "(J)V" } : Jvm.MethodName) prog_14_method_5_code (2 : Nat) (Option.none : Option Jvm.ClassFile.FieldType), Jvm.Cond.code ({ cls := "com/example/bundles_to_brokers/bundlestobrokers/model/BundleRange", name := "canCutAt", desc := "(J)Z" } : Jvm.MethodName) prog_10_method_4_code (3 : Nat) (Option.some Jvm.ClassFile.FieldType.boolean), Jvm.Cond.code ({ cls := "com/example/bundles_to_brokers/bundlestobrokers/model/BundleRange", name := "contains", desc := "(J)Z" } : Jvm.MethodName) prog_10_method_3_code (3 : Nat) (Option.some Jvm.ClassFile.FieldType.boolean)]
set_option maxRecDepth 65536 in
theorem codes_eq : words1.filter isCode = codes1 := rfl
theorem w_codes : ∀ c ∈ words1.filter isCode, c.before args0 about1 = true := by
  rw [codes_eq]
  intro c hc
  simp only [codes1, List.mem_cons, List.not_mem_nil, or_false] at hc
  rcases hc with rfl | rfl | rfl | rfl | rfl | rfl | rfl | rfl | rfl | rfl
  · exact w_c0
  · exact w_c1
  · exact w_c2
  · exact w_c3
  · exact w_c4
  · exact w_c5
  · exact w_c6
  · exact w_c7
  · exact w_c8
  · exact w_c9
set_option maxRecDepth 65536 in
theorem w_t1 : (words1.take 24).all (fun c => isCode c || c.before args0 about1) = true := by decide +kernel
set_option maxRecDepth 65536 in
theorem w_t2 : (words1.drop 24).all (fun c => isCode c || c.before args0 about1) = true := by decide +kernel
theorem w_tables : (allAtoms (Jvm.Cond.code x code maxLocals ret :: tables_1)).before args0 about1 = true := by
  rw [allAtoms_all]
  show words1.all (fun c => c.before args0 about1) = true
  refine all_split ?_ w_codes
  rw [← List.take_append_drop 24 words1, List.all_append, w_t1, w_t2]
  rfl
set_option maxRecDepth 65536 in
theorem w_case : (Jvm.Cond.and given_1 narrow_1).before args0 about1 = true := by decide +kernel
theorem w_applies : (headSpec (Jvm.Cond.code x code maxLocals ret :: tables_1) room_1).applies x e0.platform about1 = true :=
  (Spec.applies_iff w_frames).mpr ⟨w_running, w_runnable, w_alone, w_named, w_hears, w_ripe, w_room, w_tables⟩
theorem atStart : AtStart classFile x code maxLocals ret World_1 tables_1 room_1 Calls_1 rest_1 Pre_1 launch0 p0 e0 about1 theMethod args0 below0 :=
  ⟨lists_1, trivial, launch0.admits_env _ _ _, launch0.least_env, fairChoices_fair.cas, fairChoices_fair.clock, w_frames, w_args, w_heap, w_applies, trivial, trivial, w_case⟩
end start1
theorem witness_1 : WitnessClaimed_1 := ⟨start1.p0, start1.e0, start1.about1, start1.theMethod, start1.args0, start1.below0, start1.atStart⟩
end Jvm.Pilot.@@N@@
