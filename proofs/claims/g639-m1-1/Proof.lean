import JvmDerived
import JvmDerived.Pilot.@@N@@Statement
import JvmDerived.Pilot.@@N@@Code
set_option linter.unusedVariables false
set_option linter.unusedSimpArgs false
namespace Jvm.RoadKit
open Sem ClassFile Op Lib Jvm.Stand Jvm.Free Jvm.LawKit
section New
variable {p : Program} {l : Launch} {e : Env} {R : Room} {s : State} {m : MethodId} {args : Array Value} {below : List Frame} {meth : Method} {c : Code} {T : State} {locs : List Loc} {cells slots : Nat}
theorem retI (X : Stand p l e R s m args below meth c T locs cells slots) (hx : p.tables.exec = Jvm.exec) {pc : Nat} {Ls : Array Slot} {z : Int32} {rest : List Value} (hret : meth.sig.returnType = some .int) (hd : decode c.code pc = .ok (.ireturn, 1)) {fs : List Frame}
    (hl : ∀ (f : JFrame) (acts : List Action), f.method = m → f.locked = none → f.entered = [] → (doReturn e (T.setTop f) acts (some (.int z))).1 = T.setFrames fs) : Steps p.tables e below (T.setTop (mkF m pc Ls (.int z :: rest))) (T.setFrames fs) := by
  have hm' : T.vm.method? m = some meth := X.method'
  have hn : narrow .int (.int z) = .int z := rfl
  show Steps p.tables e below (T.setTop { method := m, pc := pc, locals := Ls, stack := _ :: rest, locked := none }) _
  jvm_step X.here [X.here.top, hx, hd, hm', hret, hn]
  first | (intro acts; rw [hl _ acts rfl rfl rfl]) | rw [hl _ _ rfl rfl rfl]
  exact Steps.refl _
theorem own_lremM {g : JFrame} {target : State} (X : Stand p l e R s m args below meth c T locs cells slots) (hx : p.tables.exec = Jvm.exec) (hg : g.method = m) {x y : Int64} {rest : List Value} (hd : decode c.code g.pc = .ok (.lrem, 1)) (hs : g.stack = .long y :: .long x :: rest) (hy : y ≠ 0)
    (hr : Steps p.tables e below (T.setTop { g with pc := g.pc + 1, stack := .long (x % y) :: rest }) target) : Steps p.tables e below (T.setTop g) target := by
  have q : x - (x / y) * y = x % y := lrem_mod x y
  exact XS.lrem X.here hx hg hd hs hy (by rw [q]; exact hr)
end New
/-! own: a long's comparison, an array by a function -/
theorem own_tltL {x y : Int64} (h : x < y) : ifCond.holds .lt (lcmpW x y) = true ∧ ifCond.holds .ge (lcmpW x y) = false ∧ ifCond.holds .gt (lcmpW y x) = true ∧ ifCond.holds .le (lcmpW y x) = false := by
  have h1 := (lc_lt x y).mpr h
  have h2 := (lc_gt y x).mpr h
  rw [← lcW] at h1 h2
  simp only [if0]
  exact ⟨(tlt h1).1, (tlt h1).2.1, (tlt h2).2.2.1, (tlt h2).2.2.2⟩
theorem own_fltL {x y : Int64} (h : ¬ x < y) : ifCond.holds .lt (lcmpW x y) = false ∧ ifCond.holds .ge (lcmpW x y) = true ∧ ifCond.holds .gt (lcmpW y x) = false ∧ ifCond.holds .le (lcmpW y x) = true := by
  have h1 := mt (lc_lt x y).mp h
  have h2 := mt (lc_gt y x).mp h
  rw [← lcW] at h1 h2
  simp only [if0]
  exact ⟨(flt h1).1, (flt h1).2.1, (flt h2).2.2.1, (flt h2).2.2.2⟩
theorem own_teqL {x y : Int64} (h : x = y) : ifCond.holds .eq (lcmpW x y) = true ∧ ifCond.holds .ne (lcmpW x y) = false := by
  have h1 := (lc_eq x y).mpr h
  rw [← lcW] at h1
  simp only [if0]
  exact teq h1
theorem own_feqL {x y : Int64} (h : ¬ x = y) : ifCond.holds .eq (lcmpW x y) = false ∧ ifCond.holds .ne (lcmpW x y) = true := by
  have h1 := mt (lc_eq x y).mp h
  rw [← lcW] at h1
  simp only [if0]
  exact feq h1
theorem own_iadd {x y : Int32} {X Y : Int} (hx : x.toInt = X) (hy : y.toInt = Y) (h1 : -2147483648 ≤ X + Y) (h2 : X + Y < 2147483648) : (x + y).toInt = X + Y := by
  have := c_iadd x y; have := rng32 (x + y); omega
theorem own_isub {x y : Int32} {X Y : Int} (hx : x.toInt = X) (hy : y.toInt = Y) (h1 : -2147483648 ≤ X - Y) (h2 : X - Y < 2147483648) : (x - y).toInt = X - Y := by
  have := c_isub x y; have := rng32 (x - y); omega
theorem own_imul {x y : Int32} {X Y : Int} (hx : x.toInt = X) (hy : y.toInt = Y) (h1 : -2147483648 ≤ X * Y) (h2 : X * Y < 2147483648) : (x * y).toInt = X * Y := by
  have := c_imul x y; have := rng32 (x * y); subst hx hy; omega
theorem own_ladd {x y : Int64} {X Y : Int} (hx : x.toInt = X) (hy : y.toInt = Y) (h1 : -9223372036854775808 ≤ X + Y) (h2 : X + Y < 9223372036854775808) : (x + y).toInt = X + Y := by
  have := c_ladd x y; have := rng64 (x + y); omega
theorem own_lsub {x y : Int64} {X Y : Int} (hx : x.toInt = X) (hy : y.toInt = Y) (h1 : -9223372036854775808 ≤ X - Y) (h2 : X - Y < 9223372036854775808) : (x - y).toInt = X - Y := by
  have := c_lsub x y; have := rng64 (x - y); omega
theorem own_lmul {x y : Int64} {X Y : Int} (hx : x.toInt = X) (hy : y.toInt = Y) (h1 : -9223372036854775808 ≤ X * Y) (h2 : X * Y < 9223372036854775808) : (x * y).toInt = X * Y := by
  have := c_lmul x y; have := rng64 (x * y); subst hx hy; omega
theorem own_maskL (x m : Int64) (k : Nat) (M : Int) (hM : m.toInt = M) (hk : k ≤ 63) (hm : m.toBitVec.toNat = 2 ^ k - 1) : 0 ≤ (x &&& m).toInt ∧ (x &&& m).toInt ≤ M := by
  have h := c_maskL x m k hk hm
  have h2 := c_maskL m m k hk hm
  have e : m &&& m = m := by simp
  rw [e] at h2
  have p : (0 : Int) < ((2 ^ k : Nat) : Int) := by have := Nat.two_pow_pos k; omega
  have a1 := Int.emod_nonneg x.toInt (show ((2 ^ k : Nat) : Int) ≠ 0 by omega)
  have a2 := Int.emod_lt_of_pos x.toInt p
  have hmi : m.toInt = ((2 ^ k - 1 : Nat) : Int) := by
    have h3 : m.toInt = (m.toBitVec.toNat : Int) := by
      show m.toBitVec.toInt = _
      rw [BitVec.toInt_eq_toNat_cond, hm]
      have : 2 ^ k ≤ 2 ^ 63 := Nat.pow_le_pow_right (by decide) hk
      split <;> omega
    rw [h3, hm]
  omega
theorem own_nb (x : Int32) : nar .byte (x.toInt8.toInt32) = x.toInt8.toInt32 := by
  show (x.toInt8.toInt32).toInt8.toInt32 = _
  simp
theorem own_sel {args : Array Value} {s : State} {y z : MethodName} (hi : (Cond.instanceMethod y).before args s = true) (hp : (Cond.privateMethod y).before args s = true) (h2 : (Cond.selects y.cls z z).before args s = true) (hc : z.cls = y.cls)
    (hy : y.cls ≠ "java/lang/invoke/MethodHandle" ∧ y.cls ≠ "java/lang/invoke/VarHandle") : (Cond.selects y.cls y y).before args s = true := by
  obtain ⟨mk, meth, hn, hm, -, -⟩ := Cond.instanceMethod_spec hi
  obtain ⟨c, r, m2, -, -, f3, -, k, f4, f5⟩ := Cond.selects_spec h2
  have e1 := findClass_of_methodNamed hn
  have e2 := findClass_of_methodNamed f3
  rw [hc, e1] at e2
  have e3 : m2.cls = mk.cls := (Option.some.inj e2).symm
  have e4 := State.methodFound?_of_named hn hy
  have e5 := selectMethod_private (p := {}) (c := mk.cls) hm (Cond.privateMethod_at hp mk meth hn hm)
  rw [e3] at f4
  simp [Cond.before, Cond.holds, Cond.value, e1, e4, hn, e5, f4, f5]
def AF (Z : State) (h : Heap) (a : Addr) (ty : FieldType) (n : Nat) (g : Nat → Value) : Prop := ∃ c : Cell, Arr Z h a c ty ∧ c.slots.size = n ∧ ∀ j, j < n → c.slots[j]? = some (g j)
abbrev AI (Z : State) (h : Heap) (a : Addr) (ty : FieldType) (n : Nat) (f : Nat → Int32) : Prop := AF Z h a ty n (fun j => .int (f j))
abbrev AJ (Z : State) (h : Heap) (a : Addr) (ty : FieldType) (n : Nat) (f : Nat → Int64) : Prop := AF Z h a ty n (fun j => .long (f j))
abbrev AD (Z : State) (h : Heap) (a : Addr) (ty : FieldType) (n : Nat) (f : Nat → UInt64) : Prop := AF Z h a ty n (fun j => .double (f j))
def up {α : Type} (f : Nat → α) (i : Nat) (v : α) : Nat → α := fun j => if j = i then v else f j
def zI : Nat → Int32 := fun _ => 0
def zJ : Nat → Int64 := fun _ => 0
section Arrs
variable {Z : State} {h h' : Heap} {a b : Addr} {ty : FieldType} {n : Nat} {g g' : Nat → Value}
theorem AF.lt (F : AF Z h a ty n g) : a < h.size := by obtain ⟨c, A, -⟩ := F; exact A.lt
theorem AF.ext (F : AF Z h a ty n g) (E : Ext h h') : AF Z h' a ty n g := by obtain ⟨c, A, r⟩ := F; exact ⟨c, A.ext E, r⟩
theorem AF.other {sl : Nat} {v : Value} (F : AF Z h b ty n g) (W : Wr h h' a sl v) (q : b ≠ a) : AF Z h' b ty n g := by obtain ⟨c, A, r⟩ := F; exact ⟨c, A.other W q, r⟩
theorem AF.keep {ws : List Addr} (F : AF Z h a ty n g) (K : Keep h h' ws) (q : a ∉ ws) : AF Z h' a ty n g := by obtain ⟨c, A, r⟩ := F; exact ⟨c, ⟨K.2.1 a c A.1 q, A.2⟩, r⟩
theorem AF.re (F : AF Z h a ty n g) (q : ∀ j, j < n → g j = g' j) : AF Z h a ty n g' := by obtain ⟨c, A, S, H⟩ := F; exact ⟨c, A, S, fun j hj => by rw [H j hj, q j hj]⟩
theorem AF.at (F : AF Z h a ty n g) {j : Int32} (i : Nat) (hj : j.toInt = i) (hi : i < n) : ∃ c : Cell, Arr Z h a c ty ∧ ¬ (j < 0 ∨ c.slots.size ≤ j.toNatClampNeg) ∧ c.slots[j.toNatClampNeg]? = some (g i) := by
  obtain ⟨c, A, S, H⟩ := F
  have e : j.toNatClampNeg = i := by simp only [Int32.toNatClampNeg, hj]; omega
  refine ⟨c, A, ?_, by rw [e]; exact H i hi⟩
  rw [e, S, Int32.lt_iff_toInt_lt, hj]
  have : (0 : Int32).toInt = 0 := rfl
  omega
theorem AF.len (F : AF Z h a ty n g) : ∃ c : Cell, Arr Z h a c ty ∧ c.slots.size = n := by obtain ⟨c, A, S, -⟩ := F; exact ⟨c, A, S⟩
theorem AF.set {k : Nat} {v : Value} (F : AF Z h a ty n g) (W : Wr h h' a k v) : AF Z h' a ty n (fun j => if j = k then v else g j) := by
  obtain ⟨c, A, S, H⟩ := F
  refine ⟨_, A.same W, by rw [sz_set]; exact S, fun j hj => ?_⟩
  by_cases q : j = k
  · subst q; simp [Cell.setSlot, S, hj]
  · show _ = some (if j = k then v else g j)
    rw [if_neg q]; have := H j hj; simp only [Cell.setSlot] at this ⊢; rw [Array.getElem?_setIfInBounds_ne (Ne.symm q)]; exact this
theorem own_tn {j : Int32} {i : Nat} (hj : j.toInt = i) : j.toNatClampNeg = i := by simp only [Int32.toNatClampNeg, hj]; omega
theorem AF.setI {f : Nat → Int32} {j : Int32} {v : Int32} (F : AI Z h a ty n f) (W : Wr h h' a j.toNatClampNeg (.int v)) (i : Nat) (hj : j.toInt = i) : AI Z h' a ty n (up f i v) := by
  rw [own_tn hj] at W
  exact (AF.set F W).re fun k _ => by by_cases q : k = i <;> simp [up, q]
theorem AF.setJ {f : Nat → Int64} {j : Int32} {v : Int64} (F : AJ Z h a ty n f) (W : Wr h h' a j.toNatClampNeg (.long v)) (i : Nat) (hj : j.toInt = i) : AJ Z h' a ty n (up f i v) := by
  rw [own_tn hj] at W
  exact (AF.set F W).re fun k _ => by by_cases q : k = i <;> simp [up, q]
theorem AF.setD {f : Nat → UInt64} {j : Int32} {v : UInt64} (F : AD Z h a ty n f) (W : Wr h h' a j.toNatClampNeg (.double v)) (i : Nat) (hj : j.toInt = i) : AD Z h' a ty n (up f i v) := by
  rw [own_tn hj] at W
  exact (AF.set F W).re fun k _ => by by_cases q : k = i <;> simp [up, q]
theorem AF.new {k : ClassId} {z : Int32} (A : Arr Z h a (newA k ty z) ty) (hz : z.toInt = n) : AF Z h a ty n (fun _ => defaultValue ty) :=
  ⟨_, A, by rw [sz_new]; exact own_tn hz, fun j hj => by simp [newA, own_tn hz, hj]⟩
end Arrs
end Jvm.RoadKit
namespace Jvm.Pilot.@@N@@
open Jvm Jvm.ClassFile Sem Op Lib Jvm.Free Jvm.Stand Jvm.LawKit Jvm.RoadKit Bundle Jvm.Pilot.@@N@@.Jvm.D
theorem ef_1 (m : MethodId) (xa : Int64) (xb : Int64) : entryFrame m #[(.long xa), (.long xb)] 4 = mkF m 0 #[.val (.long xa), .second, .val (.long xb), .second] [] := by first | (simp [entryFrame, mkF, argsToLocals, Value.category]; done) | rfl
theorem d1_0 : decode jdk_29_method_70_code 0 = .ok (.lload_n 0, 1) := by decide +kernel
theorem d1_1 : decode jdk_29_method_70_code 1 = .ok (.lload_n 2, 1) := by decide +kernel
theorem d1_2 : decode jdk_29_method_70_code 2 = .ok (.lcmp, 1) := by decide +kernel
theorem d1_3 : decode jdk_29_method_70_code 3 = .ok (.ifCond .gt 7, 3) := by decide +kernel
theorem d1_10 : decode jdk_29_method_70_code 10 = .ok (.lload_n 2, 1) := by decide +kernel
theorem d1_11 : decode jdk_29_method_70_code 11 = .ok (.lreturn, 1) := by decide +kernel
theorem d1_6 : decode jdk_29_method_70_code 6 = .ok (.lload_n 0, 1) := by decide +kernel
theorem d1_7 : decode jdk_29_method_70_code 7 = .ok (.goto 4, 3) := by decide +kernel
def r1_v (xa : Int64) (xb : Int64) : Int64 := (if xb < xa then xb else xa)
def Q1 (Z : State) (xa : Int64) (xb : Int64) (h0 : Heap) (n0 : Nat) (v : Option Value) (h : Heap) (L : List Loc) : Prop := v = some (.long (r1_v xa xb)) ∧ Fr n0 L ∧ h = h0
set_option maxRecDepth 65536 in
set_option maxHeartbeats 40000000 in
theorem rm1 (l : Launch) (Z : State) (a0 : Array Value) (hw : ∀ d ∈ tables_1, d.before a0 Z = true) (ws : List Jvm.Cond) (xa : Int64) (xb : Int64) (h0 : Heap) (n0 : Nat) (Z0 : n0 ≤ h0.size) :
    MetFree l (⟨"java/lang/Math", "min", "(JJ)J"⟩ : MethodName) (head1 (Jvm.Cond.code (⟨"java/lang/Math", "min", "(JJ)J"⟩ : MethodName) jdk_29_method_70_code 4 (some .long) :: ws) ({ frames := 0, cells := 0, slots := 0, locals := 0 } : Room)) (fun a U => a = #[(.long xa), (.long xb)] ∧ Z.Warmed39 U.vm ∧ U.heap = h0) (fun _ _ _ _ _ => True) (fun _ U o U' => ∃ v L, o = .returned v ∧ Q1 Z xa xb h0 n0 v U'.heap L ∧ FrameEnd U o U' L ({ frames := 0, cells := 0, slots := 0, locals := 0 } : Room).cells ({ frames := 0, cells := 0, slots := 0, locals := 0 } : Room).slots) := by
  refine MetFree.of_bodySF (Jvm.Free.JP.mathPlain rfl (by decide +kernel)) hisR ?_
  intro p e s m args below meth c s₁ Bd hml0 hP hK
  obtain ⟨rfl, hZ, hh⟩ := hP
  have hx := Bd.exec
  have hby := Bd.bytes
  have hml : c.maxLocals = 4 := hml0
  have hown : s.vm.findClass "java/lang/Math" = some m.cls := findClass_of_methodNamed Bd.named
  have hnm := (name_of_methodNamed Bd.named Bd.method).1
  have X0 : Stand p l e ({ frames := 0, cells := 0, slots := 0, locals := 0 } : Room) s m #[(.long xa), (.long xb)] below meth c s₁ [] 0 0 := Stand.of_body Bd
  have e0 : s₁.heap = h0 := by rw [← hh, Bd.state]; rfl
  have N0 := Fr.nil n0
  have K0 : Keep h0 h0 [] := Keep.refl h0 _
  have pre0 : ∀ t, Steps p.tables e below (s₁.setTop (mkF m 0 #[.val (.long xa), .second, .val (.long xb), .second] [])) t → Steps p.tables e below (s₁.setTop (entryFrame m #[(.long xa), (.long xb)] 4)) t := fun t k => castTop (ef_1 m xa xb) k
  have pre1 : ∀ t, Steps p.tables e below (s₁.setTop (mkF m 3 #[.val (.long xa), .second, .val (.long xb), .second] [(.int (lcmpW xa xb))])) t → Steps p.tables e below (s₁.setTop (entryFrame m #[(.long xa), (.long xb)] 4)) t := by
    intro t k
    refine pre0 _ ?_
    show Steps p.tables e below (s₁.setTop (mkF m 0 #[.val (.long xa), .second, .val (.long xb), .second] [])) _
    refine XS.lloadN X0.here hx rfl (hb hby d1_0) rfl ?_
    show Steps p.tables e below (s₁.setTop (mkF m 1 #[.val (.long xa), .second, .val (.long xb), .second] [(.long xa)])) _
    refine XS.lloadN X0.here hx rfl (hb hby d1_1) rfl ?_
    show Steps p.tables e below (s₁.setTop (mkF m 2 #[.val (.long xa), .second, .val (.long xb), .second] [(.long xb), (.long xa)])) _
    refine XS.lcmp X0.here hx rfl (hb hby d1_2) rfl ?_
    exact k
  by_cases hk2 : xb < xa
  · obtain ⟨fs, hr, hrun, hended, hW, hsame⟩ := X0.leave (v := some (.long xb)) (fun h => by rw [Bd.returns] at h; cases h)
    refine ⟨_, _, pre1 _ ?_, hrun, hended, _, _, rfl, ?_, ⟨_, rfl⟩, hW, hsame.mono (by decide) (by decide)⟩
    · show Steps p.tables e below (s₁.setTop (mkF m 3 #[.val (.long xa), .second, .val (.long xb), .second] [(.int (lcmpW xa xb))])) _
      refine XS.ifYes X0.here hx rfl (pc0 := 3) (pc' := 10) rfl (hb hby d1_3) rfl (own_tltL hk2).2.2.1 (by decide) (by decide) ?_
      show Steps p.tables e below (s₁.setTop (mkF m 10 #[.val (.long xa), .second, .val (.long xb), .second] [])) _
      refine XS.lloadN X0.here hx rfl (hb hby d1_10) rfl ?_
      show Steps p.tables e below (s₁.setTop (mkF m 11 #[.val (.long xa), .second, .val (.long xb), .second] [(.long xb)])) _
      exact retOut X0 hx Bd.returns rfl (Or.inr (Or.inl ⟨rfl, rfl, _, rfl⟩)) (hb hby d1_11) hr
    · show Q1 Z xa xb h0 n0 _ s₁.heap _
      rw [e0]
      have ev3 : (r1_v xa xb) = xb := by unfold r1_v; rw [if_pos hk2]
      exact ⟨(congrArg (fun z => some (Value.long z)) ev3.symm), N0, rfl⟩
  · obtain ⟨fs, hr, hrun, hended, hW, hsame⟩ := X0.leave (v := some (.long xa)) (fun h => by rw [Bd.returns] at h; cases h)
    refine ⟨_, _, pre1 _ ?_, hrun, hended, _, _, rfl, ?_, ⟨_, rfl⟩, hW, hsame.mono (by decide) (by decide)⟩
    · show Steps p.tables e below (s₁.setTop (mkF m 3 #[.val (.long xa), .second, .val (.long xb), .second] [(.int (lcmpW xa xb))])) _
      refine XS.ifNo X0.here hx rfl (hb hby d1_3) rfl (own_fltL hk2).2.2.1 ?_
      show Steps p.tables e below (s₁.setTop (mkF m 6 #[.val (.long xa), .second, .val (.long xb), .second] [])) _
      refine XS.lloadN X0.here hx rfl (hb hby d1_6) rfl ?_
      show Steps p.tables e below (s₁.setTop (mkF m 7 #[.val (.long xa), .second, .val (.long xb), .second] [(.long xa)])) _
      refine XS.goto X0.here hx rfl (pc0 := 7) (pc' := 11) rfl (hb hby d1_7) (by decide) (by decide) ?_
      show Steps p.tables e below (s₁.setTop (mkF m 11 #[.val (.long xa), .second, .val (.long xb), .second] [(.long xa)])) _
      exact retOut X0 hx Bd.returns rfl (Or.inr (Or.inl ⟨rfl, rfl, _, rfl⟩)) (hb hby d1_11) hr
    · show Q1 Z xa xb h0 n0 _ s₁.heap _
      rw [e0]
      have ev4 : (r1_v xa xb) = xa := by unfold r1_v; rw [if_neg hk2]
      exact ⟨(congrArg (fun z => some (Value.long z)) ev4.symm), N0, rfl⟩
theorem ef_2 (m : MethodId) (xa : Int64) (xb : Int64) : entryFrame m #[(.long xa), (.long xb)] 4 = mkF m 0 #[.val (.long xa), .second, .val (.long xb), .second] [] := by first | (simp [entryFrame, mkF, argsToLocals, Value.category]; done) | rfl
theorem d2_0 : decode jdk_29_method_66_code 0 = .ok (.lload_n 0, 1) := by decide +kernel
theorem d2_1 : decode jdk_29_method_66_code 1 = .ok (.lload_n 2, 1) := by decide +kernel
theorem d2_2 : decode jdk_29_method_66_code 2 = .ok (.lcmp, 1) := by decide +kernel
theorem d2_3 : decode jdk_29_method_66_code 3 = .ok (.ifCond .lt 7, 3) := by decide +kernel
theorem d2_10 : decode jdk_29_method_66_code 10 = .ok (.lload_n 2, 1) := by decide +kernel
theorem d2_11 : decode jdk_29_method_66_code 11 = .ok (.lreturn, 1) := by decide +kernel
theorem d2_6 : decode jdk_29_method_66_code 6 = .ok (.lload_n 0, 1) := by decide +kernel
theorem d2_7 : decode jdk_29_method_66_code 7 = .ok (.goto 4, 3) := by decide +kernel
def r2_v (xa : Int64) (xb : Int64) : Int64 := (if xa < xb then xb else xa)
def Q2 (Z : State) (xa : Int64) (xb : Int64) (h0 : Heap) (n0 : Nat) (v : Option Value) (h : Heap) (L : List Loc) : Prop := v = some (.long (r2_v xa xb)) ∧ Fr n0 L ∧ h = h0
set_option maxRecDepth 65536 in
set_option maxHeartbeats 40000000 in
theorem rm2 (l : Launch) (Z : State) (a0 : Array Value) (hw : ∀ d ∈ tables_1, d.before a0 Z = true) (ws : List Jvm.Cond) (xa : Int64) (xb : Int64) (h0 : Heap) (n0 : Nat) (Z0 : n0 ≤ h0.size) :
    MetFree l (⟨"java/lang/Math", "max", "(JJ)J"⟩ : MethodName) (head1 (Jvm.Cond.code (⟨"java/lang/Math", "max", "(JJ)J"⟩ : MethodName) jdk_29_method_66_code 4 (some .long) :: ws) ({ frames := 0, cells := 0, slots := 0, locals := 0 } : Room)) (fun a U => a = #[(.long xa), (.long xb)] ∧ Z.Warmed39 U.vm ∧ U.heap = h0) (fun _ _ _ _ _ => True) (fun _ U o U' => ∃ v L, o = .returned v ∧ Q2 Z xa xb h0 n0 v U'.heap L ∧ FrameEnd U o U' L ({ frames := 0, cells := 0, slots := 0, locals := 0 } : Room).cells ({ frames := 0, cells := 0, slots := 0, locals := 0 } : Room).slots) := by
  refine MetFree.of_bodySF (Jvm.Free.JP.mathPlain rfl (by decide +kernel)) hisR ?_
  intro p e s m args below meth c s₁ Bd hml0 hP hK
  obtain ⟨rfl, hZ, hh⟩ := hP
  have hx := Bd.exec
  have hby := Bd.bytes
  have hml : c.maxLocals = 4 := hml0
  have hown : s.vm.findClass "java/lang/Math" = some m.cls := findClass_of_methodNamed Bd.named
  have hnm := (name_of_methodNamed Bd.named Bd.method).1
  have X0 : Stand p l e ({ frames := 0, cells := 0, slots := 0, locals := 0 } : Room) s m #[(.long xa), (.long xb)] below meth c s₁ [] 0 0 := Stand.of_body Bd
  have e0 : s₁.heap = h0 := by rw [← hh, Bd.state]; rfl
  have N0 := Fr.nil n0
  have K0 : Keep h0 h0 [] := Keep.refl h0 _
  have pre0 : ∀ t, Steps p.tables e below (s₁.setTop (mkF m 0 #[.val (.long xa), .second, .val (.long xb), .second] [])) t → Steps p.tables e below (s₁.setTop (entryFrame m #[(.long xa), (.long xb)] 4)) t := fun t k => castTop (ef_2 m xa xb) k
  have pre1 : ∀ t, Steps p.tables e below (s₁.setTop (mkF m 3 #[.val (.long xa), .second, .val (.long xb), .second] [(.int (lcmpW xa xb))])) t → Steps p.tables e below (s₁.setTop (entryFrame m #[(.long xa), (.long xb)] 4)) t := by
    intro t k
    refine pre0 _ ?_
    show Steps p.tables e below (s₁.setTop (mkF m 0 #[.val (.long xa), .second, .val (.long xb), .second] [])) _
    refine XS.lloadN X0.here hx rfl (hb hby d2_0) rfl ?_
    show Steps p.tables e below (s₁.setTop (mkF m 1 #[.val (.long xa), .second, .val (.long xb), .second] [(.long xa)])) _
    refine XS.lloadN X0.here hx rfl (hb hby d2_1) rfl ?_
    show Steps p.tables e below (s₁.setTop (mkF m 2 #[.val (.long xa), .second, .val (.long xb), .second] [(.long xb), (.long xa)])) _
    refine XS.lcmp X0.here hx rfl (hb hby d2_2) rfl ?_
    exact k
  by_cases hk2 : xa < xb
  · obtain ⟨fs, hr, hrun, hended, hW, hsame⟩ := X0.leave (v := some (.long xb)) (fun h => by rw [Bd.returns] at h; cases h)
    refine ⟨_, _, pre1 _ ?_, hrun, hended, _, _, rfl, ?_, ⟨_, rfl⟩, hW, hsame.mono (by decide) (by decide)⟩
    · show Steps p.tables e below (s₁.setTop (mkF m 3 #[.val (.long xa), .second, .val (.long xb), .second] [(.int (lcmpW xa xb))])) _
      refine XS.ifYes X0.here hx rfl (pc0 := 3) (pc' := 10) rfl (hb hby d2_3) rfl (own_tltL hk2).1 (by decide) (by decide) ?_
      show Steps p.tables e below (s₁.setTop (mkF m 10 #[.val (.long xa), .second, .val (.long xb), .second] [])) _
      refine XS.lloadN X0.here hx rfl (hb hby d2_10) rfl ?_
      show Steps p.tables e below (s₁.setTop (mkF m 11 #[.val (.long xa), .second, .val (.long xb), .second] [(.long xb)])) _
      exact retOut X0 hx Bd.returns rfl (Or.inr (Or.inl ⟨rfl, rfl, _, rfl⟩)) (hb hby d2_11) hr
    · show Q2 Z xa xb h0 n0 _ s₁.heap _
      rw [e0]
      have ev3 : (r2_v xa xb) = xb := by unfold r2_v; rw [if_pos hk2]
      exact ⟨(congrArg (fun z => some (Value.long z)) ev3.symm), N0, rfl⟩
  · obtain ⟨fs, hr, hrun, hended, hW, hsame⟩ := X0.leave (v := some (.long xa)) (fun h => by rw [Bd.returns] at h; cases h)
    refine ⟨_, _, pre1 _ ?_, hrun, hended, _, _, rfl, ?_, ⟨_, rfl⟩, hW, hsame.mono (by decide) (by decide)⟩
    · show Steps p.tables e below (s₁.setTop (mkF m 3 #[.val (.long xa), .second, .val (.long xb), .second] [(.int (lcmpW xa xb))])) _
      refine XS.ifNo X0.here hx rfl (hb hby d2_3) rfl (own_fltL hk2).1 ?_
      show Steps p.tables e below (s₁.setTop (mkF m 6 #[.val (.long xa), .second, .val (.long xb), .second] [])) _
      refine XS.lloadN X0.here hx rfl (hb hby d2_6) rfl ?_
      show Steps p.tables e below (s₁.setTop (mkF m 7 #[.val (.long xa), .second, .val (.long xb), .second] [(.long xa)])) _
      refine XS.goto X0.here hx rfl (pc0 := 7) (pc' := 11) rfl (hb hby d2_7) (by decide) (by decide) ?_
      show Steps p.tables e below (s₁.setTop (mkF m 11 #[.val (.long xa), .second, .val (.long xb), .second] [(.long xa)])) _
      exact retOut X0 hx Bd.returns rfl (Or.inr (Or.inl ⟨rfl, rfl, _, rfl⟩)) (hb hby d2_11) hr
    · show Q2 Z xa xb h0 n0 _ s₁.heap _
      rw [e0]
      have ev4 : (r2_v xa xb) = xa := by unfold r2_v; rw [if_neg hk2]
      exact ⟨(congrArg (fun z => some (Value.long z)) ev4.symm), N0, rfl⟩
theorem ef_4 (m : MethodId) (ra : Addr) : entryFrame m #[(.ref ra)] 1 = mkF m 0 #[.val (.ref ra)] [] := by first | (simp [entryFrame, mkF, argsToLocals, Value.category]; done) | rfl
theorem d4_0 : decode jdk_30_method_1_code 0 = .ok (.aload_n 0, 1) := by decide +kernel
theorem d4_1 : decode jdk_30_method_1_code 1 = .ok (.invokespecial 1, 3) := by decide +kernel
theorem d4_4 : decode jdk_30_method_1_code 4 = .ok (.return_, 1) := by decide +kernel
theorem pn_java_lang_Record : plainName "java/lang/Record" = true := by first | (simp [plainName, overriddenIn]; done) | decide +kernel
def Q4 (Z : State) (ra : Addr) (h0 : Heap) (n0 : Nat) (v : Option Value) (h : Heap) (L : List Loc) : Prop := v = none ∧ Fr n0 L ∧ h = h0
set_option maxRecDepth 65536 in
set_option maxHeartbeats 40000000 in
theorem rm4 (l : Launch) (Z : State) (a0 : Array Value) (hw : ∀ d ∈ tables_1, d.before a0 Z = true) (ws : List Jvm.Cond) (ra : Addr) (h0 : Heap) (n0 : Nat) (Z0 : n0 ≤ h0.size) :
    MetFree l (⟨"java/lang/Record", "<init>", "()V"⟩ : MethodName) (head1 (Jvm.Cond.code (⟨"java/lang/Record", "<init>", "()V"⟩ : MethodName) jdk_30_method_1_code 1 none :: ws) ({ frames := 1, cells := 0, slots := 0, locals := 12 } : Room)) (fun a U => a = #[(.ref ra)] ∧ Z.Warmed39 U.vm ∧ U.heap = h0) (fun _ _ _ _ _ => True) (fun _ U o U' => ∃ v L, o = .returned v ∧ Q4 Z ra h0 n0 v U'.heap L ∧ FrameEnd U o U' L ({ frames := 1, cells := 0, slots := 0, locals := 12 } : Room).cells ({ frames := 1, cells := 0, slots := 0, locals := 12 } : Room).slots) := by
  refine MetFree.of_bodySF (plainFor_of_name pn_java_lang_Record) hisR ?_
  intro p e s m args below meth c s₁ Bd hml0 hP hK
  obtain ⟨rfl, hZ, hh⟩ := hP
  have hx := Bd.exec
  have hby := Bd.bytes
  have hml : c.maxLocals = 1 := hml0
  have hown : s.vm.findClass "java/lang/Record" = some m.cls := findClass_of_methodNamed Bd.named
  have hnm := (name_of_methodNamed Bd.named Bd.method).1
  have X0 : Stand p l e ({ frames := 1, cells := 0, slots := 0, locals := 12 } : Room) s m #[(.ref ra)] below meth c s₁ [] 0 0 := Stand.of_body Bd
  have e0 : s₁.heap = h0 := by rw [← hh, Bd.state]; rfl
  have N0 := Fr.nil n0
  have K0 : Keep h0 h0 [] := Keep.refl h0 _
  have pre0 : ∀ t, Steps p.tables e below (s₁.setTop (mkF m 0 #[.val (.ref ra)] [])) t → Steps p.tables e below (s₁.setTop (entryFrame m #[(.ref ra)] 1)) t := fun t k => castTop (ef_4 m ra) k
  obtain ⟨T1, X1, e1, st1⟩ := initO X0 hx hZ hown (hw _ (List.mem_of_getElem? (i := 19) rfl)) (hw _ (List.mem_of_getElem? (i := 20) rfl)) (hw _ (List.mem_of_getElem? (i := 21) rfl)) e0 (g := (mkF m 1 #[.val (.ref ra)] [(.ref ra)])) rfl (by rw [hml]; rfl) rfl (hb hby d4_1) (by decide) (W := 0) (by show 2 * 0 + _ ≤ _; exact Nat.le_of_eq rfl) (by decide)
  obtain ⟨fs, hr, hrun, hended, hW, hsame⟩ := X1.leave (v := none) (fun _ => rfl)
  refine ⟨_, _, pre0 _ ?_, hrun, hended, _, _, rfl, ?_, ⟨_, rfl⟩, hW, hsame.mono (by decide) (by decide)⟩
  · show Steps p.tables e below (s₁.setTop (mkF m 0 #[.val (.ref ra)] [])) _
    refine XS.aloadN X0.here hx rfl (hb hby d4_0) rfl rfl ?_
    show Steps p.tables e below (s₁.setTop (mkF m 1 #[.val (.ref ra)] [(.ref ra)])) _
    refine st1 _ ?_
    show Steps p.tables e below (T1.setTop (mkF m 4 #[.val (.ref ra)] [])) _
    exact X1.returnOut hx Bd.returns (hb hby d4_4) hr
  · show Q4 Z ra h0 n0 _ T1.heap _
    rw [e1]
    exact ⟨rfl, N0, rfl⟩
theorem ef_6 (m : MethodId) (xa : Int64) : entryFrame m #[(.long xa)] 2 = mkF m 0 #[.val (.long xa), .second] [] := by first | (simp [entryFrame, mkF, argsToLocals, Value.category]; done) | rfl
theorem d6_0 : decode prog_14_method_5_code 0 = .ok (.lload_n 0, 1) := by decide +kernel
theorem d6_1 : decode prog_14_method_5_code 1 = .ok (.lconst 0, 1) := by decide +kernel
theorem d6_2 : decode prog_14_method_5_code 2 = .ok (.lcmp, 1) := by decide +kernel
theorem d6_3 : decode prog_14_method_5_code 3 = .ok (.ifCond .lt 11, 3) := by decide +kernel
theorem d6_6 : decode prog_14_method_5_code 6 = .ok (.lload_n 0, 1) := by decide +kernel
theorem d6_7 : decode prog_14_method_5_code 7 = .ok (.ldc2_w 62, 3) := by decide +kernel
theorem d6_10 : decode prog_14_method_5_code 10 = .ok (.lcmp, 1) := by decide +kernel
theorem d6_11 : decode prog_14_method_5_code 11 = .ok (.ifCond .le 17, 3) := by decide +kernel
theorem d6_28 : decode prog_14_method_5_code 28 = .ok (.return_, 1) := by decide +kernel
theorem pn_com_example_bundles_to_brokers_bundlestobrokers_model_HashSpace : plainName "com/example/bundles_to_brokers/bundlestobrokers/model/HashSpace" = true := by first | (simp [plainName, overriddenIn]; done) | decide +kernel
def Q6 (Z : State) (xa : Int64) (h0 : Heap) (n0 : Nat) (v : Option Value) (h : Heap) (L : List Loc) : Prop := v = none ∧ Fr n0 L ∧ h = h0
set_option maxRecDepth 65536 in
set_option maxHeartbeats 40000000 in
theorem rm6 (l : Launch) (Z : State) (a0 : Array Value) (hw : ∀ d ∈ tables_1, d.before a0 Z = true) (ws : List Jvm.Cond) (xa : Int64) (h0 : Heap) (n0 : Nat) (Z0 : n0 ≤ h0.size) (hc3 : ¬ (xa < (0 : Int64))) (hc11 : ¬ ((4294967295 : Int64) < xa)) :
    MetFree l (⟨"com/example/bundles_to_brokers/bundlestobrokers/model/HashSpace", "checkInSpace", "(J)V"⟩ : MethodName) (head1 (Jvm.Cond.code (⟨"com/example/bundles_to_brokers/bundlestobrokers/model/HashSpace", "checkInSpace", "(J)V"⟩ : MethodName) prog_14_method_5_code 2 none :: ws) ({ frames := 0, cells := 0, slots := 0, locals := 0 } : Room)) (fun a U => a = #[(.long xa)] ∧ Z.Warmed39 U.vm ∧ U.heap = h0) (fun _ _ _ _ _ => True) (fun _ U o U' => ∃ v L, o = .returned v ∧ Q6 Z xa h0 n0 v U'.heap L ∧ FrameEnd U o U' L ({ frames := 0, cells := 0, slots := 0, locals := 0 } : Room).cells ({ frames := 0, cells := 0, slots := 0, locals := 0 } : Room).slots) := by
  refine MetFree.of_bodySF (plainFor_of_name pn_com_example_bundles_to_brokers_bundlestobrokers_model_HashSpace) hisR ?_
  intro p e s m args below meth c s₁ Bd hml0 hP hK
  obtain ⟨rfl, hZ, hh⟩ := hP
  have hx := Bd.exec
  have hby := Bd.bytes
  have hml : c.maxLocals = 2 := hml0
  have hown : s.vm.findClass "com/example/bundles_to_brokers/bundlestobrokers/model/HashSpace" = some m.cls := findClass_of_methodNamed Bd.named
  have hnm := (name_of_methodNamed Bd.named Bd.method).1
  have X0 : Stand p l e ({ frames := 0, cells := 0, slots := 0, locals := 0 } : Room) s m #[(.long xa)] below meth c s₁ [] 0 0 := Stand.of_body Bd
  have e0 : s₁.heap = h0 := by rw [← hh, Bd.state]; rfl
  have N0 := Fr.nil n0
  have K0 : Keep h0 h0 [] := Keep.refl h0 _
  have pre0 : ∀ t, Steps p.tables e below (s₁.setTop (mkF m 0 #[.val (.long xa), .second] [])) t → Steps p.tables e below (s₁.setTop (entryFrame m #[(.long xa)] 2)) t := fun t k => castTop (ef_6 m xa) k
  obtain ⟨fs, hr, hrun, hended, hW, hsame⟩ := X0.leave (v := none) (fun _ => rfl)
  refine ⟨_, _, pre0 _ ?_, hrun, hended, _, _, rfl, ?_, ⟨_, rfl⟩, hW, hsame.mono (by decide) (by decide)⟩
  · show Steps p.tables e below (s₁.setTop (mkF m 0 #[.val (.long xa), .second] [])) _
    refine XS.lloadN X0.here hx rfl (hb hby d6_0) rfl ?_
    show Steps p.tables e below (s₁.setTop (mkF m 1 #[.val (.long xa), .second] [(.long xa)])) _
    refine XS.lconst X0.here hx rfl (hb hby d6_1) ?_
    show Steps p.tables e below (s₁.setTop (mkF m 2 #[.val (.long xa), .second] [(.long (0 : Int64)), (.long xa)])) _
    refine XS.lcmp X0.here hx rfl (hb hby d6_2) rfl ?_
    show Steps p.tables e below (s₁.setTop (mkF m 3 #[.val (.long xa), .second] [(.int (lcmpW xa (0 : Int64)))])) _
    refine XS.ifNo X0.here hx rfl (hb hby d6_3) rfl (own_fltL hc3).1 ?_
    show Steps p.tables e below (s₁.setTop (mkF m 6 #[.val (.long xa), .second] [])) _
    refine XS.lloadN X0.here hx rfl (hb hby d6_6) rfl ?_
    show Steps p.tables e below (s₁.setTop (mkF m 7 #[.val (.long xa), .second] [(.long xa)])) _
    refine X0.ldc2Long hx hown (mvT hZ (hw _ (List.mem_of_getElem? (i := 26) rfl))) (g := (mkF m 7 #[.val (.long xa), .second] [(.long xa)])) rfl (hb hby d6_7) _ ?_
    show Steps p.tables e below (s₁.setTop (mkF m 10 #[.val (.long xa), .second] [(.long (4294967295 : Int64)), (.long xa)])) _
    refine XS.lcmp X0.here hx rfl (hb hby d6_10) rfl ?_
    show Steps p.tables e below (s₁.setTop (mkF m 11 #[.val (.long xa), .second] [(.int (lcmpW xa (4294967295 : Int64)))])) _
    refine XS.ifYes X0.here hx rfl (pc0 := 11) (pc' := 28) rfl (hb hby d6_11) rfl (own_fltL hc11).2.2.2 (by decide) (by decide) ?_
    show Steps p.tables e below (s₁.setTop (mkF m 28 #[.val (.long xa), .second] [])) _
    exact X0.returnOut hx Bd.returns (hb hby d6_28) hr
  · show Q6 Z xa h0 n0 _ s₁.heap _
    rw [e0]
    exact ⟨rfl, N0, rfl⟩
theorem d3_0 : decode prog_10_method_1_code 0 = .ok (.aload_n 0, 1) := by decide +kernel
theorem pd_0 : parseMethodDescriptor "()V" = some ⟨[], none⟩ := by decide +kernel
theorem d3_1 : decode prog_10_method_1_code 1 = .ok (.invokespecial 1, 3) := by decide +kernel
theorem d3_4 : decode prog_10_method_1_code 4 = .ok (.lload_n 1, 1) := by decide +kernel
theorem pd_1 : parseMethodDescriptor "(J)V" = some ⟨[.long], none⟩ := by decide +kernel
theorem d3_5 : decode prog_10_method_1_code 5 = .ok (.invokestatic 7, 3) := by decide +kernel
theorem d3_8 : decode prog_10_method_1_code 8 = .ok (.lload_n 3, 1) := by decide +kernel
theorem d3_9 : decode prog_10_method_1_code 9 = .ok (.invokestatic 7, 3) := by decide +kernel
theorem d3_12 : decode prog_10_method_1_code 12 = .ok (.lload_n 1, 1) := by decide +kernel
theorem d3_13 : decode prog_10_method_1_code 13 = .ok (.lload_n 3, 1) := by decide +kernel
theorem d3_14 : decode prog_10_method_1_code 14 = .ok (.lcmp, 1) := by decide +kernel
theorem d3_15 : decode prog_10_method_1_code 15 = .ok (.ifCond .lt 21, 3) := by decide +kernel
theorem d3_36 : decode prog_10_method_1_code 36 = .ok (.aload_n 0, 1) := by decide +kernel
theorem d3_37 : decode prog_10_method_1_code 37 = .ok (.lload_n 1, 1) := by decide +kernel
theorem d3_38 : decode prog_10_method_1_code 38 = .ok (.putfield 28, 3) := by decide +kernel
theorem d3_41 : decode prog_10_method_1_code 41 = .ok (.aload_n 0, 1) := by decide +kernel
theorem d3_42 : decode prog_10_method_1_code 42 = .ok (.lload_n 3, 1) := by decide +kernel
theorem d3_43 : decode prog_10_method_1_code 43 = .ok (.putfield 32, 3) := by decide +kernel
theorem d3_46 : decode prog_10_method_1_code 46 = .ok (.return_, 1) := by decide +kernel
theorem ef_3 (m : MethodId) (ra : Addr) (lo : Int64) (hi : Int64) : entryFrame m #[(.ref ra), (.long lo), (.long hi)] 5 = mkF m 0 #[.val (.ref ra), .val (.long lo), .second, .val (.long hi), .second] [] := by first | (simp [entryFrame, mkF, argsToLocals, Value.category]; done) | rfl
theorem pn_com_example_bundles_to_brokers_bundlestobrokers_model_BundleRange : plainName "com/example/bundles_to_brokers/bundlestobrokers/model/BundleRange" = true := by first | (simp [plainName, overriddenIn]; done) | decide +kernel
def Q3 (Z : State) (ra : Addr) (lo : Int64) (hi : Int64) (u_lower_ra : Int64) (u_upper_ra : Int64) (h0 : Heap) (n0 : Nat) (v : Option Value) (h : Heap) (L : List Loc) : Prop := v = none ∧ Fr n0 L ∧ Keep h0 h [ra] ∧ Fld Z h ra "com/example/bundles_to_brokers/bundlestobrokers/model/BundleRange" "lower" "J" (.long lo) ∧ Fld Z h ra "com/example/bundles_to_brokers/bundlestobrokers/model/BundleRange" "upper" "J" (.long hi)
set_option maxRecDepth 65536 in
set_option maxHeartbeats 40000000 in
theorem rm3 (l : Launch) (Z : State) (a0 : Array Value) (hw : ∀ d ∈ tables_1, d.before a0 Z = true) (ws : List Jvm.Cond) (ra : Addr) (lo : Int64) (hi : Int64) (u_lower_ra : Int64) (u_upper_ra : Int64) (h0 : Heap) (n0 : Nat) (Z0 : n0 ≤ h0.size) (hlo0 : ¬ (lo < (0 : Int64))) (hlo1 : ¬ ((4294967295 : Int64) < lo)) (hhi0 : ¬ (hi < (0 : Int64))) (hhi1 : ¬ ((4294967295 : Int64) < hi)) (E_ra : Exa Z h0 ra "com/example/bundles_to_brokers/bundlestobrokers/model/BundleRange") (F_lower_ra : Fld Z h0 ra "com/example/bundles_to_brokers/bundlestobrokers/model/BundleRange" "lower" "J" (.long u_lower_ra)) (F_upper_ra : Fld Z h0 ra "com/example/bundles_to_brokers/bundlestobrokers/model/BundleRange" "upper" "J" (.long u_upper_ra)) (hc15 : (lo < hi)) (g_ra : n0 ≤ ra) :
    MetFree l (⟨"com/example/bundles_to_brokers/bundlestobrokers/model/BundleRange", "<init>", "(JJ)V"⟩ : MethodName) (head1 (Jvm.Cond.code (⟨"com/example/bundles_to_brokers/bundlestobrokers/model/BundleRange", "<init>", "(JJ)V"⟩ : MethodName) prog_10_method_1_code 5 none :: ws) ({ frames := 2, cells := 0, slots := 0, locals := 24 } : Room)) (fun a U => a = #[(.ref ra), (.long lo), (.long hi)] ∧ Z.Warmed39 U.vm ∧ U.heap = h0) (fun _ _ _ _ _ => True) (fun _ U o U' => ∃ v L, o = .returned v ∧ Q3 Z ra lo hi u_lower_ra u_upper_ra h0 n0 v U'.heap L ∧ FrameEnd U o U' L ({ frames := 2, cells := 0, slots := 0, locals := 24 } : Room).cells ({ frames := 2, cells := 0, slots := 0, locals := 24 } : Room).slots) := by
  refine MetFree.of_bodySF (plainFor_of_name pn_com_example_bundles_to_brokers_bundlestobrokers_model_BundleRange) hisR ?_
  intro p e s m args below meth c s₁ Bd hml0 hP hK
  obtain ⟨rfl, hZ, hh⟩ := hP
  have hx := Bd.exec
  have hby := Bd.bytes
  have hml : c.maxLocals = 5 := hml0
  have hown : s.vm.findClass "com/example/bundles_to_brokers/bundlestobrokers/model/BundleRange" = some m.cls := findClass_of_methodNamed Bd.named
  have hnm := (name_of_methodNamed Bd.named Bd.method).1
  have X0 : Stand p l e ({ frames := 2, cells := 0, slots := 0, locals := 24 } : Room) s m #[(.ref ra), (.long lo), (.long hi)] below meth c s₁ [] 0 0 := Stand.of_body Bd
  have e0 : s₁.heap = h0 := by rw [← hh, Bd.state]; rfl
  have N0 := Fr.nil n0
  have K0 : Keep h0 h0 [ra] := Keep.refl h0 _
  have pre0 : ∀ t, Steps p.tables e below (s₁.setTop (mkF m 0 #[.val (.ref ra), .val (.long lo), .second, .val (.long hi), .second] [])) t → Steps p.tables e below (s₁.setTop (entryFrame m #[(.ref ra), (.long lo), (.long hi)] 5)) t := fun t k => castTop (ef_3 m ra lo hi) k
  obtain ⟨_, _, ⟨T1, L1, k1, n1⟩, -, X1, ⟨Lc1, hQ1, l1, y1, z1⟩, st1⟩ := X0.specialBack hx (y := (⟨"java/lang/Record", "<init>", "()V"⟩ : MethodName)) rfl hown (mvT hZ (hw _ (List.mem_of_getElem? (i := 14) rfl))) (mvT hZ (hw _ (List.mem_of_getElem? (i := 15) rfl))) (mvT hZ (hw _ (List.mem_of_getElem? (i := 18) rfl))) (by decide) (backOf (W := 0) (rm4 l Z a0 hw [] ra h0 n0 Z0 ) hZ (hw _ (List.mem_of_getElem? (i := 18) rfl)) (hw _ (List.mem_of_getElem? (i := 17) rfl)) (by decide) (by decide)) (g := (mkF m 1 #[.val (.ref ra), .val (.long lo), .second, .val (.long hi), .second] [(.ref ra)])) rfl (by rw [hml]; rfl) (Steps.refl _) (a := ra) (argsL := []) (rest := []) (lenOf pd_0 rfl) rfl (by show 2 * 0 + _ ≤ _; exact Nat.le_of_eq rfl) (hb hby d3_1) (fun _ _ => ⟨rfl, e0, (by decide : 0 + 0 ≤ _), (by decide : 0 + 0 ≤ _)⟩)
  dsimp only [Pt.U, Pt.locs, Pt.cells, Pt.slots] at X1 l1 y1 z1 st1 hQ1
  subst l1 y1 z1
  obtain ⟨rfl, N1q, e1⟩ := hQ1
  have N1 := Fr.app N0 N1q
  obtain ⟨_, _, ⟨T2, L2, k2, n2⟩, -, X2, ⟨Lc2, hQ2, l2, y2, z2⟩, st2⟩ := Jvm.LawKit.callS X1 hx (y := (⟨"com/example/bundles_to_brokers/bundlestobrokers/model/HashSpace", "checkInSpace", "(J)V"⟩ : MethodName)) hown (mvT hZ (hw _ (List.mem_of_getElem? (i := 22) rfl))) (mvT hZ (hw _ (List.mem_of_getElem? (i := 23) rfl))) (mvT hZ (hw _ (List.mem_of_getElem? (i := 24) rfl))) (mvT hZ (hw _ (List.mem_of_getElem? (i := 25) rfl))) (by decide) (backOf (W := 0) (rm6 l Z a0 hw [] lo h0 n0 Z0 (hlo0) (hlo1)) hZ (hw _ (List.mem_of_getElem? (i := 25) rfl)) (hw _ (List.mem_of_getElem? (i := 24) rfl)) (by decide) (by decide)) (g := (mkF m 5 #[.val (.ref ra), .val (.long lo), .second, .val (.long hi), .second] [(.long lo)])) rfl (by rw [hml]; rfl) (argsL := [(.long lo)]) (rest := []) (lenOf pd_1 rfl) rfl (by show 2 * 0 + _ ≤ _; exact Nat.le_of_eq rfl) (hb hby d3_5) (fun _ _ => ⟨rfl, e1, (by decide : 0 + 0 ≤ _), (by decide : 0 + 0 ≤ _)⟩)
  dsimp only [Pt.U, Pt.locs, Pt.cells, Pt.slots] at X2 l2 y2 z2 st2 hQ2
  subst l2 y2 z2
  obtain ⟨rfl, N2q, e2⟩ := hQ2
  have N2 := Fr.app N1 N2q
  obtain ⟨_, _, ⟨T3, L3, k3, n3⟩, -, X3, ⟨Lc3, hQ3, l3, y3, z3⟩, st3⟩ := Jvm.LawKit.callS X2 hx (y := (⟨"com/example/bundles_to_brokers/bundlestobrokers/model/HashSpace", "checkInSpace", "(J)V"⟩ : MethodName)) hown (mvT hZ (hw _ (List.mem_of_getElem? (i := 22) rfl))) (mvT hZ (hw _ (List.mem_of_getElem? (i := 23) rfl))) (mvT hZ (hw _ (List.mem_of_getElem? (i := 24) rfl))) (mvT hZ (hw _ (List.mem_of_getElem? (i := 25) rfl))) (by decide) (backOf (W := 0) (rm6 l Z a0 hw [] hi h0 n0 Z0 (hhi0) (hhi1)) hZ (hw _ (List.mem_of_getElem? (i := 25) rfl)) (hw _ (List.mem_of_getElem? (i := 24) rfl)) (by decide) (by decide)) (g := (mkF m 9 #[.val (.ref ra), .val (.long lo), .second, .val (.long hi), .second] [(.long hi)])) rfl (by rw [hml]; rfl) (argsL := [(.long hi)]) (rest := []) (lenOf pd_1 rfl) rfl (by show 2 * 0 + _ ≤ _; exact Nat.le_of_eq rfl) (hb hby d3_9) (fun _ _ => ⟨rfl, e2, (by decide : 0 + 0 ≤ _), (by decide : 0 + 0 ≤ _)⟩)
  dsimp only [Pt.U, Pt.locs, Pt.cells, Pt.slots] at X3 l3 y3 z3 st3 hQ3
  subst l3 y3 z3
  obtain ⟨rfl, N3q, e3⟩ := hQ3
  have N3 := Fr.app N2 N3q
  obtain ⟨T4, h4, X4, e4, W4, st4⟩ := putF X3 hx hZ hown (host := "") (Or.inl (hw _ (List.mem_of_getElem? (i := 27) rfl))) Via.refl e3 F_lower_ra E_ra (Or.inr ⟨(hw _ (List.mem_of_getElem? (i := 28) rfl)), rfl, hnm⟩) (hw _ (List.mem_of_getElem? (i := 9) rfl)) (ty := .long) (by decide) rfl rfl (g := (mkF m 38 #[.val (.ref ra), .val (.long lo), .second, .val (.long hi), .second] [(.long lo), (.ref ra)])) rfl rfl (hb hby d3_38)
  have N4 := Fr.snoc X4 N3 g_ra
  have Z4 : n0 ≤ h4.size := Nat.le_trans Z0 (Keep.of_wr W4).1
  have K4 : Keep h0 h4 [ra] := K0.wr W4 (Or.inl (List.mem_of_getElem? (i := 0) rfl))
  have f5 : Fld Z h4 ra "com/example/bundles_to_brokers/bundlestobrokers/model/BundleRange" "lower" "J" (.long lo) := F_lower_ra.same W4
  have f6 : Exa Z h4 ra "com/example/bundles_to_brokers/bundlestobrokers/model/BundleRange" := E_ra.wr W4
  have f7 : Fld Z h4 ra "com/example/bundles_to_brokers/bundlestobrokers/model/BundleRange" "upper" "J" (.long u_upper_ra) := F_upper_ra.other W4 (Or.inr (slot_ne (Or.inr (hw _ (List.mem_of_getElem? (i := 30) rfl))) (Or.inr (hw _ (List.mem_of_getElem? (i := 28) rfl))) (by decide) (t := .long) (t' := .long) (by decide) (by decide)))
  obtain ⟨T8, h8, X8, e8, W8, st8⟩ := putF X4 hx hZ hown (host := "") (Or.inl (hw _ (List.mem_of_getElem? (i := 29) rfl))) Via.refl e4 f7 f6 (Or.inr ⟨(hw _ (List.mem_of_getElem? (i := 30) rfl)), rfl, hnm⟩) (hw _ (List.mem_of_getElem? (i := 9) rfl)) (ty := .long) (by decide) rfl rfl (g := (mkF m 43 #[.val (.ref ra), .val (.long lo), .second, .val (.long hi), .second] [(.long hi), (.ref ra)])) rfl rfl (hb hby d3_43)
  have N8 := Fr.snoc X8 N4 g_ra
  have Z8 : n0 ≤ h8.size := Nat.le_trans Z4 (Keep.of_wr W8).1
  have K8 : Keep h0 h8 [ra] := K4.wr W8 (Or.inl (List.mem_of_getElem? (i := 0) rfl))
  have f9 : Fld Z h8 ra "com/example/bundles_to_brokers/bundlestobrokers/model/BundleRange" "upper" "J" (.long hi) := f7.same W8
  have f10 : Exa Z h8 ra "com/example/bundles_to_brokers/bundlestobrokers/model/BundleRange" := f6.wr W8
  have f11 : Fld Z h8 ra "com/example/bundles_to_brokers/bundlestobrokers/model/BundleRange" "lower" "J" (.long lo) := f5.other W8 (Or.inr (slot_ne (Or.inr (hw _ (List.mem_of_getElem? (i := 28) rfl))) (Or.inr (hw _ (List.mem_of_getElem? (i := 30) rfl))) (by decide) (t := .long) (t' := .long) (by decide) (by decide)))
  obtain ⟨fs, hr, hrun, hended, hW, hsame⟩ := X8.leave (v := none) (fun _ => rfl)
  refine ⟨_, _, pre0 _ ?_, hrun, hended, _, _, rfl, ?_, ⟨_, rfl⟩, hW, hsame.mono (by decide) (by decide)⟩
  · show Steps p.tables e below (s₁.setTop (mkF m 0 #[.val (.ref ra), .val (.long lo), .second, .val (.long hi), .second] [])) _
    refine XS.aloadN X0.here hx rfl (hb hby d3_0) rfl rfl ?_
    show Steps p.tables e below (s₁.setTop (mkF m 1 #[.val (.ref ra), .val (.long lo), .second, .val (.long hi), .second] [(.ref ra)])) _
    refine st1.trans ?_
    show Steps p.tables e below (T1.setTop (mkF m 4 #[.val (.ref ra), .val (.long lo), .second, .val (.long hi), .second] [])) _
    refine XS.lloadN X1.here hx rfl (hb hby d3_4) rfl ?_
    show Steps p.tables e below (T1.setTop (mkF m 5 #[.val (.ref ra), .val (.long lo), .second, .val (.long hi), .second] [(.long lo)])) _
    refine st2 _ ?_
    show Steps p.tables e below (T2.setTop (mkF m 8 #[.val (.ref ra), .val (.long lo), .second, .val (.long hi), .second] [])) _
    refine XS.lloadN X2.here hx rfl (hb hby d3_8) rfl ?_
    show Steps p.tables e below (T2.setTop (mkF m 9 #[.val (.ref ra), .val (.long lo), .second, .val (.long hi), .second] [(.long hi)])) _
    refine st3 _ ?_
    show Steps p.tables e below (T3.setTop (mkF m 12 #[.val (.ref ra), .val (.long lo), .second, .val (.long hi), .second] [])) _
    refine XS.lloadN X3.here hx rfl (hb hby d3_12) rfl ?_
    show Steps p.tables e below (T3.setTop (mkF m 13 #[.val (.ref ra), .val (.long lo), .second, .val (.long hi), .second] [(.long lo)])) _
    refine XS.lloadN X3.here hx rfl (hb hby d3_13) rfl ?_
    show Steps p.tables e below (T3.setTop (mkF m 14 #[.val (.ref ra), .val (.long lo), .second, .val (.long hi), .second] [(.long hi), (.long lo)])) _
    refine XS.lcmp X3.here hx rfl (hb hby d3_14) rfl ?_
    show Steps p.tables e below (T3.setTop (mkF m 15 #[.val (.ref ra), .val (.long lo), .second, .val (.long hi), .second] [(.int (lcmpW lo hi))])) _
    refine XS.ifYes X3.here hx rfl (pc0 := 15) (pc' := 36) rfl (hb hby d3_15) rfl (own_tltL hc15).1 (by decide) (by decide) ?_
    show Steps p.tables e below (T3.setTop (mkF m 36 #[.val (.ref ra), .val (.long lo), .second, .val (.long hi), .second] [])) _
    refine XS.aloadN X3.here hx rfl (hb hby d3_36) rfl rfl ?_
    show Steps p.tables e below (T3.setTop (mkF m 37 #[.val (.ref ra), .val (.long lo), .second, .val (.long hi), .second] [(.ref ra)])) _
    refine XS.lloadN X3.here hx rfl (hb hby d3_37) rfl ?_
    show Steps p.tables e below (T3.setTop (mkF m 38 #[.val (.ref ra), .val (.long lo), .second, .val (.long hi), .second] [(.long lo), (.ref ra)])) _
    refine st4 _ ?_
    show Steps p.tables e below (T4.setTop (mkF m 41 #[.val (.ref ra), .val (.long lo), .second, .val (.long hi), .second] [])) _
    refine XS.aloadN X4.here hx rfl (hb hby d3_41) rfl rfl ?_
    show Steps p.tables e below (T4.setTop (mkF m 42 #[.val (.ref ra), .val (.long lo), .second, .val (.long hi), .second] [(.ref ra)])) _
    refine XS.lloadN X4.here hx rfl (hb hby d3_42) rfl ?_
    show Steps p.tables e below (T4.setTop (mkF m 43 #[.val (.ref ra), .val (.long lo), .second, .val (.long hi), .second] [(.long hi), (.ref ra)])) _
    refine st8 _ ?_
    show Steps p.tables e below (T8.setTop (mkF m 46 #[.val (.ref ra), .val (.long lo), .second, .val (.long hi), .second] [])) _
    exact X8.returnOut hx Bd.returns (hb hby d3_46) hr
  · show Q3 Z ra lo hi u_lower_ra u_upper_ra h0 n0 _ T8.heap _
    rw [e8]
    exact ⟨rfl, N8, K8, f11, f9⟩
theorem ef_7 (m : MethodId) (ra : Addr) (hq : Int64) : entryFrame m #[(.ref ra), (.long hq)] 3 = mkF m 0 #[.val (.ref ra), .val (.long hq), .second] [] := by first | (simp [entryFrame, mkF, argsToLocals, Value.category]; done) | rfl
theorem d7_0 : decode prog_10_method_3_code 0 = .ok (.lload_n 1, 1) := by decide +kernel
theorem d7_1 : decode prog_10_method_3_code 1 = .ok (.aload_n 0, 1) := by decide +kernel
theorem d7_2 : decode prog_10_method_3_code 2 = .ok (.getfield 28, 3) := by decide +kernel
theorem d7_5 : decode prog_10_method_3_code 5 = .ok (.lcmp, 1) := by decide +kernel
theorem d7_6 : decode prog_10_method_3_code 6 = .ok (.ifCond .lt 36, 3) := by decide +kernel
theorem d7_42 : decode prog_10_method_3_code 42 = .ok (.iconst 0, 1) := by decide +kernel
theorem d7_43 : decode prog_10_method_3_code 43 = .ok (.ireturn, 1) := by decide +kernel
theorem d7_9 : decode prog_10_method_3_code 9 = .ok (.lload_n 1, 1) := by decide +kernel
theorem d7_10 : decode prog_10_method_3_code 10 = .ok (.aload_n 0, 1) := by decide +kernel
theorem d7_11 : decode prog_10_method_3_code 11 = .ok (.getfield 32, 3) := by decide +kernel
theorem d7_14 : decode prog_10_method_3_code 14 = .ok (.lcmp, 1) := by decide +kernel
theorem d7_15 : decode prog_10_method_3_code 15 = .ok (.ifCond .lt 23, 3) := by decide +kernel
theorem d7_38 : decode prog_10_method_3_code 38 = .ok (.iconst 1, 1) := by decide +kernel
theorem d7_39 : decode prog_10_method_3_code 39 = .ok (.goto 4, 3) := by decide +kernel
theorem d7_18 : decode prog_10_method_3_code 18 = .ok (.aload_n 0, 1) := by decide +kernel
theorem d7_19 : decode prog_10_method_3_code 19 = .ok (.getfield 32, 3) := by decide +kernel
theorem d7_22 : decode prog_10_method_3_code 22 = .ok (.ldc2_w 64, 3) := by decide +kernel
theorem d7_25 : decode prog_10_method_3_code 25 = .ok (.lcmp, 1) := by decide +kernel
theorem d7_26 : decode prog_10_method_3_code 26 = .ok (.ifCond .ne 16, 3) := by decide +kernel
theorem d7_29 : decode prog_10_method_3_code 29 = .ok (.lload_n 1, 1) := by decide +kernel
theorem d7_30 : decode prog_10_method_3_code 30 = .ok (.aload_n 0, 1) := by decide +kernel
theorem d7_31 : decode prog_10_method_3_code 31 = .ok (.getfield 32, 3) := by decide +kernel
theorem d7_34 : decode prog_10_method_3_code 34 = .ok (.lcmp, 1) := by decide +kernel
theorem d7_35 : decode prog_10_method_3_code 35 = .ok (.ifCond .ne 7, 3) := by decide +kernel
def r7_v (hq : Int64) (w_lower : Int64) (w_upper : Int64) : Int32 := (if hq < w_lower then (0 : Int32) else (if hq < w_upper then (1 : Int32) else (if w_upper = (4294967295 : Int64) then (if hq = w_upper then (1 : Int32) else (0 : Int32)) else (0 : Int32))))
def Q7 (Z : State) (ra : Addr) (hq : Int64) (w_lower : Int64) (w_upper : Int64) (h0 : Heap) (n0 : Nat) (v : Option Value) (h : Heap) (L : List Loc) : Prop := v = some (.int (r7_v hq w_lower w_upper)) ∧ Fr n0 L ∧ h = h0
set_option maxRecDepth 65536 in
set_option maxHeartbeats 40000000 in
theorem rm7 (l : Launch) (Z : State) (a0 : Array Value) (hw : ∀ d ∈ tables_1, d.before a0 Z = true) (ws : List Jvm.Cond) (ra : Addr) (hq : Int64) (w_lower : Int64) (w_upper : Int64) (h0 : Heap) (n0 : Nat) (Z0 : n0 ≤ h0.size) (F_lower_ra : Fld Z h0 ra "com/example/bundles_to_brokers/bundlestobrokers/model/BundleRange" "lower" "J" (.long w_lower)) (F_upper_ra : Fld Z h0 ra "com/example/bundles_to_brokers/bundlestobrokers/model/BundleRange" "upper" "J" (.long w_upper)) :
    MetFree l (⟨"com/example/bundles_to_brokers/bundlestobrokers/model/BundleRange", "contains", "(J)Z"⟩ : MethodName) (head1 (Jvm.Cond.code (⟨"com/example/bundles_to_brokers/bundlestobrokers/model/BundleRange", "contains", "(J)Z"⟩ : MethodName) prog_10_method_3_code 3 (some .boolean) :: ws) ({ frames := 0, cells := 0, slots := 0, locals := 0 } : Room)) (fun a U => a = #[(.ref ra), (.long hq)] ∧ Z.Warmed39 U.vm ∧ U.heap = h0) (fun _ _ _ _ _ => True) (fun _ U o U' => ∃ v L, o = .returned v ∧ Q7 Z ra hq w_lower w_upper h0 n0 v U'.heap L ∧ FrameEnd U o U' L ({ frames := 0, cells := 0, slots := 0, locals := 0 } : Room).cells ({ frames := 0, cells := 0, slots := 0, locals := 0 } : Room).slots) := by
  refine MetFree.of_bodySF (plainFor_of_name pn_com_example_bundles_to_brokers_bundlestobrokers_model_BundleRange) hisR ?_
  intro p e s m args below meth c s₁ Bd hml0 hP hK
  obtain ⟨rfl, hZ, hh⟩ := hP
  have hx := Bd.exec
  have hby := Bd.bytes
  have hml : c.maxLocals = 3 := hml0
  have hown : s.vm.findClass "com/example/bundles_to_brokers/bundlestobrokers/model/BundleRange" = some m.cls := findClass_of_methodNamed Bd.named
  have hnm := (name_of_methodNamed Bd.named Bd.method).1
  have X0 : Stand p l e ({ frames := 0, cells := 0, slots := 0, locals := 0 } : Room) s m #[(.ref ra), (.long hq)] below meth c s₁ [] 0 0 := Stand.of_body Bd
  have e0 : s₁.heap = h0 := by rw [← hh, Bd.state]; rfl
  have N0 := Fr.nil n0
  have K0 : Keep h0 h0 [] := Keep.refl h0 _
  have pre0 : ∀ t, Steps p.tables e below (s₁.setTop (mkF m 0 #[.val (.ref ra), .val (.long hq), .second] [])) t → Steps p.tables e below (s₁.setTop (entryFrame m #[(.ref ra), (.long hq)] 3)) t := fun t k => castTop (ef_7 m ra hq) k
  obtain ⟨T1, X1, e1, st1⟩ := getF X0 hx hZ hown (host := "") (Or.inl (hw _ (List.mem_of_getElem? (i := 27) rfl))) Via.refl e0 F_lower_ra (g := (mkF m 2 #[.val (.ref ra), .val (.long hq), .second] [(.ref ra), (.long hq)])) rfl rfl (hb hby d7_2)
  have pre2 : ∀ t, Steps p.tables e below (T1.setTop (mkF m 6 #[.val (.ref ra), .val (.long hq), .second] [(.int (lcmpW hq w_lower))])) t → Steps p.tables e below (s₁.setTop (entryFrame m #[(.ref ra), (.long hq)] 3)) t := by
    intro t k
    refine pre0 _ ?_
    show Steps p.tables e below (s₁.setTop (mkF m 0 #[.val (.ref ra), .val (.long hq), .second] [])) _
    refine XS.lloadN X0.here hx rfl (hb hby d7_0) rfl ?_
    show Steps p.tables e below (s₁.setTop (mkF m 1 #[.val (.ref ra), .val (.long hq), .second] [(.long hq)])) _
    refine XS.aloadN X0.here hx rfl (hb hby d7_1) rfl rfl ?_
    show Steps p.tables e below (s₁.setTop (mkF m 2 #[.val (.ref ra), .val (.long hq), .second] [(.ref ra), (.long hq)])) _
    refine st1 _ ?_
    show Steps p.tables e below (T1.setTop (mkF m 5 #[.val (.ref ra), .val (.long hq), .second] [(.long w_lower), (.long hq)])) _
    refine XS.lcmp X1.here hx rfl (hb hby d7_5) rfl ?_
    exact k
  by_cases hk3 : hq < w_lower
  · obtain ⟨fs, hr, hrun, hended, hW, hsame⟩ := X1.leave (v := some (.int (0 : Int32))) (fun h => by rw [Bd.returns] at h; cases h)
    refine ⟨_, _, pre2 _ ?_, hrun, hended, _, _, rfl, ?_, ⟨_, rfl⟩, hW, hsame.mono (by decide) (by decide)⟩
    · show Steps p.tables e below (T1.setTop (mkF m 6 #[.val (.ref ra), .val (.long hq), .second] [(.int (lcmpW hq w_lower))])) _
      refine XS.ifYes X1.here hx rfl (pc0 := 6) (pc' := 42) rfl (hb hby d7_6) rfl (own_tltL hk3).1 (by decide) (by decide) ?_
      show Steps p.tables e below (T1.setTop (mkF m 42 #[.val (.ref ra), .val (.long hq), .second] [])) _
      refine XS.iconst X1.here hx rfl (hb hby d7_42) ?_
      show Steps p.tables e below (T1.setTop (mkF m 43 #[.val (.ref ra), .val (.long hq), .second] [(.int (0 : Int32))])) _
      exact retN X1 hx (t := .boolean) Bd.returns (by simp) (hb hby d7_43) hr
    · show Q7 Z ra hq w_lower w_upper h0 n0 _ T1.heap _
      rw [e1]
      have ev13 : (r7_v hq w_lower w_upper) = (0 : Int32) := by unfold r7_v; rw [if_pos hk3]
      exact ⟨(congrArg (fun z => some (Value.int z)) ev13.symm), N0, rfl⟩
  · obtain ⟨T4, X4, e4, st4⟩ := getF X1 hx hZ hown (host := "") (Or.inl (hw _ (List.mem_of_getElem? (i := 29) rfl))) Via.refl e1 F_upper_ra (g := (mkF m 11 #[.val (.ref ra), .val (.long hq), .second] [(.ref ra), (.long hq)])) rfl rfl (hb hby d7_11)
    have pre5 : ∀ t, Steps p.tables e below (T4.setTop (mkF m 15 #[.val (.ref ra), .val (.long hq), .second] [(.int (lcmpW hq w_upper))])) t → Steps p.tables e below (s₁.setTop (entryFrame m #[(.ref ra), (.long hq)] 3)) t := by
      intro t k
      refine pre2 _ ?_
      show Steps p.tables e below (T1.setTop (mkF m 6 #[.val (.ref ra), .val (.long hq), .second] [(.int (lcmpW hq w_lower))])) _
      refine XS.ifNo X1.here hx rfl (hb hby d7_6) rfl (own_fltL hk3).1 ?_
      show Steps p.tables e below (T1.setTop (mkF m 9 #[.val (.ref ra), .val (.long hq), .second] [])) _
      refine XS.lloadN X1.here hx rfl (hb hby d7_9) rfl ?_
      show Steps p.tables e below (T1.setTop (mkF m 10 #[.val (.ref ra), .val (.long hq), .second] [(.long hq)])) _
      refine XS.aloadN X1.here hx rfl (hb hby d7_10) rfl rfl ?_
      show Steps p.tables e below (T1.setTop (mkF m 11 #[.val (.ref ra), .val (.long hq), .second] [(.ref ra), (.long hq)])) _
      refine st4 _ ?_
      show Steps p.tables e below (T4.setTop (mkF m 14 #[.val (.ref ra), .val (.long hq), .second] [(.long w_upper), (.long hq)])) _
      refine XS.lcmp X4.here hx rfl (hb hby d7_14) rfl ?_
      exact k
    by_cases hk6 : hq < w_upper
    · obtain ⟨fs, hr, hrun, hended, hW, hsame⟩ := X4.leave (v := some (.int (1 : Int32))) (fun h => by rw [Bd.returns] at h; cases h)
      refine ⟨_, _, pre5 _ ?_, hrun, hended, _, _, rfl, ?_, ⟨_, rfl⟩, hW, hsame.mono (by decide) (by decide)⟩
      · show Steps p.tables e below (T4.setTop (mkF m 15 #[.val (.ref ra), .val (.long hq), .second] [(.int (lcmpW hq w_upper))])) _
        refine XS.ifYes X4.here hx rfl (pc0 := 15) (pc' := 38) rfl (hb hby d7_15) rfl (own_tltL hk6).1 (by decide) (by decide) ?_
        show Steps p.tables e below (T4.setTop (mkF m 38 #[.val (.ref ra), .val (.long hq), .second] [])) _
        refine XS.iconst X4.here hx rfl (hb hby d7_38) ?_
        show Steps p.tables e below (T4.setTop (mkF m 39 #[.val (.ref ra), .val (.long hq), .second] [(.int (1 : Int32))])) _
        refine XS.goto X4.here hx rfl (pc0 := 39) (pc' := 43) rfl (hb hby d7_39) (by decide) (by decide) ?_
        show Steps p.tables e below (T4.setTop (mkF m 43 #[.val (.ref ra), .val (.long hq), .second] [(.int (1 : Int32))])) _
        exact retN X4 hx (t := .boolean) Bd.returns (by simp) (hb hby d7_43) hr
      · show Q7 Z ra hq w_lower w_upper h0 n0 _ T4.heap _
        rw [e4]
        have ev14 : (r7_v hq w_lower w_upper) = (1 : Int32) := by unfold r7_v; rw [if_neg hk3, if_pos hk6]
        exact ⟨(congrArg (fun z => some (Value.int z)) ev14.symm), N0, rfl⟩
    · obtain ⟨T7, X7, e7, st7⟩ := getF X4 hx hZ hown (host := "") (Or.inl (hw _ (List.mem_of_getElem? (i := 29) rfl))) Via.refl e4 F_upper_ra (g := (mkF m 19 #[.val (.ref ra), .val (.long hq), .second] [(.ref ra)])) rfl rfl (hb hby d7_19)
      have pre8 : ∀ t, Steps p.tables e below (T7.setTop (mkF m 26 #[.val (.ref ra), .val (.long hq), .second] [(.int (lcmpW w_upper (4294967295 : Int64)))])) t → Steps p.tables e below (s₁.setTop (entryFrame m #[(.ref ra), (.long hq)] 3)) t := by
        intro t k
        refine pre5 _ ?_
        show Steps p.tables e below (T4.setTop (mkF m 15 #[.val (.ref ra), .val (.long hq), .second] [(.int (lcmpW hq w_upper))])) _
        refine XS.ifNo X4.here hx rfl (hb hby d7_15) rfl (own_fltL hk6).1 ?_
        show Steps p.tables e below (T4.setTop (mkF m 18 #[.val (.ref ra), .val (.long hq), .second] [])) _
        refine XS.aloadN X4.here hx rfl (hb hby d7_18) rfl rfl ?_
        show Steps p.tables e below (T4.setTop (mkF m 19 #[.val (.ref ra), .val (.long hq), .second] [(.ref ra)])) _
        refine st7 _ ?_
        show Steps p.tables e below (T7.setTop (mkF m 22 #[.val (.ref ra), .val (.long hq), .second] [(.long w_upper)])) _
        refine X7.ldc2Long hx hown (mvT hZ (hw _ (List.mem_of_getElem? (i := 37) rfl))) (g := (mkF m 22 #[.val (.ref ra), .val (.long hq), .second] [(.long w_upper)])) rfl (hb hby d7_22) _ ?_
        show Steps p.tables e below (T7.setTop (mkF m 25 #[.val (.ref ra), .val (.long hq), .second] [(.long (4294967295 : Int64)), (.long w_upper)])) _
        refine XS.lcmp X7.here hx rfl (hb hby d7_25) rfl ?_
        exact k
      by_cases hk9 : w_upper = (4294967295 : Int64)
      · obtain ⟨T10, X10, e10, st10⟩ := getF X7 hx hZ hown (host := "") (Or.inl (hw _ (List.mem_of_getElem? (i := 29) rfl))) Via.refl e7 F_upper_ra (g := (mkF m 31 #[.val (.ref ra), .val (.long hq), .second] [(.ref ra), (.long hq)])) rfl rfl (hb hby d7_31)
        have pre11 : ∀ t, Steps p.tables e below (T10.setTop (mkF m 35 #[.val (.ref ra), .val (.long hq), .second] [(.int (lcmpW hq w_upper))])) t → Steps p.tables e below (s₁.setTop (entryFrame m #[(.ref ra), (.long hq)] 3)) t := by
          intro t k
          refine pre8 _ ?_
          show Steps p.tables e below (T7.setTop (mkF m 26 #[.val (.ref ra), .val (.long hq), .second] [(.int (lcmpW w_upper (4294967295 : Int64)))])) _
          refine XS.ifNo X7.here hx rfl (hb hby d7_26) rfl (own_teqL hk9).2 ?_
          show Steps p.tables e below (T7.setTop (mkF m 29 #[.val (.ref ra), .val (.long hq), .second] [])) _
          refine XS.lloadN X7.here hx rfl (hb hby d7_29) rfl ?_
          show Steps p.tables e below (T7.setTop (mkF m 30 #[.val (.ref ra), .val (.long hq), .second] [(.long hq)])) _
          refine XS.aloadN X7.here hx rfl (hb hby d7_30) rfl rfl ?_
          show Steps p.tables e below (T7.setTop (mkF m 31 #[.val (.ref ra), .val (.long hq), .second] [(.ref ra), (.long hq)])) _
          refine st10 _ ?_
          show Steps p.tables e below (T10.setTop (mkF m 34 #[.val (.ref ra), .val (.long hq), .second] [(.long w_upper), (.long hq)])) _
          refine XS.lcmp X10.here hx rfl (hb hby d7_34) rfl ?_
          exact k
        by_cases hk12 : hq = w_upper
        · obtain ⟨fs, hr, hrun, hended, hW, hsame⟩ := X10.leave (v := some (.int (1 : Int32))) (fun h => by rw [Bd.returns] at h; cases h)
          refine ⟨_, _, pre11 _ ?_, hrun, hended, _, _, rfl, ?_, ⟨_, rfl⟩, hW, hsame.mono (by decide) (by decide)⟩
          · show Steps p.tables e below (T10.setTop (mkF m 35 #[.val (.ref ra), .val (.long hq), .second] [(.int (lcmpW hq w_upper))])) _
            refine XS.ifNo X10.here hx rfl (hb hby d7_35) rfl (own_teqL hk12).2 ?_
            show Steps p.tables e below (T10.setTop (mkF m 38 #[.val (.ref ra), .val (.long hq), .second] [])) _
            refine XS.iconst X10.here hx rfl (hb hby d7_38) ?_
            show Steps p.tables e below (T10.setTop (mkF m 39 #[.val (.ref ra), .val (.long hq), .second] [(.int (1 : Int32))])) _
            refine XS.goto X10.here hx rfl (pc0 := 39) (pc' := 43) rfl (hb hby d7_39) (by decide) (by decide) ?_
            show Steps p.tables e below (T10.setTop (mkF m 43 #[.val (.ref ra), .val (.long hq), .second] [(.int (1 : Int32))])) _
            exact retN X10 hx (t := .boolean) Bd.returns (by simp) (hb hby d7_43) hr
          · show Q7 Z ra hq w_lower w_upper h0 n0 _ T10.heap _
            rw [e10]
            have ev15 : (r7_v hq w_lower w_upper) = (1 : Int32) := by unfold r7_v; rw [if_neg hk3, if_neg hk6, if_pos hk9, if_pos hk12]
            exact ⟨(congrArg (fun z => some (Value.int z)) ev15.symm), N0, rfl⟩
        · obtain ⟨fs, hr, hrun, hended, hW, hsame⟩ := X10.leave (v := some (.int (0 : Int32))) (fun h => by rw [Bd.returns] at h; cases h)
          refine ⟨_, _, pre11 _ ?_, hrun, hended, _, _, rfl, ?_, ⟨_, rfl⟩, hW, hsame.mono (by decide) (by decide)⟩
          · show Steps p.tables e below (T10.setTop (mkF m 35 #[.val (.ref ra), .val (.long hq), .second] [(.int (lcmpW hq w_upper))])) _
            refine XS.ifYes X10.here hx rfl (pc0 := 35) (pc' := 42) rfl (hb hby d7_35) rfl (own_feqL hk12).2 (by decide) (by decide) ?_
            show Steps p.tables e below (T10.setTop (mkF m 42 #[.val (.ref ra), .val (.long hq), .second] [])) _
            refine XS.iconst X10.here hx rfl (hb hby d7_42) ?_
            show Steps p.tables e below (T10.setTop (mkF m 43 #[.val (.ref ra), .val (.long hq), .second] [(.int (0 : Int32))])) _
            exact retN X10 hx (t := .boolean) Bd.returns (by simp) (hb hby d7_43) hr
          · show Q7 Z ra hq w_lower w_upper h0 n0 _ T10.heap _
            rw [e10]
            have ev16 : (r7_v hq w_lower w_upper) = (0 : Int32) := by unfold r7_v; rw [if_neg hk3, if_neg hk6, if_pos hk9, if_neg hk12]
            exact ⟨(congrArg (fun z => some (Value.int z)) ev16.symm), N0, rfl⟩
      · obtain ⟨fs, hr, hrun, hended, hW, hsame⟩ := X7.leave (v := some (.int (0 : Int32))) (fun h => by rw [Bd.returns] at h; cases h)
        refine ⟨_, _, pre8 _ ?_, hrun, hended, _, _, rfl, ?_, ⟨_, rfl⟩, hW, hsame.mono (by decide) (by decide)⟩
        · show Steps p.tables e below (T7.setTop (mkF m 26 #[.val (.ref ra), .val (.long hq), .second] [(.int (lcmpW w_upper (4294967295 : Int64)))])) _
          refine XS.ifYes X7.here hx rfl (pc0 := 26) (pc' := 42) rfl (hb hby d7_26) rfl (own_feqL hk9).2 (by decide) (by decide) ?_
          show Steps p.tables e below (T7.setTop (mkF m 42 #[.val (.ref ra), .val (.long hq), .second] [])) _
          refine XS.iconst X7.here hx rfl (hb hby d7_42) ?_
          show Steps p.tables e below (T7.setTop (mkF m 43 #[.val (.ref ra), .val (.long hq), .second] [(.int (0 : Int32))])) _
          exact retN X7 hx (t := .boolean) Bd.returns (by simp) (hb hby d7_43) hr
        · show Q7 Z ra hq w_lower w_upper h0 n0 _ T7.heap _
          rw [e7]
          have ev17 : (r7_v hq w_lower w_upper) = (0 : Int32) := by unfold r7_v; rw [if_neg hk3, if_neg hk6, if_neg hk9]
          exact ⟨(congrArg (fun z => some (Value.int z)) ev17.symm), N0, rfl⟩
theorem ef_0 (m : MethodId) (xx : Int64) (yy : Int64) (hv : Int64) (mo : Int32) : entryFrame m #[(.long xx), (.long yy), (.long hv), (.int mo)] maxLocals = mkF m 0 #[.val (.long xx), .second, .val (.long yy), .second, .val (.long hv), .second, .val (.int mo), .unset, .unset, .unset, .unset, .unset, .unset, .unset, .unset, .unset, .unset, .unset, .unset, .unset, .unset, .unset] [] := by first | (simp [entryFrame, mkF, argsToLocals, Value.category, maxLocals]; done) | rfl
theorem pd_2 : parseMethodDescriptor "(JJ)J" = some ⟨[.long, .long], some .long⟩ := by decide +kernel
theorem pd_3 : parseMethodDescriptor "(JJ)V" = some ⟨[.long, .long], none⟩ := by decide +kernel
theorem pd_4 : parseMethodDescriptor "(J)Z" = some ⟨[.long], some .boolean⟩ := by decide +kernel
def j0_14_l9 (yy : Int64) (mo : Int32) : Int64 := (if (mo &&& (8 : Int32)) = (0 : Int32) then (yy &&& (4294967295 : Int64)) else (4294967295 : Int64))
def j0_45_l11 (xx : Int64) (yy : Int64) (mo : Int32) : Int64 := (if (r1_v (xx &&& (4294967295 : Int64)) (j0_14_l9 yy mo)) = (r2_v (xx &&& (4294967295 : Int64)) (j0_14_l9 yy mo)) then (if (r2_v (xx &&& (4294967295 : Int64)) (j0_14_l9 yy mo)) < (4294967295 : Int64) then (r1_v (xx &&& (4294967295 : Int64)) (j0_14_l9 yy mo)) else ((r2_v (xx &&& (4294967295 : Int64)) (j0_14_l9 yy mo)) - (1 : Int64))) else (r1_v (xx &&& (4294967295 : Int64)) (j0_14_l9 yy mo)))
def j0_45_l13 (xx : Int64) (yy : Int64) (mo : Int32) : Int64 := (if (r1_v (xx &&& (4294967295 : Int64)) (j0_14_l9 yy mo)) = (r2_v (xx &&& (4294967295 : Int64)) (j0_14_l9 yy mo)) then (if (r2_v (xx &&& (4294967295 : Int64)) (j0_14_l9 yy mo)) < (4294967295 : Int64) then ((r2_v (xx &&& (4294967295 : Int64)) (j0_14_l9 yy mo)) + (1 : Int64)) else (r2_v (xx &&& (4294967295 : Int64)) (j0_14_l9 yy mo))) else (r2_v (xx &&& (4294967295 : Int64)) (j0_14_l9 yy mo)))
def j0_97_l17 (xx : Int64) (yy : Int64) (hv : Int64) (mo : Int32) : Int64 := (if (mo &&& (7 : Int32)) = (0 : Int32) then hv else (if (mo &&& (7 : Int32)) = (1 : Int32) then (j0_45_l11 xx yy mo) else (if (mo &&& (7 : Int32)) = (2 : Int32) then ((j0_45_l11 xx yy mo) - (1 : Int64)) else (if (mo &&& (7 : Int32)) = (3 : Int32) then (j0_45_l13 xx yy mo) else (if (mo &&& (7 : Int32)) = (4 : Int32) then ((j0_45_l13 xx yy mo) - (1 : Int64)) else (if (mo &&& (7 : Int32)) = (5 : Int32) then ((j0_45_l13 xx yy mo) + (1 : Int64)) else (if (mo &&& (7 : Int32)) = (6 : Int32) then (hv &&& (4294967295 : Int64)) else ((j0_45_l11 xx yy mo) + ((hv &&& (9223372036854775807 : Int64)) % (((j0_45_l13 xx yy mo) - (j0_45_l11 xx yy mo)) + (1 : Int64)))))))))))
def j0_217_l19 (xx : Int64) (yy : Int64) (mo : Int32) : Int64 := (if (j0_45_l13 xx yy mo) = (4294967295 : Int64) then (4294967295 : Int64) else ((j0_45_l13 xx yy mo) - (1 : Int64)))
def j0_240_l21 (xx : Int64) (yy : Int64) (hv : Int64) (mo : Int32) : Int32 := (if (j0_97_l17 xx yy hv mo) < (j0_45_l11 xx yy mo) then (0 : Int32) else (if (j0_217_l19 xx yy mo) < (j0_97_l17 xx yy hv mo) then (0 : Int32) else (1 : Int32)))
theorem pn_com_example_bundles_to_brokers_bundlestobrokers_model_BundleRangeContainsPinLaw : plainName "com/example/bundles_to_brokers/bundlestobrokers/model/BundleRangeContainsPinLaw" = true := by first | (simp [plainName, overriddenIn]; done) | decide +kernel
theorem own_mm (xa xb : Int64) : (r1_v xa xb).toInt ≤ (r2_v xa xb).toInt ∧ ((r1_v xa xb).toInt = xa.toInt ∨ (r1_v xa xb).toInt = xb.toInt) ∧ ((r2_v xa xb).toInt = xa.toInt ∨ (r2_v xa xb).toInt = xb.toInt) := by
  unfold r1_v r2_v
  simp only [Int64.lt_iff_toInt_lt, Int32.reduceToInt, Int64.reduceToInt]
  repeat' split
  all_goals first | omega | (simp only [Int32.reduceToInt, Int64.reduceToInt] at *; omega) | (simp at *; done) | (simp at *; omega)
theorem own_b (yy : Int64) (mo : Int32) : 0 ≤ (j0_14_l9 yy mo).toInt ∧ (j0_14_l9 yy mo).toInt ≤ 4294967295 := by
  unfold j0_14_l9
  have : 0 ≤ (yy &&& (4294967295 : Int64)).toInt ∧ (yy &&& (4294967295 : Int64)).toInt ≤ 4294967295 := own_maskL yy (4294967295 : Int64) 32 4294967295 rfl (by decide) (by decide)
  generalize (yy &&& (4294967295 : Int64)) = u1_ at *
  try simp only [Int32.reduceToInt, Int64.reduceToInt] at *
  repeat' split
  all_goals first | omega | (simp only [Int32.reduceToInt, Int64.reduceToInt] at *; omega) | (simp at *; done) | (simp at *; omega)
theorem own_lh (xx yy : Int64) (mo : Int32) : 0 ≤ (j0_45_l11 xx yy mo).toInt ∧ (j0_45_l11 xx yy mo).toInt < (j0_45_l13 xx yy mo).toInt ∧ (j0_45_l13 xx yy mo).toInt ≤ 4294967295 := by
  unfold j0_45_l11 j0_45_l13
  have := own_mm (xx &&& (4294967295 : Int64)) (j0_14_l9 yy mo)
  have := own_b yy mo
  have : 0 ≤ (xx &&& (4294967295 : Int64)).toInt ∧ (xx &&& (4294967295 : Int64)).toInt ≤ 4294967295 := own_maskL xx (4294967295 : Int64) 32 4294967295 rfl (by decide) (by decide)
  generalize (xx &&& (4294967295 : Int64)) = u1_ at *
  generalize (r2_v u1_ (j0_14_l9 yy mo)) = u2_ at *
  first | have : (u2_ + (1 : Int64)).toInt = u2_.toInt + 1 := own_ladd rfl rfl (by omega) (by omega) | (have := c_ladd u2_ (1 : Int64); simp only [Int32.reduceToInt, Int64.reduceToInt] at this; have := rng64 (u2_ + (1 : Int64)))
  generalize (u2_ + (1 : Int64)) = u3_ at *
  first | have : (u2_ - (1 : Int64)).toInt = u2_.toInt - 1 := own_lsub rfl rfl (by omega) (by omega) | (have := c_lsub u2_ (1 : Int64); simp only [Int32.reduceToInt, Int64.reduceToInt] at this; have := rng64 (u2_ - (1 : Int64)))
  generalize (u2_ - (1 : Int64)) = u4_ at *
  try simp only [Int32.reduceToInt, Int64.reduceToInt] at *
  simp only [Int64.lt_iff_toInt_lt, ← Int64.toInt_inj, Int32.reduceToInt, Int64.reduceToInt]
  repeat' split
  all_goals first | omega | (simp only [Int32.reduceToInt, Int64.reduceToInt] at *; omega) | (simp at *; done) | (simp at *; omega)
theorem own_l0 (xx yy : Int64) (mo : Int32) : ¬ ((j0_45_l11 xx yy mo) < (0 : Int64)) := by
  have := own_lh xx yy mo
  try simp only [Int32.reduceToInt, Int64.reduceToInt] at *
  simp only [Int64.lt_iff_toInt_lt, ← Int64.toInt_inj, ne_eq, Int32.reduceToInt, Int64.reduceToInt]
  omega
theorem own_l1 (xx yy : Int64) (mo : Int32) : ¬ ((4294967295 : Int64) < (j0_45_l11 xx yy mo)) := by
  have := own_lh xx yy mo
  try simp only [Int32.reduceToInt, Int64.reduceToInt] at *
  simp only [Int64.lt_iff_toInt_lt, ← Int64.toInt_inj, ne_eq, Int32.reduceToInt, Int64.reduceToInt]
  omega
theorem own_h0 (xx yy : Int64) (mo : Int32) : ¬ ((j0_45_l13 xx yy mo) < (0 : Int64)) := by
  have := own_lh xx yy mo
  try simp only [Int32.reduceToInt, Int64.reduceToInt] at *
  simp only [Int64.lt_iff_toInt_lt, ← Int64.toInt_inj, ne_eq, Int32.reduceToInt, Int64.reduceToInt]
  omega
theorem own_h1 (xx yy : Int64) (mo : Int32) : ¬ ((4294967295 : Int64) < (j0_45_l13 xx yy mo)) := by
  have := own_lh xx yy mo
  try simp only [Int32.reduceToInt, Int64.reduceToInt] at *
  simp only [Int64.lt_iff_toInt_lt, ← Int64.toInt_inj, ne_eq, Int32.reduceToInt, Int64.reduceToInt]
  omega
theorem own_lt (xx yy : Int64) (mo : Int32) : (j0_45_l11 xx yy mo) < (j0_45_l13 xx yy mo) := by
  have := own_lh xx yy mo
  try simp only [Int32.reduceToInt, Int64.reduceToInt] at *
  simp only [Int64.lt_iff_toInt_lt, ← Int64.toInt_inj, ne_eq, Int32.reduceToInt, Int64.reduceToInt]
  omega
theorem own_nz (xx yy : Int64) (mo : Int32) : (((j0_45_l13 xx yy mo) - (j0_45_l11 xx yy mo)) + (1 : Int64)) ≠ (0 : Int64) := by
  have := own_lh xx yy mo
  generalize (j0_45_l13 xx yy mo) = u1_ at *
  generalize (j0_45_l11 xx yy mo) = u2_ at *
  first | have : (u1_ - u2_).toInt = u1_.toInt - u2_.toInt := own_lsub rfl rfl (by omega) (by omega) | (have := c_lsub u1_ u2_; simp only [Int32.reduceToInt, Int64.reduceToInt] at this; have := rng64 (u1_ - u2_))
  generalize (u1_ - u2_) = u3_ at *
  first | have : (u3_ + (1 : Int64)).toInt = u3_.toInt + 1 := own_ladd rfl rfl (by omega) (by omega) | (have := c_ladd u3_ (1 : Int64); simp only [Int32.reduceToInt, Int64.reduceToInt] at this; have := rng64 (u3_ + (1 : Int64)))
  generalize (u3_ + (1 : Int64)) = u4_ at *
  try simp only [Int32.reduceToInt, Int64.reduceToInt] at *
  simp only [Int64.lt_iff_toInt_lt, ← Int64.toInt_inj, ne_eq, Int32.reduceToInt, Int64.reduceToInt]
  omega
theorem own_fin (xx yy hv : Int64) (mo : Int32) : (r7_v (j0_97_l17 xx yy hv mo) (j0_45_l11 xx yy mo) (j0_45_l13 xx yy mo)) = (j0_240_l21 xx yy hv mo) := by
  have := own_lh xx yy mo
  unfold r7_v j0_240_l21
  generalize (j0_97_l17 xx yy hv mo) = hash
  unfold j0_217_l19
  generalize (j0_45_l13 xx yy mo) = u1_ at *
  first | have : (u1_ - (1 : Int64)).toInt = u1_.toInt - 1 := own_lsub rfl rfl (by omega) (by omega) | (have := c_lsub u1_ (1 : Int64); simp only [Int32.reduceToInt, Int64.reduceToInt] at this; have := rng64 (u1_ - (1 : Int64)))
  generalize (u1_ - (1 : Int64)) = u2_ at *
  try simp only [Int32.reduceToInt, Int64.reduceToInt] at *
  simp only [Int64.lt_iff_toInt_lt, ← Int64.toInt_inj, Int32.reduceToInt, Int64.reduceToInt]
  repeat' split
  all_goals first | rfl | (exfalso; omega) | (exfalso; simp only [Int32.reduceToInt, Int64.reduceToInt] at *; omega) | (exfalso; simp at *; done) | (exfalso; simp at *; omega)
def Q0 (Z : State) (xx : Int64) (yy : Int64) (hv : Int64) (mo : Int32) (h0 : Heap) (n0 : Nat) (v : Option Value) (h : Heap) (L : List Loc) : Prop := v = some (.int (1 : Int32)) ∧ Fr n0 L
set_option maxRecDepth 65536 in
set_option maxHeartbeats 40000000 in
theorem rm0 (l : Launch) (Z : State) (a0 : Array Value) (hw : ∀ d ∈ tables_1, d.before a0 Z = true) (ws : List Jvm.Cond) (xx : Int64) (yy : Int64) (hv : Int64) (mo : Int32) (h0 : Heap) (n0 : Nat) (Z0 : n0 ≤ h0.size) :
    MetFree l x (head1 (Jvm.Cond.code x code maxLocals ret :: ws) room_1) (fun a U => a = #[(.long xx), (.long yy), (.long hv), (.int mo)] ∧ Z.Warmed39 U.vm ∧ U.heap = h0) (fun _ _ _ _ _ => True) (fun _ U o U' => ∃ v L, o = .returned v ∧ Q0 Z xx yy hv mo h0 n0 v U'.heap L ∧ FrameEnd U o U' L room_1.cells room_1.slots) := by
  refine MetFree.of_bodySF (plainFor_of_name pn_com_example_bundles_to_brokers_bundlestobrokers_model_BundleRangeContainsPinLaw) hisR ?_
  intro p e s m args below meth c s₁ Bd hml0 hP hK
  obtain ⟨rfl, hZ, hh⟩ := hP
  have hx := Bd.exec
  have hby := Bd.bytes
  have hml : c.maxLocals = 22 := hml0
  have hown : s.vm.findClass "com/example/bundles_to_brokers/bundlestobrokers/model/BundleRangeContainsPinLaw" = some m.cls := findClass_of_methodNamed Bd.named
  have hnm := (name_of_methodNamed Bd.named Bd.method).1
  have X0 : Stand p l e room_1 s m #[(.long xx), (.long yy), (.long hv), (.int mo)] below meth c s₁ [] 0 0 := Stand.of_body Bd
  have e0 : s₁.heap = h0 := by rw [← hh, Bd.state]; rfl
  have N0 := Fr.nil n0
  have K0 : Keep h0 h0 [] := Keep.refl h0 _
  have pre0 : ∀ t, Steps p.tables e below (s₁.setTop (mkF m 0 #[.val (.long xx), .second, .val (.long yy), .second, .val (.long hv), .second, .val (.int mo), .unset, .unset, .unset, .unset, .unset, .unset, .unset, .unset, .unset, .unset, .unset, .unset, .unset, .unset, .unset] [])) t → Steps p.tables e below (s₁.setTop (entryFrame m #[(.long xx), (.long yy), (.long hv), (.int mo)] maxLocals)) t := fun t k => castTop (ef_0 m xx yy hv mo) k
  have pre4 : ∀ t, Steps p.tables e below (s₁.setTop (mkF m 14 #[.val (.long xx), .second, .val (.long yy), .second, .val (.long hv), .second, .val (.int mo), .val (.long (xx &&& (4294967295 : Int64))), .second, .val (.long (yy &&& (4294967295 : Int64))), .second, .unset, .unset, .unset, .unset, .unset, .unset, .unset, .unset, .unset, .unset, .unset] [])) t → Steps p.tables e below (s₁.setTop (entryFrame m #[(.long xx), (.long yy), (.long hv), (.int mo)] maxLocals)) t := by
    intro t k
    refine pre0 _ ?_
    show Steps p.tables e below (s₁.setTop (mkF m 0 #[.val (.long xx), .second, .val (.long yy), .second, .val (.long hv), .second, .val (.int mo), .unset, .unset, .unset, .unset, .unset, .unset, .unset, .unset, .unset, .unset, .unset, .unset, .unset, .unset, .unset] [])) _
    refine XS.lloadN X0.here hx rfl (hb hby at_0) rfl ?_
    show Steps p.tables e below (s₁.setTop (mkF m 1 #[.val (.long xx), .second, .val (.long yy), .second, .val (.long hv), .second, .val (.int mo), .unset, .unset, .unset, .unset, .unset, .unset, .unset, .unset, .unset, .unset, .unset, .unset, .unset, .unset, .unset] [(.long xx)])) _
    refine X0.ldc2Long hx hown (mvT hZ (hw _ (List.mem_of_getElem? (i := 0) rfl))) (g := (mkF m 1 #[.val (.long xx), .second, .val (.long yy), .second, .val (.long hv), .second, .val (.int mo), .unset, .unset, .unset, .unset, .unset, .unset, .unset, .unset, .unset, .unset, .unset, .unset, .unset, .unset, .unset] [(.long xx)])) rfl (hb hby at_1) _ ?_
    show Steps p.tables e below (s₁.setTop (mkF m 4 #[.val (.long xx), .second, .val (.long yy), .second, .val (.long hv), .second, .val (.int mo), .unset, .unset, .unset, .unset, .unset, .unset, .unset, .unset, .unset, .unset, .unset, .unset, .unset, .unset, .unset] [(.long (4294967295 : Int64)), (.long xx)])) _
    refine XS.land X0.here hx rfl (hb hby at_4) rfl ?_
    show Steps p.tables e below (s₁.setTop (mkF m 5 #[.val (.long xx), .second, .val (.long yy), .second, .val (.long hv), .second, .val (.int mo), .unset, .unset, .unset, .unset, .unset, .unset, .unset, .unset, .unset, .unset, .unset, .unset, .unset, .unset, .unset] [(.long (xx &&& (4294967295 : Int64)))])) _
    refine XS.lstore X0.here hx rfl (hb hby at_5) rfl (l' := #[.val (.long xx), .second, .val (.long yy), .second, .val (.long hv), .second, .val (.int mo), .val (.long (xx &&& (4294967295 : Int64))), .second, .unset, .unset, .unset, .unset, .unset, .unset, .unset, .unset, .unset, .unset, .unset, .unset, .unset]) rfl ?_
    show Steps p.tables e below (s₁.setTop (mkF m 7 #[.val (.long xx), .second, .val (.long yy), .second, .val (.long hv), .second, .val (.int mo), .val (.long (xx &&& (4294967295 : Int64))), .second, .unset, .unset, .unset, .unset, .unset, .unset, .unset, .unset, .unset, .unset, .unset, .unset, .unset] [])) _
    refine XS.lloadN X0.here hx rfl (hb hby at_7) rfl ?_
    show Steps p.tables e below (s₁.setTop (mkF m 8 #[.val (.long xx), .second, .val (.long yy), .second, .val (.long hv), .second, .val (.int mo), .val (.long (xx &&& (4294967295 : Int64))), .second, .unset, .unset, .unset, .unset, .unset, .unset, .unset, .unset, .unset, .unset, .unset, .unset, .unset] [(.long yy)])) _
    refine X0.ldc2Long hx hown (mvT hZ (hw _ (List.mem_of_getElem? (i := 0) rfl))) (g := (mkF m 8 #[.val (.long xx), .second, .val (.long yy), .second, .val (.long hv), .second, .val (.int mo), .val (.long (xx &&& (4294967295 : Int64))), .second, .unset, .unset, .unset, .unset, .unset, .unset, .unset, .unset, .unset, .unset, .unset, .unset, .unset] [(.long yy)])) rfl (hb hby at_8) _ ?_
    show Steps p.tables e below (s₁.setTop (mkF m 11 #[.val (.long xx), .second, .val (.long yy), .second, .val (.long hv), .second, .val (.int mo), .val (.long (xx &&& (4294967295 : Int64))), .second, .unset, .unset, .unset, .unset, .unset, .unset, .unset, .unset, .unset, .unset, .unset, .unset, .unset] [(.long (4294967295 : Int64)), (.long yy)])) _
    refine XS.land X0.here hx rfl (hb hby at_11) rfl ?_
    show Steps p.tables e below (s₁.setTop (mkF m 12 #[.val (.long xx), .second, .val (.long yy), .second, .val (.long hv), .second, .val (.int mo), .val (.long (xx &&& (4294967295 : Int64))), .second, .unset, .unset, .unset, .unset, .unset, .unset, .unset, .unset, .unset, .unset, .unset, .unset, .unset] [(.long (yy &&& (4294967295 : Int64)))])) _
    refine XS.lstore X0.here hx rfl (hb hby at_12) rfl (l' := #[.val (.long xx), .second, .val (.long yy), .second, .val (.long hv), .second, .val (.int mo), .val (.long (xx &&& (4294967295 : Int64))), .second, .val (.long (yy &&& (4294967295 : Int64))), .second, .unset, .unset, .unset, .unset, .unset, .unset, .unset, .unset, .unset, .unset, .unset]) rfl ?_
    exact k
  have pre5 : ∀ t, Steps p.tables e below (s₁.setTop (mkF m 27 #[.val (.long xx), .second, .val (.long yy), .second, .val (.long hv), .second, .val (.int mo), .val (.long (xx &&& (4294967295 : Int64))), .second, .val (.long (j0_14_l9 yy mo)), .second, .unset, .unset, .unset, .unset, .unset, .unset, .unset, .unset, .unset, .unset, .unset] [])) t → Steps p.tables e below (s₁.setTop (entryFrame m #[(.long xx), (.long yy), (.long hv), (.int mo)] maxLocals)) t := by
    intro t k
    refine pre4 _ ?_
    show Steps p.tables e below (s₁.setTop (mkF m 14 #[.val (.long xx), .second, .val (.long yy), .second, .val (.long hv), .second, .val (.int mo), .val (.long (xx &&& (4294967295 : Int64))), .second, .val (.long (yy &&& (4294967295 : Int64))), .second, .unset, .unset, .unset, .unset, .unset, .unset, .unset, .unset, .unset, .unset, .unset] [])) _
    refine XS.iload X0.here hx rfl (hb hby at_14) rfl ?_
    show Steps p.tables e below (s₁.setTop (mkF m 16 #[.val (.long xx), .second, .val (.long yy), .second, .val (.long hv), .second, .val (.int mo), .val (.long (xx &&& (4294967295 : Int64))), .second, .val (.long (yy &&& (4294967295 : Int64))), .second, .unset, .unset, .unset, .unset, .unset, .unset, .unset, .unset, .unset, .unset, .unset] [(.int mo)])) _
    refine XS.bipush X0.here hx rfl (hb hby at_16) ?_
    show Steps p.tables e below (s₁.setTop (mkF m 18 #[.val (.long xx), .second, .val (.long yy), .second, .val (.long hv), .second, .val (.int mo), .val (.long (xx &&& (4294967295 : Int64))), .second, .val (.long (yy &&& (4294967295 : Int64))), .second, .unset, .unset, .unset, .unset, .unset, .unset, .unset, .unset, .unset, .unset, .unset] [(.int (8 : Int32)), (.int mo)])) _
    refine XS.iand X0.here hx rfl (hb hby at_18) rfl ?_
    by_cases hk1 : (mo &&& (8 : Int32)) = (0 : Int32)
    · show Steps p.tables e below (s₁.setTop (mkF m 19 #[.val (.long xx), .second, .val (.long yy), .second, .val (.long hv), .second, .val (.int mo), .val (.long (xx &&& (4294967295 : Int64))), .second, .val (.long (yy &&& (4294967295 : Int64))), .second, .unset, .unset, .unset, .unset, .unset, .unset, .unset, .unset, .unset, .unset, .unset] [(.int (mo &&& (8 : Int32)))])) _
      refine XS.ifYes X0.here hx rfl (pc0 := 19) (pc' := 27) rfl (hb hby at_19) rfl ((if0 _ _).trans (teq hk1).1) (by decide) (by decide) ?_
      have ev2 : (j0_14_l9 yy mo) = (yy &&& (4294967295 : Int64)) := by unfold j0_14_l9; rw [if_pos hk1]
      rw [ev2] at k
      exact k
    · show Steps p.tables e below (s₁.setTop (mkF m 19 #[.val (.long xx), .second, .val (.long yy), .second, .val (.long hv), .second, .val (.int mo), .val (.long (xx &&& (4294967295 : Int64))), .second, .val (.long (yy &&& (4294967295 : Int64))), .second, .unset, .unset, .unset, .unset, .unset, .unset, .unset, .unset, .unset, .unset, .unset] [(.int (mo &&& (8 : Int32)))])) _
      refine XS.ifNo X0.here hx rfl (hb hby at_19) rfl ((if0 _ _).trans (feq hk1).1) ?_
      show Steps p.tables e below (s₁.setTop (mkF m 22 #[.val (.long xx), .second, .val (.long yy), .second, .val (.long hv), .second, .val (.int mo), .val (.long (xx &&& (4294967295 : Int64))), .second, .val (.long (yy &&& (4294967295 : Int64))), .second, .unset, .unset, .unset, .unset, .unset, .unset, .unset, .unset, .unset, .unset, .unset] [])) _
      refine X0.ldc2Long hx hown (mvT hZ (hw _ (List.mem_of_getElem? (i := 0) rfl))) (g := (mkF m 22 #[.val (.long xx), .second, .val (.long yy), .second, .val (.long hv), .second, .val (.int mo), .val (.long (xx &&& (4294967295 : Int64))), .second, .val (.long (yy &&& (4294967295 : Int64))), .second, .unset, .unset, .unset, .unset, .unset, .unset, .unset, .unset, .unset, .unset, .unset] [])) rfl (hb hby at_22) _ ?_
      show Steps p.tables e below (s₁.setTop (mkF m 25 #[.val (.long xx), .second, .val (.long yy), .second, .val (.long hv), .second, .val (.int mo), .val (.long (xx &&& (4294967295 : Int64))), .second, .val (.long (yy &&& (4294967295 : Int64))), .second, .unset, .unset, .unset, .unset, .unset, .unset, .unset, .unset, .unset, .unset, .unset] [(.long (4294967295 : Int64))])) _
      refine XS.lstore X0.here hx rfl (hb hby at_25) rfl (l' := #[.val (.long xx), .second, .val (.long yy), .second, .val (.long hv), .second, .val (.int mo), .val (.long (xx &&& (4294967295 : Int64))), .second, .val (.long (4294967295 : Int64)), .second, .unset, .unset, .unset, .unset, .unset, .unset, .unset, .unset, .unset, .unset, .unset]) rfl ?_
      have ev3 : (j0_14_l9 yy mo) = (4294967295 : Int64) := by unfold j0_14_l9; rw [if_neg hk1]
      rw [ev3] at k
      exact k
  obtain ⟨_, _, ⟨T6, L6, k6, n6⟩, -, X6, ⟨Lc6, hQ6, l6, y6, z6⟩, st6⟩ := Jvm.LawKit.callS X0 hx (y := (⟨"java/lang/Math", "min", "(JJ)J"⟩ : MethodName)) hown (mvT hZ (hw _ (List.mem_of_getElem? (i := 1) rfl))) (mvT hZ (hw _ (List.mem_of_getElem? (i := 2) rfl))) (mvT hZ (hw _ (List.mem_of_getElem? (i := 3) rfl))) (mvT hZ (hw _ (List.mem_of_getElem? (i := 4) rfl))) (by decide) (backOf (W := 0) (rm1 l Z a0 hw [] (xx &&& (4294967295 : Int64)) (j0_14_l9 yy mo) h0 n0 Z0 ) hZ (hw _ (List.mem_of_getElem? (i := 4) rfl)) (hw _ (List.mem_of_getElem? (i := 3) rfl)) (by decide) (by decide)) (g := (mkF m 31 #[.val (.long xx), .second, .val (.long yy), .second, .val (.long hv), .second, .val (.int mo), .val (.long (xx &&& (4294967295 : Int64))), .second, .val (.long (j0_14_l9 yy mo)), .second, .unset, .unset, .unset, .unset, .unset, .unset, .unset, .unset, .unset, .unset, .unset] [(.long (j0_14_l9 yy mo)), (.long (xx &&& (4294967295 : Int64)))])) rfl (by rw [hml]; rfl) (argsL := [(.long (xx &&& (4294967295 : Int64))), (.long (j0_14_l9 yy mo))]) (rest := []) (lenOf pd_2 rfl) rfl (by show 2 * 0 + _ ≤ _; exact Nat.le_of_eq rfl) (hb hby at_31) (fun _ _ => ⟨rfl, e0, (by decide : 0 + 0 ≤ _), (by decide : 0 + 0 ≤ _)⟩)
  dsimp only [Pt.U, Pt.locs, Pt.cells, Pt.slots] at X6 l6 y6 z6 st6 hQ6
  subst l6 y6 z6
  obtain ⟨rfl, N6q, e6⟩ := hQ6
  have N6 := Fr.app N0 N6q
  obtain ⟨_, _, ⟨T7, L7, k7, n7⟩, -, X7, ⟨Lc7, hQ7, l7, y7, z7⟩, st7⟩ := Jvm.LawKit.callS X6 hx (y := (⟨"java/lang/Math", "max", "(JJ)J"⟩ : MethodName)) hown (mvT hZ (hw _ (List.mem_of_getElem? (i := 5) rfl))) (mvT hZ (hw _ (List.mem_of_getElem? (i := 6) rfl))) (mvT hZ (hw _ (List.mem_of_getElem? (i := 3) rfl))) (mvT hZ (hw _ (List.mem_of_getElem? (i := 7) rfl))) (by decide) (backOf (W := 0) (rm2 l Z a0 hw [] (xx &&& (4294967295 : Int64)) (j0_14_l9 yy mo) h0 n0 Z0 ) hZ (hw _ (List.mem_of_getElem? (i := 7) rfl)) (hw _ (List.mem_of_getElem? (i := 3) rfl)) (by decide) (by decide)) (g := (mkF m 40 #[.val (.long xx), .second, .val (.long yy), .second, .val (.long hv), .second, .val (.int mo), .val (.long (xx &&& (4294967295 : Int64))), .second, .val (.long (j0_14_l9 yy mo)), .second, .val (.long (r1_v (xx &&& (4294967295 : Int64)) (j0_14_l9 yy mo))), .second, .unset, .unset, .unset, .unset, .unset, .unset, .unset, .unset, .unset] [(.long (j0_14_l9 yy mo)), (.long (xx &&& (4294967295 : Int64)))])) rfl (by rw [hml]; rfl) (argsL := [(.long (xx &&& (4294967295 : Int64))), (.long (j0_14_l9 yy mo))]) (rest := []) (lenOf pd_2 rfl) rfl (by show 2 * 0 + _ ≤ _; exact Nat.le_of_eq rfl) (hb hby at_40) (fun _ _ => ⟨rfl, e6, (by decide : 0 + 0 ≤ _), (by decide : 0 + 0 ≤ _)⟩)
  dsimp only [Pt.U, Pt.locs, Pt.cells, Pt.slots] at X7 l7 y7 z7 st7 hQ7
  subst l7 y7 z7
  obtain ⟨rfl, N7q, e7⟩ := hQ7
  have N7 := Fr.app N6 N7q
  have pre16 : ∀ t, Steps p.tables e below (T7.setTop (mkF m 45 #[.val (.long xx), .second, .val (.long yy), .second, .val (.long hv), .second, .val (.int mo), .val (.long (xx &&& (4294967295 : Int64))), .second, .val (.long (j0_14_l9 yy mo)), .second, .val (.long (r1_v (xx &&& (4294967295 : Int64)) (j0_14_l9 yy mo))), .second, .val (.long (r2_v (xx &&& (4294967295 : Int64)) (j0_14_l9 yy mo))), .second, .unset, .unset, .unset, .unset, .unset, .unset, .unset] [])) t → Steps p.tables e below (s₁.setTop (entryFrame m #[(.long xx), (.long yy), (.long hv), (.int mo)] maxLocals)) t := by
    intro t k
    refine pre5 _ ?_
    show Steps p.tables e below (s₁.setTop (mkF m 27 #[.val (.long xx), .second, .val (.long yy), .second, .val (.long hv), .second, .val (.int mo), .val (.long (xx &&& (4294967295 : Int64))), .second, .val (.long (j0_14_l9 yy mo)), .second, .unset, .unset, .unset, .unset, .unset, .unset, .unset, .unset, .unset, .unset, .unset] [])) _
    refine XS.lload X0.here hx rfl (hb hby at_27) rfl ?_
    show Steps p.tables e below (s₁.setTop (mkF m 29 #[.val (.long xx), .second, .val (.long yy), .second, .val (.long hv), .second, .val (.int mo), .val (.long (xx &&& (4294967295 : Int64))), .second, .val (.long (j0_14_l9 yy mo)), .second, .unset, .unset, .unset, .unset, .unset, .unset, .unset, .unset, .unset, .unset, .unset] [(.long (xx &&& (4294967295 : Int64)))])) _
    refine XS.lload X0.here hx rfl (hb hby at_29) rfl ?_
    show Steps p.tables e below (s₁.setTop (mkF m 31 #[.val (.long xx), .second, .val (.long yy), .second, .val (.long hv), .second, .val (.int mo), .val (.long (xx &&& (4294967295 : Int64))), .second, .val (.long (j0_14_l9 yy mo)), .second, .unset, .unset, .unset, .unset, .unset, .unset, .unset, .unset, .unset, .unset, .unset] [(.long (j0_14_l9 yy mo)), (.long (xx &&& (4294967295 : Int64)))])) _
    refine st6 _ ?_
    show Steps p.tables e below (T6.setTop (mkF m 34 #[.val (.long xx), .second, .val (.long yy), .second, .val (.long hv), .second, .val (.int mo), .val (.long (xx &&& (4294967295 : Int64))), .second, .val (.long (j0_14_l9 yy mo)), .second, .unset, .unset, .unset, .unset, .unset, .unset, .unset, .unset, .unset, .unset, .unset] [(.long (r1_v (xx &&& (4294967295 : Int64)) (j0_14_l9 yy mo)))])) _
    refine XS.lstore X6.here hx rfl (hb hby at_34) rfl (l' := #[.val (.long xx), .second, .val (.long yy), .second, .val (.long hv), .second, .val (.int mo), .val (.long (xx &&& (4294967295 : Int64))), .second, .val (.long (j0_14_l9 yy mo)), .second, .val (.long (r1_v (xx &&& (4294967295 : Int64)) (j0_14_l9 yy mo))), .second, .unset, .unset, .unset, .unset, .unset, .unset, .unset, .unset, .unset]) rfl ?_
    show Steps p.tables e below (T6.setTop (mkF m 36 #[.val (.long xx), .second, .val (.long yy), .second, .val (.long hv), .second, .val (.int mo), .val (.long (xx &&& (4294967295 : Int64))), .second, .val (.long (j0_14_l9 yy mo)), .second, .val (.long (r1_v (xx &&& (4294967295 : Int64)) (j0_14_l9 yy mo))), .second, .unset, .unset, .unset, .unset, .unset, .unset, .unset, .unset, .unset] [])) _
    refine XS.lload X6.here hx rfl (hb hby at_36) rfl ?_
    show Steps p.tables e below (T6.setTop (mkF m 38 #[.val (.long xx), .second, .val (.long yy), .second, .val (.long hv), .second, .val (.int mo), .val (.long (xx &&& (4294967295 : Int64))), .second, .val (.long (j0_14_l9 yy mo)), .second, .val (.long (r1_v (xx &&& (4294967295 : Int64)) (j0_14_l9 yy mo))), .second, .unset, .unset, .unset, .unset, .unset, .unset, .unset, .unset, .unset] [(.long (xx &&& (4294967295 : Int64)))])) _
    refine XS.lload X6.here hx rfl (hb hby at_38) rfl ?_
    show Steps p.tables e below (T6.setTop (mkF m 40 #[.val (.long xx), .second, .val (.long yy), .second, .val (.long hv), .second, .val (.int mo), .val (.long (xx &&& (4294967295 : Int64))), .second, .val (.long (j0_14_l9 yy mo)), .second, .val (.long (r1_v (xx &&& (4294967295 : Int64)) (j0_14_l9 yy mo))), .second, .unset, .unset, .unset, .unset, .unset, .unset, .unset, .unset, .unset] [(.long (j0_14_l9 yy mo)), (.long (xx &&& (4294967295 : Int64)))])) _
    refine st7 _ ?_
    show Steps p.tables e below (T7.setTop (mkF m 43 #[.val (.long xx), .second, .val (.long yy), .second, .val (.long hv), .second, .val (.int mo), .val (.long (xx &&& (4294967295 : Int64))), .second, .val (.long (j0_14_l9 yy mo)), .second, .val (.long (r1_v (xx &&& (4294967295 : Int64)) (j0_14_l9 yy mo))), .second, .unset, .unset, .unset, .unset, .unset, .unset, .unset, .unset, .unset] [(.long (r2_v (xx &&& (4294967295 : Int64)) (j0_14_l9 yy mo)))])) _
    refine XS.lstore X7.here hx rfl (hb hby at_43) rfl (l' := #[.val (.long xx), .second, .val (.long yy), .second, .val (.long hv), .second, .val (.int mo), .val (.long (xx &&& (4294967295 : Int64))), .second, .val (.long (j0_14_l9 yy mo)), .second, .val (.long (r1_v (xx &&& (4294967295 : Int64)) (j0_14_l9 yy mo))), .second, .val (.long (r2_v (xx &&& (4294967295 : Int64)) (j0_14_l9 yy mo))), .second, .unset, .unset, .unset, .unset, .unset, .unset, .unset]) rfl ?_
    exact k
  have pre17 : ∀ t, Steps p.tables e below (T7.setTop (mkF m 77 #[.val (.long xx), .second, .val (.long yy), .second, .val (.long hv), .second, .val (.int mo), .val (.long (xx &&& (4294967295 : Int64))), .second, .val (.long (j0_14_l9 yy mo)), .second, .val (.long (j0_45_l11 xx yy mo)), .second, .val (.long (j0_45_l13 xx yy mo)), .second, .unset, .unset, .unset, .unset, .unset, .unset, .unset] [])) t → Steps p.tables e below (s₁.setTop (entryFrame m #[(.long xx), (.long yy), (.long hv), (.int mo)] maxLocals)) t := by
    intro t k
    refine pre16 _ ?_
    show Steps p.tables e below (T7.setTop (mkF m 45 #[.val (.long xx), .second, .val (.long yy), .second, .val (.long hv), .second, .val (.int mo), .val (.long (xx &&& (4294967295 : Int64))), .second, .val (.long (j0_14_l9 yy mo)), .second, .val (.long (r1_v (xx &&& (4294967295 : Int64)) (j0_14_l9 yy mo))), .second, .val (.long (r2_v (xx &&& (4294967295 : Int64)) (j0_14_l9 yy mo))), .second, .unset, .unset, .unset, .unset, .unset, .unset, .unset] [])) _
    refine XS.lload X7.here hx rfl (hb hby at_45) rfl ?_
    show Steps p.tables e below (T7.setTop (mkF m 47 #[.val (.long xx), .second, .val (.long yy), .second, .val (.long hv), .second, .val (.int mo), .val (.long (xx &&& (4294967295 : Int64))), .second, .val (.long (j0_14_l9 yy mo)), .second, .val (.long (r1_v (xx &&& (4294967295 : Int64)) (j0_14_l9 yy mo))), .second, .val (.long (r2_v (xx &&& (4294967295 : Int64)) (j0_14_l9 yy mo))), .second, .unset, .unset, .unset, .unset, .unset, .unset, .unset] [(.long (r1_v (xx &&& (4294967295 : Int64)) (j0_14_l9 yy mo)))])) _
    refine XS.lload X7.here hx rfl (hb hby at_47) rfl ?_
    show Steps p.tables e below (T7.setTop (mkF m 49 #[.val (.long xx), .second, .val (.long yy), .second, .val (.long hv), .second, .val (.int mo), .val (.long (xx &&& (4294967295 : Int64))), .second, .val (.long (j0_14_l9 yy mo)), .second, .val (.long (r1_v (xx &&& (4294967295 : Int64)) (j0_14_l9 yy mo))), .second, .val (.long (r2_v (xx &&& (4294967295 : Int64)) (j0_14_l9 yy mo))), .second, .unset, .unset, .unset, .unset, .unset, .unset, .unset] [(.long (r2_v (xx &&& (4294967295 : Int64)) (j0_14_l9 yy mo))), (.long (r1_v (xx &&& (4294967295 : Int64)) (j0_14_l9 yy mo)))])) _
    refine XS.lcmp X7.here hx rfl (hb hby at_49) rfl ?_
    by_cases hk8 : (r1_v (xx &&& (4294967295 : Int64)) (j0_14_l9 yy mo)) = (r2_v (xx &&& (4294967295 : Int64)) (j0_14_l9 yy mo))
    · show Steps p.tables e below (T7.setTop (mkF m 50 #[.val (.long xx), .second, .val (.long yy), .second, .val (.long hv), .second, .val (.int mo), .val (.long (xx &&& (4294967295 : Int64))), .second, .val (.long (j0_14_l9 yy mo)), .second, .val (.long (r1_v (xx &&& (4294967295 : Int64)) (j0_14_l9 yy mo))), .second, .val (.long (r2_v (xx &&& (4294967295 : Int64)) (j0_14_l9 yy mo))), .second, .unset, .unset, .unset, .unset, .unset, .unset, .unset] [(.int (lcmpW (r1_v (xx &&& (4294967295 : Int64)) (j0_14_l9 yy mo)) (r2_v (xx &&& (4294967295 : Int64)) (j0_14_l9 yy mo))))])) _
      refine XS.ifNo X7.here hx rfl (hb hby at_50) rfl (own_teqL hk8).2 ?_
      show Steps p.tables e below (T7.setTop (mkF m 53 #[.val (.long xx), .second, .val (.long yy), .second, .val (.long hv), .second, .val (.int mo), .val (.long (xx &&& (4294967295 : Int64))), .second, .val (.long (j0_14_l9 yy mo)), .second, .val (.long (r1_v (xx &&& (4294967295 : Int64)) (j0_14_l9 yy mo))), .second, .val (.long (r2_v (xx &&& (4294967295 : Int64)) (j0_14_l9 yy mo))), .second, .unset, .unset, .unset, .unset, .unset, .unset, .unset] [])) _
      refine XS.lload X7.here hx rfl (hb hby at_53) rfl ?_
      show Steps p.tables e below (T7.setTop (mkF m 55 #[.val (.long xx), .second, .val (.long yy), .second, .val (.long hv), .second, .val (.int mo), .val (.long (xx &&& (4294967295 : Int64))), .second, .val (.long (j0_14_l9 yy mo)), .second, .val (.long (r1_v (xx &&& (4294967295 : Int64)) (j0_14_l9 yy mo))), .second, .val (.long (r2_v (xx &&& (4294967295 : Int64)) (j0_14_l9 yy mo))), .second, .unset, .unset, .unset, .unset, .unset, .unset, .unset] [(.long (r2_v (xx &&& (4294967295 : Int64)) (j0_14_l9 yy mo)))])) _
      refine X7.ldc2Long hx hown (mvT hZ (hw _ (List.mem_of_getElem? (i := 0) rfl))) (g := (mkF m 55 #[.val (.long xx), .second, .val (.long yy), .second, .val (.long hv), .second, .val (.int mo), .val (.long (xx &&& (4294967295 : Int64))), .second, .val (.long (j0_14_l9 yy mo)), .second, .val (.long (r1_v (xx &&& (4294967295 : Int64)) (j0_14_l9 yy mo))), .second, .val (.long (r2_v (xx &&& (4294967295 : Int64)) (j0_14_l9 yy mo))), .second, .unset, .unset, .unset, .unset, .unset, .unset, .unset] [(.long (r2_v (xx &&& (4294967295 : Int64)) (j0_14_l9 yy mo)))])) rfl (hb hby at_55) _ ?_
      show Steps p.tables e below (T7.setTop (mkF m 58 #[.val (.long xx), .second, .val (.long yy), .second, .val (.long hv), .second, .val (.int mo), .val (.long (xx &&& (4294967295 : Int64))), .second, .val (.long (j0_14_l9 yy mo)), .second, .val (.long (r1_v (xx &&& (4294967295 : Int64)) (j0_14_l9 yy mo))), .second, .val (.long (r2_v (xx &&& (4294967295 : Int64)) (j0_14_l9 yy mo))), .second, .unset, .unset, .unset, .unset, .unset, .unset, .unset] [(.long (4294967295 : Int64)), (.long (r2_v (xx &&& (4294967295 : Int64)) (j0_14_l9 yy mo)))])) _
      refine XS.lcmp X7.here hx rfl (hb hby at_58) rfl ?_
      by_cases hk9 : (r2_v (xx &&& (4294967295 : Int64)) (j0_14_l9 yy mo)) < (4294967295 : Int64)
      · show Steps p.tables e below (T7.setTop (mkF m 59 #[.val (.long xx), .second, .val (.long yy), .second, .val (.long hv), .second, .val (.int mo), .val (.long (xx &&& (4294967295 : Int64))), .second, .val (.long (j0_14_l9 yy mo)), .second, .val (.long (r1_v (xx &&& (4294967295 : Int64)) (j0_14_l9 yy mo))), .second, .val (.long (r2_v (xx &&& (4294967295 : Int64)) (j0_14_l9 yy mo))), .second, .unset, .unset, .unset, .unset, .unset, .unset, .unset] [(.int (lcmpW (r2_v (xx &&& (4294967295 : Int64)) (j0_14_l9 yy mo)) (4294967295 : Int64)))])) _
        refine XS.ifNo X7.here hx rfl (hb hby at_59) rfl (own_tltL hk9).2.1 ?_
        show Steps p.tables e below (T7.setTop (mkF m 62 #[.val (.long xx), .second, .val (.long yy), .second, .val (.long hv), .second, .val (.int mo), .val (.long (xx &&& (4294967295 : Int64))), .second, .val (.long (j0_14_l9 yy mo)), .second, .val (.long (r1_v (xx &&& (4294967295 : Int64)) (j0_14_l9 yy mo))), .second, .val (.long (r2_v (xx &&& (4294967295 : Int64)) (j0_14_l9 yy mo))), .second, .unset, .unset, .unset, .unset, .unset, .unset, .unset] [])) _
        refine XS.lload X7.here hx rfl (hb hby at_62) rfl ?_
        show Steps p.tables e below (T7.setTop (mkF m 64 #[.val (.long xx), .second, .val (.long yy), .second, .val (.long hv), .second, .val (.int mo), .val (.long (xx &&& (4294967295 : Int64))), .second, .val (.long (j0_14_l9 yy mo)), .second, .val (.long (r1_v (xx &&& (4294967295 : Int64)) (j0_14_l9 yy mo))), .second, .val (.long (r2_v (xx &&& (4294967295 : Int64)) (j0_14_l9 yy mo))), .second, .unset, .unset, .unset, .unset, .unset, .unset, .unset] [(.long (r2_v (xx &&& (4294967295 : Int64)) (j0_14_l9 yy mo)))])) _
        refine XS.lconst X7.here hx rfl (hb hby at_64) ?_
        show Steps p.tables e below (T7.setTop (mkF m 65 #[.val (.long xx), .second, .val (.long yy), .second, .val (.long hv), .second, .val (.int mo), .val (.long (xx &&& (4294967295 : Int64))), .second, .val (.long (j0_14_l9 yy mo)), .second, .val (.long (r1_v (xx &&& (4294967295 : Int64)) (j0_14_l9 yy mo))), .second, .val (.long (r2_v (xx &&& (4294967295 : Int64)) (j0_14_l9 yy mo))), .second, .unset, .unset, .unset, .unset, .unset, .unset, .unset] [(.long (1 : Int64)), (.long (r2_v (xx &&& (4294967295 : Int64)) (j0_14_l9 yy mo)))])) _
        refine XS.ladd X7.here hx rfl (hb hby at_65) rfl ?_
        show Steps p.tables e below (T7.setTop (mkF m 66 #[.val (.long xx), .second, .val (.long yy), .second, .val (.long hv), .second, .val (.int mo), .val (.long (xx &&& (4294967295 : Int64))), .second, .val (.long (j0_14_l9 yy mo)), .second, .val (.long (r1_v (xx &&& (4294967295 : Int64)) (j0_14_l9 yy mo))), .second, .val (.long (r2_v (xx &&& (4294967295 : Int64)) (j0_14_l9 yy mo))), .second, .unset, .unset, .unset, .unset, .unset, .unset, .unset] [(.long ((r2_v (xx &&& (4294967295 : Int64)) (j0_14_l9 yy mo)) + (1 : Int64)))])) _
        refine XS.lstore X7.here hx rfl (hb hby at_66) rfl (l' := #[.val (.long xx), .second, .val (.long yy), .second, .val (.long hv), .second, .val (.int mo), .val (.long (xx &&& (4294967295 : Int64))), .second, .val (.long (j0_14_l9 yy mo)), .second, .val (.long (r1_v (xx &&& (4294967295 : Int64)) (j0_14_l9 yy mo))), .second, .val (.long ((r2_v (xx &&& (4294967295 : Int64)) (j0_14_l9 yy mo)) + (1 : Int64))), .second, .unset, .unset, .unset, .unset, .unset, .unset, .unset]) rfl ?_
        show Steps p.tables e below (T7.setTop (mkF m 68 #[.val (.long xx), .second, .val (.long yy), .second, .val (.long hv), .second, .val (.int mo), .val (.long (xx &&& (4294967295 : Int64))), .second, .val (.long (j0_14_l9 yy mo)), .second, .val (.long (r1_v (xx &&& (4294967295 : Int64)) (j0_14_l9 yy mo))), .second, .val (.long ((r2_v (xx &&& (4294967295 : Int64)) (j0_14_l9 yy mo)) + (1 : Int64))), .second, .unset, .unset, .unset, .unset, .unset, .unset, .unset] [])) _
        refine XS.goto X7.here hx rfl (pc0 := 68) (pc' := 77) rfl (hb hby at_68) (by decide) (by decide) ?_
        have ev10 : (j0_45_l11 xx yy mo) = (r1_v (xx &&& (4294967295 : Int64)) (j0_14_l9 yy mo)) := by unfold j0_45_l11; rw [if_pos hk8, if_pos hk9]
        have ev13 : (j0_45_l13 xx yy mo) = ((r2_v (xx &&& (4294967295 : Int64)) (j0_14_l9 yy mo)) + (1 : Int64)) := by unfold j0_45_l13; rw [if_pos hk8, if_pos hk9]
        rw [ev10, ev13] at k
        exact k
      · show Steps p.tables e below (T7.setTop (mkF m 59 #[.val (.long xx), .second, .val (.long yy), .second, .val (.long hv), .second, .val (.int mo), .val (.long (xx &&& (4294967295 : Int64))), .second, .val (.long (j0_14_l9 yy mo)), .second, .val (.long (r1_v (xx &&& (4294967295 : Int64)) (j0_14_l9 yy mo))), .second, .val (.long (r2_v (xx &&& (4294967295 : Int64)) (j0_14_l9 yy mo))), .second, .unset, .unset, .unset, .unset, .unset, .unset, .unset] [(.int (lcmpW (r2_v (xx &&& (4294967295 : Int64)) (j0_14_l9 yy mo)) (4294967295 : Int64)))])) _
        refine XS.ifYes X7.here hx rfl (pc0 := 59) (pc' := 71) rfl (hb hby at_59) rfl (own_fltL hk9).2.1 (by decide) (by decide) ?_
        show Steps p.tables e below (T7.setTop (mkF m 71 #[.val (.long xx), .second, .val (.long yy), .second, .val (.long hv), .second, .val (.int mo), .val (.long (xx &&& (4294967295 : Int64))), .second, .val (.long (j0_14_l9 yy mo)), .second, .val (.long (r1_v (xx &&& (4294967295 : Int64)) (j0_14_l9 yy mo))), .second, .val (.long (r2_v (xx &&& (4294967295 : Int64)) (j0_14_l9 yy mo))), .second, .unset, .unset, .unset, .unset, .unset, .unset, .unset] [])) _
        refine XS.lload X7.here hx rfl (hb hby at_71) rfl ?_
        show Steps p.tables e below (T7.setTop (mkF m 73 #[.val (.long xx), .second, .val (.long yy), .second, .val (.long hv), .second, .val (.int mo), .val (.long (xx &&& (4294967295 : Int64))), .second, .val (.long (j0_14_l9 yy mo)), .second, .val (.long (r1_v (xx &&& (4294967295 : Int64)) (j0_14_l9 yy mo))), .second, .val (.long (r2_v (xx &&& (4294967295 : Int64)) (j0_14_l9 yy mo))), .second, .unset, .unset, .unset, .unset, .unset, .unset, .unset] [(.long (r2_v (xx &&& (4294967295 : Int64)) (j0_14_l9 yy mo)))])) _
        refine XS.lconst X7.here hx rfl (hb hby at_73) ?_
        show Steps p.tables e below (T7.setTop (mkF m 74 #[.val (.long xx), .second, .val (.long yy), .second, .val (.long hv), .second, .val (.int mo), .val (.long (xx &&& (4294967295 : Int64))), .second, .val (.long (j0_14_l9 yy mo)), .second, .val (.long (r1_v (xx &&& (4294967295 : Int64)) (j0_14_l9 yy mo))), .second, .val (.long (r2_v (xx &&& (4294967295 : Int64)) (j0_14_l9 yy mo))), .second, .unset, .unset, .unset, .unset, .unset, .unset, .unset] [(.long (1 : Int64)), (.long (r2_v (xx &&& (4294967295 : Int64)) (j0_14_l9 yy mo)))])) _
        refine XS.lsub X7.here hx rfl (hb hby at_74) rfl ?_
        show Steps p.tables e below (T7.setTop (mkF m 75 #[.val (.long xx), .second, .val (.long yy), .second, .val (.long hv), .second, .val (.int mo), .val (.long (xx &&& (4294967295 : Int64))), .second, .val (.long (j0_14_l9 yy mo)), .second, .val (.long (r1_v (xx &&& (4294967295 : Int64)) (j0_14_l9 yy mo))), .second, .val (.long (r2_v (xx &&& (4294967295 : Int64)) (j0_14_l9 yy mo))), .second, .unset, .unset, .unset, .unset, .unset, .unset, .unset] [(.long ((r2_v (xx &&& (4294967295 : Int64)) (j0_14_l9 yy mo)) - (1 : Int64)))])) _
        refine XS.lstore X7.here hx rfl (hb hby at_75) rfl (l' := #[.val (.long xx), .second, .val (.long yy), .second, .val (.long hv), .second, .val (.int mo), .val (.long (xx &&& (4294967295 : Int64))), .second, .val (.long (j0_14_l9 yy mo)), .second, .val (.long ((r2_v (xx &&& (4294967295 : Int64)) (j0_14_l9 yy mo)) - (1 : Int64))), .second, .val (.long (r2_v (xx &&& (4294967295 : Int64)) (j0_14_l9 yy mo))), .second, .unset, .unset, .unset, .unset, .unset, .unset, .unset]) rfl ?_
        have ev11 : (j0_45_l11 xx yy mo) = ((r2_v (xx &&& (4294967295 : Int64)) (j0_14_l9 yy mo)) - (1 : Int64)) := by unfold j0_45_l11; rw [if_pos hk8, if_neg hk9]
        have ev14 : (j0_45_l13 xx yy mo) = (r2_v (xx &&& (4294967295 : Int64)) (j0_14_l9 yy mo)) := by unfold j0_45_l13; rw [if_pos hk8, if_neg hk9]
        rw [ev11, ev14] at k
        exact k
    · show Steps p.tables e below (T7.setTop (mkF m 50 #[.val (.long xx), .second, .val (.long yy), .second, .val (.long hv), .second, .val (.int mo), .val (.long (xx &&& (4294967295 : Int64))), .second, .val (.long (j0_14_l9 yy mo)), .second, .val (.long (r1_v (xx &&& (4294967295 : Int64)) (j0_14_l9 yy mo))), .second, .val (.long (r2_v (xx &&& (4294967295 : Int64)) (j0_14_l9 yy mo))), .second, .unset, .unset, .unset, .unset, .unset, .unset, .unset] [(.int (lcmpW (r1_v (xx &&& (4294967295 : Int64)) (j0_14_l9 yy mo)) (r2_v (xx &&& (4294967295 : Int64)) (j0_14_l9 yy mo))))])) _
      refine XS.ifYes X7.here hx rfl (pc0 := 50) (pc' := 77) rfl (hb hby at_50) rfl (own_feqL hk8).2 (by decide) (by decide) ?_
      have ev12 : (j0_45_l11 xx yy mo) = (r1_v (xx &&& (4294967295 : Int64)) (j0_14_l9 yy mo)) := by unfold j0_45_l11; rw [if_neg hk8]
      have ev15 : (j0_45_l13 xx yy mo) = (r2_v (xx &&& (4294967295 : Int64)) (j0_14_l9 yy mo)) := by unfold j0_45_l13; rw [if_neg hk8]
      rw [ev12, ev15] at k
      exact k
  obtain ⟨T18, h18, X18, e18, E18, A18, D18, -, st18⟩ := newO X7 hx hZ hown (hw _ (List.mem_of_getElem? (i := 8) rfl)) (hw _ (List.mem_of_getElem? (i := 9) rfl)) (hw _ (List.mem_of_getElem? (i := 10) rfl)) e7 (g := (mkF m 77 #[.val (.long xx), .second, .val (.long yy), .second, .val (.long hv), .second, .val (.int mo), .val (.long (xx &&& (4294967295 : Int64))), .second, .val (.long (j0_14_l9 yy mo)), .second, .val (.long (j0_45_l11 xx yy mo)), .second, .val (.long (j0_45_l13 xx yy mo)), .second, .unset, .unset, .unset, .unset, .unset, .unset, .unset] [])) rfl (hb hby at_77) (by decide) (by decide)
  obtain ⟨b18, g18⟩ : ∃ z, z = h0.size := ⟨_, rfl⟩
  rw [← g18] at A18 D18 st18
  have gg18 : n0 ≤ b18 := Nat.le_trans Z0 (Nat.le_of_eq g18.symm)
  have Z18 : n0 ≤ h18.size := Nat.le_trans Z0 E18.1
  have f19 : Fld Z h18 b18 "com/example/bundles_to_brokers/bundlestobrokers/model/BundleRange" "lower" "J" (.long (0 : Int64)) := D18 (Or.inr (hw _ (List.mem_of_getElem? (i := 28) rfl))) (ty := .long) (by decide)
  have f20 : Fld Z h18 b18 "com/example/bundles_to_brokers/bundlestobrokers/model/BundleRange" "upper" "J" (.long (0 : Int64)) := D18 (Or.inr (hw _ (List.mem_of_getElem? (i := 30) rfl))) (ty := .long) (by decide)
  obtain ⟨_, _, ⟨T21, L21, k21, n21⟩, -, X21, ⟨Lc21, hQ21, l21, y21, z21⟩, st21⟩ := X18.specialBack hx (y := (⟨"com/example/bundles_to_brokers/bundlestobrokers/model/BundleRange", "<init>", "(JJ)V"⟩ : MethodName)) rfl hown (mvT hZ (hw _ (List.mem_of_getElem? (i := 11) rfl))) (mvT hZ (hw _ (List.mem_of_getElem? (i := 12) rfl))) (mvT hZ (hw _ (List.mem_of_getElem? (i := 13) rfl))) (by decide) (backOf (W := 1) (rm3 l Z a0 hw [] b18 (j0_45_l11 xx yy mo) (j0_45_l13 xx yy mo) (0 : Int64) (0 : Int64) h18 n0 Z18 (own_l0 xx yy mo) (own_l1 xx yy mo) (own_h0 xx yy mo) (own_h1 xx yy mo) A18 f19 f20 (own_lt xx yy mo) gg18) hZ (hw _ (List.mem_of_getElem? (i := 13) rfl)) (hw _ (List.mem_of_getElem? (i := 10) rfl)) (by decide) (by decide)) (g := (mkF m 85 #[.val (.long xx), .second, .val (.long yy), .second, .val (.long hv), .second, .val (.int mo), .val (.long (xx &&& (4294967295 : Int64))), .second, .val (.long (j0_14_l9 yy mo)), .second, .val (.long (j0_45_l11 xx yy mo)), .second, .val (.long (j0_45_l13 xx yy mo)), .second, .unset, .unset, .unset, .unset, .unset, .unset, .unset] [(.long (j0_45_l13 xx yy mo)), (.long (j0_45_l11 xx yy mo)), (.ref b18), (.ref b18)])) rfl (by rw [hml]; rfl) (Steps.refl _) (a := b18) (argsL := [(.long (j0_45_l11 xx yy mo)), (.long (j0_45_l13 xx yy mo))]) (rest := [(.ref b18)]) (lenOf pd_3 rfl) rfl (by show 2 * 0 + _ ≤ _; exact Nat.le_of_eq rfl) (hb hby at_85) (fun _ _ => ⟨rfl, e18, (by decide : 1 + 0 ≤ _), (by decide : 2 + 0 ≤ _)⟩)
  dsimp only [Pt.U, Pt.locs, Pt.cells, Pt.slots] at X21 l21 y21 z21 st21 hQ21
  subst l21 y21 z21
  obtain ⟨rfl, N21q, K21c, f22, f23⟩ := hQ21
  have N21 := Fr.app N7 N21q
  have f24 : Exa Z T21.heap b18 "com/example/bundles_to_brokers/bundlestobrokers/model/BundleRange" := A18.keep K21c
  have Z21 : n0 ≤ T21.heap.size := Nat.le_trans Z18 K21c.1
  have pre40 : ∀ t, Steps p.tables e below (T21.setTop (mkF m 97 #[.val (.long xx), .second, .val (.long yy), .second, .val (.long hv), .second, .val (.int mo), .val (.long (xx &&& (4294967295 : Int64))), .second, .val (.long (j0_14_l9 yy mo)), .second, .val (.long (j0_45_l11 xx yy mo)), .second, .val (.long (j0_45_l13 xx yy mo)), .second, .val (.ref b18), .val (.int (mo &&& (7 : Int32))), .unset, .unset, .unset, .unset, .unset] [])) t → Steps p.tables e below (s₁.setTop (entryFrame m #[(.long xx), (.long yy), (.long hv), (.int mo)] maxLocals)) t := by
    intro t k
    refine pre17 _ ?_
    show Steps p.tables e below (T7.setTop (mkF m 77 #[.val (.long xx), .second, .val (.long yy), .second, .val (.long hv), .second, .val (.int mo), .val (.long (xx &&& (4294967295 : Int64))), .second, .val (.long (j0_14_l9 yy mo)), .second, .val (.long (j0_45_l11 xx yy mo)), .second, .val (.long (j0_45_l13 xx yy mo)), .second, .unset, .unset, .unset, .unset, .unset, .unset, .unset] [])) _
    refine st18 _ ?_
    show Steps p.tables e below (T18.setTop (mkF m 80 #[.val (.long xx), .second, .val (.long yy), .second, .val (.long hv), .second, .val (.int mo), .val (.long (xx &&& (4294967295 : Int64))), .second, .val (.long (j0_14_l9 yy mo)), .second, .val (.long (j0_45_l11 xx yy mo)), .second, .val (.long (j0_45_l13 xx yy mo)), .second, .unset, .unset, .unset, .unset, .unset, .unset, .unset] [(.ref b18)])) _
    refine XS.dup X18.here hx rfl (hb hby at_80) rfl rfl ?_
    show Steps p.tables e below (T18.setTop (mkF m 81 #[.val (.long xx), .second, .val (.long yy), .second, .val (.long hv), .second, .val (.int mo), .val (.long (xx &&& (4294967295 : Int64))), .second, .val (.long (j0_14_l9 yy mo)), .second, .val (.long (j0_45_l11 xx yy mo)), .second, .val (.long (j0_45_l13 xx yy mo)), .second, .unset, .unset, .unset, .unset, .unset, .unset, .unset] [(.ref b18), (.ref b18)])) _
    refine XS.lload X18.here hx rfl (hb hby at_81) rfl ?_
    show Steps p.tables e below (T18.setTop (mkF m 83 #[.val (.long xx), .second, .val (.long yy), .second, .val (.long hv), .second, .val (.int mo), .val (.long (xx &&& (4294967295 : Int64))), .second, .val (.long (j0_14_l9 yy mo)), .second, .val (.long (j0_45_l11 xx yy mo)), .second, .val (.long (j0_45_l13 xx yy mo)), .second, .unset, .unset, .unset, .unset, .unset, .unset, .unset] [(.long (j0_45_l11 xx yy mo)), (.ref b18), (.ref b18)])) _
    refine XS.lload X18.here hx rfl (hb hby at_83) rfl ?_
    show Steps p.tables e below (T18.setTop (mkF m 85 #[.val (.long xx), .second, .val (.long yy), .second, .val (.long hv), .second, .val (.int mo), .val (.long (xx &&& (4294967295 : Int64))), .second, .val (.long (j0_14_l9 yy mo)), .second, .val (.long (j0_45_l11 xx yy mo)), .second, .val (.long (j0_45_l13 xx yy mo)), .second, .unset, .unset, .unset, .unset, .unset, .unset, .unset] [(.long (j0_45_l13 xx yy mo)), (.long (j0_45_l11 xx yy mo)), (.ref b18), (.ref b18)])) _
    refine st21.trans ?_
    show Steps p.tables e below (T21.setTop (mkF m 88 #[.val (.long xx), .second, .val (.long yy), .second, .val (.long hv), .second, .val (.int mo), .val (.long (xx &&& (4294967295 : Int64))), .second, .val (.long (j0_14_l9 yy mo)), .second, .val (.long (j0_45_l11 xx yy mo)), .second, .val (.long (j0_45_l13 xx yy mo)), .second, .unset, .unset, .unset, .unset, .unset, .unset, .unset] [(.ref b18)])) _
    refine XS.astore X21.here hx rfl (hb hby at_88) rfl rfl (l' := #[.val (.long xx), .second, .val (.long yy), .second, .val (.long hv), .second, .val (.int mo), .val (.long (xx &&& (4294967295 : Int64))), .second, .val (.long (j0_14_l9 yy mo)), .second, .val (.long (j0_45_l11 xx yy mo)), .second, .val (.long (j0_45_l13 xx yy mo)), .second, .val (.ref b18), .unset, .unset, .unset, .unset, .unset, .unset]) rfl ?_
    show Steps p.tables e below (T21.setTop (mkF m 90 #[.val (.long xx), .second, .val (.long yy), .second, .val (.long hv), .second, .val (.int mo), .val (.long (xx &&& (4294967295 : Int64))), .second, .val (.long (j0_14_l9 yy mo)), .second, .val (.long (j0_45_l11 xx yy mo)), .second, .val (.long (j0_45_l13 xx yy mo)), .second, .val (.ref b18), .unset, .unset, .unset, .unset, .unset, .unset] [])) _
    refine XS.iload X21.here hx rfl (hb hby at_90) rfl ?_
    show Steps p.tables e below (T21.setTop (mkF m 92 #[.val (.long xx), .second, .val (.long yy), .second, .val (.long hv), .second, .val (.int mo), .val (.long (xx &&& (4294967295 : Int64))), .second, .val (.long (j0_14_l9 yy mo)), .second, .val (.long (j0_45_l11 xx yy mo)), .second, .val (.long (j0_45_l13 xx yy mo)), .second, .val (.ref b18), .unset, .unset, .unset, .unset, .unset, .unset] [(.int mo)])) _
    refine XS.bipush X21.here hx rfl (hb hby at_92) ?_
    show Steps p.tables e below (T21.setTop (mkF m 94 #[.val (.long xx), .second, .val (.long yy), .second, .val (.long hv), .second, .val (.int mo), .val (.long (xx &&& (4294967295 : Int64))), .second, .val (.long (j0_14_l9 yy mo)), .second, .val (.long (j0_45_l11 xx yy mo)), .second, .val (.long (j0_45_l13 xx yy mo)), .second, .val (.ref b18), .unset, .unset, .unset, .unset, .unset, .unset] [(.int (7 : Int32)), (.int mo)])) _
    refine XS.iand X21.here hx rfl (hb hby at_94) rfl ?_
    show Steps p.tables e below (T21.setTop (mkF m 95 #[.val (.long xx), .second, .val (.long yy), .second, .val (.long hv), .second, .val (.int mo), .val (.long (xx &&& (4294967295 : Int64))), .second, .val (.long (j0_14_l9 yy mo)), .second, .val (.long (j0_45_l11 xx yy mo)), .second, .val (.long (j0_45_l13 xx yy mo)), .second, .val (.ref b18), .unset, .unset, .unset, .unset, .unset, .unset] [(.int (mo &&& (7 : Int32)))])) _
    refine XS.istore X21.here hx rfl (hb hby at_95) rfl (l' := #[.val (.long xx), .second, .val (.long yy), .second, .val (.long hv), .second, .val (.int mo), .val (.long (xx &&& (4294967295 : Int64))), .second, .val (.long (j0_14_l9 yy mo)), .second, .val (.long (j0_45_l11 xx yy mo)), .second, .val (.long (j0_45_l13 xx yy mo)), .second, .val (.ref b18), .val (.int (mo &&& (7 : Int32))), .unset, .unset, .unset, .unset, .unset]) rfl ?_
    exact k
  have pre41 : ∀ t, Steps p.tables e below (T21.setTop (mkF m 217 #[.val (.long xx), .second, .val (.long yy), .second, .val (.long hv), .second, .val (.int mo), .val (.long (xx &&& (4294967295 : Int64))), .second, .val (.long (j0_14_l9 yy mo)), .second, .val (.long (j0_45_l11 xx yy mo)), .second, .val (.long (j0_45_l13 xx yy mo)), .second, .val (.ref b18), .val (.int (mo &&& (7 : Int32))), .val (.long (j0_97_l17 xx yy hv mo)), .second, .unset, .unset, .unset] [])) t → Steps p.tables e below (s₁.setTop (entryFrame m #[(.long xx), (.long yy), (.long hv), (.int mo)] maxLocals)) t := by
    intro t k
    refine pre40 _ ?_
    show Steps p.tables e below (T21.setTop (mkF m 97 #[.val (.long xx), .second, .val (.long yy), .second, .val (.long hv), .second, .val (.int mo), .val (.long (xx &&& (4294967295 : Int64))), .second, .val (.long (j0_14_l9 yy mo)), .second, .val (.long (j0_45_l11 xx yy mo)), .second, .val (.long (j0_45_l13 xx yy mo)), .second, .val (.ref b18), .val (.int (mo &&& (7 : Int32))), .unset, .unset, .unset, .unset, .unset] [])) _
    refine XS.iload X21.here hx rfl (hb hby at_97) rfl ?_
    by_cases hk25 : (mo &&& (7 : Int32)) = (0 : Int32)
    · show Steps p.tables e below (T21.setTop (mkF m 99 #[.val (.long xx), .second, .val (.long yy), .second, .val (.long hv), .second, .val (.int mo), .val (.long (xx &&& (4294967295 : Int64))), .second, .val (.long (j0_14_l9 yy mo)), .second, .val (.long (j0_45_l11 xx yy mo)), .second, .val (.long (j0_45_l13 xx yy mo)), .second, .val (.ref b18), .val (.int (mo &&& (7 : Int32))), .unset, .unset, .unset, .unset, .unset] [(.int (mo &&& (7 : Int32)))])) _
      refine XS.ifNo X21.here hx rfl (hb hby at_99) rfl ((if0 _ _).trans (teq hk25).2) ?_
      show Steps p.tables e below (T21.setTop (mkF m 102 #[.val (.long xx), .second, .val (.long yy), .second, .val (.long hv), .second, .val (.int mo), .val (.long (xx &&& (4294967295 : Int64))), .second, .val (.long (j0_14_l9 yy mo)), .second, .val (.long (j0_45_l11 xx yy mo)), .second, .val (.long (j0_45_l13 xx yy mo)), .second, .val (.ref b18), .val (.int (mo &&& (7 : Int32))), .unset, .unset, .unset, .unset, .unset] [])) _
      refine XS.lload X21.here hx rfl (hb hby at_102) rfl ?_
      show Steps p.tables e below (T21.setTop (mkF m 104 #[.val (.long xx), .second, .val (.long yy), .second, .val (.long hv), .second, .val (.int mo), .val (.long (xx &&& (4294967295 : Int64))), .second, .val (.long (j0_14_l9 yy mo)), .second, .val (.long (j0_45_l11 xx yy mo)), .second, .val (.long (j0_45_l13 xx yy mo)), .second, .val (.ref b18), .val (.int (mo &&& (7 : Int32))), .unset, .unset, .unset, .unset, .unset] [(.long hv)])) _
      refine XS.lstore X21.here hx rfl (hb hby at_104) rfl (l' := #[.val (.long xx), .second, .val (.long yy), .second, .val (.long hv), .second, .val (.int mo), .val (.long (xx &&& (4294967295 : Int64))), .second, .val (.long (j0_14_l9 yy mo)), .second, .val (.long (j0_45_l11 xx yy mo)), .second, .val (.long (j0_45_l13 xx yy mo)), .second, .val (.ref b18), .val (.int (mo &&& (7 : Int32))), .val (.long hv), .second, .unset, .unset, .unset]) rfl ?_
      show Steps p.tables e below (T21.setTop (mkF m 106 #[.val (.long xx), .second, .val (.long yy), .second, .val (.long hv), .second, .val (.int mo), .val (.long (xx &&& (4294967295 : Int64))), .second, .val (.long (j0_14_l9 yy mo)), .second, .val (.long (j0_45_l11 xx yy mo)), .second, .val (.long (j0_45_l13 xx yy mo)), .second, .val (.ref b18), .val (.int (mo &&& (7 : Int32))), .val (.long hv), .second, .unset, .unset, .unset] [])) _
      refine XS.goto X21.here hx rfl (pc0 := 106) (pc' := 217) rfl (hb hby at_106) (by decide) (by decide) ?_
      have ev32 : (j0_97_l17 xx yy hv mo) = hv := by unfold j0_97_l17; rw [if_pos hk25]
      rw [ev32] at k
      exact k
    · show Steps p.tables e below (T21.setTop (mkF m 99 #[.val (.long xx), .second, .val (.long yy), .second, .val (.long hv), .second, .val (.int mo), .val (.long (xx &&& (4294967295 : Int64))), .second, .val (.long (j0_14_l9 yy mo)), .second, .val (.long (j0_45_l11 xx yy mo)), .second, .val (.long (j0_45_l13 xx yy mo)), .second, .val (.ref b18), .val (.int (mo &&& (7 : Int32))), .unset, .unset, .unset, .unset, .unset] [(.int (mo &&& (7 : Int32)))])) _
      refine XS.ifYes X21.here hx rfl (pc0 := 99) (pc' := 109) rfl (hb hby at_99) rfl ((if0 _ _).trans (feq hk25).2) (by decide) (by decide) ?_
      show Steps p.tables e below (T21.setTop (mkF m 109 #[.val (.long xx), .second, .val (.long yy), .second, .val (.long hv), .second, .val (.int mo), .val (.long (xx &&& (4294967295 : Int64))), .second, .val (.long (j0_14_l9 yy mo)), .second, .val (.long (j0_45_l11 xx yy mo)), .second, .val (.long (j0_45_l13 xx yy mo)), .second, .val (.ref b18), .val (.int (mo &&& (7 : Int32))), .unset, .unset, .unset, .unset, .unset] [])) _
      refine XS.iload X21.here hx rfl (hb hby at_109) rfl ?_
      show Steps p.tables e below (T21.setTop (mkF m 111 #[.val (.long xx), .second, .val (.long yy), .second, .val (.long hv), .second, .val (.int mo), .val (.long (xx &&& (4294967295 : Int64))), .second, .val (.long (j0_14_l9 yy mo)), .second, .val (.long (j0_45_l11 xx yy mo)), .second, .val (.long (j0_45_l13 xx yy mo)), .second, .val (.ref b18), .val (.int (mo &&& (7 : Int32))), .unset, .unset, .unset, .unset, .unset] [(.int (mo &&& (7 : Int32)))])) _
      refine XS.iconst X21.here hx rfl (hb hby at_111) ?_
      by_cases hk26 : (mo &&& (7 : Int32)) = (1 : Int32)
      · show Steps p.tables e below (T21.setTop (mkF m 112 #[.val (.long xx), .second, .val (.long yy), .second, .val (.long hv), .second, .val (.int mo), .val (.long (xx &&& (4294967295 : Int64))), .second, .val (.long (j0_14_l9 yy mo)), .second, .val (.long (j0_45_l11 xx yy mo)), .second, .val (.long (j0_45_l13 xx yy mo)), .second, .val (.ref b18), .val (.int (mo &&& (7 : Int32))), .unset, .unset, .unset, .unset, .unset] [(.int (1 : Int32)), (.int (mo &&& (7 : Int32)))])) _
        refine XS.icmpNo X21.here hx rfl (hb hby at_112) rfl (teq hk26).2 ?_
        show Steps p.tables e below (T21.setTop (mkF m 115 #[.val (.long xx), .second, .val (.long yy), .second, .val (.long hv), .second, .val (.int mo), .val (.long (xx &&& (4294967295 : Int64))), .second, .val (.long (j0_14_l9 yy mo)), .second, .val (.long (j0_45_l11 xx yy mo)), .second, .val (.long (j0_45_l13 xx yy mo)), .second, .val (.ref b18), .val (.int (mo &&& (7 : Int32))), .unset, .unset, .unset, .unset, .unset] [])) _
        refine XS.lload X21.here hx rfl (hb hby at_115) rfl ?_
        show Steps p.tables e below (T21.setTop (mkF m 117 #[.val (.long xx), .second, .val (.long yy), .second, .val (.long hv), .second, .val (.int mo), .val (.long (xx &&& (4294967295 : Int64))), .second, .val (.long (j0_14_l9 yy mo)), .second, .val (.long (j0_45_l11 xx yy mo)), .second, .val (.long (j0_45_l13 xx yy mo)), .second, .val (.ref b18), .val (.int (mo &&& (7 : Int32))), .unset, .unset, .unset, .unset, .unset] [(.long (j0_45_l11 xx yy mo))])) _
        refine XS.lstore X21.here hx rfl (hb hby at_117) rfl (l' := #[.val (.long xx), .second, .val (.long yy), .second, .val (.long hv), .second, .val (.int mo), .val (.long (xx &&& (4294967295 : Int64))), .second, .val (.long (j0_14_l9 yy mo)), .second, .val (.long (j0_45_l11 xx yy mo)), .second, .val (.long (j0_45_l13 xx yy mo)), .second, .val (.ref b18), .val (.int (mo &&& (7 : Int32))), .val (.long (j0_45_l11 xx yy mo)), .second, .unset, .unset, .unset]) rfl ?_
        show Steps p.tables e below (T21.setTop (mkF m 119 #[.val (.long xx), .second, .val (.long yy), .second, .val (.long hv), .second, .val (.int mo), .val (.long (xx &&& (4294967295 : Int64))), .second, .val (.long (j0_14_l9 yy mo)), .second, .val (.long (j0_45_l11 xx yy mo)), .second, .val (.long (j0_45_l13 xx yy mo)), .second, .val (.ref b18), .val (.int (mo &&& (7 : Int32))), .val (.long (j0_45_l11 xx yy mo)), .second, .unset, .unset, .unset] [])) _
        refine XS.goto X21.here hx rfl (pc0 := 119) (pc' := 217) rfl (hb hby at_119) (by decide) (by decide) ?_
        have ev33 : (j0_97_l17 xx yy hv mo) = (j0_45_l11 xx yy mo) := by unfold j0_97_l17; rw [if_neg hk25, if_pos hk26]
        rw [ev33] at k
        exact k
      · show Steps p.tables e below (T21.setTop (mkF m 112 #[.val (.long xx), .second, .val (.long yy), .second, .val (.long hv), .second, .val (.int mo), .val (.long (xx &&& (4294967295 : Int64))), .second, .val (.long (j0_14_l9 yy mo)), .second, .val (.long (j0_45_l11 xx yy mo)), .second, .val (.long (j0_45_l13 xx yy mo)), .second, .val (.ref b18), .val (.int (mo &&& (7 : Int32))), .unset, .unset, .unset, .unset, .unset] [(.int (1 : Int32)), (.int (mo &&& (7 : Int32)))])) _
        refine XS.icmpYes X21.here hx rfl (pc0 := 112) (pc' := 122) rfl (hb hby at_112) rfl (feq hk26).2 (by decide) (by decide) ?_
        show Steps p.tables e below (T21.setTop (mkF m 122 #[.val (.long xx), .second, .val (.long yy), .second, .val (.long hv), .second, .val (.int mo), .val (.long (xx &&& (4294967295 : Int64))), .second, .val (.long (j0_14_l9 yy mo)), .second, .val (.long (j0_45_l11 xx yy mo)), .second, .val (.long (j0_45_l13 xx yy mo)), .second, .val (.ref b18), .val (.int (mo &&& (7 : Int32))), .unset, .unset, .unset, .unset, .unset] [])) _
        refine XS.iload X21.here hx rfl (hb hby at_122) rfl ?_
        show Steps p.tables e below (T21.setTop (mkF m 124 #[.val (.long xx), .second, .val (.long yy), .second, .val (.long hv), .second, .val (.int mo), .val (.long (xx &&& (4294967295 : Int64))), .second, .val (.long (j0_14_l9 yy mo)), .second, .val (.long (j0_45_l11 xx yy mo)), .second, .val (.long (j0_45_l13 xx yy mo)), .second, .val (.ref b18), .val (.int (mo &&& (7 : Int32))), .unset, .unset, .unset, .unset, .unset] [(.int (mo &&& (7 : Int32)))])) _
        refine XS.iconst X21.here hx rfl (hb hby at_124) ?_
        by_cases hk27 : (mo &&& (7 : Int32)) = (2 : Int32)
        · show Steps p.tables e below (T21.setTop (mkF m 125 #[.val (.long xx), .second, .val (.long yy), .second, .val (.long hv), .second, .val (.int mo), .val (.long (xx &&& (4294967295 : Int64))), .second, .val (.long (j0_14_l9 yy mo)), .second, .val (.long (j0_45_l11 xx yy mo)), .second, .val (.long (j0_45_l13 xx yy mo)), .second, .val (.ref b18), .val (.int (mo &&& (7 : Int32))), .unset, .unset, .unset, .unset, .unset] [(.int (2 : Int32)), (.int (mo &&& (7 : Int32)))])) _
          refine XS.icmpNo X21.here hx rfl (hb hby at_125) rfl (teq hk27).2 ?_
          show Steps p.tables e below (T21.setTop (mkF m 128 #[.val (.long xx), .second, .val (.long yy), .second, .val (.long hv), .second, .val (.int mo), .val (.long (xx &&& (4294967295 : Int64))), .second, .val (.long (j0_14_l9 yy mo)), .second, .val (.long (j0_45_l11 xx yy mo)), .second, .val (.long (j0_45_l13 xx yy mo)), .second, .val (.ref b18), .val (.int (mo &&& (7 : Int32))), .unset, .unset, .unset, .unset, .unset] [])) _
          refine XS.lload X21.here hx rfl (hb hby at_128) rfl ?_
          show Steps p.tables e below (T21.setTop (mkF m 130 #[.val (.long xx), .second, .val (.long yy), .second, .val (.long hv), .second, .val (.int mo), .val (.long (xx &&& (4294967295 : Int64))), .second, .val (.long (j0_14_l9 yy mo)), .second, .val (.long (j0_45_l11 xx yy mo)), .second, .val (.long (j0_45_l13 xx yy mo)), .second, .val (.ref b18), .val (.int (mo &&& (7 : Int32))), .unset, .unset, .unset, .unset, .unset] [(.long (j0_45_l11 xx yy mo))])) _
          refine XS.lconst X21.here hx rfl (hb hby at_130) ?_
          show Steps p.tables e below (T21.setTop (mkF m 131 #[.val (.long xx), .second, .val (.long yy), .second, .val (.long hv), .second, .val (.int mo), .val (.long (xx &&& (4294967295 : Int64))), .second, .val (.long (j0_14_l9 yy mo)), .second, .val (.long (j0_45_l11 xx yy mo)), .second, .val (.long (j0_45_l13 xx yy mo)), .second, .val (.ref b18), .val (.int (mo &&& (7 : Int32))), .unset, .unset, .unset, .unset, .unset] [(.long (1 : Int64)), (.long (j0_45_l11 xx yy mo))])) _
          refine XS.lsub X21.here hx rfl (hb hby at_131) rfl ?_
          show Steps p.tables e below (T21.setTop (mkF m 132 #[.val (.long xx), .second, .val (.long yy), .second, .val (.long hv), .second, .val (.int mo), .val (.long (xx &&& (4294967295 : Int64))), .second, .val (.long (j0_14_l9 yy mo)), .second, .val (.long (j0_45_l11 xx yy mo)), .second, .val (.long (j0_45_l13 xx yy mo)), .second, .val (.ref b18), .val (.int (mo &&& (7 : Int32))), .unset, .unset, .unset, .unset, .unset] [(.long ((j0_45_l11 xx yy mo) - (1 : Int64)))])) _
          refine XS.lstore X21.here hx rfl (hb hby at_132) rfl (l' := #[.val (.long xx), .second, .val (.long yy), .second, .val (.long hv), .second, .val (.int mo), .val (.long (xx &&& (4294967295 : Int64))), .second, .val (.long (j0_14_l9 yy mo)), .second, .val (.long (j0_45_l11 xx yy mo)), .second, .val (.long (j0_45_l13 xx yy mo)), .second, .val (.ref b18), .val (.int (mo &&& (7 : Int32))), .val (.long ((j0_45_l11 xx yy mo) - (1 : Int64))), .second, .unset, .unset, .unset]) rfl ?_
          show Steps p.tables e below (T21.setTop (mkF m 134 #[.val (.long xx), .second, .val (.long yy), .second, .val (.long hv), .second, .val (.int mo), .val (.long (xx &&& (4294967295 : Int64))), .second, .val (.long (j0_14_l9 yy mo)), .second, .val (.long (j0_45_l11 xx yy mo)), .second, .val (.long (j0_45_l13 xx yy mo)), .second, .val (.ref b18), .val (.int (mo &&& (7 : Int32))), .val (.long ((j0_45_l11 xx yy mo) - (1 : Int64))), .second, .unset, .unset, .unset] [])) _
          refine XS.goto X21.here hx rfl (pc0 := 134) (pc' := 217) rfl (hb hby at_134) (by decide) (by decide) ?_
          have ev34 : (j0_97_l17 xx yy hv mo) = ((j0_45_l11 xx yy mo) - (1 : Int64)) := by unfold j0_97_l17; rw [if_neg hk25, if_neg hk26, if_pos hk27]
          rw [ev34] at k
          exact k
        · show Steps p.tables e below (T21.setTop (mkF m 125 #[.val (.long xx), .second, .val (.long yy), .second, .val (.long hv), .second, .val (.int mo), .val (.long (xx &&& (4294967295 : Int64))), .second, .val (.long (j0_14_l9 yy mo)), .second, .val (.long (j0_45_l11 xx yy mo)), .second, .val (.long (j0_45_l13 xx yy mo)), .second, .val (.ref b18), .val (.int (mo &&& (7 : Int32))), .unset, .unset, .unset, .unset, .unset] [(.int (2 : Int32)), (.int (mo &&& (7 : Int32)))])) _
          refine XS.icmpYes X21.here hx rfl (pc0 := 125) (pc' := 137) rfl (hb hby at_125) rfl (feq hk27).2 (by decide) (by decide) ?_
          show Steps p.tables e below (T21.setTop (mkF m 137 #[.val (.long xx), .second, .val (.long yy), .second, .val (.long hv), .second, .val (.int mo), .val (.long (xx &&& (4294967295 : Int64))), .second, .val (.long (j0_14_l9 yy mo)), .second, .val (.long (j0_45_l11 xx yy mo)), .second, .val (.long (j0_45_l13 xx yy mo)), .second, .val (.ref b18), .val (.int (mo &&& (7 : Int32))), .unset, .unset, .unset, .unset, .unset] [])) _
          refine XS.iload X21.here hx rfl (hb hby at_137) rfl ?_
          show Steps p.tables e below (T21.setTop (mkF m 139 #[.val (.long xx), .second, .val (.long yy), .second, .val (.long hv), .second, .val (.int mo), .val (.long (xx &&& (4294967295 : Int64))), .second, .val (.long (j0_14_l9 yy mo)), .second, .val (.long (j0_45_l11 xx yy mo)), .second, .val (.long (j0_45_l13 xx yy mo)), .second, .val (.ref b18), .val (.int (mo &&& (7 : Int32))), .unset, .unset, .unset, .unset, .unset] [(.int (mo &&& (7 : Int32)))])) _
          refine XS.iconst X21.here hx rfl (hb hby at_139) ?_
          by_cases hk28 : (mo &&& (7 : Int32)) = (3 : Int32)
          · show Steps p.tables e below (T21.setTop (mkF m 140 #[.val (.long xx), .second, .val (.long yy), .second, .val (.long hv), .second, .val (.int mo), .val (.long (xx &&& (4294967295 : Int64))), .second, .val (.long (j0_14_l9 yy mo)), .second, .val (.long (j0_45_l11 xx yy mo)), .second, .val (.long (j0_45_l13 xx yy mo)), .second, .val (.ref b18), .val (.int (mo &&& (7 : Int32))), .unset, .unset, .unset, .unset, .unset] [(.int (3 : Int32)), (.int (mo &&& (7 : Int32)))])) _
            refine XS.icmpNo X21.here hx rfl (hb hby at_140) rfl (teq hk28).2 ?_
            show Steps p.tables e below (T21.setTop (mkF m 143 #[.val (.long xx), .second, .val (.long yy), .second, .val (.long hv), .second, .val (.int mo), .val (.long (xx &&& (4294967295 : Int64))), .second, .val (.long (j0_14_l9 yy mo)), .second, .val (.long (j0_45_l11 xx yy mo)), .second, .val (.long (j0_45_l13 xx yy mo)), .second, .val (.ref b18), .val (.int (mo &&& (7 : Int32))), .unset, .unset, .unset, .unset, .unset] [])) _
            refine XS.lload X21.here hx rfl (hb hby at_143) rfl ?_
            show Steps p.tables e below (T21.setTop (mkF m 145 #[.val (.long xx), .second, .val (.long yy), .second, .val (.long hv), .second, .val (.int mo), .val (.long (xx &&& (4294967295 : Int64))), .second, .val (.long (j0_14_l9 yy mo)), .second, .val (.long (j0_45_l11 xx yy mo)), .second, .val (.long (j0_45_l13 xx yy mo)), .second, .val (.ref b18), .val (.int (mo &&& (7 : Int32))), .unset, .unset, .unset, .unset, .unset] [(.long (j0_45_l13 xx yy mo))])) _
            refine XS.lstore X21.here hx rfl (hb hby at_145) rfl (l' := #[.val (.long xx), .second, .val (.long yy), .second, .val (.long hv), .second, .val (.int mo), .val (.long (xx &&& (4294967295 : Int64))), .second, .val (.long (j0_14_l9 yy mo)), .second, .val (.long (j0_45_l11 xx yy mo)), .second, .val (.long (j0_45_l13 xx yy mo)), .second, .val (.ref b18), .val (.int (mo &&& (7 : Int32))), .val (.long (j0_45_l13 xx yy mo)), .second, .unset, .unset, .unset]) rfl ?_
            show Steps p.tables e below (T21.setTop (mkF m 147 #[.val (.long xx), .second, .val (.long yy), .second, .val (.long hv), .second, .val (.int mo), .val (.long (xx &&& (4294967295 : Int64))), .second, .val (.long (j0_14_l9 yy mo)), .second, .val (.long (j0_45_l11 xx yy mo)), .second, .val (.long (j0_45_l13 xx yy mo)), .second, .val (.ref b18), .val (.int (mo &&& (7 : Int32))), .val (.long (j0_45_l13 xx yy mo)), .second, .unset, .unset, .unset] [])) _
            refine XS.goto X21.here hx rfl (pc0 := 147) (pc' := 217) rfl (hb hby at_147) (by decide) (by decide) ?_
            have ev35 : (j0_97_l17 xx yy hv mo) = (j0_45_l13 xx yy mo) := by unfold j0_97_l17; rw [if_neg hk25, if_neg hk26, if_neg hk27, if_pos hk28]
            rw [ev35] at k
            exact k
          · show Steps p.tables e below (T21.setTop (mkF m 140 #[.val (.long xx), .second, .val (.long yy), .second, .val (.long hv), .second, .val (.int mo), .val (.long (xx &&& (4294967295 : Int64))), .second, .val (.long (j0_14_l9 yy mo)), .second, .val (.long (j0_45_l11 xx yy mo)), .second, .val (.long (j0_45_l13 xx yy mo)), .second, .val (.ref b18), .val (.int (mo &&& (7 : Int32))), .unset, .unset, .unset, .unset, .unset] [(.int (3 : Int32)), (.int (mo &&& (7 : Int32)))])) _
            refine XS.icmpYes X21.here hx rfl (pc0 := 140) (pc' := 150) rfl (hb hby at_140) rfl (feq hk28).2 (by decide) (by decide) ?_
            show Steps p.tables e below (T21.setTop (mkF m 150 #[.val (.long xx), .second, .val (.long yy), .second, .val (.long hv), .second, .val (.int mo), .val (.long (xx &&& (4294967295 : Int64))), .second, .val (.long (j0_14_l9 yy mo)), .second, .val (.long (j0_45_l11 xx yy mo)), .second, .val (.long (j0_45_l13 xx yy mo)), .second, .val (.ref b18), .val (.int (mo &&& (7 : Int32))), .unset, .unset, .unset, .unset, .unset] [])) _
            refine XS.iload X21.here hx rfl (hb hby at_150) rfl ?_
            show Steps p.tables e below (T21.setTop (mkF m 152 #[.val (.long xx), .second, .val (.long yy), .second, .val (.long hv), .second, .val (.int mo), .val (.long (xx &&& (4294967295 : Int64))), .second, .val (.long (j0_14_l9 yy mo)), .second, .val (.long (j0_45_l11 xx yy mo)), .second, .val (.long (j0_45_l13 xx yy mo)), .second, .val (.ref b18), .val (.int (mo &&& (7 : Int32))), .unset, .unset, .unset, .unset, .unset] [(.int (mo &&& (7 : Int32)))])) _
            refine XS.iconst X21.here hx rfl (hb hby at_152) ?_
            by_cases hk29 : (mo &&& (7 : Int32)) = (4 : Int32)
            · show Steps p.tables e below (T21.setTop (mkF m 153 #[.val (.long xx), .second, .val (.long yy), .second, .val (.long hv), .second, .val (.int mo), .val (.long (xx &&& (4294967295 : Int64))), .second, .val (.long (j0_14_l9 yy mo)), .second, .val (.long (j0_45_l11 xx yy mo)), .second, .val (.long (j0_45_l13 xx yy mo)), .second, .val (.ref b18), .val (.int (mo &&& (7 : Int32))), .unset, .unset, .unset, .unset, .unset] [(.int (4 : Int32)), (.int (mo &&& (7 : Int32)))])) _
              refine XS.icmpNo X21.here hx rfl (hb hby at_153) rfl (teq hk29).2 ?_
              show Steps p.tables e below (T21.setTop (mkF m 156 #[.val (.long xx), .second, .val (.long yy), .second, .val (.long hv), .second, .val (.int mo), .val (.long (xx &&& (4294967295 : Int64))), .second, .val (.long (j0_14_l9 yy mo)), .second, .val (.long (j0_45_l11 xx yy mo)), .second, .val (.long (j0_45_l13 xx yy mo)), .second, .val (.ref b18), .val (.int (mo &&& (7 : Int32))), .unset, .unset, .unset, .unset, .unset] [])) _
              refine XS.lload X21.here hx rfl (hb hby at_156) rfl ?_
              show Steps p.tables e below (T21.setTop (mkF m 158 #[.val (.long xx), .second, .val (.long yy), .second, .val (.long hv), .second, .val (.int mo), .val (.long (xx &&& (4294967295 : Int64))), .second, .val (.long (j0_14_l9 yy mo)), .second, .val (.long (j0_45_l11 xx yy mo)), .second, .val (.long (j0_45_l13 xx yy mo)), .second, .val (.ref b18), .val (.int (mo &&& (7 : Int32))), .unset, .unset, .unset, .unset, .unset] [(.long (j0_45_l13 xx yy mo))])) _
              refine XS.lconst X21.here hx rfl (hb hby at_158) ?_
              show Steps p.tables e below (T21.setTop (mkF m 159 #[.val (.long xx), .second, .val (.long yy), .second, .val (.long hv), .second, .val (.int mo), .val (.long (xx &&& (4294967295 : Int64))), .second, .val (.long (j0_14_l9 yy mo)), .second, .val (.long (j0_45_l11 xx yy mo)), .second, .val (.long (j0_45_l13 xx yy mo)), .second, .val (.ref b18), .val (.int (mo &&& (7 : Int32))), .unset, .unset, .unset, .unset, .unset] [(.long (1 : Int64)), (.long (j0_45_l13 xx yy mo))])) _
              refine XS.lsub X21.here hx rfl (hb hby at_159) rfl ?_
              show Steps p.tables e below (T21.setTop (mkF m 160 #[.val (.long xx), .second, .val (.long yy), .second, .val (.long hv), .second, .val (.int mo), .val (.long (xx &&& (4294967295 : Int64))), .second, .val (.long (j0_14_l9 yy mo)), .second, .val (.long (j0_45_l11 xx yy mo)), .second, .val (.long (j0_45_l13 xx yy mo)), .second, .val (.ref b18), .val (.int (mo &&& (7 : Int32))), .unset, .unset, .unset, .unset, .unset] [(.long ((j0_45_l13 xx yy mo) - (1 : Int64)))])) _
              refine XS.lstore X21.here hx rfl (hb hby at_160) rfl (l' := #[.val (.long xx), .second, .val (.long yy), .second, .val (.long hv), .second, .val (.int mo), .val (.long (xx &&& (4294967295 : Int64))), .second, .val (.long (j0_14_l9 yy mo)), .second, .val (.long (j0_45_l11 xx yy mo)), .second, .val (.long (j0_45_l13 xx yy mo)), .second, .val (.ref b18), .val (.int (mo &&& (7 : Int32))), .val (.long ((j0_45_l13 xx yy mo) - (1 : Int64))), .second, .unset, .unset, .unset]) rfl ?_
              show Steps p.tables e below (T21.setTop (mkF m 162 #[.val (.long xx), .second, .val (.long yy), .second, .val (.long hv), .second, .val (.int mo), .val (.long (xx &&& (4294967295 : Int64))), .second, .val (.long (j0_14_l9 yy mo)), .second, .val (.long (j0_45_l11 xx yy mo)), .second, .val (.long (j0_45_l13 xx yy mo)), .second, .val (.ref b18), .val (.int (mo &&& (7 : Int32))), .val (.long ((j0_45_l13 xx yy mo) - (1 : Int64))), .second, .unset, .unset, .unset] [])) _
              refine XS.goto X21.here hx rfl (pc0 := 162) (pc' := 217) rfl (hb hby at_162) (by decide) (by decide) ?_
              have ev36 : (j0_97_l17 xx yy hv mo) = ((j0_45_l13 xx yy mo) - (1 : Int64)) := by unfold j0_97_l17; rw [if_neg hk25, if_neg hk26, if_neg hk27, if_neg hk28, if_pos hk29]
              rw [ev36] at k
              exact k
            · show Steps p.tables e below (T21.setTop (mkF m 153 #[.val (.long xx), .second, .val (.long yy), .second, .val (.long hv), .second, .val (.int mo), .val (.long (xx &&& (4294967295 : Int64))), .second, .val (.long (j0_14_l9 yy mo)), .second, .val (.long (j0_45_l11 xx yy mo)), .second, .val (.long (j0_45_l13 xx yy mo)), .second, .val (.ref b18), .val (.int (mo &&& (7 : Int32))), .unset, .unset, .unset, .unset, .unset] [(.int (4 : Int32)), (.int (mo &&& (7 : Int32)))])) _
              refine XS.icmpYes X21.here hx rfl (pc0 := 153) (pc' := 165) rfl (hb hby at_153) rfl (feq hk29).2 (by decide) (by decide) ?_
              show Steps p.tables e below (T21.setTop (mkF m 165 #[.val (.long xx), .second, .val (.long yy), .second, .val (.long hv), .second, .val (.int mo), .val (.long (xx &&& (4294967295 : Int64))), .second, .val (.long (j0_14_l9 yy mo)), .second, .val (.long (j0_45_l11 xx yy mo)), .second, .val (.long (j0_45_l13 xx yy mo)), .second, .val (.ref b18), .val (.int (mo &&& (7 : Int32))), .unset, .unset, .unset, .unset, .unset] [])) _
              refine XS.iload X21.here hx rfl (hb hby at_165) rfl ?_
              show Steps p.tables e below (T21.setTop (mkF m 167 #[.val (.long xx), .second, .val (.long yy), .second, .val (.long hv), .second, .val (.int mo), .val (.long (xx &&& (4294967295 : Int64))), .second, .val (.long (j0_14_l9 yy mo)), .second, .val (.long (j0_45_l11 xx yy mo)), .second, .val (.long (j0_45_l13 xx yy mo)), .second, .val (.ref b18), .val (.int (mo &&& (7 : Int32))), .unset, .unset, .unset, .unset, .unset] [(.int (mo &&& (7 : Int32)))])) _
              refine XS.iconst X21.here hx rfl (hb hby at_167) ?_
              by_cases hk30 : (mo &&& (7 : Int32)) = (5 : Int32)
              · show Steps p.tables e below (T21.setTop (mkF m 168 #[.val (.long xx), .second, .val (.long yy), .second, .val (.long hv), .second, .val (.int mo), .val (.long (xx &&& (4294967295 : Int64))), .second, .val (.long (j0_14_l9 yy mo)), .second, .val (.long (j0_45_l11 xx yy mo)), .second, .val (.long (j0_45_l13 xx yy mo)), .second, .val (.ref b18), .val (.int (mo &&& (7 : Int32))), .unset, .unset, .unset, .unset, .unset] [(.int (5 : Int32)), (.int (mo &&& (7 : Int32)))])) _
                refine XS.icmpNo X21.here hx rfl (hb hby at_168) rfl (teq hk30).2 ?_
                show Steps p.tables e below (T21.setTop (mkF m 171 #[.val (.long xx), .second, .val (.long yy), .second, .val (.long hv), .second, .val (.int mo), .val (.long (xx &&& (4294967295 : Int64))), .second, .val (.long (j0_14_l9 yy mo)), .second, .val (.long (j0_45_l11 xx yy mo)), .second, .val (.long (j0_45_l13 xx yy mo)), .second, .val (.ref b18), .val (.int (mo &&& (7 : Int32))), .unset, .unset, .unset, .unset, .unset] [])) _
                refine XS.lload X21.here hx rfl (hb hby at_171) rfl ?_
                show Steps p.tables e below (T21.setTop (mkF m 173 #[.val (.long xx), .second, .val (.long yy), .second, .val (.long hv), .second, .val (.int mo), .val (.long (xx &&& (4294967295 : Int64))), .second, .val (.long (j0_14_l9 yy mo)), .second, .val (.long (j0_45_l11 xx yy mo)), .second, .val (.long (j0_45_l13 xx yy mo)), .second, .val (.ref b18), .val (.int (mo &&& (7 : Int32))), .unset, .unset, .unset, .unset, .unset] [(.long (j0_45_l13 xx yy mo))])) _
                refine XS.lconst X21.here hx rfl (hb hby at_173) ?_
                show Steps p.tables e below (T21.setTop (mkF m 174 #[.val (.long xx), .second, .val (.long yy), .second, .val (.long hv), .second, .val (.int mo), .val (.long (xx &&& (4294967295 : Int64))), .second, .val (.long (j0_14_l9 yy mo)), .second, .val (.long (j0_45_l11 xx yy mo)), .second, .val (.long (j0_45_l13 xx yy mo)), .second, .val (.ref b18), .val (.int (mo &&& (7 : Int32))), .unset, .unset, .unset, .unset, .unset] [(.long (1 : Int64)), (.long (j0_45_l13 xx yy mo))])) _
                refine XS.ladd X21.here hx rfl (hb hby at_174) rfl ?_
                show Steps p.tables e below (T21.setTop (mkF m 175 #[.val (.long xx), .second, .val (.long yy), .second, .val (.long hv), .second, .val (.int mo), .val (.long (xx &&& (4294967295 : Int64))), .second, .val (.long (j0_14_l9 yy mo)), .second, .val (.long (j0_45_l11 xx yy mo)), .second, .val (.long (j0_45_l13 xx yy mo)), .second, .val (.ref b18), .val (.int (mo &&& (7 : Int32))), .unset, .unset, .unset, .unset, .unset] [(.long ((j0_45_l13 xx yy mo) + (1 : Int64)))])) _
                refine XS.lstore X21.here hx rfl (hb hby at_175) rfl (l' := #[.val (.long xx), .second, .val (.long yy), .second, .val (.long hv), .second, .val (.int mo), .val (.long (xx &&& (4294967295 : Int64))), .second, .val (.long (j0_14_l9 yy mo)), .second, .val (.long (j0_45_l11 xx yy mo)), .second, .val (.long (j0_45_l13 xx yy mo)), .second, .val (.ref b18), .val (.int (mo &&& (7 : Int32))), .val (.long ((j0_45_l13 xx yy mo) + (1 : Int64))), .second, .unset, .unset, .unset]) rfl ?_
                show Steps p.tables e below (T21.setTop (mkF m 177 #[.val (.long xx), .second, .val (.long yy), .second, .val (.long hv), .second, .val (.int mo), .val (.long (xx &&& (4294967295 : Int64))), .second, .val (.long (j0_14_l9 yy mo)), .second, .val (.long (j0_45_l11 xx yy mo)), .second, .val (.long (j0_45_l13 xx yy mo)), .second, .val (.ref b18), .val (.int (mo &&& (7 : Int32))), .val (.long ((j0_45_l13 xx yy mo) + (1 : Int64))), .second, .unset, .unset, .unset] [])) _
                refine XS.goto X21.here hx rfl (pc0 := 177) (pc' := 217) rfl (hb hby at_177) (by decide) (by decide) ?_
                have ev37 : (j0_97_l17 xx yy hv mo) = ((j0_45_l13 xx yy mo) + (1 : Int64)) := by unfold j0_97_l17; rw [if_neg hk25, if_neg hk26, if_neg hk27, if_neg hk28, if_neg hk29, if_pos hk30]
                rw [ev37] at k
                exact k
              · show Steps p.tables e below (T21.setTop (mkF m 168 #[.val (.long xx), .second, .val (.long yy), .second, .val (.long hv), .second, .val (.int mo), .val (.long (xx &&& (4294967295 : Int64))), .second, .val (.long (j0_14_l9 yy mo)), .second, .val (.long (j0_45_l11 xx yy mo)), .second, .val (.long (j0_45_l13 xx yy mo)), .second, .val (.ref b18), .val (.int (mo &&& (7 : Int32))), .unset, .unset, .unset, .unset, .unset] [(.int (5 : Int32)), (.int (mo &&& (7 : Int32)))])) _
                refine XS.icmpYes X21.here hx rfl (pc0 := 168) (pc' := 180) rfl (hb hby at_168) rfl (feq hk30).2 (by decide) (by decide) ?_
                show Steps p.tables e below (T21.setTop (mkF m 180 #[.val (.long xx), .second, .val (.long yy), .second, .val (.long hv), .second, .val (.int mo), .val (.long (xx &&& (4294967295 : Int64))), .second, .val (.long (j0_14_l9 yy mo)), .second, .val (.long (j0_45_l11 xx yy mo)), .second, .val (.long (j0_45_l13 xx yy mo)), .second, .val (.ref b18), .val (.int (mo &&& (7 : Int32))), .unset, .unset, .unset, .unset, .unset] [])) _
                refine XS.iload X21.here hx rfl (hb hby at_180) rfl ?_
                show Steps p.tables e below (T21.setTop (mkF m 182 #[.val (.long xx), .second, .val (.long yy), .second, .val (.long hv), .second, .val (.int mo), .val (.long (xx &&& (4294967295 : Int64))), .second, .val (.long (j0_14_l9 yy mo)), .second, .val (.long (j0_45_l11 xx yy mo)), .second, .val (.long (j0_45_l13 xx yy mo)), .second, .val (.ref b18), .val (.int (mo &&& (7 : Int32))), .unset, .unset, .unset, .unset, .unset] [(.int (mo &&& (7 : Int32)))])) _
                refine XS.bipush X21.here hx rfl (hb hby at_182) ?_
                by_cases hk31 : (mo &&& (7 : Int32)) = (6 : Int32)
                · show Steps p.tables e below (T21.setTop (mkF m 184 #[.val (.long xx), .second, .val (.long yy), .second, .val (.long hv), .second, .val (.int mo), .val (.long (xx &&& (4294967295 : Int64))), .second, .val (.long (j0_14_l9 yy mo)), .second, .val (.long (j0_45_l11 xx yy mo)), .second, .val (.long (j0_45_l13 xx yy mo)), .second, .val (.ref b18), .val (.int (mo &&& (7 : Int32))), .unset, .unset, .unset, .unset, .unset] [(.int (6 : Int32)), (.int (mo &&& (7 : Int32)))])) _
                  refine XS.icmpNo X21.here hx rfl (hb hby at_184) rfl (teq hk31).2 ?_
                  show Steps p.tables e below (T21.setTop (mkF m 187 #[.val (.long xx), .second, .val (.long yy), .second, .val (.long hv), .second, .val (.int mo), .val (.long (xx &&& (4294967295 : Int64))), .second, .val (.long (j0_14_l9 yy mo)), .second, .val (.long (j0_45_l11 xx yy mo)), .second, .val (.long (j0_45_l13 xx yy mo)), .second, .val (.ref b18), .val (.int (mo &&& (7 : Int32))), .unset, .unset, .unset, .unset, .unset] [])) _
                  refine XS.lload X21.here hx rfl (hb hby at_187) rfl ?_
                  show Steps p.tables e below (T21.setTop (mkF m 189 #[.val (.long xx), .second, .val (.long yy), .second, .val (.long hv), .second, .val (.int mo), .val (.long (xx &&& (4294967295 : Int64))), .second, .val (.long (j0_14_l9 yy mo)), .second, .val (.long (j0_45_l11 xx yy mo)), .second, .val (.long (j0_45_l13 xx yy mo)), .second, .val (.ref b18), .val (.int (mo &&& (7 : Int32))), .unset, .unset, .unset, .unset, .unset] [(.long hv)])) _
                  refine X21.ldc2Long hx hown (mvT hZ (hw _ (List.mem_of_getElem? (i := 0) rfl))) (g := (mkF m 189 #[.val (.long xx), .second, .val (.long yy), .second, .val (.long hv), .second, .val (.int mo), .val (.long (xx &&& (4294967295 : Int64))), .second, .val (.long (j0_14_l9 yy mo)), .second, .val (.long (j0_45_l11 xx yy mo)), .second, .val (.long (j0_45_l13 xx yy mo)), .second, .val (.ref b18), .val (.int (mo &&& (7 : Int32))), .unset, .unset, .unset, .unset, .unset] [(.long hv)])) rfl (hb hby at_189) _ ?_
                  show Steps p.tables e below (T21.setTop (mkF m 192 #[.val (.long xx), .second, .val (.long yy), .second, .val (.long hv), .second, .val (.int mo), .val (.long (xx &&& (4294967295 : Int64))), .second, .val (.long (j0_14_l9 yy mo)), .second, .val (.long (j0_45_l11 xx yy mo)), .second, .val (.long (j0_45_l13 xx yy mo)), .second, .val (.ref b18), .val (.int (mo &&& (7 : Int32))), .unset, .unset, .unset, .unset, .unset] [(.long (4294967295 : Int64)), (.long hv)])) _
                  refine XS.land X21.here hx rfl (hb hby at_192) rfl ?_
                  show Steps p.tables e below (T21.setTop (mkF m 193 #[.val (.long xx), .second, .val (.long yy), .second, .val (.long hv), .second, .val (.int mo), .val (.long (xx &&& (4294967295 : Int64))), .second, .val (.long (j0_14_l9 yy mo)), .second, .val (.long (j0_45_l11 xx yy mo)), .second, .val (.long (j0_45_l13 xx yy mo)), .second, .val (.ref b18), .val (.int (mo &&& (7 : Int32))), .unset, .unset, .unset, .unset, .unset] [(.long (hv &&& (4294967295 : Int64)))])) _
                  refine XS.lstore X21.here hx rfl (hb hby at_193) rfl (l' := #[.val (.long xx), .second, .val (.long yy), .second, .val (.long hv), .second, .val (.int mo), .val (.long (xx &&& (4294967295 : Int64))), .second, .val (.long (j0_14_l9 yy mo)), .second, .val (.long (j0_45_l11 xx yy mo)), .second, .val (.long (j0_45_l13 xx yy mo)), .second, .val (.ref b18), .val (.int (mo &&& (7 : Int32))), .val (.long (hv &&& (4294967295 : Int64))), .second, .unset, .unset, .unset]) rfl ?_
                  show Steps p.tables e below (T21.setTop (mkF m 195 #[.val (.long xx), .second, .val (.long yy), .second, .val (.long hv), .second, .val (.int mo), .val (.long (xx &&& (4294967295 : Int64))), .second, .val (.long (j0_14_l9 yy mo)), .second, .val (.long (j0_45_l11 xx yy mo)), .second, .val (.long (j0_45_l13 xx yy mo)), .second, .val (.ref b18), .val (.int (mo &&& (7 : Int32))), .val (.long (hv &&& (4294967295 : Int64))), .second, .unset, .unset, .unset] [])) _
                  refine XS.goto X21.here hx rfl (pc0 := 195) (pc' := 217) rfl (hb hby at_195) (by decide) (by decide) ?_
                  have ev38 : (j0_97_l17 xx yy hv mo) = (hv &&& (4294967295 : Int64)) := by unfold j0_97_l17; rw [if_neg hk25, if_neg hk26, if_neg hk27, if_neg hk28, if_neg hk29, if_neg hk30, if_pos hk31]
                  rw [ev38] at k
                  exact k
                · show Steps p.tables e below (T21.setTop (mkF m 184 #[.val (.long xx), .second, .val (.long yy), .second, .val (.long hv), .second, .val (.int mo), .val (.long (xx &&& (4294967295 : Int64))), .second, .val (.long (j0_14_l9 yy mo)), .second, .val (.long (j0_45_l11 xx yy mo)), .second, .val (.long (j0_45_l13 xx yy mo)), .second, .val (.ref b18), .val (.int (mo &&& (7 : Int32))), .unset, .unset, .unset, .unset, .unset] [(.int (6 : Int32)), (.int (mo &&& (7 : Int32)))])) _
                  refine XS.icmpYes X21.here hx rfl (pc0 := 184) (pc' := 198) rfl (hb hby at_184) rfl (feq hk31).2 (by decide) (by decide) ?_
                  show Steps p.tables e below (T21.setTop (mkF m 198 #[.val (.long xx), .second, .val (.long yy), .second, .val (.long hv), .second, .val (.int mo), .val (.long (xx &&& (4294967295 : Int64))), .second, .val (.long (j0_14_l9 yy mo)), .second, .val (.long (j0_45_l11 xx yy mo)), .second, .val (.long (j0_45_l13 xx yy mo)), .second, .val (.ref b18), .val (.int (mo &&& (7 : Int32))), .unset, .unset, .unset, .unset, .unset] [])) _
                  refine XS.lload X21.here hx rfl (hb hby at_198) rfl ?_
                  show Steps p.tables e below (T21.setTop (mkF m 200 #[.val (.long xx), .second, .val (.long yy), .second, .val (.long hv), .second, .val (.int mo), .val (.long (xx &&& (4294967295 : Int64))), .second, .val (.long (j0_14_l9 yy mo)), .second, .val (.long (j0_45_l11 xx yy mo)), .second, .val (.long (j0_45_l13 xx yy mo)), .second, .val (.ref b18), .val (.int (mo &&& (7 : Int32))), .unset, .unset, .unset, .unset, .unset] [(.long (j0_45_l11 xx yy mo))])) _
                  refine XS.lload X21.here hx rfl (hb hby at_200) rfl ?_
                  show Steps p.tables e below (T21.setTop (mkF m 202 #[.val (.long xx), .second, .val (.long yy), .second, .val (.long hv), .second, .val (.int mo), .val (.long (xx &&& (4294967295 : Int64))), .second, .val (.long (j0_14_l9 yy mo)), .second, .val (.long (j0_45_l11 xx yy mo)), .second, .val (.long (j0_45_l13 xx yy mo)), .second, .val (.ref b18), .val (.int (mo &&& (7 : Int32))), .unset, .unset, .unset, .unset, .unset] [(.long hv), (.long (j0_45_l11 xx yy mo))])) _
                  refine X21.ldc2Long hx hown (mvT hZ (hw _ (List.mem_of_getElem? (i := 36) rfl))) (g := (mkF m 202 #[.val (.long xx), .second, .val (.long yy), .second, .val (.long hv), .second, .val (.int mo), .val (.long (xx &&& (4294967295 : Int64))), .second, .val (.long (j0_14_l9 yy mo)), .second, .val (.long (j0_45_l11 xx yy mo)), .second, .val (.long (j0_45_l13 xx yy mo)), .second, .val (.ref b18), .val (.int (mo &&& (7 : Int32))), .unset, .unset, .unset, .unset, .unset] [(.long hv), (.long (j0_45_l11 xx yy mo))])) rfl (hb hby at_202) _ ?_
                  show Steps p.tables e below (T21.setTop (mkF m 205 #[.val (.long xx), .second, .val (.long yy), .second, .val (.long hv), .second, .val (.int mo), .val (.long (xx &&& (4294967295 : Int64))), .second, .val (.long (j0_14_l9 yy mo)), .second, .val (.long (j0_45_l11 xx yy mo)), .second, .val (.long (j0_45_l13 xx yy mo)), .second, .val (.ref b18), .val (.int (mo &&& (7 : Int32))), .unset, .unset, .unset, .unset, .unset] [(.long (9223372036854775807 : Int64)), (.long hv), (.long (j0_45_l11 xx yy mo))])) _
                  refine XS.land X21.here hx rfl (hb hby at_205) rfl ?_
                  show Steps p.tables e below (T21.setTop (mkF m 206 #[.val (.long xx), .second, .val (.long yy), .second, .val (.long hv), .second, .val (.int mo), .val (.long (xx &&& (4294967295 : Int64))), .second, .val (.long (j0_14_l9 yy mo)), .second, .val (.long (j0_45_l11 xx yy mo)), .second, .val (.long (j0_45_l13 xx yy mo)), .second, .val (.ref b18), .val (.int (mo &&& (7 : Int32))), .unset, .unset, .unset, .unset, .unset] [(.long (hv &&& (9223372036854775807 : Int64))), (.long (j0_45_l11 xx yy mo))])) _
                  refine XS.lload X21.here hx rfl (hb hby at_206) rfl ?_
                  show Steps p.tables e below (T21.setTop (mkF m 208 #[.val (.long xx), .second, .val (.long yy), .second, .val (.long hv), .second, .val (.int mo), .val (.long (xx &&& (4294967295 : Int64))), .second, .val (.long (j0_14_l9 yy mo)), .second, .val (.long (j0_45_l11 xx yy mo)), .second, .val (.long (j0_45_l13 xx yy mo)), .second, .val (.ref b18), .val (.int (mo &&& (7 : Int32))), .unset, .unset, .unset, .unset, .unset] [(.long (j0_45_l13 xx yy mo)), (.long (hv &&& (9223372036854775807 : Int64))), (.long (j0_45_l11 xx yy mo))])) _
                  refine XS.lload X21.here hx rfl (hb hby at_208) rfl ?_
                  show Steps p.tables e below (T21.setTop (mkF m 210 #[.val (.long xx), .second, .val (.long yy), .second, .val (.long hv), .second, .val (.int mo), .val (.long (xx &&& (4294967295 : Int64))), .second, .val (.long (j0_14_l9 yy mo)), .second, .val (.long (j0_45_l11 xx yy mo)), .second, .val (.long (j0_45_l13 xx yy mo)), .second, .val (.ref b18), .val (.int (mo &&& (7 : Int32))), .unset, .unset, .unset, .unset, .unset] [(.long (j0_45_l11 xx yy mo)), (.long (j0_45_l13 xx yy mo)), (.long (hv &&& (9223372036854775807 : Int64))), (.long (j0_45_l11 xx yy mo))])) _
                  refine XS.lsub X21.here hx rfl (hb hby at_210) rfl ?_
                  show Steps p.tables e below (T21.setTop (mkF m 211 #[.val (.long xx), .second, .val (.long yy), .second, .val (.long hv), .second, .val (.int mo), .val (.long (xx &&& (4294967295 : Int64))), .second, .val (.long (j0_14_l9 yy mo)), .second, .val (.long (j0_45_l11 xx yy mo)), .second, .val (.long (j0_45_l13 xx yy mo)), .second, .val (.ref b18), .val (.int (mo &&& (7 : Int32))), .unset, .unset, .unset, .unset, .unset] [(.long ((j0_45_l13 xx yy mo) - (j0_45_l11 xx yy mo))), (.long (hv &&& (9223372036854775807 : Int64))), (.long (j0_45_l11 xx yy mo))])) _
                  refine XS.lconst X21.here hx rfl (hb hby at_211) ?_
                  show Steps p.tables e below (T21.setTop (mkF m 212 #[.val (.long xx), .second, .val (.long yy), .second, .val (.long hv), .second, .val (.int mo), .val (.long (xx &&& (4294967295 : Int64))), .second, .val (.long (j0_14_l9 yy mo)), .second, .val (.long (j0_45_l11 xx yy mo)), .second, .val (.long (j0_45_l13 xx yy mo)), .second, .val (.ref b18), .val (.int (mo &&& (7 : Int32))), .unset, .unset, .unset, .unset, .unset] [(.long (1 : Int64)), (.long ((j0_45_l13 xx yy mo) - (j0_45_l11 xx yy mo))), (.long (hv &&& (9223372036854775807 : Int64))), (.long (j0_45_l11 xx yy mo))])) _
                  refine XS.ladd X21.here hx rfl (hb hby at_212) rfl ?_
                  show Steps p.tables e below (T21.setTop (mkF m 213 #[.val (.long xx), .second, .val (.long yy), .second, .val (.long hv), .second, .val (.int mo), .val (.long (xx &&& (4294967295 : Int64))), .second, .val (.long (j0_14_l9 yy mo)), .second, .val (.long (j0_45_l11 xx yy mo)), .second, .val (.long (j0_45_l13 xx yy mo)), .second, .val (.ref b18), .val (.int (mo &&& (7 : Int32))), .unset, .unset, .unset, .unset, .unset] [(.long (((j0_45_l13 xx yy mo) - (j0_45_l11 xx yy mo)) + (1 : Int64))), (.long (hv &&& (9223372036854775807 : Int64))), (.long (j0_45_l11 xx yy mo))])) _
                  refine own_lremM X21 hx rfl (hb hby at_213) rfl (own_nz xx yy mo) ?_
                  show Steps p.tables e below (T21.setTop (mkF m 214 #[.val (.long xx), .second, .val (.long yy), .second, .val (.long hv), .second, .val (.int mo), .val (.long (xx &&& (4294967295 : Int64))), .second, .val (.long (j0_14_l9 yy mo)), .second, .val (.long (j0_45_l11 xx yy mo)), .second, .val (.long (j0_45_l13 xx yy mo)), .second, .val (.ref b18), .val (.int (mo &&& (7 : Int32))), .unset, .unset, .unset, .unset, .unset] [(.long ((hv &&& (9223372036854775807 : Int64)) % (((j0_45_l13 xx yy mo) - (j0_45_l11 xx yy mo)) + (1 : Int64)))), (.long (j0_45_l11 xx yy mo))])) _
                  refine XS.ladd X21.here hx rfl (hb hby at_214) rfl ?_
                  show Steps p.tables e below (T21.setTop (mkF m 215 #[.val (.long xx), .second, .val (.long yy), .second, .val (.long hv), .second, .val (.int mo), .val (.long (xx &&& (4294967295 : Int64))), .second, .val (.long (j0_14_l9 yy mo)), .second, .val (.long (j0_45_l11 xx yy mo)), .second, .val (.long (j0_45_l13 xx yy mo)), .second, .val (.ref b18), .val (.int (mo &&& (7 : Int32))), .unset, .unset, .unset, .unset, .unset] [(.long ((j0_45_l11 xx yy mo) + ((hv &&& (9223372036854775807 : Int64)) % (((j0_45_l13 xx yy mo) - (j0_45_l11 xx yy mo)) + (1 : Int64)))))])) _
                  refine XS.lstore X21.here hx rfl (hb hby at_215) rfl (l' := #[.val (.long xx), .second, .val (.long yy), .second, .val (.long hv), .second, .val (.int mo), .val (.long (xx &&& (4294967295 : Int64))), .second, .val (.long (j0_14_l9 yy mo)), .second, .val (.long (j0_45_l11 xx yy mo)), .second, .val (.long (j0_45_l13 xx yy mo)), .second, .val (.ref b18), .val (.int (mo &&& (7 : Int32))), .val (.long ((j0_45_l11 xx yy mo) + ((hv &&& (9223372036854775807 : Int64)) % (((j0_45_l13 xx yy mo) - (j0_45_l11 xx yy mo)) + (1 : Int64))))), .second, .unset, .unset, .unset]) rfl ?_
                  have ev39 : (j0_97_l17 xx yy hv mo) = ((j0_45_l11 xx yy mo) + ((hv &&& (9223372036854775807 : Int64)) % (((j0_45_l13 xx yy mo) - (j0_45_l11 xx yy mo)) + (1 : Int64)))) := by unfold j0_97_l17; rw [if_neg hk25, if_neg hk26, if_neg hk27, if_neg hk28, if_neg hk29, if_neg hk30, if_neg hk31]
                  rw [ev39] at k
                  exact k
  have pre45 : ∀ t, Steps p.tables e below (T21.setTop (mkF m 240 #[.val (.long xx), .second, .val (.long yy), .second, .val (.long hv), .second, .val (.int mo), .val (.long (xx &&& (4294967295 : Int64))), .second, .val (.long (j0_14_l9 yy mo)), .second, .val (.long (j0_45_l11 xx yy mo)), .second, .val (.long (j0_45_l13 xx yy mo)), .second, .val (.ref b18), .val (.int (mo &&& (7 : Int32))), .val (.long (j0_97_l17 xx yy hv mo)), .second, .val (.long (j0_217_l19 xx yy mo)), .second, .unset] [])) t → Steps p.tables e below (s₁.setTop (entryFrame m #[(.long xx), (.long yy), (.long hv), (.int mo)] maxLocals)) t := by
    intro t k
    refine pre41 _ ?_
    show Steps p.tables e below (T21.setTop (mkF m 217 #[.val (.long xx), .second, .val (.long yy), .second, .val (.long hv), .second, .val (.int mo), .val (.long (xx &&& (4294967295 : Int64))), .second, .val (.long (j0_14_l9 yy mo)), .second, .val (.long (j0_45_l11 xx yy mo)), .second, .val (.long (j0_45_l13 xx yy mo)), .second, .val (.ref b18), .val (.int (mo &&& (7 : Int32))), .val (.long (j0_97_l17 xx yy hv mo)), .second, .unset, .unset, .unset] [])) _
    refine XS.lload X21.here hx rfl (hb hby at_217) rfl ?_
    show Steps p.tables e below (T21.setTop (mkF m 219 #[.val (.long xx), .second, .val (.long yy), .second, .val (.long hv), .second, .val (.int mo), .val (.long (xx &&& (4294967295 : Int64))), .second, .val (.long (j0_14_l9 yy mo)), .second, .val (.long (j0_45_l11 xx yy mo)), .second, .val (.long (j0_45_l13 xx yy mo)), .second, .val (.ref b18), .val (.int (mo &&& (7 : Int32))), .val (.long (j0_97_l17 xx yy hv mo)), .second, .unset, .unset, .unset] [(.long (j0_45_l13 xx yy mo))])) _
    refine X21.ldc2Long hx hown (mvT hZ (hw _ (List.mem_of_getElem? (i := 0) rfl))) (g := (mkF m 219 #[.val (.long xx), .second, .val (.long yy), .second, .val (.long hv), .second, .val (.int mo), .val (.long (xx &&& (4294967295 : Int64))), .second, .val (.long (j0_14_l9 yy mo)), .second, .val (.long (j0_45_l11 xx yy mo)), .second, .val (.long (j0_45_l13 xx yy mo)), .second, .val (.ref b18), .val (.int (mo &&& (7 : Int32))), .val (.long (j0_97_l17 xx yy hv mo)), .second, .unset, .unset, .unset] [(.long (j0_45_l13 xx yy mo))])) rfl (hb hby at_219) _ ?_
    show Steps p.tables e below (T21.setTop (mkF m 222 #[.val (.long xx), .second, .val (.long yy), .second, .val (.long hv), .second, .val (.int mo), .val (.long (xx &&& (4294967295 : Int64))), .second, .val (.long (j0_14_l9 yy mo)), .second, .val (.long (j0_45_l11 xx yy mo)), .second, .val (.long (j0_45_l13 xx yy mo)), .second, .val (.ref b18), .val (.int (mo &&& (7 : Int32))), .val (.long (j0_97_l17 xx yy hv mo)), .second, .unset, .unset, .unset] [(.long (4294967295 : Int64)), (.long (j0_45_l13 xx yy mo))])) _
    refine XS.lcmp X21.here hx rfl (hb hby at_222) rfl ?_
    by_cases hk42 : (j0_45_l13 xx yy mo) = (4294967295 : Int64)
    · show Steps p.tables e below (T21.setTop (mkF m 223 #[.val (.long xx), .second, .val (.long yy), .second, .val (.long hv), .second, .val (.int mo), .val (.long (xx &&& (4294967295 : Int64))), .second, .val (.long (j0_14_l9 yy mo)), .second, .val (.long (j0_45_l11 xx yy mo)), .second, .val (.long (j0_45_l13 xx yy mo)), .second, .val (.ref b18), .val (.int (mo &&& (7 : Int32))), .val (.long (j0_97_l17 xx yy hv mo)), .second, .unset, .unset, .unset] [(.int (lcmpW (j0_45_l13 xx yy mo) (4294967295 : Int64)))])) _
      refine XS.ifNo X21.here hx rfl (hb hby at_223) rfl (own_teqL hk42).2 ?_
      show Steps p.tables e below (T21.setTop (mkF m 226 #[.val (.long xx), .second, .val (.long yy), .second, .val (.long hv), .second, .val (.int mo), .val (.long (xx &&& (4294967295 : Int64))), .second, .val (.long (j0_14_l9 yy mo)), .second, .val (.long (j0_45_l11 xx yy mo)), .second, .val (.long (j0_45_l13 xx yy mo)), .second, .val (.ref b18), .val (.int (mo &&& (7 : Int32))), .val (.long (j0_97_l17 xx yy hv mo)), .second, .unset, .unset, .unset] [])) _
      refine X21.ldc2Long hx hown (mvT hZ (hw _ (List.mem_of_getElem? (i := 0) rfl))) (g := (mkF m 226 #[.val (.long xx), .second, .val (.long yy), .second, .val (.long hv), .second, .val (.int mo), .val (.long (xx &&& (4294967295 : Int64))), .second, .val (.long (j0_14_l9 yy mo)), .second, .val (.long (j0_45_l11 xx yy mo)), .second, .val (.long (j0_45_l13 xx yy mo)), .second, .val (.ref b18), .val (.int (mo &&& (7 : Int32))), .val (.long (j0_97_l17 xx yy hv mo)), .second, .unset, .unset, .unset] [])) rfl (hb hby at_226) _ ?_
      show Steps p.tables e below (T21.setTop (mkF m 229 #[.val (.long xx), .second, .val (.long yy), .second, .val (.long hv), .second, .val (.int mo), .val (.long (xx &&& (4294967295 : Int64))), .second, .val (.long (j0_14_l9 yy mo)), .second, .val (.long (j0_45_l11 xx yy mo)), .second, .val (.long (j0_45_l13 xx yy mo)), .second, .val (.ref b18), .val (.int (mo &&& (7 : Int32))), .val (.long (j0_97_l17 xx yy hv mo)), .second, .unset, .unset, .unset] [(.long (4294967295 : Int64))])) _
      refine XS.lstore X21.here hx rfl (hb hby at_229) rfl (l' := #[.val (.long xx), .second, .val (.long yy), .second, .val (.long hv), .second, .val (.int mo), .val (.long (xx &&& (4294967295 : Int64))), .second, .val (.long (j0_14_l9 yy mo)), .second, .val (.long (j0_45_l11 xx yy mo)), .second, .val (.long (j0_45_l13 xx yy mo)), .second, .val (.ref b18), .val (.int (mo &&& (7 : Int32))), .val (.long (j0_97_l17 xx yy hv mo)), .second, .val (.long (4294967295 : Int64)), .second, .unset]) rfl ?_
      show Steps p.tables e below (T21.setTop (mkF m 231 #[.val (.long xx), .second, .val (.long yy), .second, .val (.long hv), .second, .val (.int mo), .val (.long (xx &&& (4294967295 : Int64))), .second, .val (.long (j0_14_l9 yy mo)), .second, .val (.long (j0_45_l11 xx yy mo)), .second, .val (.long (j0_45_l13 xx yy mo)), .second, .val (.ref b18), .val (.int (mo &&& (7 : Int32))), .val (.long (j0_97_l17 xx yy hv mo)), .second, .val (.long (4294967295 : Int64)), .second, .unset] [])) _
      refine XS.goto X21.here hx rfl (pc0 := 231) (pc' := 240) rfl (hb hby at_231) (by decide) (by decide) ?_
      have ev43 : (j0_217_l19 xx yy mo) = (4294967295 : Int64) := by unfold j0_217_l19; rw [if_pos hk42]
      rw [ev43] at k
      exact k
    · show Steps p.tables e below (T21.setTop (mkF m 223 #[.val (.long xx), .second, .val (.long yy), .second, .val (.long hv), .second, .val (.int mo), .val (.long (xx &&& (4294967295 : Int64))), .second, .val (.long (j0_14_l9 yy mo)), .second, .val (.long (j0_45_l11 xx yy mo)), .second, .val (.long (j0_45_l13 xx yy mo)), .second, .val (.ref b18), .val (.int (mo &&& (7 : Int32))), .val (.long (j0_97_l17 xx yy hv mo)), .second, .unset, .unset, .unset] [(.int (lcmpW (j0_45_l13 xx yy mo) (4294967295 : Int64)))])) _
      refine XS.ifYes X21.here hx rfl (pc0 := 223) (pc' := 234) rfl (hb hby at_223) rfl (own_feqL hk42).2 (by decide) (by decide) ?_
      show Steps p.tables e below (T21.setTop (mkF m 234 #[.val (.long xx), .second, .val (.long yy), .second, .val (.long hv), .second, .val (.int mo), .val (.long (xx &&& (4294967295 : Int64))), .second, .val (.long (j0_14_l9 yy mo)), .second, .val (.long (j0_45_l11 xx yy mo)), .second, .val (.long (j0_45_l13 xx yy mo)), .second, .val (.ref b18), .val (.int (mo &&& (7 : Int32))), .val (.long (j0_97_l17 xx yy hv mo)), .second, .unset, .unset, .unset] [])) _
      refine XS.lload X21.here hx rfl (hb hby at_234) rfl ?_
      show Steps p.tables e below (T21.setTop (mkF m 236 #[.val (.long xx), .second, .val (.long yy), .second, .val (.long hv), .second, .val (.int mo), .val (.long (xx &&& (4294967295 : Int64))), .second, .val (.long (j0_14_l9 yy mo)), .second, .val (.long (j0_45_l11 xx yy mo)), .second, .val (.long (j0_45_l13 xx yy mo)), .second, .val (.ref b18), .val (.int (mo &&& (7 : Int32))), .val (.long (j0_97_l17 xx yy hv mo)), .second, .unset, .unset, .unset] [(.long (j0_45_l13 xx yy mo))])) _
      refine XS.lconst X21.here hx rfl (hb hby at_236) ?_
      show Steps p.tables e below (T21.setTop (mkF m 237 #[.val (.long xx), .second, .val (.long yy), .second, .val (.long hv), .second, .val (.int mo), .val (.long (xx &&& (4294967295 : Int64))), .second, .val (.long (j0_14_l9 yy mo)), .second, .val (.long (j0_45_l11 xx yy mo)), .second, .val (.long (j0_45_l13 xx yy mo)), .second, .val (.ref b18), .val (.int (mo &&& (7 : Int32))), .val (.long (j0_97_l17 xx yy hv mo)), .second, .unset, .unset, .unset] [(.long (1 : Int64)), (.long (j0_45_l13 xx yy mo))])) _
      refine XS.lsub X21.here hx rfl (hb hby at_237) rfl ?_
      show Steps p.tables e below (T21.setTop (mkF m 238 #[.val (.long xx), .second, .val (.long yy), .second, .val (.long hv), .second, .val (.int mo), .val (.long (xx &&& (4294967295 : Int64))), .second, .val (.long (j0_14_l9 yy mo)), .second, .val (.long (j0_45_l11 xx yy mo)), .second, .val (.long (j0_45_l13 xx yy mo)), .second, .val (.ref b18), .val (.int (mo &&& (7 : Int32))), .val (.long (j0_97_l17 xx yy hv mo)), .second, .unset, .unset, .unset] [(.long ((j0_45_l13 xx yy mo) - (1 : Int64)))])) _
      refine XS.lstore X21.here hx rfl (hb hby at_238) rfl (l' := #[.val (.long xx), .second, .val (.long yy), .second, .val (.long hv), .second, .val (.int mo), .val (.long (xx &&& (4294967295 : Int64))), .second, .val (.long (j0_14_l9 yy mo)), .second, .val (.long (j0_45_l11 xx yy mo)), .second, .val (.long (j0_45_l13 xx yy mo)), .second, .val (.ref b18), .val (.int (mo &&& (7 : Int32))), .val (.long (j0_97_l17 xx yy hv mo)), .second, .val (.long ((j0_45_l13 xx yy mo) - (1 : Int64))), .second, .unset]) rfl ?_
      have ev44 : (j0_217_l19 xx yy mo) = ((j0_45_l13 xx yy mo) - (1 : Int64)) := by unfold j0_217_l19; rw [if_neg hk42]
      rw [ev44] at k
      exact k
  have pre51 : ∀ t, Steps p.tables e below (T21.setTop (mkF m 263 #[.val (.long xx), .second, .val (.long yy), .second, .val (.long hv), .second, .val (.int mo), .val (.long (xx &&& (4294967295 : Int64))), .second, .val (.long (j0_14_l9 yy mo)), .second, .val (.long (j0_45_l11 xx yy mo)), .second, .val (.long (j0_45_l13 xx yy mo)), .second, .val (.ref b18), .val (.int (mo &&& (7 : Int32))), .val (.long (j0_97_l17 xx yy hv mo)), .second, .val (.long (j0_217_l19 xx yy mo)), .second, .val (.int (j0_240_l21 xx yy hv mo))] [])) t → Steps p.tables e below (s₁.setTop (entryFrame m #[(.long xx), (.long yy), (.long hv), (.int mo)] maxLocals)) t := by
    intro t k
    refine pre45 _ ?_
    show Steps p.tables e below (T21.setTop (mkF m 240 #[.val (.long xx), .second, .val (.long yy), .second, .val (.long hv), .second, .val (.int mo), .val (.long (xx &&& (4294967295 : Int64))), .second, .val (.long (j0_14_l9 yy mo)), .second, .val (.long (j0_45_l11 xx yy mo)), .second, .val (.long (j0_45_l13 xx yy mo)), .second, .val (.ref b18), .val (.int (mo &&& (7 : Int32))), .val (.long (j0_97_l17 xx yy hv mo)), .second, .val (.long (j0_217_l19 xx yy mo)), .second, .unset] [])) _
    refine XS.lload X21.here hx rfl (hb hby at_240) rfl ?_
    show Steps p.tables e below (T21.setTop (mkF m 242 #[.val (.long xx), .second, .val (.long yy), .second, .val (.long hv), .second, .val (.int mo), .val (.long (xx &&& (4294967295 : Int64))), .second, .val (.long (j0_14_l9 yy mo)), .second, .val (.long (j0_45_l11 xx yy mo)), .second, .val (.long (j0_45_l13 xx yy mo)), .second, .val (.ref b18), .val (.int (mo &&& (7 : Int32))), .val (.long (j0_97_l17 xx yy hv mo)), .second, .val (.long (j0_217_l19 xx yy mo)), .second, .unset] [(.long (j0_45_l11 xx yy mo))])) _
    refine XS.lload X21.here hx rfl (hb hby at_242) rfl ?_
    show Steps p.tables e below (T21.setTop (mkF m 244 #[.val (.long xx), .second, .val (.long yy), .second, .val (.long hv), .second, .val (.int mo), .val (.long (xx &&& (4294967295 : Int64))), .second, .val (.long (j0_14_l9 yy mo)), .second, .val (.long (j0_45_l11 xx yy mo)), .second, .val (.long (j0_45_l13 xx yy mo)), .second, .val (.ref b18), .val (.int (mo &&& (7 : Int32))), .val (.long (j0_97_l17 xx yy hv mo)), .second, .val (.long (j0_217_l19 xx yy mo)), .second, .unset] [(.long (j0_97_l17 xx yy hv mo)), (.long (j0_45_l11 xx yy mo))])) _
    refine XS.lcmp X21.here hx rfl (hb hby at_244) rfl ?_
    by_cases hk46 : (j0_97_l17 xx yy hv mo) < (j0_45_l11 xx yy mo)
    · show Steps p.tables e below (T21.setTop (mkF m 245 #[.val (.long xx), .second, .val (.long yy), .second, .val (.long hv), .second, .val (.int mo), .val (.long (xx &&& (4294967295 : Int64))), .second, .val (.long (j0_14_l9 yy mo)), .second, .val (.long (j0_45_l11 xx yy mo)), .second, .val (.long (j0_45_l13 xx yy mo)), .second, .val (.ref b18), .val (.int (mo &&& (7 : Int32))), .val (.long (j0_97_l17 xx yy hv mo)), .second, .val (.long (j0_217_l19 xx yy mo)), .second, .unset] [(.int (lcmpW (j0_45_l11 xx yy mo) (j0_97_l17 xx yy hv mo)))])) _
      refine XS.ifYes X21.here hx rfl (pc0 := 245) (pc' := 260) rfl (hb hby at_245) rfl (own_tltL hk46).2.2.1 (by decide) (by decide) ?_
      show Steps p.tables e below (T21.setTop (mkF m 260 #[.val (.long xx), .second, .val (.long yy), .second, .val (.long hv), .second, .val (.int mo), .val (.long (xx &&& (4294967295 : Int64))), .second, .val (.long (j0_14_l9 yy mo)), .second, .val (.long (j0_45_l11 xx yy mo)), .second, .val (.long (j0_45_l13 xx yy mo)), .second, .val (.ref b18), .val (.int (mo &&& (7 : Int32))), .val (.long (j0_97_l17 xx yy hv mo)), .second, .val (.long (j0_217_l19 xx yy mo)), .second, .unset] [])) _
      refine XS.iconst X21.here hx rfl (hb hby at_260) ?_
      show Steps p.tables e below (T21.setTop (mkF m 261 #[.val (.long xx), .second, .val (.long yy), .second, .val (.long hv), .second, .val (.int mo), .val (.long (xx &&& (4294967295 : Int64))), .second, .val (.long (j0_14_l9 yy mo)), .second, .val (.long (j0_45_l11 xx yy mo)), .second, .val (.long (j0_45_l13 xx yy mo)), .second, .val (.ref b18), .val (.int (mo &&& (7 : Int32))), .val (.long (j0_97_l17 xx yy hv mo)), .second, .val (.long (j0_217_l19 xx yy mo)), .second, .unset] [(.int (0 : Int32))])) _
      refine XS.istore X21.here hx rfl (hb hby at_261) rfl (l' := #[.val (.long xx), .second, .val (.long yy), .second, .val (.long hv), .second, .val (.int mo), .val (.long (xx &&& (4294967295 : Int64))), .second, .val (.long (j0_14_l9 yy mo)), .second, .val (.long (j0_45_l11 xx yy mo)), .second, .val (.long (j0_45_l13 xx yy mo)), .second, .val (.ref b18), .val (.int (mo &&& (7 : Int32))), .val (.long (j0_97_l17 xx yy hv mo)), .second, .val (.long (j0_217_l19 xx yy mo)), .second, .val (.int (0 : Int32))]) rfl ?_
      have ev48 : (j0_240_l21 xx yy hv mo) = (0 : Int32) := by unfold j0_240_l21; rw [if_pos hk46]
      rw [ev48] at k
      exact k
    · show Steps p.tables e below (T21.setTop (mkF m 245 #[.val (.long xx), .second, .val (.long yy), .second, .val (.long hv), .second, .val (.int mo), .val (.long (xx &&& (4294967295 : Int64))), .second, .val (.long (j0_14_l9 yy mo)), .second, .val (.long (j0_45_l11 xx yy mo)), .second, .val (.long (j0_45_l13 xx yy mo)), .second, .val (.ref b18), .val (.int (mo &&& (7 : Int32))), .val (.long (j0_97_l17 xx yy hv mo)), .second, .val (.long (j0_217_l19 xx yy mo)), .second, .unset] [(.int (lcmpW (j0_45_l11 xx yy mo) (j0_97_l17 xx yy hv mo)))])) _
      refine XS.ifNo X21.here hx rfl (hb hby at_245) rfl (own_fltL hk46).2.2.1 ?_
      show Steps p.tables e below (T21.setTop (mkF m 248 #[.val (.long xx), .second, .val (.long yy), .second, .val (.long hv), .second, .val (.int mo), .val (.long (xx &&& (4294967295 : Int64))), .second, .val (.long (j0_14_l9 yy mo)), .second, .val (.long (j0_45_l11 xx yy mo)), .second, .val (.long (j0_45_l13 xx yy mo)), .second, .val (.ref b18), .val (.int (mo &&& (7 : Int32))), .val (.long (j0_97_l17 xx yy hv mo)), .second, .val (.long (j0_217_l19 xx yy mo)), .second, .unset] [])) _
      refine XS.lload X21.here hx rfl (hb hby at_248) rfl ?_
      show Steps p.tables e below (T21.setTop (mkF m 250 #[.val (.long xx), .second, .val (.long yy), .second, .val (.long hv), .second, .val (.int mo), .val (.long (xx &&& (4294967295 : Int64))), .second, .val (.long (j0_14_l9 yy mo)), .second, .val (.long (j0_45_l11 xx yy mo)), .second, .val (.long (j0_45_l13 xx yy mo)), .second, .val (.ref b18), .val (.int (mo &&& (7 : Int32))), .val (.long (j0_97_l17 xx yy hv mo)), .second, .val (.long (j0_217_l19 xx yy mo)), .second, .unset] [(.long (j0_97_l17 xx yy hv mo))])) _
      refine XS.lload X21.here hx rfl (hb hby at_250) rfl ?_
      show Steps p.tables e below (T21.setTop (mkF m 252 #[.val (.long xx), .second, .val (.long yy), .second, .val (.long hv), .second, .val (.int mo), .val (.long (xx &&& (4294967295 : Int64))), .second, .val (.long (j0_14_l9 yy mo)), .second, .val (.long (j0_45_l11 xx yy mo)), .second, .val (.long (j0_45_l13 xx yy mo)), .second, .val (.ref b18), .val (.int (mo &&& (7 : Int32))), .val (.long (j0_97_l17 xx yy hv mo)), .second, .val (.long (j0_217_l19 xx yy mo)), .second, .unset] [(.long (j0_217_l19 xx yy mo)), (.long (j0_97_l17 xx yy hv mo))])) _
      refine XS.lcmp X21.here hx rfl (hb hby at_252) rfl ?_
      by_cases hk47 : (j0_217_l19 xx yy mo) < (j0_97_l17 xx yy hv mo)
      · show Steps p.tables e below (T21.setTop (mkF m 253 #[.val (.long xx), .second, .val (.long yy), .second, .val (.long hv), .second, .val (.int mo), .val (.long (xx &&& (4294967295 : Int64))), .second, .val (.long (j0_14_l9 yy mo)), .second, .val (.long (j0_45_l11 xx yy mo)), .second, .val (.long (j0_45_l13 xx yy mo)), .second, .val (.ref b18), .val (.int (mo &&& (7 : Int32))), .val (.long (j0_97_l17 xx yy hv mo)), .second, .val (.long (j0_217_l19 xx yy mo)), .second, .unset] [(.int (lcmpW (j0_97_l17 xx yy hv mo) (j0_217_l19 xx yy mo)))])) _
        refine XS.ifYes X21.here hx rfl (pc0 := 253) (pc' := 260) rfl (hb hby at_253) rfl (own_tltL hk47).2.2.1 (by decide) (by decide) ?_
        show Steps p.tables e below (T21.setTop (mkF m 260 #[.val (.long xx), .second, .val (.long yy), .second, .val (.long hv), .second, .val (.int mo), .val (.long (xx &&& (4294967295 : Int64))), .second, .val (.long (j0_14_l9 yy mo)), .second, .val (.long (j0_45_l11 xx yy mo)), .second, .val (.long (j0_45_l13 xx yy mo)), .second, .val (.ref b18), .val (.int (mo &&& (7 : Int32))), .val (.long (j0_97_l17 xx yy hv mo)), .second, .val (.long (j0_217_l19 xx yy mo)), .second, .unset] [])) _
        refine XS.iconst X21.here hx rfl (hb hby at_260) ?_
        show Steps p.tables e below (T21.setTop (mkF m 261 #[.val (.long xx), .second, .val (.long yy), .second, .val (.long hv), .second, .val (.int mo), .val (.long (xx &&& (4294967295 : Int64))), .second, .val (.long (j0_14_l9 yy mo)), .second, .val (.long (j0_45_l11 xx yy mo)), .second, .val (.long (j0_45_l13 xx yy mo)), .second, .val (.ref b18), .val (.int (mo &&& (7 : Int32))), .val (.long (j0_97_l17 xx yy hv mo)), .second, .val (.long (j0_217_l19 xx yy mo)), .second, .unset] [(.int (0 : Int32))])) _
        refine XS.istore X21.here hx rfl (hb hby at_261) rfl (l' := #[.val (.long xx), .second, .val (.long yy), .second, .val (.long hv), .second, .val (.int mo), .val (.long (xx &&& (4294967295 : Int64))), .second, .val (.long (j0_14_l9 yy mo)), .second, .val (.long (j0_45_l11 xx yy mo)), .second, .val (.long (j0_45_l13 xx yy mo)), .second, .val (.ref b18), .val (.int (mo &&& (7 : Int32))), .val (.long (j0_97_l17 xx yy hv mo)), .second, .val (.long (j0_217_l19 xx yy mo)), .second, .val (.int (0 : Int32))]) rfl ?_
        have ev49 : (j0_240_l21 xx yy hv mo) = (0 : Int32) := by unfold j0_240_l21; rw [if_neg hk46, if_pos hk47]
        rw [ev49] at k
        exact k
      · show Steps p.tables e below (T21.setTop (mkF m 253 #[.val (.long xx), .second, .val (.long yy), .second, .val (.long hv), .second, .val (.int mo), .val (.long (xx &&& (4294967295 : Int64))), .second, .val (.long (j0_14_l9 yy mo)), .second, .val (.long (j0_45_l11 xx yy mo)), .second, .val (.long (j0_45_l13 xx yy mo)), .second, .val (.ref b18), .val (.int (mo &&& (7 : Int32))), .val (.long (j0_97_l17 xx yy hv mo)), .second, .val (.long (j0_217_l19 xx yy mo)), .second, .unset] [(.int (lcmpW (j0_97_l17 xx yy hv mo) (j0_217_l19 xx yy mo)))])) _
        refine XS.ifNo X21.here hx rfl (hb hby at_253) rfl (own_fltL hk47).2.2.1 ?_
        show Steps p.tables e below (T21.setTop (mkF m 256 #[.val (.long xx), .second, .val (.long yy), .second, .val (.long hv), .second, .val (.int mo), .val (.long (xx &&& (4294967295 : Int64))), .second, .val (.long (j0_14_l9 yy mo)), .second, .val (.long (j0_45_l11 xx yy mo)), .second, .val (.long (j0_45_l13 xx yy mo)), .second, .val (.ref b18), .val (.int (mo &&& (7 : Int32))), .val (.long (j0_97_l17 xx yy hv mo)), .second, .val (.long (j0_217_l19 xx yy mo)), .second, .unset] [])) _
        refine XS.iconst X21.here hx rfl (hb hby at_256) ?_
        show Steps p.tables e below (T21.setTop (mkF m 257 #[.val (.long xx), .second, .val (.long yy), .second, .val (.long hv), .second, .val (.int mo), .val (.long (xx &&& (4294967295 : Int64))), .second, .val (.long (j0_14_l9 yy mo)), .second, .val (.long (j0_45_l11 xx yy mo)), .second, .val (.long (j0_45_l13 xx yy mo)), .second, .val (.ref b18), .val (.int (mo &&& (7 : Int32))), .val (.long (j0_97_l17 xx yy hv mo)), .second, .val (.long (j0_217_l19 xx yy mo)), .second, .unset] [(.int (1 : Int32))])) _
        refine XS.goto X21.here hx rfl (pc0 := 257) (pc' := 261) rfl (hb hby at_257) (by decide) (by decide) ?_
        show Steps p.tables e below (T21.setTop (mkF m 261 #[.val (.long xx), .second, .val (.long yy), .second, .val (.long hv), .second, .val (.int mo), .val (.long (xx &&& (4294967295 : Int64))), .second, .val (.long (j0_14_l9 yy mo)), .second, .val (.long (j0_45_l11 xx yy mo)), .second, .val (.long (j0_45_l13 xx yy mo)), .second, .val (.ref b18), .val (.int (mo &&& (7 : Int32))), .val (.long (j0_97_l17 xx yy hv mo)), .second, .val (.long (j0_217_l19 xx yy mo)), .second, .unset] [(.int (1 : Int32))])) _
        refine XS.istore X21.here hx rfl (hb hby at_261) rfl (l' := #[.val (.long xx), .second, .val (.long yy), .second, .val (.long hv), .second, .val (.int mo), .val (.long (xx &&& (4294967295 : Int64))), .second, .val (.long (j0_14_l9 yy mo)), .second, .val (.long (j0_45_l11 xx yy mo)), .second, .val (.long (j0_45_l13 xx yy mo)), .second, .val (.ref b18), .val (.int (mo &&& (7 : Int32))), .val (.long (j0_97_l17 xx yy hv mo)), .second, .val (.long (j0_217_l19 xx yy mo)), .second, .val (.int (1 : Int32))]) rfl ?_
        have ev50 : (j0_240_l21 xx yy hv mo) = (1 : Int32) := by unfold j0_240_l21; rw [if_neg hk46, if_neg hk47]
        rw [ev50] at k
        exact k
  obtain ⟨cq52, kq52, q52a, q52b, q52c⟩ := isOf hZ rfl f24
  obtain ⟨_, _, ⟨T52, L52, k52, n52⟩, -, X52, ⟨Lc52, hQ52, l52, y52, z52⟩, st52⟩ := X21.virtualBack hx (y := (⟨"com/example/bundles_to_brokers/bundlestobrokers/model/BundleRange", "contains", "(J)Z"⟩ : MethodName)) (z := (⟨"com/example/bundles_to_brokers/bundlestobrokers/model/BundleRange", "contains", "(J)Z"⟩ : MethodName)) hown (mvT hZ (hw _ (List.mem_of_getElem? (i := 31) rfl))) (mvT hZ (hw _ (List.mem_of_getElem? (i := 32) rfl))) (notFace_of_selects (args := #[]) (mvT hZ (hw _ (List.mem_of_getElem? (i := 34) rfl)))) (mvT hZ (hw _ (List.mem_of_getElem? (i := 34) rfl))) (mvT hZ (hw _ (List.mem_of_getElem? (i := 33) rfl))) (by decide) (backOf (W := 0) (rm7 l Z a0 hw [] b18 (j0_97_l17 xx yy hv mo) (j0_45_l11 xx yy mo) (j0_45_l13 xx yy mo) T21.heap n0 Z21 f22 f23) hZ (hw _ (List.mem_of_getElem? (i := 35) rfl)) (hw _ (List.mem_of_getElem? (i := 10) rfl)) (by decide) (by decide)) q52a q52c (g := (mkF m 267 #[.val (.long xx), .second, .val (.long yy), .second, .val (.long hv), .second, .val (.int mo), .val (.long (xx &&& (4294967295 : Int64))), .second, .val (.long (j0_14_l9 yy mo)), .second, .val (.long (j0_45_l11 xx yy mo)), .second, .val (.long (j0_45_l13 xx yy mo)), .second, .val (.ref b18), .val (.int (mo &&& (7 : Int32))), .val (.long (j0_97_l17 xx yy hv mo)), .second, .val (.long (j0_217_l19 xx yy mo)), .second, .val (.int (j0_240_l21 xx yy hv mo))] [(.long (j0_97_l17 xx yy hv mo)), (.ref b18)])) rfl (by rw [hml]; rfl) (Steps.refl _) (argsL := [(.long (j0_97_l17 xx yy hv mo))]) (rest := []) (lenOf pd_4 rfl) rfl (by show 2 * 0 + _ ≤ _; exact Nat.le_of_eq rfl) (hb hby at_267) (fun _ _ => ⟨rfl, rfl, (by decide : 1 + 0 ≤ _), (by decide : 2 + 0 ≤ _)⟩)
  dsimp only [Pt.U, Pt.locs, Pt.cells, Pt.slots] at X52 l52 y52 z52 st52 hQ52
  subst l52 y52 z52
  obtain ⟨rfl, N52q, e52⟩ := hQ52
  have N52 := Fr.app N21 N52q
  obtain ⟨fs, hr, hrun, hended, hW, hsame⟩ := X52.leave (v := some (.int (1 : Int32))) (fun h => by rw [Bd.returns] at h; cases h)
  refine ⟨_, _, pre51 _ ?_, hrun, hended, _, _, rfl, ?_, ⟨_, rfl⟩, hW, hsame.mono (by decide) (by decide)⟩
  · show Steps p.tables e below (T21.setTop (mkF m 263 #[.val (.long xx), .second, .val (.long yy), .second, .val (.long hv), .second, .val (.int mo), .val (.long (xx &&& (4294967295 : Int64))), .second, .val (.long (j0_14_l9 yy mo)), .second, .val (.long (j0_45_l11 xx yy mo)), .second, .val (.long (j0_45_l13 xx yy mo)), .second, .val (.ref b18), .val (.int (mo &&& (7 : Int32))), .val (.long (j0_97_l17 xx yy hv mo)), .second, .val (.long (j0_217_l19 xx yy mo)), .second, .val (.int (j0_240_l21 xx yy hv mo))] [])) _
    refine XS.aload X21.here hx rfl (hb hby at_263) rfl rfl ?_
    show Steps p.tables e below (T21.setTop (mkF m 265 #[.val (.long xx), .second, .val (.long yy), .second, .val (.long hv), .second, .val (.int mo), .val (.long (xx &&& (4294967295 : Int64))), .second, .val (.long (j0_14_l9 yy mo)), .second, .val (.long (j0_45_l11 xx yy mo)), .second, .val (.long (j0_45_l13 xx yy mo)), .second, .val (.ref b18), .val (.int (mo &&& (7 : Int32))), .val (.long (j0_97_l17 xx yy hv mo)), .second, .val (.long (j0_217_l19 xx yy mo)), .second, .val (.int (j0_240_l21 xx yy hv mo))] [(.ref b18)])) _
    refine XS.lload X21.here hx rfl (hb hby at_265) rfl ?_
    show Steps p.tables e below (T21.setTop (mkF m 267 #[.val (.long xx), .second, .val (.long yy), .second, .val (.long hv), .second, .val (.int mo), .val (.long (xx &&& (4294967295 : Int64))), .second, .val (.long (j0_14_l9 yy mo)), .second, .val (.long (j0_45_l11 xx yy mo)), .second, .val (.long (j0_45_l13 xx yy mo)), .second, .val (.ref b18), .val (.int (mo &&& (7 : Int32))), .val (.long (j0_97_l17 xx yy hv mo)), .second, .val (.long (j0_217_l19 xx yy mo)), .second, .val (.int (j0_240_l21 xx yy hv mo))] [(.long (j0_97_l17 xx yy hv mo)), (.ref b18)])) _
    refine st52.trans ?_
    show Steps p.tables e below (T52.setTop (mkF m 270 #[.val (.long xx), .second, .val (.long yy), .second, .val (.long hv), .second, .val (.int mo), .val (.long (xx &&& (4294967295 : Int64))), .second, .val (.long (j0_14_l9 yy mo)), .second, .val (.long (j0_45_l11 xx yy mo)), .second, .val (.long (j0_45_l13 xx yy mo)), .second, .val (.ref b18), .val (.int (mo &&& (7 : Int32))), .val (.long (j0_97_l17 xx yy hv mo)), .second, .val (.long (j0_217_l19 xx yy mo)), .second, .val (.int (j0_240_l21 xx yy hv mo))] [(.int (r7_v (j0_97_l17 xx yy hv mo) (j0_45_l11 xx yy mo) (j0_45_l13 xx yy mo)))])) _
    refine XS.iload X52.here hx rfl (hb hby at_270) rfl ?_
    show Steps p.tables e below (T52.setTop (mkF m 272 #[.val (.long xx), .second, .val (.long yy), .second, .val (.long hv), .second, .val (.int mo), .val (.long (xx &&& (4294967295 : Int64))), .second, .val (.long (j0_14_l9 yy mo)), .second, .val (.long (j0_45_l11 xx yy mo)), .second, .val (.long (j0_45_l13 xx yy mo)), .second, .val (.ref b18), .val (.int (mo &&& (7 : Int32))), .val (.long (j0_97_l17 xx yy hv mo)), .second, .val (.long (j0_217_l19 xx yy mo)), .second, .val (.int (j0_240_l21 xx yy hv mo))] [(.int (j0_240_l21 xx yy hv mo)), (.int (r7_v (j0_97_l17 xx yy hv mo) (j0_45_l11 xx yy mo) (j0_45_l13 xx yy mo)))])) _
    refine XS.icmpNo X52.here hx rfl (hb hby at_272) rfl (teq (own_fin xx yy hv mo : ((r7_v (j0_97_l17 xx yy hv mo) (j0_45_l11 xx yy mo) (j0_45_l13 xx yy mo)) = (j0_240_l21 xx yy hv mo)))).2 ?_
    show Steps p.tables e below (T52.setTop (mkF m 275 #[.val (.long xx), .second, .val (.long yy), .second, .val (.long hv), .second, .val (.int mo), .val (.long (xx &&& (4294967295 : Int64))), .second, .val (.long (j0_14_l9 yy mo)), .second, .val (.long (j0_45_l11 xx yy mo)), .second, .val (.long (j0_45_l13 xx yy mo)), .second, .val (.ref b18), .val (.int (mo &&& (7 : Int32))), .val (.long (j0_97_l17 xx yy hv mo)), .second, .val (.long (j0_217_l19 xx yy mo)), .second, .val (.int (j0_240_l21 xx yy hv mo))] [])) _
    refine XS.iconst X52.here hx rfl (hb hby at_275) ?_
    show Steps p.tables e below (T52.setTop (mkF m 276 #[.val (.long xx), .second, .val (.long yy), .second, .val (.long hv), .second, .val (.int mo), .val (.long (xx &&& (4294967295 : Int64))), .second, .val (.long (j0_14_l9 yy mo)), .second, .val (.long (j0_45_l11 xx yy mo)), .second, .val (.long (j0_45_l13 xx yy mo)), .second, .val (.ref b18), .val (.int (mo &&& (7 : Int32))), .val (.long (j0_97_l17 xx yy hv mo)), .second, .val (.long (j0_217_l19 xx yy mo)), .second, .val (.int (j0_240_l21 xx yy hv mo))] [(.int (1 : Int32))])) _
    refine XS.goto X52.here hx rfl (pc0 := 276) (pc' := 280) rfl (hb hby at_276) (by decide) (by decide) ?_
    show Steps p.tables e below (T52.setTop (mkF m 280 #[.val (.long xx), .second, .val (.long yy), .second, .val (.long hv), .second, .val (.int mo), .val (.long (xx &&& (4294967295 : Int64))), .second, .val (.long (j0_14_l9 yy mo)), .second, .val (.long (j0_45_l11 xx yy mo)), .second, .val (.long (j0_45_l13 xx yy mo)), .second, .val (.ref b18), .val (.int (mo &&& (7 : Int32))), .val (.long (j0_97_l17 xx yy hv mo)), .second, .val (.long (j0_217_l19 xx yy mo)), .second, .val (.int (j0_240_l21 xx yy hv mo))] [(.int (1 : Int32))])) _
    exact retN X52 hx (t := .boolean) Bd.returns (by simp) (hb hby at_280) hr
  · show Q0 Z xx yy hv mo h0 n0 _ T52.heap _
    rw [e52]
    exact ⟨rfl, N52⟩
set_option maxRecDepth 65536 in
set_option maxHeartbeats 40000000 in
theorem comes_1 {Post : Tables → Env → Array Value → State → Outcome → State → Prop} (hpost : ∀ tb e args s v u, (limb_1_1.after args s (.returned v) u = true ∧ limb_1_2.after args s (.returned v) u = true ∧ True) → FrameEnd s (.returned v) u (Jvm.fieldLocs frame_1_writes args s ++ Jvm.arrayLocs frame_1_arrays args s ++ Jvm.staticLocs frame_1_statics s) 16 128 → Post tb e args s (.returned v) u) :
    ArmFor flags0 classFile x code maxLocals ret World_1 tables_1 room_1 Calls_1 rest_1 Pre_1 Post := by
  intro l hfl _ _ p e ha hc hk s m args below hf hA hF happ hP
  obtain ⟨hcalls, hrest, hpre⟩ := hP
  obtain ⟨-, -, -, hnamed, -, -, -, hat⟩ := (Spec.applies_iff hf).mp happ
  obtain ⟨hg, hn⟩ := and_e (Cond.before_iff.mp (show (Jvm.Cond.and given_1 narrow_1).before args s = true from hpre))
  obtain ⟨gv1, gv2⟩ := and_e hg
  obtain ⟨gv3, gv4⟩ := and_e gv2
  obtain ⟨gv5, gv6⟩ := and_e gv4
  obtain ⟨gv7, gv8⟩ := and_e gv6
  obtain ⟨w0, w1, w2, w3, rfl⟩ : ∃ w0 w1 w2 w3 : Value, args = #[w0, w1, w2, w3] := by
    have hs : args.size = 4 := by simpa [Cond.value, given_1] using gv1
    obtain ⟨L⟩ := args
    match L, hs with
    | [w0, w1, w2, w3], _ => exact ⟨w0, w1, w2, w3, rfl⟩
  have hw := fun d (hd : d ∈ tables_1) => atoms_spec (ws := Jvm.Cond.code x code maxLocals ret :: tables_1) hat d (List.mem_cons_of_mem _ hd)
  have hfit : Fit s := fun {y c} hc i hi => by
    obtain ⟨ha, rfl⟩ := Array.getElem?_eq_some_iff.mp hc
    have q := List.all_eq_true.mp ((Array.all_eq_true_iff_forall_mem.mp hF) _ (Array.getElem_mem ha)) i (List.mem_range.mpr hi)
    simpa [Array.getElem?_eq_getElem hi] using q
  obtain ⟨i0, ei0⟩ := isL_v gv3
  obtain rfl : w0 = (.long i0) := Option.some.inj ei0
  obtain ⟨i1, ei1⟩ := isL_v gv5
  obtain rfl : w1 = (.long i1) := Option.some.inj ei1
  obtain ⟨i2, ei2⟩ := isL_v gv7
  obtain rfl : w2 = (.long i2) := Option.some.inj ei2
  obtain ⟨i3, ei3⟩ := is_v gv8
  obtain rfl : w3 = (.int i3) := Option.some.inj ei3
  obtain ⟨n, o, h1, h2, h3, _, L, rfl, ⟨rfl, N⟩, hq⟩ := rm0 l s _ hw tables_1 i0 i1 i2 i3 s.heap s.heap.size (Nat.le_refl _) p e ha hc hk s m _ below hf ((Spec.applies_iff_loose hf).mp happ).1 ⟨rfl, State.Warmed39.refl s, rfl⟩ trivial
  refine ⟨n, _, h1, h2, h3, hpost _ _ _ _ _ _ ⟨Cond.after_iff.mpr rfl, Cond.after_iff.mpr (eq_i res_at (Term.int_eval (1)) rfl), trivial⟩ ⟨hq.1, hq.2.1, (hq.2.2.sift fun y hy => Or.inr (N y hy)).mono (by decide) (by decide)⟩⟩
theorem main_1_1 : Claimed_1_1 := comes_1 fun _ _ _ _ _ _ h hF => ⟨h.1, hF⟩
theorem main_1_2 : Claimed_1_2 := comes_1 fun _ _ _ _ _ _ h hF => ⟨h.2.1, hF⟩
end Jvm.Pilot.@@N@@
namespace Jvm.Pilot.@@N@@
open Jvm Jvm.ClassFile Sem Op Lib Jvm.Free Jvm.Stand Jvm.Pilot.@@N@@.Jvm.D
/-! MADE BY PROGRAM (witnessworld.py) out of the Statement's table words and the real class files: 12 classes; the members and pool entries that the words name. The judged class is class 1, her method 1. -/
namespace start1
open Jvm.ClassFile
def u (s : String) : CpInfo := .utf8 (stringToUtf16 s)
/-- a pool by its gaps: so many unusable entries, then the entry; so many at the end -/
def gap : Nat → List CpInfo → List CpInfo
  | 0, r => r
  | n + 1, r => .unusable :: gap n r
def poolList (es : List (Nat × CpInfo)) (last : Nat) : List CpInfo := es.foldr (fun e r => gap e.1 (e.2 :: r)) (gap last [])
def pool (es : List (Nat × CpInfo)) (last : Nat) : Array CpInfo := ⟨poolList es last⟩
def fileOf (pool : Array CpInfo) (this : Nat) (attrs : Array Attribute := #[]) (ms : Array MethodInfo := #[]) (fl : Nat := 33) (sup : Nat := 0) (ifs : Array Nat := #[]) (fds : Array FieldInfo := #[]) : ClassFile where
  minorVersion := 0
  majorVersion := 65
  constantPool := pool
  accessFlags := fl
  thisClass := this
  superClass := sup
  interfaces := ifs
  fields := fds
  methods := ms
  attributes := attrs
def plain (name : String) (sup : Option ClassId) : Class where
  name := name
  kind := .ordinary
  loader := none
  accessFlags := 33
  super := sup
  interfaces := #[]
  cf := none
  fields := #[]
  methods := #[]
  instanceTypes := #[]
  staticTypes := #[]
  resolved := #[]
  callSites := []
  init := .initialized
  statics := none
  mirror := none

def pool0 : Array CpInfo := pool [(5, u "<init>"), (0, u "()V"), (1, .class_ 10), (1, u "java/lang/Object")] 113

def k0c0 : Code := { maxStack := 0, maxLocals := 1, code := object_method_1_code, exceptionTable := #[], attributes := #[] }
def k0m0 : Method := { name := "<init>", desc := "()V", sig := { parameters := [], returnType := none }, accessFlags := 1, code := some k0c0 }
/-- java/lang/Object -/
def k0 : Class := { plain "java/lang/Object" none with
  accessFlags := 33
  interfaces := #[]
  cf := some (fileOf pool0 8 #[] #[{ accessFlags := 1, nameIndex := 5, descriptorIndex := 6, attributes := #[] }] 33 0 #[] #[])
  fields := #[]
  methods := #[k0m0]
  instanceTypes := #[]
  staticTypes := #[]
  resolved := Array.replicate 124 none
  statics := none }

def pool1 : Array CpInfo := pool [(2, .class_ 4), (1, u "java/lang/Object"), (0, u "<init>"), (0, u "()V"), (0, .class_ 8), (0, u "com/example/bundles_to_brokers/bundlestobrokers/model/BundleRangeContainsPinLaw"), (0, .long 4294967295), (1, .methodref 12 13), (0, .class_ 14), (0, .nameAndType 15 16), (0, u "java/lang/Math"), (0, u "min"), (0, u "(JJ)J"), (0, .methodref 12 18), (0, .nameAndType 19 16), (0, u "max"), (0, .class_ 21), (0, u "com/example/bundles_to_brokers/bundlestobrokers/model/BundleRange"), (0, .methodref 20 23), (0, .nameAndType 5 24), (0, u "(JJ)V"), (0, .long 9223372036854775807), (1, .methodref 20 28), (0, .nameAndType 29 30), (0, u "contains"), (0, u "(J)Z"), (0, u "TOP"), (0, u "J"), (3, u "law"), (0, u "(JJJI)Z")] 3

def k1m0 : Method := { name := "<init>", desc := "()V", sig := { parameters := [], returnType := none }, accessFlags := 1, code := none }
def k1c1 : Code := { maxStack := 8, maxLocals := 22, code := code, exceptionTable := #[], attributes := #[] }
def k1m1 : Method := { name := "law", desc := "(JJJI)Z", sig := { parameters := [.long, .long, .long, .int], returnType := some .boolean }, accessFlags := 9, code := some k1c1 }
/-- com/example/bundles_to_brokers/bundlestobrokers/model/BundleRangeContainsPinLaw -/
def k1 : Class := { plain "com/example/bundles_to_brokers/bundlestobrokers/model/BundleRangeContainsPinLaw" (some 0) with
  accessFlags := 49
  interfaces := #[]
  cf := some (fileOf pool1 7 #[] #[{ accessFlags := 1, nameIndex := 5, descriptorIndex := 6, attributes := #[] }, { accessFlags := 9, nameIndex := 36, descriptorIndex := 37, attributes := #[] }] 49 2 #[] #[{ accessFlags := 26, nameIndex := 31, descriptorIndex := 32, attributes := #[] }])
  fields := #[{ name := "TOP", type := .long, accessFlags := 26, slot := 0, constantValue := 0 }]
  methods := #[k1m0, k1m1]
  instanceTypes := #[]
  staticTypes := #[.long]
  resolved := Array.replicate 41 none
  statics := none }

def pool2 : Array CpInfo := pool [(1, .class_ 2), (0, u "java/lang/Math"), (1, .class_ 6), (1, u "java/lang/Object"), (0, u "<init>"), (0, u "()V"), (89, .class_ 100), (1, u "java/lang/Math$RandomNumberGeneratorHolder"), (20, u "(JJ)J"), (50, u "negativeZeroFloatBits"), (0, u "J"), (2, u "negativeZeroDoubleBits"), (21, u "max"), (2, u "min"), (43, u "$assertionsDisabled"), (0, u "Z"), (91, u "twoToTheDoubleScaleDown"), (0, u "D"), (4, u "twoToTheDoubleScaleUp"), (9, u "E"), (3, u "PI"), (2, u "TAU"), (2, u "DEGREES_TO_RADIANS"), (0, u "RADIANS_TO_DEGREES")] 94

def k2m0 : Method := { name := "<init>", desc := "()V", sig := { parameters := [], returnType := none }, accessFlags := 2, code := none }
def k2c1 : Code := { maxStack := 4, maxLocals := 4, code := jdk_29_method_66_code, exceptionTable := #[], attributes := #[] }
def k2m1 : Method := { name := "max", desc := "(JJ)J", sig := { parameters := [.long, .long], returnType := some .long }, accessFlags := 9, code := some k2c1 }
def k2c2 : Code := { maxStack := 4, maxLocals := 4, code := jdk_29_method_70_code, exceptionTable := #[], attributes := #[] }
def k2m2 : Method := { name := "min", desc := "(JJ)J", sig := { parameters := [.long, .long], returnType := some .long }, accessFlags := 9, code := some k2c2 }
/-- java/lang/Math -/
def k2 : Class := { plain "java/lang/Math" (some 0) with
  accessFlags := 49
  interfaces := #[]
  cf := some (fileOf pool2 1 #[.nestMembers #[98]] #[{ accessFlags := 2, nameIndex := 7, descriptorIndex := 8, attributes := #[] }, { accessFlags := 9, nameIndex := 198, descriptorIndex := 121, attributes := #[] }, { accessFlags := 9, nameIndex := 201, descriptorIndex := 121, attributes := #[] }] 49 4 #[] #[{ accessFlags := 25, nameIndex := 354, descriptorIndex := 339, attributes := #[] }, { accessFlags := 25, nameIndex := 358, descriptorIndex := 339, attributes := #[] }, { accessFlags := 25, nameIndex := 361, descriptorIndex := 339, attributes := #[] }, { accessFlags := 26, nameIndex := 364, descriptorIndex := 339, attributes := #[] }, { accessFlags := 26, nameIndex := 365, descriptorIndex := 339, attributes := #[] }, { accessFlags := 26, nameIndex := 172, descriptorIndex := 173, attributes := #[] }, { accessFlags := 26, nameIndex := 176, descriptorIndex := 173, attributes := #[] }, { accessFlags := 8, nameIndex := 344, descriptorIndex := 339, attributes := #[] }, { accessFlags := 8, nameIndex := 338, descriptorIndex := 339, attributes := #[] }, { accessFlags := 4120, nameIndex := 245, descriptorIndex := 246, attributes := #[] }])
  fields := #[{ name := "E", type := .double, accessFlags := 25, slot := 0, constantValue := 0 }, { name := "PI", type := .double, accessFlags := 25, slot := 1, constantValue := 0 }, { name := "TAU", type := .double, accessFlags := 25, slot := 2, constantValue := 0 }, { name := "DEGREES_TO_RADIANS", type := .double, accessFlags := 26, slot := 3, constantValue := 0 }, { name := "RADIANS_TO_DEGREES", type := .double, accessFlags := 26, slot := 4, constantValue := 0 }, { name := "negativeZeroFloatBits", type := .long, accessFlags := 26, slot := 5, constantValue := 0 }, { name := "negativeZeroDoubleBits", type := .long, accessFlags := 26, slot := 6, constantValue := 0 }, { name := "twoToTheDoubleScaleUp", type := .double, accessFlags := 8, slot := 7, constantValue := 0 }, { name := "twoToTheDoubleScaleDown", type := .double, accessFlags := 8, slot := 8, constantValue := 0 }, { name := "$assertionsDisabled", type := .boolean, accessFlags := 4120, slot := 9, constantValue := 0 }]
  methods := #[k2m0, k2m1, k2m2]
  instanceTypes := #[]
  staticTypes := #[.double, .double, .double, .double, .double, .long, .long, .double, .double, .boolean]
  resolved := Array.replicate 460 none
  statics := none }

def pool3 : Array CpInfo := pool [(1, .methodref 2 3), (0, .class_ 4), (0, .nameAndType 5 6), (0, u "java/lang/Object"), (0, u "<init>"), (0, u "()V"), (0, .class_ 8), (0, u "java/lang/Record")] 13

def k3c0 : Code := { maxStack := 1, maxLocals := 1, code := jdk_30_method_1_code, exceptionTable := #[], attributes := #[] }
def k3m0 : Method := { name := "<init>", desc := "()V", sig := { parameters := [], returnType := none }, accessFlags := 4, code := some k3c0 }
/-- java/lang/Record -/
def k3 : Class := { plain "java/lang/Record" (some 0) with
  accessFlags := 1057
  interfaces := #[]
  cf := some (fileOf pool3 7 #[] #[{ accessFlags := 4, nameIndex := 5, descriptorIndex := 6, attributes := #[] }] 1057 2 #[] #[])
  fields := #[]
  methods := #[k3m0]
  instanceTypes := #[]
  staticTypes := #[]
  resolved := Array.replicate 22 none
  statics := none }

def pool4 : Array CpInfo := pool [(1, .methodref 2 3), (0, .class_ 4), (0, .nameAndType 5 6), (0, u "java/lang/Record"), (0, u "<init>"), (0, u "()V"), (0, .methodref 8 9), (0, .class_ 10), (0, .nameAndType 11 12), (0, u "com/example/bundles_to_brokers/bundlestobrokers/model/HashSpace"), (0, u "checkInSpace"), (0, u "(J)V"), (3, .class_ 18), (1, u "com/example/bundles_to_brokers/bundlestobrokers/model/BundleRange"), (9, .fieldref 16 29), (0, .nameAndType 30 31), (0, u "lower"), (0, u "J"), (0, .fieldref 16 33), (0, .nameAndType 34 31), (0, u "upper"), (28, u "(JJ)V"), (0, .long 4294967295), (49, u "NOTATION"), (0, u "Ljava/lang/String;"), (8, u "contains"), (0, u "(J)Z")] 39

def k4c0 : Code := { maxStack := 6, maxLocals := 5, code := prog_10_method_1_code, exceptionTable := #[], attributes := #[] }
def k4m0 : Method := { name := "<init>", desc := "(JJ)V", sig := { parameters := [.long, .long], returnType := none }, accessFlags := 1, code := some k4c0 }
def k4c1 : Code := { maxStack := 4, maxLocals := 3, code := prog_10_method_3_code, exceptionTable := #[], attributes := #[] }
def k4m1 : Method := { name := "contains", desc := "(J)Z", sig := { parameters := [.long], returnType := some .boolean }, accessFlags := 1, code := some k4c1 }
/-- com/example/bundles_to_brokers/bundlestobrokers/model/BundleRange -/
def k4 : Class := { plain "com/example/bundles_to_brokers/bundlestobrokers/model/BundleRange" (some 3) with
  accessFlags := 49
  interfaces := #[]
  cf := some (fileOf pool4 16 #[] #[{ accessFlags := 1, nameIndex := 5, descriptorIndex := 63, attributes := #[] }, { accessFlags := 1, nameIndex := 124, descriptorIndex := 125, attributes := #[] }] 49 2 #[] #[{ accessFlags := 18, nameIndex := 30, descriptorIndex := 31, attributes := #[] }, { accessFlags := 18, nameIndex := 34, descriptorIndex := 31, attributes := #[] }, { accessFlags := 26, nameIndex := 114, descriptorIndex := 115, attributes := #[] }])
  fields := #[{ name := "lower", type := .long, accessFlags := 18, slot := 0, constantValue := 0 }, { name := "upper", type := .long, accessFlags := 18, slot := 1, constantValue := 0 }, { name := "NOTATION", type := (.object "java/lang/String"), accessFlags := 26, slot := 0, constantValue := 0 }]
  methods := #[k4m0, k4m1]
  instanceTypes := #[.long, .long]
  staticTypes := #[(.object "java/lang/String")]
  resolved := Array.replicate 165 none
  statics := none }

def pool5 : Array CpInfo := pool [(1, .class_ 2), (0, u "com/example/bundles_to_brokers/bundlestobrokers/model/HashSpace"), (1, .class_ 6), (1, u "java/lang/Object"), (0, u "<init>"), (0, u "()V"), (2, u "checkInSpace"), (0, u "(J)V"), (49, .long 4294967295), (8, u "MAX"), (0, u "J"), (1, u "SIZE"), (2, u "PREFIX"), (0, u "Ljava/lang/String;"), (0, u "DIGITS"), (0, u "I"), (1, u "NOTATION")] 25

def k5m0 : Method := { name := "<init>", desc := "()V", sig := { parameters := [], returnType := none }, accessFlags := 2, code := none }
def k5c1 : Code := { maxStack := 4, maxLocals := 2, code := prog_14_method_5_code, exceptionTable := #[], attributes := #[] }
def k5m1 : Method := { name := "checkInSpace", desc := "(J)V", sig := { parameters := [.long], returnType := none }, accessFlags := 8, code := some k5c1 }
/-- com/example/bundles_to_brokers/bundlestobrokers/model/HashSpace -/
def k5 : Class := { plain "com/example/bundles_to_brokers/bundlestobrokers/model/HashSpace" (some 0) with
  accessFlags := 33
  interfaces := #[]
  cf := some (fileOf pool5 1 #[] #[{ accessFlags := 2, nameIndex := 7, descriptorIndex := 8, attributes := #[] }, { accessFlags := 8, nameIndex := 11, descriptorIndex := 12, attributes := #[] }] 33 4 #[] #[{ accessFlags := 25, nameIndex := 71, descriptorIndex := 72, attributes := #[] }, { accessFlags := 25, nameIndex := 74, descriptorIndex := 72, attributes := #[] }, { accessFlags := 26, nameIndex := 77, descriptorIndex := 78, attributes := #[] }, { accessFlags := 26, nameIndex := 79, descriptorIndex := 80, attributes := #[] }, { accessFlags := 26, nameIndex := 82, descriptorIndex := 78, attributes := #[] }])
  fields := #[{ name := "MAX", type := .long, accessFlags := 25, slot := 0, constantValue := 0 }, { name := "SIZE", type := .long, accessFlags := 25, slot := 1, constantValue := 0 }, { name := "PREFIX", type := (.object "java/lang/String"), accessFlags := 26, slot := 2, constantValue := 0 }, { name := "DIGITS", type := .int, accessFlags := 26, slot := 3, constantValue := 0 }, { name := "NOTATION", type := (.object "java/lang/String"), accessFlags := 26, slot := 4, constantValue := 0 }]
  methods := #[k5m0, k5m1]
  instanceTypes := #[]
  staticTypes := #[.long, .long, (.object "java/lang/String"), .int, (.object "java/lang/String")]
  resolved := Array.replicate 108 none
  statics := none }

def pool6 : Array CpInfo := pool [(1, u "java/lang/Cloneable"), (0, .class_ 1), (0, u "java/lang/Object"), (0, .class_ 3)] 3

/-- java/lang/Cloneable -/
def k6 : Class := { plain "java/lang/Cloneable" (some 0) with
  accessFlags := 1537
  interfaces := #[]
  cf := some (fileOf pool6 2 #[] #[] 1537 4 #[] #[])
  fields := #[]
  methods := #[]
  instanceTypes := #[]
  staticTypes := #[]
  resolved := Array.replicate 8 none
  statics := none }

def pool7 : Array CpInfo := pool [(1, u "java/io/Serializable"), (0, .class_ 1), (0, u "java/lang/Object"), (0, .class_ 3)] 3

/-- java/io/Serializable -/
def k7 : Class := { plain "java/io/Serializable" (some 0) with
  accessFlags := 1537
  interfaces := #[]
  cf := some (fileOf pool7 2 #[] #[] 1537 4 #[] #[])
  fields := #[]
  methods := #[]
  instanceTypes := #[]
  staticTypes := #[]
  resolved := Array.replicate 8 none
  statics := none }

/-- the primitive byte -/
def k8 : Class := { plain "byte" none with kind := .primitive 'B', accessFlags := 0x411 }
/-- [B -/
def k9 : Class := { plain "[B" (some 0) with kind := .array 8 .byte, interfaces := #[6, 7], accessFlags := 1041 }

/-- the primitive int -/
def k10 : Class := { plain "int" none with kind := .primitive 'I', accessFlags := 0x411 }
/-- [I -/
def k11 : Class := { plain "[I" (some 0) with kind := .array 10 .int, interfaces := #[6, 7], accessFlags := 1041 }

def heap : Heap := #[]
def classes : Array Class := #[k0, k1, k2, k3, k4, k5, k6, k7, k8, k9, k10, k11]
def interned : List (Array UInt16 × Addr) := []
def slotsUsed : Nat := 0
def theMethod : MethodId := ⟨1, 1⟩
def args0 : Array Value := #[.long 100, .long 5000, .long 700, .int 0]
def aboutOver (below : List Frame) : State where
  vm := { classes := classes, interned := interned.toArray }
  heap := heap
  slotsUsed := slotsUsed
  threads := #[{ frames := .invoking theMethod args0 :: below }]
def below0 : List Frame := [.native { method := ⟨0, 0⟩, args := #[] }]
def about1 : State := aboutOver below0
def p0 : Program := .bare "" "" ""
def e0 : Env := launch0.env 0 0 0
theorem w_frames : about1.frames = Frame.invoking theMethod args0 :: below0 := rfl
set_option maxRecDepth 65536 in
theorem w_args : argsFit about1.vm theMethod args0 = true := by decide +kernel
set_option maxRecDepth 65536 in
theorem w_heap : heapFits about1 = true := by decide +kernel
set_option maxRecDepth 65536 in
theorem w_runnable : about1.curStatus? = some .runnable := by decide +kernel
set_option maxRecDepth 65536 in
theorem w_alone : about1.alone = true := by decide +kernel
set_option maxRecDepth 65536 in
theorem w_named : about1.methodNamed? x = some theMethod := by decide +kernel
set_option maxRecDepth 65536 in
theorem w_hears : about1.hears theMethod below0 = true := by decide +kernel
set_option maxRecDepth 65536 in
theorem w_ripe : about1.ripe theMethod args0 below0 = true := by decide +kernel
theorem w_running : about1.status = .running := rfl
set_option maxRecDepth 65536 in
theorem w_room : about1.hasRoom e0.platform room_1 = true :=
  launch0.hasRoom_least _ room_1 (by decide +kernel) (by decide +kernel) (by decide +kernel) (by decide +kernel) (by decide +kernel) (by decide +kernel)
theorem allAtoms_all (ts : List Jvm.Cond) (a : Array Jvm.Value) (st : Jvm.State) : (allAtoms ts).before a st = ts.all (fun c => c.before a st) := by
  induction ts with
  | nil => rfl
  | cons c t ih =>
    show (Jvm.Cond.and c (allAtoms t)).before a st = _
    rw [Jvm.Cond.before_and, ih, List.all_cons]
def words1 : List Jvm.Cond := Jvm.Cond.code x code maxLocals ret :: tables_1
/-- a 'code' word, met by the world's own term for the bytes: nothing is compared byte by byte -/
theorem code_word {y : MethodName} {bytes : ByteArray} {mx : Nat} {rt : Option FieldType} {a : Array Value} {s : State} {m : MethodId} {meth : Method} {c : Code} (h1 : s.methodNamed? y = some m) (h2 : s.vm.method? m = some meth) (h3 : meth.code = some c) (h4 : c.code = bytes)
    (h5 : (c.maxLocals == mx && c.exceptionTable.isEmpty && decide (c.maxStack ≤ mostOperands) && decide (meth.sig.returnType = rt) && !meth.locks && decide (parseMethodDescriptor y.desc = some meth.sig)) = true) : (Jvm.Cond.code y bytes mx rt).before a s = true := by
  simp only [Bool.and_eq_true, beq_iff_eq, Bool.not_eq_true', decide_eq_true_eq] at h5
  obtain ⟨⟨⟨⟨⟨g1, g2⟩, g3⟩, g4⟩, g5⟩, g6⟩ := h5
  simp [Cond.before, Cond.holds, Cond.value, h1, h2, h3, h4, g1, g2, g3, g4, g5, g6]
def isCode : Jvm.Cond → Bool
  | .code _ _ _ _ => true
  | _ => false
theorem all_split {L : List Jvm.Cond} {P : Jvm.Cond → Bool} (h1 : L.all (fun c => isCode c || P c) = true) (h2 : ∀ c ∈ L.filter isCode, P c = true) : L.all P = true := by
  refine List.all_eq_true.mpr fun c hc => ?_
  have h := List.all_eq_true.mp h1 c hc
  rcases Bool.eq_false_or_eq_true (isCode c) with hi | hi
  · exact h2 c (List.mem_filter.mpr ⟨hc, hi⟩)
  · simpa [hi] using h
set_option maxRecDepth 65536 in
theorem w_c0 : (Jvm.Cond.code x code maxLocals ret).before args0 about1 = true := code_word (m := ⟨1, 1⟩) (meth := k1m1) (c := k1c1) (by decide +kernel) rfl rfl rfl (by decide +kernel)
set_option maxRecDepth 65536 in
theorem w_c1 : (Jvm.Cond.code ({ cls := "java/lang/Math", name := "min", desc := "(JJ)J" } : Jvm.MethodName) jdk_29_method_70_code (4 : Nat) (Option.some Jvm.ClassFile.FieldType.long)).before args0 about1 = true := code_word (m := ⟨2, 2⟩) (meth := k2m2) (c := k2c2) (by decide +kernel) rfl rfl rfl (by decide +kernel)
set_option maxRecDepth 65536 in
theorem w_c2 : (Jvm.Cond.code ({ cls := "java/lang/Math", name := "max", desc := "(JJ)J" } : Jvm.MethodName) jdk_29_method_66_code (4 : Nat) (Option.some Jvm.ClassFile.FieldType.long)).before args0 about1 = true := code_word (m := ⟨2, 1⟩) (meth := k2m1) (c := k2c1) (by decide +kernel) rfl rfl rfl (by decide +kernel)
set_option maxRecDepth 65536 in
theorem w_c3 : (Jvm.Cond.code ({ cls := "com/example/bundles_to_brokers/bundlestobrokers/model/BundleRange", name := "<init>", desc := "(JJ)V" } : Jvm.MethodName) prog_10_method_1_code (5 : Nat) (Option.none : Option Jvm.ClassFile.FieldType)).before args0 about1 = true := code_word (m := ⟨4, 0⟩) (meth := k4m0) (c := k4c0) (by decide +kernel) rfl rfl rfl (by decide +kernel)
set_option maxRecDepth 65536 in
theorem w_c4 : (Jvm.Cond.code ({ cls := "java/lang/Record", name := "<init>", desc := "()V" } : Jvm.MethodName) jdk_30_method_1_code (1 : Nat) (Option.none : Option Jvm.ClassFile.FieldType)).before args0 about1 = true := code_word (m := ⟨3, 0⟩) (meth := k3m0) (c := k3c0) (by decide +kernel) rfl rfl rfl (by decide +kernel)
set_option maxRecDepth 65536 in
theorem w_c5 : (Jvm.Cond.code ({ cls := "java/lang/Object", name := "<init>", desc := "()V" } : Jvm.MethodName) object_method_1_code (1 : Nat) (Option.none : Option Jvm.ClassFile.FieldType)).before args0 about1 = true := code_word (m := ⟨0, 0⟩) (meth := k0m0) (c := k0c0) (by decide +kernel) rfl rfl rfl (by decide +kernel)
set_option maxRecDepth 65536 in
theorem w_c6 : (Jvm.Cond.code ({ cls := "com/example/bundles_to_brokers/bundlestobrokers/model/HashSpace", name := "checkInSpace", desc := "(J)V" } : Jvm.MethodName) prog_14_method_5_code (2 : Nat) (Option.none : Option Jvm.ClassFile.FieldType)).before args0 about1 = true := code_word (m := ⟨5, 1⟩) (meth := k5m1) (c := k5c1) (by decide +kernel) rfl rfl rfl (by decide +kernel)
set_option maxRecDepth 65536 in
theorem w_c7 : (Jvm.Cond.code ({ cls := "com/example/bundles_to_brokers/bundlestobrokers/model/BundleRange", name := "contains", desc := "(J)Z" } : Jvm.MethodName) prog_10_method_3_code (3 : Nat) (Option.some Jvm.ClassFile.FieldType.boolean)).before args0 about1 = true := code_word (m := ⟨4, 1⟩) (meth := k4m1) (c := k4c1) (by decide +kernel) rfl rfl rfl (by decide +kernel)
def codes1 : List Jvm.Cond := [Jvm.Cond.code x code maxLocals ret, Jvm.Cond.code ({ cls := "java/lang/Math", name := "min", desc := "(JJ)J" } : Jvm.MethodName) jdk_29_method_70_code (4 : Nat) (Option.some Jvm.ClassFile.FieldType.long), Jvm.Cond.code ({ cls := "java/lang/Math", name := "max", desc := "(JJ)J" } : Jvm.MethodName) jdk_29_method_66_code (4 : Nat) (Option.some Jvm.ClassFile.FieldType.long), Jvm.Cond.code ({ cls := "com/example/bundles_to_brokers/bundlestobrokers/model/BundleRange", name := "<init>", desc := "(JJ)V" } : Jvm.MethodName) prog_10_method_1_code (5 : Nat) (Option.none : Option Jvm.ClassFile.FieldType), Jvm.Cond.code ({ cls := "java/lang/Record", name := "<init>", desc := "()V" } : Jvm.MethodName) jdk_30_method_1_code (1 : Nat) (Option.none : Option Jvm.ClassFile.FieldType), Jvm.Cond.code ({ cls := "java/lang/Object", name := "<init>", desc := "()V" } : Jvm.MethodName) object_method_1_code (1 : Nat) (Option.none : Option Jvm.ClassFile.FieldType), Jvm.Cond.code ({ cls := "com/example/bundles_to_brokers/bundlestobrokers/model/HashSpace", name := "checkInSpace", desc := "(J)V" } : Jvm.MethodName) prog_14_method_5_code (2 : Nat) (Option.none : Option Jvm.ClassFile.FieldType), Jvm.Cond.code ({ cls := "com/example/bundles_to_brokers/bundlestobrokers/model/BundleRange", name := "contains", desc := "(J)Z" } : Jvm.MethodName) prog_10_method_3_code (3 : Nat) (Option.some Jvm.ClassFile.FieldType.boolean)]
set_option maxRecDepth 65536 in
theorem codes_eq : words1.filter isCode = codes1 := rfl
theorem w_codes : ∀ c ∈ words1.filter isCode, c.before args0 about1 = true := by
  rw [codes_eq]
  intro c hc
  simp only [codes1, List.mem_cons, List.not_mem_nil, or_false] at hc
  rcases hc with rfl | rfl | rfl | rfl | rfl | rfl | rfl | rfl
  · exact w_c0
  · exact w_c1
  · exact w_c2
  · exact w_c3
  · exact w_c4
  · exact w_c5
  · exact w_c6
  · exact w_c7
set_option maxRecDepth 65536 in
theorem w_t1 : (words1.take 24).all (fun c => isCode c || c.before args0 about1) = true := by decide +kernel
set_option maxRecDepth 65536 in
theorem w_t2 : (words1.drop 24).all (fun c => isCode c || c.before args0 about1) = true := by decide +kernel
theorem w_tables : (allAtoms (Jvm.Cond.code x code maxLocals ret :: tables_1)).before args0 about1 = true := by
  rw [allAtoms_all]
  show words1.all (fun c => c.before args0 about1) = true
  refine all_split ?_ w_codes
  rw [← List.take_append_drop 24 words1, List.all_append, w_t1, w_t2]
  rfl
set_option maxRecDepth 65536 in
theorem w_case : (Jvm.Cond.and given_1 narrow_1).before args0 about1 = true := by decide +kernel
theorem w_applies : (headSpec (Jvm.Cond.code x code maxLocals ret :: tables_1) room_1).applies x e0.platform about1 = true :=
  (Spec.applies_iff w_frames).mpr ⟨w_running, w_runnable, w_alone, w_named, w_hears, w_ripe, w_room, w_tables⟩
theorem atStart : AtStart classFile x code maxLocals ret World_1 tables_1 room_1 Calls_1 rest_1 Pre_1 launch0 p0 e0 about1 theMethod args0 below0 :=
  ⟨lists_1, trivial, launch0.admits_env _ _ _, launch0.least_env, fairChoices_fair.cas, fairChoices_fair.clock, w_frames, w_args, w_heap, w_applies, trivial, trivial, w_case⟩
end start1
theorem witness_1 : WitnessClaimed_1 := ⟨start1.p0, start1.e0, start1.about1, start1.theMethod, start1.args0, start1.below0, start1.atStart⟩
end Jvm.Pilot.@@N@@
