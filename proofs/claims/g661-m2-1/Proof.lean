import JvmDerived
import JvmDerived.Pilot.@@N@@Statement
import JvmDerived.Pilot.@@N@@Code
set_option linter.unusedVariables false
set_option linter.unusedSimpArgs false
namespace Jvm.RoadKit
open Sem ClassFile Op Lib Jvm.Stand Jvm.Free Jvm.LawKit
section New
variable {p : Program} {l : Launch} {e : Env} {R : Room} {s : State} {m : MethodId} {args : Array Value} {below : List Frame} {meth : Method} {c : Code} {T : State} {locs : List Loc} {cells slots : Nat}
theorem retI (X : Stand p l e R s m args below meth c T locs cells slots) (hx : p.tables.exec = Jvm.exec) {pc : Nat} {Ls : Array Slot} {z : Int32} {rest : List Value} (hret : meth.sig.returnType = some .int) (hd : decode c.code pc = .ok (.ireturn, 1)) {fs : List Frame}
    (hl : ∀ (f : JFrame) (acts : List Action), f.method = m → f.locked = none → f.entered = [] → (doReturn e (T.setTop f) acts (some (.int z))).1 = T.setFrames fs) : Steps p.tables e below (T.setTop (mkF m pc Ls (.int z :: rest))) (T.setFrames fs) := by
  have hm' : T.vm.method? m = some meth := X.method'
  have hn : narrow .int (.int z) = .int z := rfl
  show Steps p.tables e below (T.setTop { method := m, pc := pc, locals := Ls, stack := _ :: rest, locked := none }) _
  jvm_step X.here [X.here.top, hx, hd, hm', hret, hn]
  first | (intro acts; rw [hl _ acts rfl rfl rfl]) | rw [hl _ _ rfl rfl rfl]
  exact Steps.refl _
theorem own_lremM {g : JFrame} {target : State} (X : Stand p l e R s m args below meth c T locs cells slots) (hx : p.tables.exec = Jvm.exec) (hg : g.method = m) {x y : Int64} {rest : List Value} (hd : decode c.code g.pc = .ok (.lrem, 1)) (hs : g.stack = .long y :: .long x :: rest) (hy : y ≠ 0)
    (hr : Steps p.tables e below (T.setTop { g with pc := g.pc + 1, stack := .long (x % y) :: rest }) target) : Steps p.tables e below (T.setTop g) target := by
  have q : x - (x / y) * y = x % y := lrem_mod x y
  exact XS.lrem X.here hx hg hd hs hy (by rw [q]; exact hr)
end New
/-! own: a long's comparison, an array by a function -/
theorem own_tltL {x y : Int64} (h : x < y) : ifCond.holds .lt (lcmpW x y) = true ∧ ifCond.holds .ge (lcmpW x y) = false ∧ ifCond.holds .gt (lcmpW y x) = true ∧ ifCond.holds .le (lcmpW y x) = false := by
  have h1 := (lc_lt x y).mpr h
  have h2 := (lc_gt y x).mpr h
  rw [← lcW] at h1 h2
  simp only [if0]
  exact ⟨(tlt h1).1, (tlt h1).2.1, (tlt h2).2.2.1, (tlt h2).2.2.2⟩
theorem own_fltL {x y : Int64} (h : ¬ x < y) : ifCond.holds .lt (lcmpW x y) = false ∧ ifCond.holds .ge (lcmpW x y) = true ∧ ifCond.holds .gt (lcmpW y x) = false ∧ ifCond.holds .le (lcmpW y x) = true := by
  have h1 := mt (lc_lt x y).mp h
  have h2 := mt (lc_gt y x).mp h
  rw [← lcW] at h1 h2
  simp only [if0]
  exact ⟨(flt h1).1, (flt h1).2.1, (flt h2).2.2.1, (flt h2).2.2.2⟩
theorem own_teqL {x y : Int64} (h : x = y) : ifCond.holds .eq (lcmpW x y) = true ∧ ifCond.holds .ne (lcmpW x y) = false := by
  have h1 := (lc_eq x y).mpr h
  rw [← lcW] at h1
  simp only [if0]
  exact teq h1
theorem own_feqL {x y : Int64} (h : ¬ x = y) : ifCond.holds .eq (lcmpW x y) = false ∧ ifCond.holds .ne (lcmpW x y) = true := by
  have h1 := mt (lc_eq x y).mp h
  rw [← lcW] at h1
  simp only [if0]
  exact feq h1
theorem own_iadd {x y : Int32} {X Y : Int} (hx : x.toInt = X) (hy : y.toInt = Y) (h1 : -2147483648 ≤ X + Y) (h2 : X + Y < 2147483648) : (x + y).toInt = X + Y := by
  have := c_iadd x y; have := rng32 (x + y); omega
theorem own_isub {x y : Int32} {X Y : Int} (hx : x.toInt = X) (hy : y.toInt = Y) (h1 : -2147483648 ≤ X - Y) (h2 : X - Y < 2147483648) : (x - y).toInt = X - Y := by
  have := c_isub x y; have := rng32 (x - y); omega
theorem own_imul {x y : Int32} {X Y : Int} (hx : x.toInt = X) (hy : y.toInt = Y) (h1 : -2147483648 ≤ X * Y) (h2 : X * Y < 2147483648) : (x * y).toInt = X * Y := by
  have := c_imul x y; have := rng32 (x * y); subst hx hy; omega
theorem own_ladd {x y : Int64} {X Y : Int} (hx : x.toInt = X) (hy : y.toInt = Y) (h1 : -9223372036854775808 ≤ X + Y) (h2 : X + Y < 9223372036854775808) : (x + y).toInt = X + Y := by
  have := c_ladd x y; have := rng64 (x + y); omega
theorem own_lsub {x y : Int64} {X Y : Int} (hx : x.toInt = X) (hy : y.toInt = Y) (h1 : -9223372036854775808 ≤ X - Y) (h2 : X - Y < 9223372036854775808) : (x - y).toInt = X - Y := by
  have := c_lsub x y; have := rng64 (x - y); omega
theorem own_lmul {x y : Int64} {X Y : Int} (hx : x.toInt = X) (hy : y.toInt = Y) (h1 : -9223372036854775808 ≤ X * Y) (h2 : X * Y < 9223372036854775808) : (x * y).toInt = X * Y := by
  have := c_lmul x y; have := rng64 (x * y); subst hx hy; omega
theorem own_maskL (x m : Int64) (k : Nat) (M : Int) (hM : m.toInt = M) (hk : k ≤ 63) (hm : m.toBitVec.toNat = 2 ^ k - 1) : 0 ≤ (x &&& m).toInt ∧ (x &&& m).toInt ≤ M := by
  have h := c_maskL x m k hk hm
  have h2 := c_maskL m m k hk hm
  have e : m &&& m = m := by simp
  rw [e] at h2
  have p : (0 : Int) < ((2 ^ k : Nat) : Int) := by have := Nat.two_pow_pos k; omega
  have a1 := Int.emod_nonneg x.toInt (show ((2 ^ k : Nat) : Int) ≠ 0 by omega)
  have a2 := Int.emod_lt_of_pos x.toInt p
  have hmi : m.toInt = ((2 ^ k - 1 : Nat) : Int) := by
    have h3 : m.toInt = (m.toBitVec.toNat : Int) := by
      show m.toBitVec.toInt = _
      rw [BitVec.toInt_eq_toNat_cond, hm]
      have : 2 ^ k ≤ 2 ^ 63 := Nat.pow_le_pow_right (by decide) hk
      split <;> omega
    rw [h3, hm]
  omega
theorem own_nb (x : Int32) : nar .byte (x.toInt8.toInt32) = x.toInt8.toInt32 := by
  show (x.toInt8.toInt32).toInt8.toInt32 = _
  simp
theorem own_sel {args : Array Value} {s : State} {y z : MethodName} (hi : (Cond.instanceMethod y).before args s = true) (hp : (Cond.privateMethod y).before args s = true) (h2 : (Cond.selects y.cls z z).before args s = true) (hc : z.cls = y.cls)
    (hy : y.cls ≠ "java/lang/invoke/MethodHandle" ∧ y.cls ≠ "java/lang/invoke/VarHandle") : (Cond.selects y.cls y y).before args s = true := by
  obtain ⟨mk, meth, hn, hm, -, -⟩ := Cond.instanceMethod_spec hi
  obtain ⟨c, r, m2, -, -, f3, -, k, f4, f5⟩ := Cond.selects_spec h2
  have e1 := findClass_of_methodNamed hn
  have e2 := findClass_of_methodNamed f3
  rw [hc, e1] at e2
  have e3 : m2.cls = mk.cls := (Option.some.inj e2).symm
  have e4 := State.methodFound?_of_named hn hy
  have e5 := selectMethod_private (p := {}) (c := mk.cls) hm (Cond.privateMethod_at hp mk meth hn hm)
  rw [e3] at f4
  simp [Cond.before, Cond.holds, Cond.value, e1, e4, hn, e5, f4, f5]
def AF (Z : State) (h : Heap) (a : Addr) (ty : FieldType) (n : Nat) (g : Nat → Value) : Prop := ∃ c : Cell, Arr Z h a c ty ∧ c.slots.size = n ∧ ∀ j, j < n → c.slots[j]? = some (g j)
abbrev AI (Z : State) (h : Heap) (a : Addr) (ty : FieldType) (n : Nat) (f : Nat → Int32) : Prop := AF Z h a ty n (fun j => .int (f j))
abbrev AJ (Z : State) (h : Heap) (a : Addr) (ty : FieldType) (n : Nat) (f : Nat → Int64) : Prop := AF Z h a ty n (fun j => .long (f j))
abbrev AD (Z : State) (h : Heap) (a : Addr) (ty : FieldType) (n : Nat) (f : Nat → UInt64) : Prop := AF Z h a ty n (fun j => .double (f j))
def up {α : Type} (f : Nat → α) (i : Nat) (v : α) : Nat → α := fun j => if j = i then v else f j
def zI : Nat → Int32 := fun _ => 0
def zJ : Nat → Int64 := fun _ => 0
section Arrs
variable {Z : State} {h h' : Heap} {a b : Addr} {ty : FieldType} {n : Nat} {g g' : Nat → Value}
theorem AF.lt (F : AF Z h a ty n g) : a < h.size := by obtain ⟨c, A, -⟩ := F; exact A.lt
theorem AF.ext (F : AF Z h a ty n g) (E : Ext h h') : AF Z h' a ty n g := by obtain ⟨c, A, r⟩ := F; exact ⟨c, A.ext E, r⟩
theorem AF.other {sl : Nat} {v : Value} (F : AF Z h b ty n g) (W : Wr h h' a sl v) (q : b ≠ a) : AF Z h' b ty n g := by obtain ⟨c, A, r⟩ := F; exact ⟨c, A.other W q, r⟩
theorem AF.keep {ws : List Addr} (F : AF Z h a ty n g) (K : Keep h h' ws) (q : a ∉ ws) : AF Z h' a ty n g := by obtain ⟨c, A, r⟩ := F; exact ⟨c, ⟨K.2.1 a c A.1 q, A.2⟩, r⟩
theorem AF.re (F : AF Z h a ty n g) (q : ∀ j, j < n → g j = g' j) : AF Z h a ty n g' := by obtain ⟨c, A, S, H⟩ := F; exact ⟨c, A, S, fun j hj => by rw [H j hj, q j hj]⟩
theorem AF.at (F : AF Z h a ty n g) {j : Int32} (i : Nat) (hj : j.toInt = i) (hi : i < n) : ∃ c : Cell, Arr Z h a c ty ∧ ¬ (j < 0 ∨ c.slots.size ≤ j.toNatClampNeg) ∧ c.slots[j.toNatClampNeg]? = some (g i) := by
  obtain ⟨c, A, S, H⟩ := F
  have e : j.toNatClampNeg = i := by simp only [Int32.toNatClampNeg, hj]; omega
  refine ⟨c, A, ?_, by rw [e]; exact H i hi⟩
  rw [e, S, Int32.lt_iff_toInt_lt, hj]
  have : (0 : Int32).toInt = 0 := rfl
  omega
theorem AF.len (F : AF Z h a ty n g) : ∃ c : Cell, Arr Z h a c ty ∧ c.slots.size = n := by obtain ⟨c, A, S, -⟩ := F; exact ⟨c, A, S⟩
theorem AF.set {k : Nat} {v : Value} (F : AF Z h a ty n g) (W : Wr h h' a k v) : AF Z h' a ty n (fun j => if j = k then v else g j) := by
  obtain ⟨c, A, S, H⟩ := F
  refine ⟨_, A.same W, by rw [sz_set]; exact S, fun j hj => ?_⟩
  by_cases q : j = k
  · subst q; simp [Cell.setSlot, S, hj]
  · show _ = some (if j = k then v else g j)
    rw [if_neg q]; have := H j hj; simp only [Cell.setSlot] at this ⊢; rw [Array.getElem?_setIfInBounds_ne (Ne.symm q)]; exact this
theorem own_tn {j : Int32} {i : Nat} (hj : j.toInt = i) : j.toNatClampNeg = i := by simp only [Int32.toNatClampNeg, hj]; omega
theorem AF.setI {f : Nat → Int32} {j : Int32} {v : Int32} (F : AI Z h a ty n f) (W : Wr h h' a j.toNatClampNeg (.int v)) (i : Nat) (hj : j.toInt = i) : AI Z h' a ty n (up f i v) := by
  rw [own_tn hj] at W
  exact (AF.set F W).re fun k _ => by by_cases q : k = i <;> simp [up, q]
theorem AF.setJ {f : Nat → Int64} {j : Int32} {v : Int64} (F : AJ Z h a ty n f) (W : Wr h h' a j.toNatClampNeg (.long v)) (i : Nat) (hj : j.toInt = i) : AJ Z h' a ty n (up f i v) := by
  rw [own_tn hj] at W
  exact (AF.set F W).re fun k _ => by by_cases q : k = i <;> simp [up, q]
theorem AF.setD {f : Nat → UInt64} {j : Int32} {v : UInt64} (F : AD Z h a ty n f) (W : Wr h h' a j.toNatClampNeg (.double v)) (i : Nat) (hj : j.toInt = i) : AD Z h' a ty n (up f i v) := by
  rw [own_tn hj] at W
  exact (AF.set F W).re fun k _ => by by_cases q : k = i <;> simp [up, q]
theorem AF.new {k : ClassId} {z : Int32} (A : Arr Z h a (newA k ty z) ty) (hz : z.toInt = n) : AF Z h a ty n (fun _ => defaultValue ty) :=
  ⟨_, A, by rw [sz_new]; exact own_tn hz, fun j hj => by simp [newA, own_tn hz, hj]⟩
end Arrs
end Jvm.RoadKit
namespace Jvm.Pilot.@@N@@
open Jvm Jvm.ClassFile Sem Op Lib Jvm.Free Jvm.Stand Jvm.LawKit Jvm.RoadKit Bundle Jvm.Pilot.@@N@@.Jvm.D
theorem ef_1 (m : MethodId) (xa : Int64) (xb : Int64) : entryFrame m #[(.long xa), (.long xb)] 4 = mkF m 0 #[.val (.long xa), .second, .val (.long xb), .second] [] := by first | (simp [entryFrame, mkF, argsToLocals, Value.category]; done) | rfl
theorem d1_0 : decode jdk_29_method_66_code 0 = .ok (.lload_n 0, 1) := by decide +kernel
theorem d1_1 : decode jdk_29_method_66_code 1 = .ok (.lload_n 2, 1) := by decide +kernel
theorem d1_2 : decode jdk_29_method_66_code 2 = .ok (.lcmp, 1) := by decide +kernel
theorem d1_3 : decode jdk_29_method_66_code 3 = .ok (.ifCond .lt 7, 3) := by decide +kernel
theorem d1_10 : decode jdk_29_method_66_code 10 = .ok (.lload_n 2, 1) := by decide +kernel
theorem d1_11 : decode jdk_29_method_66_code 11 = .ok (.lreturn, 1) := by decide +kernel
theorem d1_6 : decode jdk_29_method_66_code 6 = .ok (.lload_n 0, 1) := by decide +kernel
theorem d1_7 : decode jdk_29_method_66_code 7 = .ok (.goto 4, 3) := by decide +kernel
def r1_v (xa : Int64) (xb : Int64) : Int64 := (if xa < xb then xb else xa)
def Q1 (Z : State) (xa : Int64) (xb : Int64) (h0 : Heap) (n0 : Nat) (v : Option Value) (h : Heap) (L : List Loc) : Prop := v = some (.long (r1_v xa xb)) ∧ Fr n0 L ∧ h = h0
set_option maxRecDepth 65536 in
set_option maxHeartbeats 40000000 in
theorem rm1 (l : Launch) (Z : State) (a0 : Array Value) (hw : ∀ d ∈ tables_1, d.before a0 Z = true) (ws : List Jvm.Cond) (xa : Int64) (xb : Int64) (h0 : Heap) (n0 : Nat) (Z0 : n0 ≤ h0.size) :
    MetFree l (⟨"java/lang/Math", "max", "(JJ)J"⟩ : MethodName) (head1 (Jvm.Cond.code (⟨"java/lang/Math", "max", "(JJ)J"⟩ : MethodName) jdk_29_method_66_code 4 (some .long) :: ws) ({ frames := 0, cells := 0, slots := 0, locals := 0 } : Room)) (fun a U => a = #[(.long xa), (.long xb)] ∧ Z.Warmed39 U.vm ∧ U.heap = h0) (fun _ _ _ _ _ => True) (fun _ U o U' => ∃ v L, o = .returned v ∧ Q1 Z xa xb h0 n0 v U'.heap L ∧ FrameEnd U o U' L ({ frames := 0, cells := 0, slots := 0, locals := 0 } : Room).cells ({ frames := 0, cells := 0, slots := 0, locals := 0 } : Room).slots) := by
  refine MetFree.of_bodySF (Jvm.Free.JP.mathPlain rfl (by decide +kernel)) hisR ?_
  intro p e s m args below meth c s₁ Bd hml0 hP hK
  obtain ⟨rfl, hZ, hh⟩ := hP
  have hx := Bd.exec
  have hby := Bd.bytes
  have hml : c.maxLocals = 4 := hml0
  have hown : s.vm.findClass "java/lang/Math" = some m.cls := findClass_of_methodNamed Bd.named
  have hnm := (name_of_methodNamed Bd.named Bd.method).1
  have X0 : Stand p l e ({ frames := 0, cells := 0, slots := 0, locals := 0 } : Room) s m #[(.long xa), (.long xb)] below meth c s₁ [] 0 0 := Stand.of_body Bd
  have e0 : s₁.heap = h0 := by rw [← hh, Bd.state]; rfl
  have N0 := Fr.nil n0
  have K0 : Keep h0 h0 [] := Keep.refl h0 _
  have pre0 : ∀ t, Steps p.tables e below (s₁.setTop (mkF m 0 #[.val (.long xa), .second, .val (.long xb), .second] [])) t → Steps p.tables e below (s₁.setTop (entryFrame m #[(.long xa), (.long xb)] 4)) t := fun t k => castTop (ef_1 m xa xb) k
  have pre1 : ∀ t, Steps p.tables e below (s₁.setTop (mkF m 3 #[.val (.long xa), .second, .val (.long xb), .second] [(.int (lcmpW xa xb))])) t → Steps p.tables e below (s₁.setTop (entryFrame m #[(.long xa), (.long xb)] 4)) t := by
    intro t k
    refine pre0 _ ?_
    show Steps p.tables e below (s₁.setTop (mkF m 0 #[.val (.long xa), .second, .val (.long xb), .second] [])) _
    refine XS.lloadN X0.here hx rfl (hb hby d1_0) rfl ?_
    show Steps p.tables e below (s₁.setTop (mkF m 1 #[.val (.long xa), .second, .val (.long xb), .second] [(.long xa)])) _
    refine XS.lloadN X0.here hx rfl (hb hby d1_1) rfl ?_
    show Steps p.tables e below (s₁.setTop (mkF m 2 #[.val (.long xa), .second, .val (.long xb), .second] [(.long xb), (.long xa)])) _
    refine XS.lcmp X0.here hx rfl (hb hby d1_2) rfl ?_
    exact k
  by_cases hk2 : xa < xb
  · obtain ⟨fs, hr, hrun, hended, hW, hsame⟩ := X0.leave (v := some (.long xb)) (fun h => by rw [Bd.returns] at h; cases h)
    refine ⟨_, _, pre1 _ ?_, hrun, hended, _, _, rfl, ?_, ⟨_, rfl⟩, hW, hsame.mono (by decide) (by decide)⟩
    · show Steps p.tables e below (s₁.setTop (mkF m 3 #[.val (.long xa), .second, .val (.long xb), .second] [(.int (lcmpW xa xb))])) _
      refine XS.ifYes X0.here hx rfl (pc0 := 3) (pc' := 10) rfl (hb hby d1_3) rfl (own_tltL hk2).1 (by decide) (by decide) ?_
      show Steps p.tables e below (s₁.setTop (mkF m 10 #[.val (.long xa), .second, .val (.long xb), .second] [])) _
      refine XS.lloadN X0.here hx rfl (hb hby d1_10) rfl ?_
      show Steps p.tables e below (s₁.setTop (mkF m 11 #[.val (.long xa), .second, .val (.long xb), .second] [(.long xb)])) _
      exact retOut X0 hx Bd.returns rfl (Or.inr (Or.inl ⟨rfl, rfl, _, rfl⟩)) (hb hby d1_11) hr
    · show Q1 Z xa xb h0 n0 _ s₁.heap _
      rw [e0]
      have ev3 : (r1_v xa xb) = xb := by unfold r1_v; rw [if_pos hk2]
      exact ⟨(congrArg (fun z => some (Value.long z)) ev3.symm), N0, rfl⟩
  · obtain ⟨fs, hr, hrun, hended, hW, hsame⟩ := X0.leave (v := some (.long xa)) (fun h => by rw [Bd.returns] at h; cases h)
    refine ⟨_, _, pre1 _ ?_, hrun, hended, _, _, rfl, ?_, ⟨_, rfl⟩, hW, hsame.mono (by decide) (by decide)⟩
    · show Steps p.tables e below (s₁.setTop (mkF m 3 #[.val (.long xa), .second, .val (.long xb), .second] [(.int (lcmpW xa xb))])) _
      refine XS.ifNo X0.here hx rfl (hb hby d1_3) rfl (own_fltL hk2).1 ?_
      show Steps p.tables e below (s₁.setTop (mkF m 6 #[.val (.long xa), .second, .val (.long xb), .second] [])) _
      refine XS.lloadN X0.here hx rfl (hb hby d1_6) rfl ?_
      show Steps p.tables e below (s₁.setTop (mkF m 7 #[.val (.long xa), .second, .val (.long xb), .second] [(.long xa)])) _
      refine XS.goto X0.here hx rfl (pc0 := 7) (pc' := 11) rfl (hb hby d1_7) (by decide) (by decide) ?_
      show Steps p.tables e below (s₁.setTop (mkF m 11 #[.val (.long xa), .second, .val (.long xb), .second] [(.long xa)])) _
      exact retOut X0 hx Bd.returns rfl (Or.inr (Or.inl ⟨rfl, rfl, _, rfl⟩)) (hb hby d1_11) hr
    · show Q1 Z xa xb h0 n0 _ s₁.heap _
      rw [e0]
      have ev4 : (r1_v xa xb) = xa := by unfold r1_v; rw [if_neg hk2]
      exact ⟨(congrArg (fun z => some (Value.long z)) ev4.symm), N0, rfl⟩
theorem d2_0 : decode prog_39_method_1_code 0 = .ok (.aload_n 0, 1) := by decide +kernel
theorem d2_1 : decode prog_39_method_1_code 1 = .ok (.invokespecial 1, 3) := by decide +kernel
theorem d2_4 : decode prog_39_method_1_code 4 = .ok (.lload_n 1, 1) := by decide +kernel
theorem d2_5 : decode prog_39_method_1_code 5 = .ok (.lconst 1, 1) := by decide +kernel
theorem d2_6 : decode prog_39_method_1_code 6 = .ok (.lcmp, 1) := by decide +kernel
theorem d2_7 : decode prog_39_method_1_code 7 = .ok (.ifCond .ge 17, 3) := by decide +kernel
theorem d2_24 : decode prog_39_method_1_code 24 = .ok (.aload_n 0, 1) := by decide +kernel
theorem d2_25 : decode prog_39_method_1_code 25 = .ok (.getstatic 16, 3) := by decide +kernel
theorem d2_28 : decode prog_39_method_1_code 28 = .ok (.lload_n 1, 1) := by decide +kernel
theorem d2_29 : decode prog_39_method_1_code 29 = .ok (.ldiv, 1) := by decide +kernel
theorem d2_30 : decode prog_39_method_1_code 30 = .ok (.getstatic 16, 3) := by decide +kernel
theorem d2_33 : decode prog_39_method_1_code 33 = .ok (.lload_n 1, 1) := by decide +kernel
theorem d2_34 : decode prog_39_method_1_code 34 = .ok (.lrem, 1) := by decide +kernel
theorem d2_35 : decode prog_39_method_1_code 35 = .ok (.lconst 0, 1) := by decide +kernel
theorem d2_36 : decode prog_39_method_1_code 36 = .ok (.lcmp, 1) := by decide +kernel
theorem d2_37 : decode prog_39_method_1_code 37 = .ok (.ifCond .ne 7, 3) := by decide +kernel
theorem d2_40 : decode prog_39_method_1_code 40 = .ok (.iconst 0, 1) := by decide +kernel
theorem d2_41 : decode prog_39_method_1_code 41 = .ok (.goto 4, 3) := by decide +kernel
theorem d2_44 : decode prog_39_method_1_code 44 = .ok (.iconst 1, 1) := by decide +kernel
theorem d2_45 : decode prog_39_method_1_code 45 = .ok (.i2l, 1) := by decide +kernel
theorem d2_46 : decode prog_39_method_1_code 46 = .ok (.ladd, 1) := by decide +kernel
theorem d2_47 : decode prog_39_method_1_code 47 = .ok (.putfield 22, 3) := by decide +kernel
theorem d2_50 : decode prog_39_method_1_code 50 = .ok (.aload_n 0, 1) := by decide +kernel
theorem d2_51 : decode prog_39_method_1_code 51 = .ok (.aload_n 0, 1) := by decide +kernel
theorem d2_52 : decode prog_39_method_1_code 52 = .ok (.getfield 22, 3) := by decide +kernel
theorem d2_55 : decode prog_39_method_1_code 55 = .ok (.getstatic 25, 3) := by decide +kernel
theorem pd_0 : parseMethodDescriptor "(JJ)J" = some ⟨[.long, .long], some .long⟩ := by decide +kernel
theorem d2_58 : decode prog_39_method_1_code 58 = .ok (.invokestatic 28, 3) := by decide +kernel
theorem d2_61 : decode prog_39_method_1_code 61 = .ok (.putfield 34, 3) := by decide +kernel
theorem d2_64 : decode prog_39_method_1_code 64 = .ok (.aload_n 0, 1) := by decide +kernel
theorem d2_65 : decode prog_39_method_1_code 65 = .ok (.lload_n 3, 1) := by decide +kernel
theorem d2_66 : decode prog_39_method_1_code 66 = .ok (.putfield 37, 3) := by decide +kernel
theorem d2_69 : decode prog_39_method_1_code 69 = .ok (.return_, 1) := by decide +kernel
theorem ef_2 (m : MethodId) (ra : Addr) (pa : Int64) (sa : Int64) : entryFrame m #[(.ref ra), (.long pa), (.long sa)] 5 = mkF m 0 #[.val (.ref ra), .val (.long pa), .second, .val (.long sa), .second] [] := by first | (simp [entryFrame, mkF, argsToLocals, Value.category]; done) | rfl
def j2_37_s0 (pa : Int64) : Int32 := (if ((1000000000 : Int64) % pa) = (0 : Int64) then (0 : Int32) else (1 : Int32))
theorem pn_com_example_hikyaku_hikyaku_mqtt_Pacer : plainName "com/example/hikyaku/hikyaku/mqtt/Pacer" = true := by first | (simp [plainName, overriddenIn]; done) | decide +kernel
def Q2 (Z : State) (ra : Addr) (pa : Int64) (sa : Int64) (u_turnNanos_ra : Int64) (u_lateNanos_ra : Int64) (u_turnAt_ra : Int64) (h0 : Heap) (n0 : Nat) (v : Option Value) (h : Heap) (L : List Loc) : Prop := v = none ∧ Fr n0 L ∧ Keep h0 h [ra] ∧ Fld Z h ra "com/example/hikyaku/hikyaku/mqtt/Pacer" "turnNanos" "J" (.long (((1000000000 : Int64) / pa) + ((j2_37_s0 pa).toInt64))) ∧ Fld Z h ra "com/example/hikyaku/hikyaku/mqtt/Pacer" "lateNanos" "J" (.long (r1_v (((1000000000 : Int64) / pa) + ((j2_37_s0 pa).toInt64)) (5000000 : Int64))) ∧ Fld Z h ra "com/example/hikyaku/hikyaku/mqtt/Pacer" "turnAt" "J" (.long sa)
set_option maxRecDepth 65536 in
set_option maxHeartbeats 40000000 in
theorem rm2 (l : Launch) (Z : State) (a0 : Array Value) (hw : ∀ d ∈ tables_1, d.before a0 Z = true) (ws : List Jvm.Cond) (ra : Addr) (pa : Int64) (sa : Int64) (u_turnNanos_ra : Int64) (u_lateNanos_ra : Int64) (u_turnAt_ra : Int64) (h0 : Heap) (n0 : Nat) (Z0 : n0 ≤ h0.size) (S_NANOS_PER_SECOND : Sta Z h0 "com/example/hikyaku/hikyaku/mqtt/Pacer" "NANOS_PER_SECOND" "J" (.long (1000000000 : Int64))) (S_LATE_NANOS : Sta Z h0 "com/example/hikyaku/hikyaku/mqtt/Pacer" "LATE_NANOS" "J" (.long (5000000 : Int64))) (hnz : pa ≠ (0 : Int64)) (E_ra : Exa Z h0 ra "com/example/hikyaku/hikyaku/mqtt/Pacer") (F_turnNanos_ra : Fld Z h0 ra "com/example/hikyaku/hikyaku/mqtt/Pacer" "turnNanos" "J" (.long u_turnNanos_ra)) (F_lateNanos_ra : Fld Z h0 ra "com/example/hikyaku/hikyaku/mqtt/Pacer" "lateNanos" "J" (.long u_lateNanos_ra)) (F_turnAt_ra : Fld Z h0 ra "com/example/hikyaku/hikyaku/mqtt/Pacer" "turnAt" "J" (.long u_turnAt_ra)) (hc7 : ¬ (pa < (1 : Int64))) (g_ra : n0 ≤ ra) :
    MetFree l (⟨"com/example/hikyaku/hikyaku/mqtt/Pacer", "<init>", "(JJ)V"⟩ : MethodName) (head1 (Jvm.Cond.code (⟨"com/example/hikyaku/hikyaku/mqtt/Pacer", "<init>", "(JJ)V"⟩ : MethodName) prog_39_method_1_code 5 none :: ws) ({ frames := 1, cells := 0, slots := 0, locals := 16 } : Room)) (fun a U => a = #[(.ref ra), (.long pa), (.long sa)] ∧ Z.Warmed39 U.vm ∧ U.heap = h0) (fun _ _ _ _ _ => True) (fun _ U o U' => ∃ v L, o = .returned v ∧ Q2 Z ra pa sa u_turnNanos_ra u_lateNanos_ra u_turnAt_ra h0 n0 v U'.heap L ∧ FrameEnd U o U' L ({ frames := 1, cells := 0, slots := 0, locals := 16 } : Room).cells ({ frames := 1, cells := 0, slots := 0, locals := 16 } : Room).slots) := by
  refine MetFree.of_bodySF (plainFor_of_name pn_com_example_hikyaku_hikyaku_mqtt_Pacer) hisR ?_
  intro p e s m args below meth c s₁ Bd hml0 hP hK
  obtain ⟨rfl, hZ, hh⟩ := hP
  have hx := Bd.exec
  have hby := Bd.bytes
  have hml : c.maxLocals = 5 := hml0
  have hown : s.vm.findClass "com/example/hikyaku/hikyaku/mqtt/Pacer" = some m.cls := findClass_of_methodNamed Bd.named
  have hnm := (name_of_methodNamed Bd.named Bd.method).1
  have X0 : Stand p l e ({ frames := 1, cells := 0, slots := 0, locals := 16 } : Room) s m #[(.ref ra), (.long pa), (.long sa)] below meth c s₁ [] 0 0 := Stand.of_body Bd
  have e0 : s₁.heap = h0 := by rw [← hh, Bd.state]; rfl
  have N0 := Fr.nil n0
  have K0 : Keep h0 h0 [ra] := Keep.refl h0 _
  have pre0 : ∀ t, Steps p.tables e below (s₁.setTop (mkF m 0 #[.val (.ref ra), .val (.long pa), .second, .val (.long sa), .second] [])) t → Steps p.tables e below (s₁.setTop (entryFrame m #[(.ref ra), (.long pa), (.long sa)] 5)) t := fun t k => castTop (ef_2 m ra pa sa) k
  obtain ⟨T1, X1, e1, st1⟩ := initO X0 hx hZ hown (hw _ (List.mem_of_getElem? (i := 13) rfl)) (hw _ (List.mem_of_getElem? (i := 14) rfl)) (hw _ (List.mem_of_getElem? (i := 15) rfl)) e0 (g := (mkF m 1 #[.val (.ref ra), .val (.long pa), .second, .val (.long sa), .second] [(.ref ra)])) rfl (by rw [hml]; rfl) rfl (hb hby d2_1) (by decide) (W := 0) (by show 2 * 0 + _ ≤ _; exact Nat.le_of_eq rfl) (by decide)
  obtain ⟨T2, X2, e2, st2⟩ := getS2 X1 hx hZ hown (host := "") (Or.inl (hw _ (List.mem_of_getElem? (i := 16) rfl))) Via.refl e1 S_NANOS_PER_SECOND (g := (mkF m 25 #[.val (.ref ra), .val (.long pa), .second, .val (.long sa), .second] [(.ref ra)])) rfl (hb hby d2_25)
  obtain ⟨T3, X3, e3, st3⟩ := getS2 X2 hx hZ hown (host := "") (Or.inl (hw _ (List.mem_of_getElem? (i := 16) rfl))) Via.refl e2 S_NANOS_PER_SECOND (g := (mkF m 30 #[.val (.ref ra), .val (.long pa), .second, .val (.long sa), .second] [(.long ((1000000000 : Int64) / pa)), (.ref ra)])) rfl (hb hby d2_30)
  have pre7 : ∀ t, Steps p.tables e below (T3.setTop (mkF m 37 #[.val (.ref ra), .val (.long pa), .second, .val (.long sa), .second] [(.int (lcmpW ((1000000000 : Int64) % pa) (0 : Int64))), (.long ((1000000000 : Int64) / pa)), (.ref ra)])) t → Steps p.tables e below (s₁.setTop (entryFrame m #[(.ref ra), (.long pa), (.long sa)] 5)) t := by
    intro t k
    refine pre0 _ ?_
    show Steps p.tables e below (s₁.setTop (mkF m 0 #[.val (.ref ra), .val (.long pa), .second, .val (.long sa), .second] [])) _
    refine XS.aloadN X0.here hx rfl (hb hby d2_0) rfl rfl ?_
    show Steps p.tables e below (s₁.setTop (mkF m 1 #[.val (.ref ra), .val (.long pa), .second, .val (.long sa), .second] [(.ref ra)])) _
    refine st1 _ ?_
    show Steps p.tables e below (T1.setTop (mkF m 4 #[.val (.ref ra), .val (.long pa), .second, .val (.long sa), .second] [])) _
    refine XS.lloadN X1.here hx rfl (hb hby d2_4) rfl ?_
    show Steps p.tables e below (T1.setTop (mkF m 5 #[.val (.ref ra), .val (.long pa), .second, .val (.long sa), .second] [(.long pa)])) _
    refine XS.lconst X1.here hx rfl (hb hby d2_5) ?_
    show Steps p.tables e below (T1.setTop (mkF m 6 #[.val (.ref ra), .val (.long pa), .second, .val (.long sa), .second] [(.long (1 : Int64)), (.long pa)])) _
    refine XS.lcmp X1.here hx rfl (hb hby d2_6) rfl ?_
    show Steps p.tables e below (T1.setTop (mkF m 7 #[.val (.ref ra), .val (.long pa), .second, .val (.long sa), .second] [(.int (lcmpW pa (1 : Int64)))])) _
    refine XS.ifYes X1.here hx rfl (pc0 := 7) (pc' := 24) rfl (hb hby d2_7) rfl (own_fltL hc7).2.1 (by decide) (by decide) ?_
    show Steps p.tables e below (T1.setTop (mkF m 24 #[.val (.ref ra), .val (.long pa), .second, .val (.long sa), .second] [])) _
    refine XS.aloadN X1.here hx rfl (hb hby d2_24) rfl rfl ?_
    show Steps p.tables e below (T1.setTop (mkF m 25 #[.val (.ref ra), .val (.long pa), .second, .val (.long sa), .second] [(.ref ra)])) _
    refine st2 _ ?_
    show Steps p.tables e below (T2.setTop (mkF m 28 #[.val (.ref ra), .val (.long pa), .second, .val (.long sa), .second] [(.long (1000000000 : Int64)), (.ref ra)])) _
    refine XS.lloadN X2.here hx rfl (hb hby d2_28) rfl ?_
    show Steps p.tables e below (T2.setTop (mkF m 29 #[.val (.ref ra), .val (.long pa), .second, .val (.long sa), .second] [(.long pa), (.long (1000000000 : Int64)), (.ref ra)])) _
    refine XS.ldiv X2.here hx rfl (hb hby d2_29) rfl (hnz) ?_
    show Steps p.tables e below (T2.setTop (mkF m 30 #[.val (.ref ra), .val (.long pa), .second, .val (.long sa), .second] [(.long ((1000000000 : Int64) / pa)), (.ref ra)])) _
    refine st3 _ ?_
    show Steps p.tables e below (T3.setTop (mkF m 33 #[.val (.ref ra), .val (.long pa), .second, .val (.long sa), .second] [(.long (1000000000 : Int64)), (.long ((1000000000 : Int64) / pa)), (.ref ra)])) _
    refine XS.lloadN X3.here hx rfl (hb hby d2_33) rfl ?_
    show Steps p.tables e below (T3.setTop (mkF m 34 #[.val (.ref ra), .val (.long pa), .second, .val (.long sa), .second] [(.long pa), (.long (1000000000 : Int64)), (.long ((1000000000 : Int64) / pa)), (.ref ra)])) _
    refine own_lremM X3 hx rfl (hb hby d2_34) rfl (hnz) ?_
    show Steps p.tables e below (T3.setTop (mkF m 35 #[.val (.ref ra), .val (.long pa), .second, .val (.long sa), .second] [(.long ((1000000000 : Int64) % pa)), (.long ((1000000000 : Int64) / pa)), (.ref ra)])) _
    refine XS.lconst X3.here hx rfl (hb hby d2_35) ?_
    show Steps p.tables e below (T3.setTop (mkF m 36 #[.val (.ref ra), .val (.long pa), .second, .val (.long sa), .second] [(.long (0 : Int64)), (.long ((1000000000 : Int64) % pa)), (.long ((1000000000 : Int64) / pa)), (.ref ra)])) _
    refine XS.lcmp X3.here hx rfl (hb hby d2_36) rfl ?_
    exact k
  have pre8 : ∀ t, Steps p.tables e below (T3.setTop (mkF m 45 #[.val (.ref ra), .val (.long pa), .second, .val (.long sa), .second] [(.int (j2_37_s0 pa)), (.long ((1000000000 : Int64) / pa)), (.ref ra)])) t → Steps p.tables e below (s₁.setTop (entryFrame m #[(.ref ra), (.long pa), (.long sa)] 5)) t := by
    intro t k
    refine pre7 _ ?_
    by_cases hk4 : ((1000000000 : Int64) % pa) = (0 : Int64)
    · show Steps p.tables e below (T3.setTop (mkF m 37 #[.val (.ref ra), .val (.long pa), .second, .val (.long sa), .second] [(.int (lcmpW ((1000000000 : Int64) % pa) (0 : Int64))), (.long ((1000000000 : Int64) / pa)), (.ref ra)])) _
      refine XS.ifNo X3.here hx rfl (hb hby d2_37) rfl (own_teqL hk4).2 ?_
      show Steps p.tables e below (T3.setTop (mkF m 40 #[.val (.ref ra), .val (.long pa), .second, .val (.long sa), .second] [(.long ((1000000000 : Int64) / pa)), (.ref ra)])) _
      refine XS.iconst X3.here hx rfl (hb hby d2_40) ?_
      show Steps p.tables e below (T3.setTop (mkF m 41 #[.val (.ref ra), .val (.long pa), .second, .val (.long sa), .second] [(.int (0 : Int32)), (.long ((1000000000 : Int64) / pa)), (.ref ra)])) _
      refine XS.goto X3.here hx rfl (pc0 := 41) (pc' := 45) rfl (hb hby d2_41) (by decide) (by decide) ?_
      have ev5 : (j2_37_s0 pa) = (0 : Int32) := by unfold j2_37_s0; rw [if_pos hk4]
      rw [ev5] at k
      exact k
    · show Steps p.tables e below (T3.setTop (mkF m 37 #[.val (.ref ra), .val (.long pa), .second, .val (.long sa), .second] [(.int (lcmpW ((1000000000 : Int64) % pa) (0 : Int64))), (.long ((1000000000 : Int64) / pa)), (.ref ra)])) _
      refine XS.ifYes X3.here hx rfl (pc0 := 37) (pc' := 44) rfl (hb hby d2_37) rfl (own_feqL hk4).2 (by decide) (by decide) ?_
      show Steps p.tables e below (T3.setTop (mkF m 44 #[.val (.ref ra), .val (.long pa), .second, .val (.long sa), .second] [(.long ((1000000000 : Int64) / pa)), (.ref ra)])) _
      refine XS.iconst X3.here hx rfl (hb hby d2_44) ?_
      have ev6 : (j2_37_s0 pa) = (1 : Int32) := by unfold j2_37_s0; rw [if_neg hk4]
      rw [ev6] at k
      exact k
  obtain ⟨T9, h9, X9, e9, W9, st9⟩ := putF X3 hx hZ hown (host := "") (Or.inl (hw _ (List.mem_of_getElem? (i := 18) rfl))) Via.refl e3 F_turnNanos_ra E_ra (Or.inr ⟨(hw _ (List.mem_of_getElem? (i := 19) rfl)), rfl, hnm⟩) (hw _ (List.mem_of_getElem? (i := 8) rfl)) (ty := .long) (by decide) rfl rfl (g := (mkF m 47 #[.val (.ref ra), .val (.long pa), .second, .val (.long sa), .second] [(.long (((1000000000 : Int64) / pa) + ((j2_37_s0 pa).toInt64))), (.ref ra)])) rfl rfl (hb hby d2_47)
  have N9 := Fr.snoc X9 N0 g_ra
  have Z9 : n0 ≤ h9.size := Nat.le_trans Z0 (Keep.of_wr W9).1
  have K9 : Keep h0 h9 [ra] := K0.wr W9 (Or.inl (List.mem_of_getElem? (i := 0) rfl))
  have f10 : Fld Z h9 ra "com/example/hikyaku/hikyaku/mqtt/Pacer" "turnNanos" "J" (.long (((1000000000 : Int64) / pa) + ((j2_37_s0 pa).toInt64))) := F_turnNanos_ra.same W9
  have f11 : Sta Z h9 "com/example/hikyaku/hikyaku/mqtt/Pacer" "NANOS_PER_SECOND" "J" (.long (1000000000 : Int64)) := S_NANOS_PER_SECOND.wr W9
  have f12 : Sta Z h9 "com/example/hikyaku/hikyaku/mqtt/Pacer" "LATE_NANOS" "J" (.long (5000000 : Int64)) := S_LATE_NANOS.wr W9
  have f13 : Exa Z h9 ra "com/example/hikyaku/hikyaku/mqtt/Pacer" := E_ra.wr W9
  have f14 : Fld Z h9 ra "com/example/hikyaku/hikyaku/mqtt/Pacer" "lateNanos" "J" (.long u_lateNanos_ra) := F_lateNanos_ra.other W9 (Or.inr (slot_ne (Or.inr (hw _ (List.mem_of_getElem? (i := 24) rfl))) (Or.inr (hw _ (List.mem_of_getElem? (i := 19) rfl))) (by decide) (t := .long) (t' := .long) (by decide) (by decide)))
  have f15 : Fld Z h9 ra "com/example/hikyaku/hikyaku/mqtt/Pacer" "turnAt" "J" (.long u_turnAt_ra) := F_turnAt_ra.other W9 (Or.inr (slot_ne (Or.inl (hw _ (List.mem_of_getElem? (i := 26) rfl))) (Or.inr (hw _ (List.mem_of_getElem? (i := 19) rfl))) (by decide) (t := .long) (t' := .long) (by decide) (by decide)))
  obtain ⟨T16, X16, e16, st16⟩ := getF X9 hx hZ hown (host := "") (Or.inl (hw _ (List.mem_of_getElem? (i := 18) rfl))) Via.refl e9 f10 (g := (mkF m 52 #[.val (.ref ra), .val (.long pa), .second, .val (.long sa), .second] [(.ref ra), (.ref ra)])) rfl rfl (hb hby d2_52)
  obtain ⟨T17, X17, e17, st17⟩ := getS2 X16 hx hZ hown (host := "") (Or.inl (hw _ (List.mem_of_getElem? (i := 20) rfl))) Via.refl e16 f12 (g := (mkF m 55 #[.val (.ref ra), .val (.long pa), .second, .val (.long sa), .second] [(.long (((1000000000 : Int64) / pa) + ((j2_37_s0 pa).toInt64))), (.ref ra)])) rfl (hb hby d2_55)
  obtain ⟨_, _, ⟨T18, L18, k18, n18⟩, -, X18, ⟨Lc18, hQ18, l18, y18, z18⟩, st18⟩ := Jvm.LawKit.callS X17 hx (y := (⟨"java/lang/Math", "max", "(JJ)J"⟩ : MethodName)) hown (mvT hZ (hw _ (List.mem_of_getElem? (i := 22) rfl))) (mvT hZ (hw _ (List.mem_of_getElem? (i := 2) rfl))) (mvT hZ (hw _ (List.mem_of_getElem? (i := 3) rfl))) (mvT hZ (hw _ (List.mem_of_getElem? (i := 4) rfl))) (by decide) (backOf (W := 1) (rm1 l Z a0 hw [] (((1000000000 : Int64) / pa) + ((j2_37_s0 pa).toInt64)) (5000000 : Int64) h9 n0 Z9 ) hZ (hw _ (List.mem_of_getElem? (i := 4) rfl)) (hw _ (List.mem_of_getElem? (i := 3) rfl)) (by decide) (by decide)) (g := (mkF m 58 #[.val (.ref ra), .val (.long pa), .second, .val (.long sa), .second] [(.long (5000000 : Int64)), (.long (((1000000000 : Int64) / pa) + ((j2_37_s0 pa).toInt64))), (.ref ra)])) rfl (by rw [hml]; rfl) (argsL := [(.long (((1000000000 : Int64) / pa) + ((j2_37_s0 pa).toInt64))), (.long (5000000 : Int64))]) (rest := [(.ref ra)]) (lenOf pd_0 rfl) rfl (by show 2 * 0 + _ ≤ _; exact Nat.le_of_eq rfl) (hb hby d2_58) (fun _ _ => ⟨rfl, e17, (by decide : 0 + 0 ≤ _), (by decide : 0 + 0 ≤ _)⟩)
  dsimp only [Pt.U, Pt.locs, Pt.cells, Pt.slots] at X18 l18 y18 z18 st18 hQ18
  subst l18 y18 z18
  obtain ⟨rfl, N18q, e18⟩ := hQ18
  have N18 := Fr.app N9 N18q
  obtain ⟨T19, h19, X19, e19, W19, st19⟩ := putF X18 hx hZ hown (host := "") (Or.inl (hw _ (List.mem_of_getElem? (i := 23) rfl))) Via.refl e18 f14 f13 (Or.inr ⟨(hw _ (List.mem_of_getElem? (i := 24) rfl)), rfl, hnm⟩) (hw _ (List.mem_of_getElem? (i := 8) rfl)) (ty := .long) (by decide) rfl rfl (g := (mkF m 61 #[.val (.ref ra), .val (.long pa), .second, .val (.long sa), .second] [(.long (r1_v (((1000000000 : Int64) / pa) + ((j2_37_s0 pa).toInt64)) (5000000 : Int64))), (.ref ra)])) rfl rfl (hb hby d2_61)
  have N19 := Fr.snoc X19 N18 g_ra
  have Z19 : n0 ≤ h19.size := Nat.le_trans Z9 (Keep.of_wr W19).1
  have K19 : Keep h0 h19 [ra] := K9.wr W19 (Or.inl (List.mem_of_getElem? (i := 0) rfl))
  have f20 : Fld Z h19 ra "com/example/hikyaku/hikyaku/mqtt/Pacer" "lateNanos" "J" (.long (r1_v (((1000000000 : Int64) / pa) + ((j2_37_s0 pa).toInt64)) (5000000 : Int64))) := f14.same W19
  have f21 : Sta Z h19 "com/example/hikyaku/hikyaku/mqtt/Pacer" "NANOS_PER_SECOND" "J" (.long (1000000000 : Int64)) := f11.wr W19
  have f22 : Sta Z h19 "com/example/hikyaku/hikyaku/mqtt/Pacer" "LATE_NANOS" "J" (.long (5000000 : Int64)) := f12.wr W19
  have f23 : Exa Z h19 ra "com/example/hikyaku/hikyaku/mqtt/Pacer" := f13.wr W19
  have f24 : Fld Z h19 ra "com/example/hikyaku/hikyaku/mqtt/Pacer" "turnNanos" "J" (.long (((1000000000 : Int64) / pa) + ((j2_37_s0 pa).toInt64))) := f10.other W19 (Or.inr (slot_ne (Or.inr (hw _ (List.mem_of_getElem? (i := 19) rfl))) (Or.inr (hw _ (List.mem_of_getElem? (i := 24) rfl))) (by decide) (t := .long) (t' := .long) (by decide) (by decide)))
  have f25 : Fld Z h19 ra "com/example/hikyaku/hikyaku/mqtt/Pacer" "turnAt" "J" (.long u_turnAt_ra) := f15.other W19 (Or.inr (slot_ne (Or.inl (hw _ (List.mem_of_getElem? (i := 26) rfl))) (Or.inr (hw _ (List.mem_of_getElem? (i := 24) rfl))) (by decide) (t := .long) (t' := .long) (by decide) (by decide)))
  obtain ⟨T26, h26, X26, e26, W26, st26⟩ := putF X19 hx hZ hown (host := "") (Or.inl (hw _ (List.mem_of_getElem? (i := 25) rfl))) Via.refl e19 f25 f23 (Or.inl (hw _ (List.mem_of_getElem? (i := 26) rfl))) (hw _ (List.mem_of_getElem? (i := 8) rfl)) (ty := .long) (by decide) rfl rfl (g := (mkF m 66 #[.val (.ref ra), .val (.long pa), .second, .val (.long sa), .second] [(.long sa), (.ref ra)])) rfl rfl (hb hby d2_66)
  have N26 := Fr.snoc X26 N19 g_ra
  have Z26 : n0 ≤ h26.size := Nat.le_trans Z19 (Keep.of_wr W26).1
  have K26 : Keep h0 h26 [ra] := K19.wr W26 (Or.inl (List.mem_of_getElem? (i := 0) rfl))
  have f27 : Fld Z h26 ra "com/example/hikyaku/hikyaku/mqtt/Pacer" "turnAt" "J" (.long sa) := f25.same W26
  have f28 : Sta Z h26 "com/example/hikyaku/hikyaku/mqtt/Pacer" "NANOS_PER_SECOND" "J" (.long (1000000000 : Int64)) := f21.wr W26
  have f29 : Sta Z h26 "com/example/hikyaku/hikyaku/mqtt/Pacer" "LATE_NANOS" "J" (.long (5000000 : Int64)) := f22.wr W26
  have f30 : Exa Z h26 ra "com/example/hikyaku/hikyaku/mqtt/Pacer" := f23.wr W26
  have f31 : Fld Z h26 ra "com/example/hikyaku/hikyaku/mqtt/Pacer" "turnNanos" "J" (.long (((1000000000 : Int64) / pa) + ((j2_37_s0 pa).toInt64))) := f24.other W26 (Or.inr (slot_ne (Or.inr (hw _ (List.mem_of_getElem? (i := 19) rfl))) (Or.inl (hw _ (List.mem_of_getElem? (i := 26) rfl))) (by decide) (t := .long) (t' := .long) (by decide) (by decide)))
  have f32 : Fld Z h26 ra "com/example/hikyaku/hikyaku/mqtt/Pacer" "lateNanos" "J" (.long (r1_v (((1000000000 : Int64) / pa) + ((j2_37_s0 pa).toInt64)) (5000000 : Int64))) := f20.other W26 (Or.inr (slot_ne (Or.inr (hw _ (List.mem_of_getElem? (i := 24) rfl))) (Or.inl (hw _ (List.mem_of_getElem? (i := 26) rfl))) (by decide) (t := .long) (t' := .long) (by decide) (by decide)))
  obtain ⟨fs, hr, hrun, hended, hW, hsame⟩ := X26.leave (v := none) (fun _ => rfl)
  refine ⟨_, _, pre8 _ ?_, hrun, hended, _, _, rfl, ?_, ⟨_, rfl⟩, hW, hsame.mono (by decide) (by decide)⟩
  · show Steps p.tables e below (T3.setTop (mkF m 45 #[.val (.ref ra), .val (.long pa), .second, .val (.long sa), .second] [(.int (j2_37_s0 pa)), (.long ((1000000000 : Int64) / pa)), (.ref ra)])) _
    refine XS.i2l X3.here hx rfl (hb hby d2_45) rfl ?_
    show Steps p.tables e below (T3.setTop (mkF m 46 #[.val (.ref ra), .val (.long pa), .second, .val (.long sa), .second] [(.long ((j2_37_s0 pa).toInt64)), (.long ((1000000000 : Int64) / pa)), (.ref ra)])) _
    refine XS.ladd X3.here hx rfl (hb hby d2_46) rfl ?_
    show Steps p.tables e below (T3.setTop (mkF m 47 #[.val (.ref ra), .val (.long pa), .second, .val (.long sa), .second] [(.long (((1000000000 : Int64) / pa) + ((j2_37_s0 pa).toInt64))), (.ref ra)])) _
    refine st9 _ ?_
    show Steps p.tables e below (T9.setTop (mkF m 50 #[.val (.ref ra), .val (.long pa), .second, .val (.long sa), .second] [])) _
    refine XS.aloadN X9.here hx rfl (hb hby d2_50) rfl rfl ?_
    show Steps p.tables e below (T9.setTop (mkF m 51 #[.val (.ref ra), .val (.long pa), .second, .val (.long sa), .second] [(.ref ra)])) _
    refine XS.aloadN X9.here hx rfl (hb hby d2_51) rfl rfl ?_
    show Steps p.tables e below (T9.setTop (mkF m 52 #[.val (.ref ra), .val (.long pa), .second, .val (.long sa), .second] [(.ref ra), (.ref ra)])) _
    refine st16 _ ?_
    show Steps p.tables e below (T16.setTop (mkF m 55 #[.val (.ref ra), .val (.long pa), .second, .val (.long sa), .second] [(.long (((1000000000 : Int64) / pa) + ((j2_37_s0 pa).toInt64))), (.ref ra)])) _
    refine st17 _ ?_
    show Steps p.tables e below (T17.setTop (mkF m 58 #[.val (.ref ra), .val (.long pa), .second, .val (.long sa), .second] [(.long (5000000 : Int64)), (.long (((1000000000 : Int64) / pa) + ((j2_37_s0 pa).toInt64))), (.ref ra)])) _
    refine st18 _ ?_
    show Steps p.tables e below (T18.setTop (mkF m 61 #[.val (.ref ra), .val (.long pa), .second, .val (.long sa), .second] [(.long (r1_v (((1000000000 : Int64) / pa) + ((j2_37_s0 pa).toInt64)) (5000000 : Int64))), (.ref ra)])) _
    refine st19 _ ?_
    show Steps p.tables e below (T19.setTop (mkF m 64 #[.val (.ref ra), .val (.long pa), .second, .val (.long sa), .second] [])) _
    refine XS.aloadN X19.here hx rfl (hb hby d2_64) rfl rfl ?_
    show Steps p.tables e below (T19.setTop (mkF m 65 #[.val (.ref ra), .val (.long pa), .second, .val (.long sa), .second] [(.ref ra)])) _
    refine XS.lloadN X19.here hx rfl (hb hby d2_65) rfl ?_
    show Steps p.tables e below (T19.setTop (mkF m 66 #[.val (.ref ra), .val (.long pa), .second, .val (.long sa), .second] [(.long sa), (.ref ra)])) _
    refine st26 _ ?_
    show Steps p.tables e below (T26.setTop (mkF m 69 #[.val (.ref ra), .val (.long pa), .second, .val (.long sa), .second] [])) _
    exact X26.returnOut hx Bd.returns (hb hby d2_69) hr
  · show Q2 Z ra pa sa u_turnNanos_ra u_lateNanos_ra u_turnAt_ra h0 n0 _ T26.heap _
    rw [e26]
    exact ⟨rfl, N26, K26, f31, f32, f27⟩
theorem ef_4 (m : MethodId) (ra : Addr) : entryFrame m #[(.ref ra)] 1 = mkF m 0 #[.val (.ref ra)] [] := by first | (simp [entryFrame, mkF, argsToLocals, Value.category]; done) | rfl
theorem d4_0 : decode prog_39_method_2_code 0 = .ok (.aload_n 0, 1) := by decide +kernel
theorem d4_1 : decode prog_39_method_2_code 1 = .ok (.getfield 37, 3) := by decide +kernel
theorem d4_4 : decode prog_39_method_2_code 4 = .ok (.lreturn, 1) := by decide +kernel
def Q4 (Z : State) (ra : Addr) (w_turnAt : Int64) (h0 : Heap) (n0 : Nat) (v : Option Value) (h : Heap) (L : List Loc) : Prop := v = some (.long w_turnAt) ∧ Fr n0 L ∧ h = h0
set_option maxRecDepth 65536 in
set_option maxHeartbeats 40000000 in
theorem rm4 (l : Launch) (Z : State) (a0 : Array Value) (hw : ∀ d ∈ tables_1, d.before a0 Z = true) (ws : List Jvm.Cond) (ra : Addr) (w_turnAt : Int64) (h0 : Heap) (n0 : Nat) (Z0 : n0 ≤ h0.size) (F_turnAt_ra : Fld Z h0 ra "com/example/hikyaku/hikyaku/mqtt/Pacer" "turnAt" "J" (.long w_turnAt)) :
    MetFree l (⟨"com/example/hikyaku/hikyaku/mqtt/Pacer", "turnAt", "()J"⟩ : MethodName) (head1 (Jvm.Cond.code (⟨"com/example/hikyaku/hikyaku/mqtt/Pacer", "turnAt", "()J"⟩ : MethodName) prog_39_method_2_code 1 (some .long) :: ws) ({ frames := 0, cells := 0, slots := 0, locals := 0 } : Room)) (fun a U => a = #[(.ref ra)] ∧ Z.Warmed39 U.vm ∧ U.heap = h0) (fun _ _ _ _ _ => True) (fun _ U o U' => ∃ v L, o = .returned v ∧ Q4 Z ra w_turnAt h0 n0 v U'.heap L ∧ FrameEnd U o U' L ({ frames := 0, cells := 0, slots := 0, locals := 0 } : Room).cells ({ frames := 0, cells := 0, slots := 0, locals := 0 } : Room).slots) := by
  refine MetFree.of_bodySF (plainFor_of_name pn_com_example_hikyaku_hikyaku_mqtt_Pacer) hisR ?_
  intro p e s m args below meth c s₁ Bd hml0 hP hK
  obtain ⟨rfl, hZ, hh⟩ := hP
  have hx := Bd.exec
  have hby := Bd.bytes
  have hml : c.maxLocals = 1 := hml0
  have hown : s.vm.findClass "com/example/hikyaku/hikyaku/mqtt/Pacer" = some m.cls := findClass_of_methodNamed Bd.named
  have hnm := (name_of_methodNamed Bd.named Bd.method).1
  have X0 : Stand p l e ({ frames := 0, cells := 0, slots := 0, locals := 0 } : Room) s m #[(.ref ra)] below meth c s₁ [] 0 0 := Stand.of_body Bd
  have e0 : s₁.heap = h0 := by rw [← hh, Bd.state]; rfl
  have N0 := Fr.nil n0
  have K0 : Keep h0 h0 [] := Keep.refl h0 _
  have pre0 : ∀ t, Steps p.tables e below (s₁.setTop (mkF m 0 #[.val (.ref ra)] [])) t → Steps p.tables e below (s₁.setTop (entryFrame m #[(.ref ra)] 1)) t := fun t k => castTop (ef_4 m ra) k
  obtain ⟨T1, X1, e1, st1⟩ := getF X0 hx hZ hown (host := "") (Or.inl (hw _ (List.mem_of_getElem? (i := 25) rfl))) Via.refl e0 F_turnAt_ra (g := (mkF m 1 #[.val (.ref ra)] [(.ref ra)])) rfl rfl (hb hby d4_1)
  obtain ⟨fs, hr, hrun, hended, hW, hsame⟩ := X1.leave (v := some (.long w_turnAt)) (fun h => by rw [Bd.returns] at h; cases h)
  refine ⟨_, _, pre0 _ ?_, hrun, hended, _, _, rfl, ?_, ⟨_, rfl⟩, hW, hsame.mono (by decide) (by decide)⟩
  · show Steps p.tables e below (s₁.setTop (mkF m 0 #[.val (.ref ra)] [])) _
    refine XS.aloadN X0.here hx rfl (hb hby d4_0) rfl rfl ?_
    show Steps p.tables e below (s₁.setTop (mkF m 1 #[.val (.ref ra)] [(.ref ra)])) _
    refine st1 _ ?_
    show Steps p.tables e below (T1.setTop (mkF m 4 #[.val (.ref ra)] [(.long w_turnAt)])) _
    exact retOut X1 hx Bd.returns rfl (Or.inr (Or.inl ⟨rfl, rfl, _, rfl⟩)) (hb hby d4_4) hr
  · show Q4 Z ra w_turnAt h0 n0 _ T1.heap _
    rw [e1]
    exact ⟨rfl, N0, rfl⟩
theorem ef_5 (m : MethodId) (la : Int64) (rr : Int64) (mo : Int32) : entryFrame m #[(.long la), (.long rr), (.int mo)] 6 = mkF m 0 #[.val (.long la), .second, .val (.long rr), .second, .val (.int mo), .unset] [] := by first | (simp [entryFrame, mkF, argsToLocals, Value.category]; done) | rfl
theorem d5_0 : decode method_2_code 0 = .ok (.iload 4, 2) := by decide +kernel
theorem d5_2 : decode method_2_code 2 = .ok (.iconst 3, 1) := by decide +kernel
theorem d5_3 : decode method_2_code 3 = .ok (.iand, 1) := by decide +kernel
theorem d5_4 : decode method_2_code 4 = .ok (.istore 5, 2) := by decide +kernel
theorem d5_6 : decode method_2_code 6 = .ok (.iload 5, 2) := by decide +kernel
theorem d5_8 : decode method_2_code 8 = .ok (.ifCond .ne 9, 3) := by decide +kernel
theorem d5_11 : decode method_2_code 11 = .ok (.lload_n 2, 1) := by decide +kernel
theorem d5_12 : decode method_2_code 12 = .ok (.ldc2_w 9, 3) := by decide +kernel
theorem d5_15 : decode method_2_code 15 = .ok (.land, 1) := by decide +kernel
theorem d5_16 : decode method_2_code 16 = .ok (.lreturn, 1) := by decide +kernel
theorem d5_17 : decode method_2_code 17 = .ok (.iload 5, 2) := by decide +kernel
theorem d5_19 : decode method_2_code 19 = .ok (.iconst 1, 1) := by decide +kernel
theorem d5_20 : decode method_2_code 20 = .ok (.if_icmp .ne 17, 3) := by decide +kernel
theorem d5_23 : decode method_2_code 23 = .ok (.lconst 0, 1) := by decide +kernel
theorem d5_24 : decode method_2_code 24 = .ok (.lload_n 0, 1) := by decide +kernel
theorem d5_25 : decode method_2_code 25 = .ok (.lconst 1, 1) := by decide +kernel
theorem d5_26 : decode method_2_code 26 = .ok (.lsub, 1) := by decide +kernel
theorem d5_27 : decode method_2_code 27 = .ok (.lload_n 2, 1) := by decide +kernel
theorem d5_28 : decode method_2_code 28 = .ok (.ldc2_w 11, 3) := by decide +kernel
theorem d5_31 : decode method_2_code 31 = .ok (.land, 1) := by decide +kernel
theorem d5_32 : decode method_2_code 32 = .ok (.lsub, 1) := by decide +kernel
theorem d5_33 : decode method_2_code 33 = .ok (.invokestatic 13, 3) := by decide +kernel
theorem d5_36 : decode method_2_code 36 = .ok (.lreturn, 1) := by decide +kernel
theorem d5_37 : decode method_2_code 37 = .ok (.iload 5, 2) := by decide +kernel
theorem d5_39 : decode method_2_code 39 = .ok (.iconst 2, 1) := by decide +kernel
theorem d5_40 : decode method_2_code 40 = .ok (.if_icmp .ne 11, 3) := by decide +kernel
theorem d5_43 : decode method_2_code 43 = .ok (.lload_n 0, 1) := by decide +kernel
theorem d5_44 : decode method_2_code 44 = .ok (.lload_n 2, 1) := by decide +kernel
theorem d5_45 : decode method_2_code 45 = .ok (.ldc2_w 11, 3) := by decide +kernel
theorem d5_48 : decode method_2_code 48 = .ok (.land, 1) := by decide +kernel
theorem d5_49 : decode method_2_code 49 = .ok (.ladd, 1) := by decide +kernel
theorem d5_50 : decode method_2_code 50 = .ok (.lreturn, 1) := by decide +kernel
theorem d5_51 : decode method_2_code 51 = .ok (.lload_n 2, 1) := by decide +kernel
theorem d5_52 : decode method_2_code 52 = .ok (.ldc2_w 19, 3) := by decide +kernel
theorem d5_55 : decode method_2_code 55 = .ok (.land, 1) := by decide +kernel
theorem d5_56 : decode method_2_code 56 = .ok (.lreturn, 1) := by decide +kernel
def r5_v (la : Int64) (rr : Int64) (mo : Int32) : Int64 := (if (mo &&& (3 : Int32)) = (0 : Int32) then (rr &&& (9223372036854775807 : Int64)) else (if (mo &&& (3 : Int32)) = (1 : Int32) then (r1_v (0 : Int64) ((la - (1 : Int64)) - (rr &&& (65535 : Int64)))) else (if (mo &&& (3 : Int32)) = (2 : Int32) then (la + (rr &&& (65535 : Int64))) else (rr &&& (268435455 : Int64)))))
theorem pn_com_example_hikyaku_hikyaku_mqtt_PacerTakePinLaw : plainName "com/example/hikyaku/hikyaku/mqtt/PacerTakePinLaw" = true := by first | (simp [plainName, overriddenIn]; done) | decide +kernel
def Q5 (Z : State) (la : Int64) (rr : Int64) (mo : Int32) (h0 : Heap) (n0 : Nat) (v : Option Value) (h : Heap) (L : List Loc) : Prop := v = some (.long (r5_v la rr mo)) ∧ Fr n0 L ∧ h = h0
set_option maxRecDepth 65536 in
set_option maxHeartbeats 40000000 in
theorem rm5 (l : Launch) (Z : State) (a0 : Array Value) (hw : ∀ d ∈ tables_1, d.before a0 Z = true) (ws : List Jvm.Cond) (la : Int64) (rr : Int64) (mo : Int32) (h0 : Heap) (n0 : Nat) (Z0 : n0 ≤ h0.size) :
    MetFree l (⟨"com/example/hikyaku/hikyaku/mqtt/PacerTakePinLaw", "delay", "(JJI)J"⟩ : MethodName) (head1 (Jvm.Cond.code (⟨"com/example/hikyaku/hikyaku/mqtt/PacerTakePinLaw", "delay", "(JJI)J"⟩ : MethodName) method_2_code 6 (some .long) :: ws) ({ frames := 1, cells := 0, slots := 0, locals := 15 } : Room)) (fun a U => a = #[(.long la), (.long rr), (.int mo)] ∧ Z.Warmed39 U.vm ∧ U.heap = h0) (fun _ _ _ _ _ => True) (fun _ U o U' => ∃ v L, o = .returned v ∧ Q5 Z la rr mo h0 n0 v U'.heap L ∧ FrameEnd U o U' L ({ frames := 1, cells := 0, slots := 0, locals := 15 } : Room).cells ({ frames := 1, cells := 0, slots := 0, locals := 15 } : Room).slots) := by
  refine MetFree.of_bodySF (plainFor_of_name pn_com_example_hikyaku_hikyaku_mqtt_PacerTakePinLaw) hisR ?_
  intro p e s m args below meth c s₁ Bd hml0 hP hK
  obtain ⟨rfl, hZ, hh⟩ := hP
  have hx := Bd.exec
  have hby := Bd.bytes
  have hml : c.maxLocals = 6 := hml0
  have hown : s.vm.findClass "com/example/hikyaku/hikyaku/mqtt/PacerTakePinLaw" = some m.cls := findClass_of_methodNamed Bd.named
  have hnm := (name_of_methodNamed Bd.named Bd.method).1
  have X0 : Stand p l e ({ frames := 1, cells := 0, slots := 0, locals := 15 } : Room) s m #[(.long la), (.long rr), (.int mo)] below meth c s₁ [] 0 0 := Stand.of_body Bd
  have e0 : s₁.heap = h0 := by rw [← hh, Bd.state]; rfl
  have N0 := Fr.nil n0
  have K0 : Keep h0 h0 [] := Keep.refl h0 _
  have pre0 : ∀ t, Steps p.tables e below (s₁.setTop (mkF m 0 #[.val (.long la), .second, .val (.long rr), .second, .val (.int mo), .unset] [])) t → Steps p.tables e below (s₁.setTop (entryFrame m #[(.long la), (.long rr), (.int mo)] 6)) t := fun t k => castTop (ef_5 m la rr mo) k
  have pre1 : ∀ t, Steps p.tables e below (s₁.setTop (mkF m 8 #[.val (.long la), .second, .val (.long rr), .second, .val (.int mo), .val (.int (mo &&& (3 : Int32)))] [(.int (mo &&& (3 : Int32)))])) t → Steps p.tables e below (s₁.setTop (entryFrame m #[(.long la), (.long rr), (.int mo)] 6)) t := by
    intro t k
    refine pre0 _ ?_
    show Steps p.tables e below (s₁.setTop (mkF m 0 #[.val (.long la), .second, .val (.long rr), .second, .val (.int mo), .unset] [])) _
    refine XS.iload X0.here hx rfl (hb hby d5_0) rfl ?_
    show Steps p.tables e below (s₁.setTop (mkF m 2 #[.val (.long la), .second, .val (.long rr), .second, .val (.int mo), .unset] [(.int mo)])) _
    refine XS.iconst X0.here hx rfl (hb hby d5_2) ?_
    show Steps p.tables e below (s₁.setTop (mkF m 3 #[.val (.long la), .second, .val (.long rr), .second, .val (.int mo), .unset] [(.int (3 : Int32)), (.int mo)])) _
    refine XS.iand X0.here hx rfl (hb hby d5_3) rfl ?_
    show Steps p.tables e below (s₁.setTop (mkF m 4 #[.val (.long la), .second, .val (.long rr), .second, .val (.int mo), .unset] [(.int (mo &&& (3 : Int32)))])) _
    refine XS.istore X0.here hx rfl (hb hby d5_4) rfl (l' := #[.val (.long la), .second, .val (.long rr), .second, .val (.int mo), .val (.int (mo &&& (3 : Int32)))]) rfl ?_
    show Steps p.tables e below (s₁.setTop (mkF m 6 #[.val (.long la), .second, .val (.long rr), .second, .val (.int mo), .val (.int (mo &&& (3 : Int32)))] [])) _
    refine XS.iload X0.here hx rfl (hb hby d5_6) rfl ?_
    exact k
  by_cases hk2 : (mo &&& (3 : Int32)) = (0 : Int32)
  · obtain ⟨fs, hr, hrun, hended, hW, hsame⟩ := X0.leave (v := some (.long (rr &&& (9223372036854775807 : Int64)))) (fun h => by rw [Bd.returns] at h; cases h)
    refine ⟨_, _, pre1 _ ?_, hrun, hended, _, _, rfl, ?_, ⟨_, rfl⟩, hW, hsame.mono (by decide) (by decide)⟩
    · show Steps p.tables e below (s₁.setTop (mkF m 8 #[.val (.long la), .second, .val (.long rr), .second, .val (.int mo), .val (.int (mo &&& (3 : Int32)))] [(.int (mo &&& (3 : Int32)))])) _
      refine XS.ifNo X0.here hx rfl (hb hby d5_8) rfl ((if0 _ _).trans (teq hk2).2) ?_
      show Steps p.tables e below (s₁.setTop (mkF m 11 #[.val (.long la), .second, .val (.long rr), .second, .val (.int mo), .val (.int (mo &&& (3 : Int32)))] [])) _
      refine XS.lloadN X0.here hx rfl (hb hby d5_11) rfl ?_
      show Steps p.tables e below (s₁.setTop (mkF m 12 #[.val (.long la), .second, .val (.long rr), .second, .val (.int mo), .val (.int (mo &&& (3 : Int32)))] [(.long rr)])) _
      refine X0.ldc2Long hx hown (mvT hZ (hw _ (List.mem_of_getElem? (i := 0) rfl))) (g := (mkF m 12 #[.val (.long la), .second, .val (.long rr), .second, .val (.int mo), .val (.int (mo &&& (3 : Int32)))] [(.long rr)])) rfl (hb hby d5_12) _ ?_
      show Steps p.tables e below (s₁.setTop (mkF m 15 #[.val (.long la), .second, .val (.long rr), .second, .val (.int mo), .val (.int (mo &&& (3 : Int32)))] [(.long (9223372036854775807 : Int64)), (.long rr)])) _
      refine XS.land X0.here hx rfl (hb hby d5_15) rfl ?_
      show Steps p.tables e below (s₁.setTop (mkF m 16 #[.val (.long la), .second, .val (.long rr), .second, .val (.int mo), .val (.int (mo &&& (3 : Int32)))] [(.long (rr &&& (9223372036854775807 : Int64)))])) _
      exact retOut X0 hx Bd.returns rfl (Or.inr (Or.inl ⟨rfl, rfl, _, rfl⟩)) (hb hby d5_16) hr
    · show Q5 Z la rr mo h0 n0 _ s₁.heap _
      rw [e0]
      have ev8 : (r5_v la rr mo) = (rr &&& (9223372036854775807 : Int64)) := by unfold r5_v; rw [if_pos hk2]
      exact ⟨(congrArg (fun z => some (Value.long z)) ev8.symm), N0, rfl⟩
  · have pre3 : ∀ t, Steps p.tables e below (s₁.setTop (mkF m 20 #[.val (.long la), .second, .val (.long rr), .second, .val (.int mo), .val (.int (mo &&& (3 : Int32)))] [(.int (1 : Int32)), (.int (mo &&& (3 : Int32)))])) t → Steps p.tables e below (s₁.setTop (entryFrame m #[(.long la), (.long rr), (.int mo)] 6)) t := by
      intro t k
      refine pre1 _ ?_
      show Steps p.tables e below (s₁.setTop (mkF m 8 #[.val (.long la), .second, .val (.long rr), .second, .val (.int mo), .val (.int (mo &&& (3 : Int32)))] [(.int (mo &&& (3 : Int32)))])) _
      refine XS.ifYes X0.here hx rfl (pc0 := 8) (pc' := 17) rfl (hb hby d5_8) rfl ((if0 _ _).trans (feq hk2).2) (by decide) (by decide) ?_
      show Steps p.tables e below (s₁.setTop (mkF m 17 #[.val (.long la), .second, .val (.long rr), .second, .val (.int mo), .val (.int (mo &&& (3 : Int32)))] [])) _
      refine XS.iload X0.here hx rfl (hb hby d5_17) rfl ?_
      show Steps p.tables e below (s₁.setTop (mkF m 19 #[.val (.long la), .second, .val (.long rr), .second, .val (.int mo), .val (.int (mo &&& (3 : Int32)))] [(.int (mo &&& (3 : Int32)))])) _
      refine XS.iconst X0.here hx rfl (hb hby d5_19) ?_
      exact k
    by_cases hk4 : (mo &&& (3 : Int32)) = (1 : Int32)
    · obtain ⟨_, _, ⟨T5, L5, k5, n5⟩, -, X5, ⟨Lc5, hQ5, l5, y5, z5⟩, st5⟩ := Jvm.LawKit.callS X0 hx (y := (⟨"java/lang/Math", "max", "(JJ)J"⟩ : MethodName)) hown (mvT hZ (hw _ (List.mem_of_getElem? (i := 1) rfl))) (mvT hZ (hw _ (List.mem_of_getElem? (i := 2) rfl))) (mvT hZ (hw _ (List.mem_of_getElem? (i := 3) rfl))) (mvT hZ (hw _ (List.mem_of_getElem? (i := 4) rfl))) (by decide) (backOf (W := 0) (rm1 l Z a0 hw [] (0 : Int64) ((la - (1 : Int64)) - (rr &&& (65535 : Int64))) h0 n0 Z0 ) hZ (hw _ (List.mem_of_getElem? (i := 4) rfl)) (hw _ (List.mem_of_getElem? (i := 3) rfl)) (by decide) (by decide)) (g := (mkF m 33 #[.val (.long la), .second, .val (.long rr), .second, .val (.int mo), .val (.int (mo &&& (3 : Int32)))] [(.long ((la - (1 : Int64)) - (rr &&& (65535 : Int64)))), (.long (0 : Int64))])) rfl (by rw [hml]; rfl) (argsL := [(.long (0 : Int64)), (.long ((la - (1 : Int64)) - (rr &&& (65535 : Int64))))]) (rest := []) (lenOf pd_0 rfl) rfl (by show 2 * 0 + _ ≤ _; exact Nat.le_of_eq rfl) (hb hby d5_33) (fun _ _ => ⟨rfl, e0, (by decide : 0 + 0 ≤ _), (by decide : 0 + 0 ≤ _)⟩)
      dsimp only [Pt.U, Pt.locs, Pt.cells, Pt.slots] at X5 l5 y5 z5 st5 hQ5
      subst l5 y5 z5
      obtain ⟨rfl, N5q, e5⟩ := hQ5
      have N5 := Fr.app N0 N5q
      obtain ⟨fs, hr, hrun, hended, hW, hsame⟩ := X5.leave (v := some (.long (r1_v (0 : Int64) ((la - (1 : Int64)) - (rr &&& (65535 : Int64)))))) (fun h => by rw [Bd.returns] at h; cases h)
      refine ⟨_, _, pre3 _ ?_, hrun, hended, _, _, rfl, ?_, ⟨_, rfl⟩, hW, hsame.mono (by decide) (by decide)⟩
      · show Steps p.tables e below (s₁.setTop (mkF m 20 #[.val (.long la), .second, .val (.long rr), .second, .val (.int mo), .val (.int (mo &&& (3 : Int32)))] [(.int (1 : Int32)), (.int (mo &&& (3 : Int32)))])) _
        refine XS.icmpNo X0.here hx rfl (hb hby d5_20) rfl (teq hk4).2 ?_
        show Steps p.tables e below (s₁.setTop (mkF m 23 #[.val (.long la), .second, .val (.long rr), .second, .val (.int mo), .val (.int (mo &&& (3 : Int32)))] [])) _
        refine XS.lconst X0.here hx rfl (hb hby d5_23) ?_
        show Steps p.tables e below (s₁.setTop (mkF m 24 #[.val (.long la), .second, .val (.long rr), .second, .val (.int mo), .val (.int (mo &&& (3 : Int32)))] [(.long (0 : Int64))])) _
        refine XS.lloadN X0.here hx rfl (hb hby d5_24) rfl ?_
        show Steps p.tables e below (s₁.setTop (mkF m 25 #[.val (.long la), .second, .val (.long rr), .second, .val (.int mo), .val (.int (mo &&& (3 : Int32)))] [(.long la), (.long (0 : Int64))])) _
        refine XS.lconst X0.here hx rfl (hb hby d5_25) ?_
        show Steps p.tables e below (s₁.setTop (mkF m 26 #[.val (.long la), .second, .val (.long rr), .second, .val (.int mo), .val (.int (mo &&& (3 : Int32)))] [(.long (1 : Int64)), (.long la), (.long (0 : Int64))])) _
        refine XS.lsub X0.here hx rfl (hb hby d5_26) rfl ?_
        show Steps p.tables e below (s₁.setTop (mkF m 27 #[.val (.long la), .second, .val (.long rr), .second, .val (.int mo), .val (.int (mo &&& (3 : Int32)))] [(.long (la - (1 : Int64))), (.long (0 : Int64))])) _
        refine XS.lloadN X0.here hx rfl (hb hby d5_27) rfl ?_
        show Steps p.tables e below (s₁.setTop (mkF m 28 #[.val (.long la), .second, .val (.long rr), .second, .val (.int mo), .val (.int (mo &&& (3 : Int32)))] [(.long rr), (.long (la - (1 : Int64))), (.long (0 : Int64))])) _
        refine X0.ldc2Long hx hown (mvT hZ (hw _ (List.mem_of_getElem? (i := 42) rfl))) (g := (mkF m 28 #[.val (.long la), .second, .val (.long rr), .second, .val (.int mo), .val (.int (mo &&& (3 : Int32)))] [(.long rr), (.long (la - (1 : Int64))), (.long (0 : Int64))])) rfl (hb hby d5_28) _ ?_
        show Steps p.tables e below (s₁.setTop (mkF m 31 #[.val (.long la), .second, .val (.long rr), .second, .val (.int mo), .val (.int (mo &&& (3 : Int32)))] [(.long (65535 : Int64)), (.long rr), (.long (la - (1 : Int64))), (.long (0 : Int64))])) _
        refine XS.land X0.here hx rfl (hb hby d5_31) rfl ?_
        show Steps p.tables e below (s₁.setTop (mkF m 32 #[.val (.long la), .second, .val (.long rr), .second, .val (.int mo), .val (.int (mo &&& (3 : Int32)))] [(.long (rr &&& (65535 : Int64))), (.long (la - (1 : Int64))), (.long (0 : Int64))])) _
        refine XS.lsub X0.here hx rfl (hb hby d5_32) rfl ?_
        show Steps p.tables e below (s₁.setTop (mkF m 33 #[.val (.long la), .second, .val (.long rr), .second, .val (.int mo), .val (.int (mo &&& (3 : Int32)))] [(.long ((la - (1 : Int64)) - (rr &&& (65535 : Int64)))), (.long (0 : Int64))])) _
        refine st5 _ ?_
        show Steps p.tables e below (T5.setTop (mkF m 36 #[.val (.long la), .second, .val (.long rr), .second, .val (.int mo), .val (.int (mo &&& (3 : Int32)))] [(.long (r1_v (0 : Int64) ((la - (1 : Int64)) - (rr &&& (65535 : Int64)))))])) _
        exact retOut X5 hx Bd.returns rfl (Or.inr (Or.inl ⟨rfl, rfl, _, rfl⟩)) (hb hby d5_36) hr
      · show Q5 Z la rr mo h0 n0 _ T5.heap _
        rw [e5]
        have ev9 : (r5_v la rr mo) = (r1_v (0 : Int64) ((la - (1 : Int64)) - (rr &&& (65535 : Int64)))) := by unfold r5_v; rw [if_neg hk2, if_pos hk4]
        exact ⟨(congrArg (fun z => some (Value.long z)) ev9.symm), N5, rfl⟩
    · have pre6 : ∀ t, Steps p.tables e below (s₁.setTop (mkF m 40 #[.val (.long la), .second, .val (.long rr), .second, .val (.int mo), .val (.int (mo &&& (3 : Int32)))] [(.int (2 : Int32)), (.int (mo &&& (3 : Int32)))])) t → Steps p.tables e below (s₁.setTop (entryFrame m #[(.long la), (.long rr), (.int mo)] 6)) t := by
        intro t k
        refine pre3 _ ?_
        show Steps p.tables e below (s₁.setTop (mkF m 20 #[.val (.long la), .second, .val (.long rr), .second, .val (.int mo), .val (.int (mo &&& (3 : Int32)))] [(.int (1 : Int32)), (.int (mo &&& (3 : Int32)))])) _
        refine XS.icmpYes X0.here hx rfl (pc0 := 20) (pc' := 37) rfl (hb hby d5_20) rfl (feq hk4).2 (by decide) (by decide) ?_
        show Steps p.tables e below (s₁.setTop (mkF m 37 #[.val (.long la), .second, .val (.long rr), .second, .val (.int mo), .val (.int (mo &&& (3 : Int32)))] [])) _
        refine XS.iload X0.here hx rfl (hb hby d5_37) rfl ?_
        show Steps p.tables e below (s₁.setTop (mkF m 39 #[.val (.long la), .second, .val (.long rr), .second, .val (.int mo), .val (.int (mo &&& (3 : Int32)))] [(.int (mo &&& (3 : Int32)))])) _
        refine XS.iconst X0.here hx rfl (hb hby d5_39) ?_
        exact k
      by_cases hk7 : (mo &&& (3 : Int32)) = (2 : Int32)
      · obtain ⟨fs, hr, hrun, hended, hW, hsame⟩ := X0.leave (v := some (.long (la + (rr &&& (65535 : Int64))))) (fun h => by rw [Bd.returns] at h; cases h)
        refine ⟨_, _, pre6 _ ?_, hrun, hended, _, _, rfl, ?_, ⟨_, rfl⟩, hW, hsame.mono (by decide) (by decide)⟩
        · show Steps p.tables e below (s₁.setTop (mkF m 40 #[.val (.long la), .second, .val (.long rr), .second, .val (.int mo), .val (.int (mo &&& (3 : Int32)))] [(.int (2 : Int32)), (.int (mo &&& (3 : Int32)))])) _
          refine XS.icmpNo X0.here hx rfl (hb hby d5_40) rfl (teq hk7).2 ?_
          show Steps p.tables e below (s₁.setTop (mkF m 43 #[.val (.long la), .second, .val (.long rr), .second, .val (.int mo), .val (.int (mo &&& (3 : Int32)))] [])) _
          refine XS.lloadN X0.here hx rfl (hb hby d5_43) rfl ?_
          show Steps p.tables e below (s₁.setTop (mkF m 44 #[.val (.long la), .second, .val (.long rr), .second, .val (.int mo), .val (.int (mo &&& (3 : Int32)))] [(.long la)])) _
          refine XS.lloadN X0.here hx rfl (hb hby d5_44) rfl ?_
          show Steps p.tables e below (s₁.setTop (mkF m 45 #[.val (.long la), .second, .val (.long rr), .second, .val (.int mo), .val (.int (mo &&& (3 : Int32)))] [(.long rr), (.long la)])) _
          refine X0.ldc2Long hx hown (mvT hZ (hw _ (List.mem_of_getElem? (i := 42) rfl))) (g := (mkF m 45 #[.val (.long la), .second, .val (.long rr), .second, .val (.int mo), .val (.int (mo &&& (3 : Int32)))] [(.long rr), (.long la)])) rfl (hb hby d5_45) _ ?_
          show Steps p.tables e below (s₁.setTop (mkF m 48 #[.val (.long la), .second, .val (.long rr), .second, .val (.int mo), .val (.int (mo &&& (3 : Int32)))] [(.long (65535 : Int64)), (.long rr), (.long la)])) _
          refine XS.land X0.here hx rfl (hb hby d5_48) rfl ?_
          show Steps p.tables e below (s₁.setTop (mkF m 49 #[.val (.long la), .second, .val (.long rr), .second, .val (.int mo), .val (.int (mo &&& (3 : Int32)))] [(.long (rr &&& (65535 : Int64))), (.long la)])) _
          refine XS.ladd X0.here hx rfl (hb hby d5_49) rfl ?_
          show Steps p.tables e below (s₁.setTop (mkF m 50 #[.val (.long la), .second, .val (.long rr), .second, .val (.int mo), .val (.int (mo &&& (3 : Int32)))] [(.long (la + (rr &&& (65535 : Int64))))])) _
          exact retOut X0 hx Bd.returns rfl (Or.inr (Or.inl ⟨rfl, rfl, _, rfl⟩)) (hb hby d5_50) hr
        · show Q5 Z la rr mo h0 n0 _ s₁.heap _
          rw [e0]
          have ev10 : (r5_v la rr mo) = (la + (rr &&& (65535 : Int64))) := by unfold r5_v; rw [if_neg hk2, if_neg hk4, if_pos hk7]
          exact ⟨(congrArg (fun z => some (Value.long z)) ev10.symm), N0, rfl⟩
      · obtain ⟨fs, hr, hrun, hended, hW, hsame⟩ := X0.leave (v := some (.long (rr &&& (268435455 : Int64)))) (fun h => by rw [Bd.returns] at h; cases h)
        refine ⟨_, _, pre6 _ ?_, hrun, hended, _, _, rfl, ?_, ⟨_, rfl⟩, hW, hsame.mono (by decide) (by decide)⟩
        · show Steps p.tables e below (s₁.setTop (mkF m 40 #[.val (.long la), .second, .val (.long rr), .second, .val (.int mo), .val (.int (mo &&& (3 : Int32)))] [(.int (2 : Int32)), (.int (mo &&& (3 : Int32)))])) _
          refine XS.icmpYes X0.here hx rfl (pc0 := 40) (pc' := 51) rfl (hb hby d5_40) rfl (feq hk7).2 (by decide) (by decide) ?_
          show Steps p.tables e below (s₁.setTop (mkF m 51 #[.val (.long la), .second, .val (.long rr), .second, .val (.int mo), .val (.int (mo &&& (3 : Int32)))] [])) _
          refine XS.lloadN X0.here hx rfl (hb hby d5_51) rfl ?_
          show Steps p.tables e below (s₁.setTop (mkF m 52 #[.val (.long la), .second, .val (.long rr), .second, .val (.int mo), .val (.int (mo &&& (3 : Int32)))] [(.long rr)])) _
          refine X0.ldc2Long hx hown (mvT hZ (hw _ (List.mem_of_getElem? (i := 36) rfl))) (g := (mkF m 52 #[.val (.long la), .second, .val (.long rr), .second, .val (.int mo), .val (.int (mo &&& (3 : Int32)))] [(.long rr)])) rfl (hb hby d5_52) _ ?_
          show Steps p.tables e below (s₁.setTop (mkF m 55 #[.val (.long la), .second, .val (.long rr), .second, .val (.int mo), .val (.int (mo &&& (3 : Int32)))] [(.long (268435455 : Int64)), (.long rr)])) _
          refine XS.land X0.here hx rfl (hb hby d5_55) rfl ?_
          show Steps p.tables e below (s₁.setTop (mkF m 56 #[.val (.long la), .second, .val (.long rr), .second, .val (.int mo), .val (.int (mo &&& (3 : Int32)))] [(.long (rr &&& (268435455 : Int64)))])) _
          exact retOut X0 hx Bd.returns rfl (Or.inr (Or.inl ⟨rfl, rfl, _, rfl⟩)) (hb hby d5_56) hr
        · show Q5 Z la rr mo h0 n0 _ s₁.heap _
          rw [e0]
          have ev11 : (r5_v la rr mo) = (rr &&& (268435455 : Int64)) := by unfold r5_v; rw [if_neg hk2, if_neg hk4, if_neg hk7]
          exact ⟨(congrArg (fun z => some (Value.long z)) ev11.symm), N0, rfl⟩
theorem ef_6 (m : MethodId) (ra : Addr) (nw : Int64) : entryFrame m #[(.ref ra), (.long nw)] 3 = mkF m 0 #[.val (.ref ra), .val (.long nw), .second] [] := by first | (simp [entryFrame, mkF, argsToLocals, Value.category]; done) | rfl
theorem d6_0 : decode prog_39_method_4_code 0 = .ok (.aload_n 0, 1) := by decide +kernel
theorem d6_1 : decode prog_39_method_4_code 1 = .ok (.lload_n 1, 1) := by decide +kernel
theorem d6_2 : decode prog_39_method_4_code 2 = .ok (.aload_n 0, 1) := by decide +kernel
theorem d6_3 : decode prog_39_method_4_code 3 = .ok (.getfield 37, 3) := by decide +kernel
theorem d6_6 : decode prog_39_method_4_code 6 = .ok (.lsub, 1) := by decide +kernel
theorem d6_7 : decode prog_39_method_4_code 7 = .ok (.aload_n 0, 1) := by decide +kernel
theorem d6_8 : decode prog_39_method_4_code 8 = .ok (.getfield 34, 3) := by decide +kernel
theorem d6_11 : decode prog_39_method_4_code 11 = .ok (.lcmp, 1) := by decide +kernel
theorem d6_12 : decode prog_39_method_4_code 12 = .ok (.ifCond .ge 10, 3) := by decide +kernel
theorem d6_15 : decode prog_39_method_4_code 15 = .ok (.aload_n 0, 1) := by decide +kernel
theorem d6_16 : decode prog_39_method_4_code 16 = .ok (.getfield 37, 3) := by decide +kernel
theorem d6_19 : decode prog_39_method_4_code 19 = .ok (.goto 4, 3) := by decide +kernel
theorem d6_23 : decode prog_39_method_4_code 23 = .ok (.aload_n 0, 1) := by decide +kernel
theorem d6_24 : decode prog_39_method_4_code 24 = .ok (.getfield 22, 3) := by decide +kernel
theorem d6_27 : decode prog_39_method_4_code 27 = .ok (.ladd, 1) := by decide +kernel
theorem d6_28 : decode prog_39_method_4_code 28 = .ok (.putfield 37, 3) := by decide +kernel
theorem d6_31 : decode prog_39_method_4_code 31 = .ok (.return_, 1) := by decide +kernel
theorem d6_22 : decode prog_39_method_4_code 22 = .ok (.lload_n 1, 1) := by decide +kernel
def r6_turnAt (nw : Int64) (w_turnAt : Int64) (w_lateNanos : Int64) (w_turnNanos : Int64) : Int64 := (if (nw - w_turnAt) < w_lateNanos then (w_turnAt + w_turnNanos) else (nw + w_turnNanos))
def Q6 (Z : State) (ra : Addr) (nw : Int64) (w_turnAt : Int64) (w_lateNanos : Int64) (w_turnNanos : Int64) (h0 : Heap) (n0 : Nat) (v : Option Value) (h : Heap) (L : List Loc) : Prop := v = none ∧ Fr n0 L ∧ Keep h0 h [ra] ∧ Fld Z h ra "com/example/hikyaku/hikyaku/mqtt/Pacer" "turnAt" "J" (.long (r6_turnAt nw w_turnAt w_lateNanos w_turnNanos)) ∧ Fld Z h ra "com/example/hikyaku/hikyaku/mqtt/Pacer" "lateNanos" "J" (.long w_lateNanos) ∧ Fld Z h ra "com/example/hikyaku/hikyaku/mqtt/Pacer" "turnNanos" "J" (.long w_turnNanos)
set_option maxRecDepth 65536 in
set_option maxHeartbeats 40000000 in
theorem rm6 (l : Launch) (Z : State) (a0 : Array Value) (hw : ∀ d ∈ tables_1, d.before a0 Z = true) (ws : List Jvm.Cond) (ra : Addr) (nw : Int64) (w_turnAt : Int64) (w_lateNanos : Int64) (w_turnNanos : Int64) (h0 : Heap) (n0 : Nat) (Z0 : n0 ≤ h0.size) (F_turnAt_ra : Fld Z h0 ra "com/example/hikyaku/hikyaku/mqtt/Pacer" "turnAt" "J" (.long w_turnAt)) (F_lateNanos_ra : Fld Z h0 ra "com/example/hikyaku/hikyaku/mqtt/Pacer" "lateNanos" "J" (.long w_lateNanos)) (F_turnNanos_ra : Fld Z h0 ra "com/example/hikyaku/hikyaku/mqtt/Pacer" "turnNanos" "J" (.long w_turnNanos)) (E_ra : Exa Z h0 ra "com/example/hikyaku/hikyaku/mqtt/Pacer") (g_ra : n0 ≤ ra) (E_ra : Exa Z h0 ra "com/example/hikyaku/hikyaku/mqtt/Pacer") :
    MetFree l (⟨"com/example/hikyaku/hikyaku/mqtt/Pacer", "take", "(J)V"⟩ : MethodName) (head1 (Jvm.Cond.code (⟨"com/example/hikyaku/hikyaku/mqtt/Pacer", "take", "(J)V"⟩ : MethodName) prog_39_method_4_code 3 none :: ws) ({ frames := 0, cells := 0, slots := 0, locals := 0 } : Room)) (fun a U => a = #[(.ref ra), (.long nw)] ∧ Z.Warmed39 U.vm ∧ U.heap = h0) (fun _ _ _ _ _ => True) (fun _ U o U' => ∃ v L, o = .returned v ∧ Q6 Z ra nw w_turnAt w_lateNanos w_turnNanos h0 n0 v U'.heap L ∧ FrameEnd U o U' L ({ frames := 0, cells := 0, slots := 0, locals := 0 } : Room).cells ({ frames := 0, cells := 0, slots := 0, locals := 0 } : Room).slots) := by
  refine MetFree.of_bodySF (plainFor_of_name pn_com_example_hikyaku_hikyaku_mqtt_Pacer) hisR ?_
  intro p e s m args below meth c s₁ Bd hml0 hP hK
  obtain ⟨rfl, hZ, hh⟩ := hP
  have hx := Bd.exec
  have hby := Bd.bytes
  have hml : c.maxLocals = 3 := hml0
  have hown : s.vm.findClass "com/example/hikyaku/hikyaku/mqtt/Pacer" = some m.cls := findClass_of_methodNamed Bd.named
  have hnm := (name_of_methodNamed Bd.named Bd.method).1
  have X0 : Stand p l e ({ frames := 0, cells := 0, slots := 0, locals := 0 } : Room) s m #[(.ref ra), (.long nw)] below meth c s₁ [] 0 0 := Stand.of_body Bd
  have e0 : s₁.heap = h0 := by rw [← hh, Bd.state]; rfl
  have N0 := Fr.nil n0
  have K0 : Keep h0 h0 [ra] := Keep.refl h0 _
  have pre0 : ∀ t, Steps p.tables e below (s₁.setTop (mkF m 0 #[.val (.ref ra), .val (.long nw), .second] [])) t → Steps p.tables e below (s₁.setTop (entryFrame m #[(.ref ra), (.long nw)] 3)) t := fun t k => castTop (ef_6 m ra nw) k
  obtain ⟨T1, X1, e1, st1⟩ := getF X0 hx hZ hown (host := "") (Or.inl (hw _ (List.mem_of_getElem? (i := 25) rfl))) Via.refl e0 F_turnAt_ra (g := (mkF m 3 #[.val (.ref ra), .val (.long nw), .second] [(.ref ra), (.long nw), (.ref ra)])) rfl rfl (hb hby d6_3)
  obtain ⟨T2, X2, e2, st2⟩ := getF X1 hx hZ hown (host := "") (Or.inl (hw _ (List.mem_of_getElem? (i := 23) rfl))) Via.refl e1 F_lateNanos_ra (g := (mkF m 8 #[.val (.ref ra), .val (.long nw), .second] [(.ref ra), (.long (nw - w_turnAt)), (.ref ra)])) rfl rfl (hb hby d6_8)
  have pre3 : ∀ t, Steps p.tables e below (T2.setTop (mkF m 12 #[.val (.ref ra), .val (.long nw), .second] [(.int (lcmpW (nw - w_turnAt) w_lateNanos)), (.ref ra)])) t → Steps p.tables e below (s₁.setTop (entryFrame m #[(.ref ra), (.long nw)] 3)) t := by
    intro t k
    refine pre0 _ ?_
    show Steps p.tables e below (s₁.setTop (mkF m 0 #[.val (.ref ra), .val (.long nw), .second] [])) _
    refine XS.aloadN X0.here hx rfl (hb hby d6_0) rfl rfl ?_
    show Steps p.tables e below (s₁.setTop (mkF m 1 #[.val (.ref ra), .val (.long nw), .second] [(.ref ra)])) _
    refine XS.lloadN X0.here hx rfl (hb hby d6_1) rfl ?_
    show Steps p.tables e below (s₁.setTop (mkF m 2 #[.val (.ref ra), .val (.long nw), .second] [(.long nw), (.ref ra)])) _
    refine XS.aloadN X0.here hx rfl (hb hby d6_2) rfl rfl ?_
    show Steps p.tables e below (s₁.setTop (mkF m 3 #[.val (.ref ra), .val (.long nw), .second] [(.ref ra), (.long nw), (.ref ra)])) _
    refine st1 _ ?_
    show Steps p.tables e below (T1.setTop (mkF m 6 #[.val (.ref ra), .val (.long nw), .second] [(.long w_turnAt), (.long nw), (.ref ra)])) _
    refine XS.lsub X1.here hx rfl (hb hby d6_6) rfl ?_
    show Steps p.tables e below (T1.setTop (mkF m 7 #[.val (.ref ra), .val (.long nw), .second] [(.long (nw - w_turnAt)), (.ref ra)])) _
    refine XS.aloadN X1.here hx rfl (hb hby d6_7) rfl rfl ?_
    show Steps p.tables e below (T1.setTop (mkF m 8 #[.val (.ref ra), .val (.long nw), .second] [(.ref ra), (.long (nw - w_turnAt)), (.ref ra)])) _
    refine st2 _ ?_
    show Steps p.tables e below (T2.setTop (mkF m 11 #[.val (.ref ra), .val (.long nw), .second] [(.long w_lateNanos), (.long (nw - w_turnAt)), (.ref ra)])) _
    refine XS.lcmp X2.here hx rfl (hb hby d6_11) rfl ?_
    exact k
  by_cases hk4 : (nw - w_turnAt) < w_lateNanos
  · obtain ⟨T5, X5, e5, st5⟩ := getF X2 hx hZ hown (host := "") (Or.inl (hw _ (List.mem_of_getElem? (i := 25) rfl))) Via.refl e2 F_turnAt_ra (g := (mkF m 16 #[.val (.ref ra), .val (.long nw), .second] [(.ref ra), (.ref ra)])) rfl rfl (hb hby d6_16)
    obtain ⟨T6, X6, e6, st6⟩ := getF X5 hx hZ hown (host := "") (Or.inl (hw _ (List.mem_of_getElem? (i := 18) rfl))) Via.refl e5 F_turnNanos_ra (g := (mkF m 24 #[.val (.ref ra), .val (.long nw), .second] [(.ref ra), (.long w_turnAt), (.ref ra)])) rfl rfl (hb hby d6_24)
    obtain ⟨T7, h7, X7, e7, W7, st7⟩ := putF X6 hx hZ hown (host := "") (Or.inl (hw _ (List.mem_of_getElem? (i := 25) rfl))) Via.refl e6 F_turnAt_ra E_ra (Or.inl (hw _ (List.mem_of_getElem? (i := 26) rfl))) (hw _ (List.mem_of_getElem? (i := 8) rfl)) (ty := .long) (by decide) rfl rfl (g := (mkF m 28 #[.val (.ref ra), .val (.long nw), .second] [(.long (w_turnAt + w_turnNanos)), (.ref ra)])) rfl rfl (hb hby d6_28)
    have N7 := Fr.snoc X7 N0 g_ra
    have Z7 : n0 ≤ h7.size := Nat.le_trans Z0 (Keep.of_wr W7).1
    have K7 : Keep h0 h7 [ra] := K0.wr W7 (Or.inl (List.mem_of_getElem? (i := 0) rfl))
    have f8 : Fld Z h7 ra "com/example/hikyaku/hikyaku/mqtt/Pacer" "turnAt" "J" (.long (w_turnAt + w_turnNanos)) := F_turnAt_ra.same W7
    have f9 : Fld Z h7 ra "com/example/hikyaku/hikyaku/mqtt/Pacer" "lateNanos" "J" (.long w_lateNanos) := F_lateNanos_ra.other W7 (Or.inr (slot_ne (Or.inr (hw _ (List.mem_of_getElem? (i := 24) rfl))) (Or.inl (hw _ (List.mem_of_getElem? (i := 26) rfl))) (by decide) (t := .long) (t' := .long) (by decide) (by decide)))
    have f10 : Fld Z h7 ra "com/example/hikyaku/hikyaku/mqtt/Pacer" "turnNanos" "J" (.long w_turnNanos) := F_turnNanos_ra.other W7 (Or.inr (slot_ne (Or.inr (hw _ (List.mem_of_getElem? (i := 19) rfl))) (Or.inl (hw _ (List.mem_of_getElem? (i := 26) rfl))) (by decide) (t := .long) (t' := .long) (by decide) (by decide)))
    have f11 : Exa Z h7 ra "com/example/hikyaku/hikyaku/mqtt/Pacer" := E_ra.wr W7
    obtain ⟨fs, hr, hrun, hended, hW, hsame⟩ := X7.leave (v := none) (fun _ => rfl)
    refine ⟨_, _, pre3 _ ?_, hrun, hended, _, _, rfl, ?_, ⟨_, rfl⟩, hW, hsame.mono (by decide) (by decide)⟩
    · show Steps p.tables e below (T2.setTop (mkF m 12 #[.val (.ref ra), .val (.long nw), .second] [(.int (lcmpW (nw - w_turnAt) w_lateNanos)), (.ref ra)])) _
      refine XS.ifNo X2.here hx rfl (hb hby d6_12) rfl (own_tltL hk4).2.1 ?_
      show Steps p.tables e below (T2.setTop (mkF m 15 #[.val (.ref ra), .val (.long nw), .second] [(.ref ra)])) _
      refine XS.aloadN X2.here hx rfl (hb hby d6_15) rfl rfl ?_
      show Steps p.tables e below (T2.setTop (mkF m 16 #[.val (.ref ra), .val (.long nw), .second] [(.ref ra), (.ref ra)])) _
      refine st5 _ ?_
      show Steps p.tables e below (T5.setTop (mkF m 19 #[.val (.ref ra), .val (.long nw), .second] [(.long w_turnAt), (.ref ra)])) _
      refine XS.goto X5.here hx rfl (pc0 := 19) (pc' := 23) rfl (hb hby d6_19) (by decide) (by decide) ?_
      show Steps p.tables e below (T5.setTop (mkF m 23 #[.val (.ref ra), .val (.long nw), .second] [(.long w_turnAt), (.ref ra)])) _
      refine XS.aloadN X5.here hx rfl (hb hby d6_23) rfl rfl ?_
      show Steps p.tables e below (T5.setTop (mkF m 24 #[.val (.ref ra), .val (.long nw), .second] [(.ref ra), (.long w_turnAt), (.ref ra)])) _
      refine st6 _ ?_
      show Steps p.tables e below (T6.setTop (mkF m 27 #[.val (.ref ra), .val (.long nw), .second] [(.long w_turnNanos), (.long w_turnAt), (.ref ra)])) _
      refine XS.ladd X6.here hx rfl (hb hby d6_27) rfl ?_
      show Steps p.tables e below (T6.setTop (mkF m 28 #[.val (.ref ra), .val (.long nw), .second] [(.long (w_turnAt + w_turnNanos)), (.ref ra)])) _
      refine st7 _ ?_
      show Steps p.tables e below (T7.setTop (mkF m 31 #[.val (.ref ra), .val (.long nw), .second] [])) _
      exact X7.returnOut hx Bd.returns (hb hby d6_31) hr
    · show Q6 Z ra nw w_turnAt w_lateNanos w_turnNanos h0 n0 _ T7.heap _
      rw [e7]
      have ev18 : (r6_turnAt nw w_turnAt w_lateNanos w_turnNanos) = (w_turnAt + w_turnNanos) := by unfold r6_turnAt; rw [if_pos hk4]
      exact ⟨rfl, N7, K7, (by rw [ev18]; exact f8), f9, f10⟩
  · obtain ⟨T12, X12, e12, st12⟩ := getF X2 hx hZ hown (host := "") (Or.inl (hw _ (List.mem_of_getElem? (i := 18) rfl))) Via.refl e2 F_turnNanos_ra (g := (mkF m 24 #[.val (.ref ra), .val (.long nw), .second] [(.ref ra), (.long nw), (.ref ra)])) rfl rfl (hb hby d6_24)
    obtain ⟨T13, h13, X13, e13, W13, st13⟩ := putF X12 hx hZ hown (host := "") (Or.inl (hw _ (List.mem_of_getElem? (i := 25) rfl))) Via.refl e12 F_turnAt_ra E_ra (Or.inl (hw _ (List.mem_of_getElem? (i := 26) rfl))) (hw _ (List.mem_of_getElem? (i := 8) rfl)) (ty := .long) (by decide) rfl rfl (g := (mkF m 28 #[.val (.ref ra), .val (.long nw), .second] [(.long (nw + w_turnNanos)), (.ref ra)])) rfl rfl (hb hby d6_28)
    have N13 := Fr.snoc X13 N0 g_ra
    have Z13 : n0 ≤ h13.size := Nat.le_trans Z0 (Keep.of_wr W13).1
    have K13 : Keep h0 h13 [ra] := K0.wr W13 (Or.inl (List.mem_of_getElem? (i := 0) rfl))
    have f14 : Fld Z h13 ra "com/example/hikyaku/hikyaku/mqtt/Pacer" "turnAt" "J" (.long (nw + w_turnNanos)) := F_turnAt_ra.same W13
    have f15 : Fld Z h13 ra "com/example/hikyaku/hikyaku/mqtt/Pacer" "lateNanos" "J" (.long w_lateNanos) := F_lateNanos_ra.other W13 (Or.inr (slot_ne (Or.inr (hw _ (List.mem_of_getElem? (i := 24) rfl))) (Or.inl (hw _ (List.mem_of_getElem? (i := 26) rfl))) (by decide) (t := .long) (t' := .long) (by decide) (by decide)))
    have f16 : Fld Z h13 ra "com/example/hikyaku/hikyaku/mqtt/Pacer" "turnNanos" "J" (.long w_turnNanos) := F_turnNanos_ra.other W13 (Or.inr (slot_ne (Or.inr (hw _ (List.mem_of_getElem? (i := 19) rfl))) (Or.inl (hw _ (List.mem_of_getElem? (i := 26) rfl))) (by decide) (t := .long) (t' := .long) (by decide) (by decide)))
    have f17 : Exa Z h13 ra "com/example/hikyaku/hikyaku/mqtt/Pacer" := E_ra.wr W13
    obtain ⟨fs, hr, hrun, hended, hW, hsame⟩ := X13.leave (v := none) (fun _ => rfl)
    refine ⟨_, _, pre3 _ ?_, hrun, hended, _, _, rfl, ?_, ⟨_, rfl⟩, hW, hsame.mono (by decide) (by decide)⟩
    · show Steps p.tables e below (T2.setTop (mkF m 12 #[.val (.ref ra), .val (.long nw), .second] [(.int (lcmpW (nw - w_turnAt) w_lateNanos)), (.ref ra)])) _
      refine XS.ifYes X2.here hx rfl (pc0 := 12) (pc' := 22) rfl (hb hby d6_12) rfl (own_fltL hk4).2.1 (by decide) (by decide) ?_
      show Steps p.tables e below (T2.setTop (mkF m 22 #[.val (.ref ra), .val (.long nw), .second] [(.ref ra)])) _
      refine XS.lloadN X2.here hx rfl (hb hby d6_22) rfl ?_
      show Steps p.tables e below (T2.setTop (mkF m 23 #[.val (.ref ra), .val (.long nw), .second] [(.long nw), (.ref ra)])) _
      refine XS.aloadN X2.here hx rfl (hb hby d6_23) rfl rfl ?_
      show Steps p.tables e below (T2.setTop (mkF m 24 #[.val (.ref ra), .val (.long nw), .second] [(.ref ra), (.long nw), (.ref ra)])) _
      refine st12 _ ?_
      show Steps p.tables e below (T12.setTop (mkF m 27 #[.val (.ref ra), .val (.long nw), .second] [(.long w_turnNanos), (.long nw), (.ref ra)])) _
      refine XS.ladd X12.here hx rfl (hb hby d6_27) rfl ?_
      show Steps p.tables e below (T12.setTop (mkF m 28 #[.val (.ref ra), .val (.long nw), .second] [(.long (nw + w_turnNanos)), (.ref ra)])) _
      refine st13 _ ?_
      show Steps p.tables e below (T13.setTop (mkF m 31 #[.val (.ref ra), .val (.long nw), .second] [])) _
      exact X13.returnOut hx Bd.returns (hb hby d6_31) hr
    · show Q6 Z ra nw w_turnAt w_lateNanos w_turnNanos h0 n0 _ T13.heap _
      rw [e13]
      have ev19 : (r6_turnAt nw w_turnAt w_lateNanos w_turnNanos) = (nw + w_turnNanos) := by unfold r6_turnAt; rw [if_neg hk4]
      exact ⟨rfl, N13, K13, (by rw [ev19]; exact f14), f15, f16⟩
theorem ef_0 (m : MethodId) (rp : Int64) (sta : Int64) (rwa : Int64) (rwb : Int64) (mo : Int32) : entryFrame m #[(.long rp), (.long sta), (.long rwa), (.long rwb), (.int mo)] maxLocals = mkF m 0 #[.val (.long rp), .second, .val (.long sta), .second, .val (.long rwa), .second, .val (.long rwb), .second, .val (.int mo), .unset, .unset, .unset, .unset, .unset, .unset, .unset, .unset, .unset, .unset, .unset, .unset, .unset, .unset, .unset, .unset, .unset, .unset, .unset, .unset] [] := by first | (simp [entryFrame, mkF, argsToLocals, Value.category, maxLocals]; done) | rfl
theorem pd_1 : parseMethodDescriptor "(JJ)V" = some ⟨[.long, .long], none⟩ := by decide +kernel
theorem pd_2 : parseMethodDescriptor "()J" = some ⟨[], some .long⟩ := by decide +kernel
theorem pd_3 : parseMethodDescriptor "(JJI)J" = some ⟨[.long, .long, .int], some .long⟩ := by decide +kernel
theorem pd_4 : parseMethodDescriptor "(J)V" = some ⟨[.long], none⟩ := by decide +kernel
def j0_11_l11 (rp : Int64) : Int64 := (if (r1_v (1 : Int64) (rp &&& (9223372036854775807 : Int64))) < (1000000000 : Int64) then ((((1000000000 : Int64) + (r1_v (1 : Int64) (rp &&& (9223372036854775807 : Int64)))) - (1 : Int64)) / (r1_v (1 : Int64) (rp &&& (9223372036854775807 : Int64)))) else (1 : Int64))
def j0_100_l21 (rp : Int64) (sta : Int64) (rwa : Int64) (mo : Int32) : Int64 := (if (r5_v (r1_v (j0_11_l11 rp) (5000000 : Int64)) rwa mo) < (r1_v (j0_11_l11 rp) (5000000 : Int64)) then (sta + (j0_11_l11 rp)) else ((sta + (r5_v (r1_v (j0_11_l11 rp) (5000000 : Int64)) rwa mo)) + (j0_11_l11 rp)))
def j0_169_l27 (rp : Int64) (sta : Int64) (rwa : Int64) (rwb : Int64) (mo : Int32) : Int64 := (if (r5_v (r1_v (j0_11_l11 rp) (5000000 : Int64)) rwb (mo >>> ((2 : Int32) &&& 31))) < (r1_v (j0_11_l11 rp) (5000000 : Int64)) then ((j0_100_l21 rp sta rwa mo) + (j0_11_l11 rp)) else (((j0_100_l21 rp sta rwa mo) + (r5_v (r1_v (j0_11_l11 rp) (5000000 : Int64)) rwb (mo >>> ((2 : Int32) &&& 31)))) + (j0_11_l11 rp)))
theorem own_pg (rp : Int64) : 1 ≤ (r1_v (1 : Int64) (rp &&& (9223372036854775807 : Int64))).toInt := by
  unfold r1_v
  have : 0 ≤ (rp &&& (9223372036854775807 : Int64)).toInt ∧ (rp &&& (9223372036854775807 : Int64)).toInt ≤ 9223372036854775807 := own_maskL rp (9223372036854775807 : Int64) 63 9223372036854775807 rfl (by decide) (by decide)
  generalize (rp &&& (9223372036854775807 : Int64)) = u1_ at *
  try simp only [Int32.reduceToInt, Int64.reduceToInt] at *
  simp only [Int64.lt_iff_toInt_lt, Int32.reduceToInt, Int64.reduceToInt]
  repeat' split
  all_goals first | omega | (simp only [Int32.reduceToInt, Int64.reduceToInt] at *; omega) | (simp at *; done) | (simp at *; omega)
theorem own_nz (rp : Int64) : (r1_v (1 : Int64) (rp &&& (9223372036854775807 : Int64))) ≠ (0 : Int64) := by
  have := own_pg rp
  intro h
  rw [h] at this
  exact absurd this (by decide)
theorem own_pge (rp : Int64) : ¬ ((r1_v (1 : Int64) (rp &&& (9223372036854775807 : Int64))) < (1 : Int64)) := by
  have := own_pg rp
  rw [Int64.lt_iff_toInt_lt]
  have : (1 : Int64).toInt = 1 := rfl
  omega
theorem own_ceil (n p : Int) (hn : 0 ≤ n) (hp : 1 ≤ p) : (n + p - 1) / p = n / p + (if n % p = 0 then 0 else 1) := by
  have e : n = (n % p) + (n / p) * p := by have := Int.emod_add_mul_ediv n p; rw [Int.mul_comm] at this; exact this.symm
  have h1 := Int.emod_nonneg n (show p ≠ 0 by omega)
  have h2 := Int.emod_lt_of_pos n (show 0 < p by omega)
  have e2 : n + p - 1 = ((n % p) + p - 1) + (n / p) * p := by omega
  rw [e2, Int.add_mul_ediv_right _ _ (show p ≠ 0 by omega)]
  generalize n / p = q
  split
  · rename_i h
    rw [h, show (0 + p - 1) / p = 0 from Int.ediv_eq_zero_of_lt (by omega) (by omega)]
    omega
  · rename_i h
    rw [show n % p + p - 1 = (n % p - 1) + 1 * p by omega, Int.add_mul_ediv_right _ _ (show p ≠ 0 by omega), Int.ediv_eq_zero_of_lt (by omega) (by omega)]
    omega
theorem own_turn (rp : Int64) : (((1000000000 : Int64) / (r1_v (1 : Int64) (rp &&& (9223372036854775807 : Int64)))) + ((j2_37_s0 (r1_v (1 : Int64) (rp &&& (9223372036854775807 : Int64)))).toInt64)) = (j0_11_l11 rp) := by
  have h1 := own_pg rp
  have h2 := own_nz rp
  unfold j0_11_l11
  generalize (r1_v (1 : Int64) (rp &&& (9223372036854775807 : Int64))) = pp at *
  have h3 : pp ≠ -1 := by intro h; rw [h] at h1; exact absurd h1 (by decide)
  have h4 := (c_ldiv (1000000000 : Int64) pp pp.toInt rfl h3).1 (by decide)
  have e9 : (1000000000 : Int64).toInt = 1000000000 := rfl
  rw [e9] at h4
  have h5 : ((1000000000 : Int64) % pp).toInt = 1000000000 % pp.toInt := by rw [Int64.toInt_mod, Int.tmod_eq_emod_of_nonneg (by decide)]; rfl
  have h6 := own_ceil 1000000000 pp.toInt (by omega) h1
  have r0 := rng64 pp
  have q0 := Int.ediv_nonneg (show (0 : Int) ≤ 1000000000 by omega) (show 0 ≤ pp.toInt by omega)
  have q1 := Int.ediv_le_self pp.toInt (show (0 : Int) ≤ 1000000000 by omega)
  have h7 := c_ladd ((1000000000 : Int64) / pp) ((j2_37_s0 pp).toInt64)
  have h8 := c_i2l (j2_37_s0 pp)
  have h9 : (j2_37_s0 pp).toInt = if 1000000000 % pp.toInt = 0 then 0 else 1 := by
    unfold j2_37_s0
    simp only [← Int64.toInt_inj, h5, Int32.reduceToInt, Int64.reduceToInt]
    split <;> rfl
  have r1 := rng64 ((1000000000 : Int64) / pp + (j2_37_s0 pp).toInt64)
  apply Int64.toInt_inj.mp
  split
  · rename_i hlt
    rw [Int64.lt_iff_toInt_lt, e9] at hlt
    have g1 := c_ladd (1000000000 : Int64) pp
    have g2 := c_lsub ((1000000000 : Int64) + pp) 1
    have r2 := rng64 ((1000000000 : Int64) + pp)
    have r3 := rng64 ((1000000000 : Int64) + pp - 1)
    have o1 : (1 : Int64).toInt = 1 := rfl
    have g3 := (c_ldiv ((1000000000 : Int64) + pp - 1) pp pp.toInt rfl h3).1 (by omega)
    have g4 : ((1000000000 : Int64) + pp - 1).toInt = 1000000000 + pp.toInt - 1 := by omega
    rw [g3, g4, h6]
    split at h9 <;> omega
  · rename_i hlt
    rw [Int64.lt_iff_toInt_lt, e9] at hlt
    have o1 : (1 : Int64).toInt = 1 := rfl
    by_cases hq : pp.toInt = 1000000000
    · rw [hq] at h4 h9
      simp at h9
      omega
    · have g5 : (1000000000 : Int) / pp.toInt = 0 := Int.ediv_eq_zero_of_lt (by omega) (by omega)
      have g6 : (1000000000 : Int) % pp.toInt = 1000000000 := Int.emod_eq_of_lt (by omega) (by omega)
      rw [g6] at h9
      simp at h9
      omega
theorem own_sub (x y : Int64) : (x + y) - x = y := by
  apply Int64.toInt_inj.mp
  have := c_ladd x y
  have := c_lsub (x + y) x
  have := rng64 y
  have := rng64 (x + y - x)
  omega
theorem own_a (rp sta rwa : Int64) (mo : Int32) : (r6_turnAt (sta + (r5_v (r1_v (j0_11_l11 rp) (5000000 : Int64)) rwa mo)) sta (r1_v (((1000000000 : Int64) / (r1_v (1 : Int64) (rp &&& (9223372036854775807 : Int64)))) + ((j2_37_s0 (r1_v (1 : Int64) (rp &&& (9223372036854775807 : Int64)))).toInt64)) (5000000 : Int64)) (((1000000000 : Int64) / (r1_v (1 : Int64) (rp &&& (9223372036854775807 : Int64)))) + ((j2_37_s0 (r1_v (1 : Int64) (rp &&& (9223372036854775807 : Int64)))).toInt64))) = (j0_100_l21 rp sta rwa mo) := by
  rw [own_turn]
  unfold r6_turnAt j0_100_l21
  rw [own_sub]
theorem own_b (rp sta rwa rwb : Int64) (mo : Int32) : (r6_turnAt ((j0_100_l21 rp sta rwa mo) + (r5_v (r1_v (j0_11_l11 rp) (5000000 : Int64)) rwb (mo >>> ((2 : Int32) &&& 31)))) (r6_turnAt (sta + (r5_v (r1_v (j0_11_l11 rp) (5000000 : Int64)) rwa mo)) sta (r1_v (((1000000000 : Int64) / (r1_v (1 : Int64) (rp &&& (9223372036854775807 : Int64)))) + ((j2_37_s0 (r1_v (1 : Int64) (rp &&& (9223372036854775807 : Int64)))).toInt64)) (5000000 : Int64)) (((1000000000 : Int64) / (r1_v (1 : Int64) (rp &&& (9223372036854775807 : Int64)))) + ((j2_37_s0 (r1_v (1 : Int64) (rp &&& (9223372036854775807 : Int64)))).toInt64))) (r1_v (((1000000000 : Int64) / (r1_v (1 : Int64) (rp &&& (9223372036854775807 : Int64)))) + ((j2_37_s0 (r1_v (1 : Int64) (rp &&& (9223372036854775807 : Int64)))).toInt64)) (5000000 : Int64)) (((1000000000 : Int64) / (r1_v (1 : Int64) (rp &&& (9223372036854775807 : Int64)))) + ((j2_37_s0 (r1_v (1 : Int64) (rp &&& (9223372036854775807 : Int64)))).toInt64))) = (j0_169_l27 rp sta rwa rwb mo) := by
  rw [own_a, own_turn]
  unfold r6_turnAt j0_169_l27
  rw [own_sub]
def Q0 (Z : State) (rp : Int64) (sta : Int64) (rwa : Int64) (rwb : Int64) (mo : Int32) (h0 : Heap) (n0 : Nat) (v : Option Value) (h : Heap) (L : List Loc) : Prop := v = some (.int (1 : Int32)) ∧ Fr n0 L
set_option maxRecDepth 65536 in
set_option maxHeartbeats 40000000 in
theorem rm0 (l : Launch) (Z : State) (a0 : Array Value) (hw : ∀ d ∈ tables_1, d.before a0 Z = true) (ws : List Jvm.Cond) (rp : Int64) (sta : Int64) (rwa : Int64) (rwb : Int64) (mo : Int32) (h0 : Heap) (n0 : Nat) (Z0 : n0 ≤ h0.size) (S_NANOS_PER_SECOND : Sta Z h0 "com/example/hikyaku/hikyaku/mqtt/Pacer" "NANOS_PER_SECOND" "J" (.long (1000000000 : Int64))) (S_LATE_NANOS : Sta Z h0 "com/example/hikyaku/hikyaku/mqtt/Pacer" "LATE_NANOS" "J" (.long (5000000 : Int64))) :
    MetFree l x (head1 (Jvm.Cond.code x code maxLocals ret :: ws) room_1) (fun a U => a = #[(.long rp), (.long sta), (.long rwa), (.long rwb), (.int mo)] ∧ Z.Warmed39 U.vm ∧ U.heap = h0) (fun _ _ _ _ _ => True) (fun _ U o U' => ∃ v L, o = .returned v ∧ Q0 Z rp sta rwa rwb mo h0 n0 v U'.heap L ∧ FrameEnd U o U' L room_1.cells room_1.slots) := by
  refine MetFree.of_bodySF (plainFor_of_name pn_com_example_hikyaku_hikyaku_mqtt_PacerTakePinLaw) hisR ?_
  intro p e s m args below meth c s₁ Bd hml0 hP hK
  obtain ⟨rfl, hZ, hh⟩ := hP
  have hx := Bd.exec
  have hby := Bd.bytes
  have hml : c.maxLocals = 29 := hml0
  have hown : s.vm.findClass "com/example/hikyaku/hikyaku/mqtt/PacerTakePinLaw" = some m.cls := findClass_of_methodNamed Bd.named
  have hnm := (name_of_methodNamed Bd.named Bd.method).1
  have X0 : Stand p l e room_1 s m #[(.long rp), (.long sta), (.long rwa), (.long rwb), (.int mo)] below meth c s₁ [] 0 0 := Stand.of_body Bd
  have e0 : s₁.heap = h0 := by rw [← hh, Bd.state]; rfl
  have N0 := Fr.nil n0
  have K0 : Keep h0 h0 [] := Keep.refl h0 _
  have pre0 : ∀ t, Steps p.tables e below (s₁.setTop (mkF m 0 #[.val (.long rp), .second, .val (.long sta), .second, .val (.long rwa), .second, .val (.long rwb), .second, .val (.int mo), .unset, .unset, .unset, .unset, .unset, .unset, .unset, .unset, .unset, .unset, .unset, .unset, .unset, .unset, .unset, .unset, .unset, .unset, .unset, .unset] [])) t → Steps p.tables e below (s₁.setTop (entryFrame m #[(.long rp), (.long sta), (.long rwa), (.long rwb), (.int mo)] maxLocals)) t := fun t k => castTop (ef_0 m rp sta rwa rwb mo) k
  obtain ⟨_, _, ⟨T1, L1, k1, n1⟩, -, X1, ⟨Lc1, hQ1, l1, y1, z1⟩, st1⟩ := Jvm.LawKit.callS X0 hx (y := (⟨"java/lang/Math", "max", "(JJ)J"⟩ : MethodName)) hown (mvT hZ (hw _ (List.mem_of_getElem? (i := 1) rfl))) (mvT hZ (hw _ (List.mem_of_getElem? (i := 2) rfl))) (mvT hZ (hw _ (List.mem_of_getElem? (i := 3) rfl))) (mvT hZ (hw _ (List.mem_of_getElem? (i := 4) rfl))) (by decide) (backOf (W := 0) (rm1 l Z a0 hw [] (1 : Int64) (rp &&& (9223372036854775807 : Int64)) h0 n0 Z0 ) hZ (hw _ (List.mem_of_getElem? (i := 4) rfl)) (hw _ (List.mem_of_getElem? (i := 3) rfl)) (by decide) (by decide)) (g := (mkF m 6 #[.val (.long rp), .second, .val (.long sta), .second, .val (.long rwa), .second, .val (.long rwb), .second, .val (.int mo), .unset, .unset, .unset, .unset, .unset, .unset, .unset, .unset, .unset, .unset, .unset, .unset, .unset, .unset, .unset, .unset, .unset, .unset, .unset, .unset] [(.long (rp &&& (9223372036854775807 : Int64))), (.long (1 : Int64))])) rfl (by rw [hml]; rfl) (argsL := [(.long (1 : Int64)), (.long (rp &&& (9223372036854775807 : Int64)))]) (rest := []) (lenOf pd_0 rfl) rfl (by show 2 * 0 + _ ≤ _; exact Nat.le_of_eq rfl) (hb hby at_6) (fun _ _ => ⟨rfl, e0, (by decide : 0 + 0 ≤ _), (by decide : 0 + 0 ≤ _)⟩)
  dsimp only [Pt.U, Pt.locs, Pt.cells, Pt.slots] at X1 l1 y1 z1 st1 hQ1
  subst l1 y1 z1
  obtain ⟨rfl, N1q, e1⟩ := hQ1
  have N1 := Fr.app N0 N1q
  have pre5 : ∀ t, Steps p.tables e below (T1.setTop (mkF m 11 #[.val (.long rp), .second, .val (.long sta), .second, .val (.long rwa), .second, .val (.long rwb), .second, .val (.int mo), .val (.long (r1_v (1 : Int64) (rp &&& (9223372036854775807 : Int64)))), .second, .unset, .unset, .unset, .unset, .unset, .unset, .unset, .unset, .unset, .unset, .unset, .unset, .unset, .unset, .unset, .unset, .unset, .unset] [])) t → Steps p.tables e below (s₁.setTop (entryFrame m #[(.long rp), (.long sta), (.long rwa), (.long rwb), (.int mo)] maxLocals)) t := by
    intro t k
    refine pre0 _ ?_
    show Steps p.tables e below (s₁.setTop (mkF m 0 #[.val (.long rp), .second, .val (.long sta), .second, .val (.long rwa), .second, .val (.long rwb), .second, .val (.int mo), .unset, .unset, .unset, .unset, .unset, .unset, .unset, .unset, .unset, .unset, .unset, .unset, .unset, .unset, .unset, .unset, .unset, .unset, .unset, .unset] [])) _
    refine XS.lconst X0.here hx rfl (hb hby at_0) ?_
    show Steps p.tables e below (s₁.setTop (mkF m 1 #[.val (.long rp), .second, .val (.long sta), .second, .val (.long rwa), .second, .val (.long rwb), .second, .val (.int mo), .unset, .unset, .unset, .unset, .unset, .unset, .unset, .unset, .unset, .unset, .unset, .unset, .unset, .unset, .unset, .unset, .unset, .unset, .unset, .unset] [(.long (1 : Int64))])) _
    refine XS.lloadN X0.here hx rfl (hb hby at_1) rfl ?_
    show Steps p.tables e below (s₁.setTop (mkF m 2 #[.val (.long rp), .second, .val (.long sta), .second, .val (.long rwa), .second, .val (.long rwb), .second, .val (.int mo), .unset, .unset, .unset, .unset, .unset, .unset, .unset, .unset, .unset, .unset, .unset, .unset, .unset, .unset, .unset, .unset, .unset, .unset, .unset, .unset] [(.long rp), (.long (1 : Int64))])) _
    refine X0.ldc2Long hx hown (mvT hZ (hw _ (List.mem_of_getElem? (i := 0) rfl))) (g := (mkF m 2 #[.val (.long rp), .second, .val (.long sta), .second, .val (.long rwa), .second, .val (.long rwb), .second, .val (.int mo), .unset, .unset, .unset, .unset, .unset, .unset, .unset, .unset, .unset, .unset, .unset, .unset, .unset, .unset, .unset, .unset, .unset, .unset, .unset, .unset] [(.long rp), (.long (1 : Int64))])) rfl (hb hby at_2) _ ?_
    show Steps p.tables e below (s₁.setTop (mkF m 5 #[.val (.long rp), .second, .val (.long sta), .second, .val (.long rwa), .second, .val (.long rwb), .second, .val (.int mo), .unset, .unset, .unset, .unset, .unset, .unset, .unset, .unset, .unset, .unset, .unset, .unset, .unset, .unset, .unset, .unset, .unset, .unset, .unset, .unset] [(.long (9223372036854775807 : Int64)), (.long rp), (.long (1 : Int64))])) _
    refine XS.land X0.here hx rfl (hb hby at_5) rfl ?_
    show Steps p.tables e below (s₁.setTop (mkF m 6 #[.val (.long rp), .second, .val (.long sta), .second, .val (.long rwa), .second, .val (.long rwb), .second, .val (.int mo), .unset, .unset, .unset, .unset, .unset, .unset, .unset, .unset, .unset, .unset, .unset, .unset, .unset, .unset, .unset, .unset, .unset, .unset, .unset, .unset] [(.long (rp &&& (9223372036854775807 : Int64))), (.long (1 : Int64))])) _
    refine st1 _ ?_
    show Steps p.tables e below (T1.setTop (mkF m 9 #[.val (.long rp), .second, .val (.long sta), .second, .val (.long rwa), .second, .val (.long rwb), .second, .val (.int mo), .unset, .unset, .unset, .unset, .unset, .unset, .unset, .unset, .unset, .unset, .unset, .unset, .unset, .unset, .unset, .unset, .unset, .unset, .unset, .unset] [(.long (r1_v (1 : Int64) (rp &&& (9223372036854775807 : Int64))))])) _
    refine XS.lstore X1.here hx rfl (hb hby at_9) rfl (l' := #[.val (.long rp), .second, .val (.long sta), .second, .val (.long rwa), .second, .val (.long rwb), .second, .val (.int mo), .val (.long (r1_v (1 : Int64) (rp &&& (9223372036854775807 : Int64)))), .second, .unset, .unset, .unset, .unset, .unset, .unset, .unset, .unset, .unset, .unset, .unset, .unset, .unset, .unset, .unset, .unset, .unset, .unset]) rfl ?_
    exact k
  have pre6 : ∀ t, Steps p.tables e below (T1.setTop (mkF m 37 #[.val (.long rp), .second, .val (.long sta), .second, .val (.long rwa), .second, .val (.long rwb), .second, .val (.int mo), .val (.long (r1_v (1 : Int64) (rp &&& (9223372036854775807 : Int64)))), .second, .val (.long (j0_11_l11 rp)), .second, .unset, .unset, .unset, .unset, .unset, .unset, .unset, .unset, .unset, .unset, .unset, .unset, .unset, .unset, .unset, .unset] [])) t → Steps p.tables e below (s₁.setTop (entryFrame m #[(.long rp), (.long sta), (.long rwa), (.long rwb), (.int mo)] maxLocals)) t := by
    intro t k
    refine pre5 _ ?_
    show Steps p.tables e below (T1.setTop (mkF m 11 #[.val (.long rp), .second, .val (.long sta), .second, .val (.long rwa), .second, .val (.long rwb), .second, .val (.int mo), .val (.long (r1_v (1 : Int64) (rp &&& (9223372036854775807 : Int64)))), .second, .unset, .unset, .unset, .unset, .unset, .unset, .unset, .unset, .unset, .unset, .unset, .unset, .unset, .unset, .unset, .unset, .unset, .unset] [])) _
    refine XS.lload X1.here hx rfl (hb hby at_11) rfl ?_
    show Steps p.tables e below (T1.setTop (mkF m 13 #[.val (.long rp), .second, .val (.long sta), .second, .val (.long rwa), .second, .val (.long rwb), .second, .val (.int mo), .val (.long (r1_v (1 : Int64) (rp &&& (9223372036854775807 : Int64)))), .second, .unset, .unset, .unset, .unset, .unset, .unset, .unset, .unset, .unset, .unset, .unset, .unset, .unset, .unset, .unset, .unset, .unset, .unset] [(.long (r1_v (1 : Int64) (rp &&& (9223372036854775807 : Int64))))])) _
    refine X1.ldc2Long hx hown (mvT hZ (hw _ (List.mem_of_getElem? (i := 5) rfl))) (g := (mkF m 13 #[.val (.long rp), .second, .val (.long sta), .second, .val (.long rwa), .second, .val (.long rwb), .second, .val (.int mo), .val (.long (r1_v (1 : Int64) (rp &&& (9223372036854775807 : Int64)))), .second, .unset, .unset, .unset, .unset, .unset, .unset, .unset, .unset, .unset, .unset, .unset, .unset, .unset, .unset, .unset, .unset, .unset, .unset] [(.long (r1_v (1 : Int64) (rp &&& (9223372036854775807 : Int64))))])) rfl (hb hby at_13) _ ?_
    show Steps p.tables e below (T1.setTop (mkF m 16 #[.val (.long rp), .second, .val (.long sta), .second, .val (.long rwa), .second, .val (.long rwb), .second, .val (.int mo), .val (.long (r1_v (1 : Int64) (rp &&& (9223372036854775807 : Int64)))), .second, .unset, .unset, .unset, .unset, .unset, .unset, .unset, .unset, .unset, .unset, .unset, .unset, .unset, .unset, .unset, .unset, .unset, .unset] [(.long (1000000000 : Int64)), (.long (r1_v (1 : Int64) (rp &&& (9223372036854775807 : Int64))))])) _
    refine XS.lcmp X1.here hx rfl (hb hby at_16) rfl ?_
    by_cases hk2 : (r1_v (1 : Int64) (rp &&& (9223372036854775807 : Int64))) < (1000000000 : Int64)
    · show Steps p.tables e below (T1.setTop (mkF m 17 #[.val (.long rp), .second, .val (.long sta), .second, .val (.long rwa), .second, .val (.long rwb), .second, .val (.int mo), .val (.long (r1_v (1 : Int64) (rp &&& (9223372036854775807 : Int64)))), .second, .unset, .unset, .unset, .unset, .unset, .unset, .unset, .unset, .unset, .unset, .unset, .unset, .unset, .unset, .unset, .unset, .unset, .unset] [(.int (lcmpW (r1_v (1 : Int64) (rp &&& (9223372036854775807 : Int64))) (1000000000 : Int64)))])) _
      refine XS.ifYes X1.here hx rfl (pc0 := 17) (pc' := 24) rfl (hb hby at_17) rfl (own_tltL hk2).1 (by decide) (by decide) ?_
      show Steps p.tables e below (T1.setTop (mkF m 24 #[.val (.long rp), .second, .val (.long sta), .second, .val (.long rwa), .second, .val (.long rwb), .second, .val (.int mo), .val (.long (r1_v (1 : Int64) (rp &&& (9223372036854775807 : Int64)))), .second, .unset, .unset, .unset, .unset, .unset, .unset, .unset, .unset, .unset, .unset, .unset, .unset, .unset, .unset, .unset, .unset, .unset, .unset] [])) _
      refine X1.ldc2Long hx hown (mvT hZ (hw _ (List.mem_of_getElem? (i := 5) rfl))) (g := (mkF m 24 #[.val (.long rp), .second, .val (.long sta), .second, .val (.long rwa), .second, .val (.long rwb), .second, .val (.int mo), .val (.long (r1_v (1 : Int64) (rp &&& (9223372036854775807 : Int64)))), .second, .unset, .unset, .unset, .unset, .unset, .unset, .unset, .unset, .unset, .unset, .unset, .unset, .unset, .unset, .unset, .unset, .unset, .unset] [])) rfl (hb hby at_24) _ ?_
      show Steps p.tables e below (T1.setTop (mkF m 27 #[.val (.long rp), .second, .val (.long sta), .second, .val (.long rwa), .second, .val (.long rwb), .second, .val (.int mo), .val (.long (r1_v (1 : Int64) (rp &&& (9223372036854775807 : Int64)))), .second, .unset, .unset, .unset, .unset, .unset, .unset, .unset, .unset, .unset, .unset, .unset, .unset, .unset, .unset, .unset, .unset, .unset, .unset] [(.long (1000000000 : Int64))])) _
      refine XS.lload X1.here hx rfl (hb hby at_27) rfl ?_
      show Steps p.tables e below (T1.setTop (mkF m 29 #[.val (.long rp), .second, .val (.long sta), .second, .val (.long rwa), .second, .val (.long rwb), .second, .val (.int mo), .val (.long (r1_v (1 : Int64) (rp &&& (9223372036854775807 : Int64)))), .second, .unset, .unset, .unset, .unset, .unset, .unset, .unset, .unset, .unset, .unset, .unset, .unset, .unset, .unset, .unset, .unset, .unset, .unset] [(.long (r1_v (1 : Int64) (rp &&& (9223372036854775807 : Int64)))), (.long (1000000000 : Int64))])) _
      refine XS.ladd X1.here hx rfl (hb hby at_29) rfl ?_
      show Steps p.tables e below (T1.setTop (mkF m 30 #[.val (.long rp), .second, .val (.long sta), .second, .val (.long rwa), .second, .val (.long rwb), .second, .val (.int mo), .val (.long (r1_v (1 : Int64) (rp &&& (9223372036854775807 : Int64)))), .second, .unset, .unset, .unset, .unset, .unset, .unset, .unset, .unset, .unset, .unset, .unset, .unset, .unset, .unset, .unset, .unset, .unset, .unset] [(.long ((1000000000 : Int64) + (r1_v (1 : Int64) (rp &&& (9223372036854775807 : Int64)))))])) _
      refine XS.lconst X1.here hx rfl (hb hby at_30) ?_
      show Steps p.tables e below (T1.setTop (mkF m 31 #[.val (.long rp), .second, .val (.long sta), .second, .val (.long rwa), .second, .val (.long rwb), .second, .val (.int mo), .val (.long (r1_v (1 : Int64) (rp &&& (9223372036854775807 : Int64)))), .second, .unset, .unset, .unset, .unset, .unset, .unset, .unset, .unset, .unset, .unset, .unset, .unset, .unset, .unset, .unset, .unset, .unset, .unset] [(.long (1 : Int64)), (.long ((1000000000 : Int64) + (r1_v (1 : Int64) (rp &&& (9223372036854775807 : Int64)))))])) _
      refine XS.lsub X1.here hx rfl (hb hby at_31) rfl ?_
      show Steps p.tables e below (T1.setTop (mkF m 32 #[.val (.long rp), .second, .val (.long sta), .second, .val (.long rwa), .second, .val (.long rwb), .second, .val (.int mo), .val (.long (r1_v (1 : Int64) (rp &&& (9223372036854775807 : Int64)))), .second, .unset, .unset, .unset, .unset, .unset, .unset, .unset, .unset, .unset, .unset, .unset, .unset, .unset, .unset, .unset, .unset, .unset, .unset] [(.long (((1000000000 : Int64) + (r1_v (1 : Int64) (rp &&& (9223372036854775807 : Int64)))) - (1 : Int64)))])) _
      refine XS.lload X1.here hx rfl (hb hby at_32) rfl ?_
      show Steps p.tables e below (T1.setTop (mkF m 34 #[.val (.long rp), .second, .val (.long sta), .second, .val (.long rwa), .second, .val (.long rwb), .second, .val (.int mo), .val (.long (r1_v (1 : Int64) (rp &&& (9223372036854775807 : Int64)))), .second, .unset, .unset, .unset, .unset, .unset, .unset, .unset, .unset, .unset, .unset, .unset, .unset, .unset, .unset, .unset, .unset, .unset, .unset] [(.long (r1_v (1 : Int64) (rp &&& (9223372036854775807 : Int64)))), (.long (((1000000000 : Int64) + (r1_v (1 : Int64) (rp &&& (9223372036854775807 : Int64)))) - (1 : Int64)))])) _
      refine XS.ldiv X1.here hx rfl (hb hby at_34) rfl (own_nz rp) ?_
      show Steps p.tables e below (T1.setTop (mkF m 35 #[.val (.long rp), .second, .val (.long sta), .second, .val (.long rwa), .second, .val (.long rwb), .second, .val (.int mo), .val (.long (r1_v (1 : Int64) (rp &&& (9223372036854775807 : Int64)))), .second, .unset, .unset, .unset, .unset, .unset, .unset, .unset, .unset, .unset, .unset, .unset, .unset, .unset, .unset, .unset, .unset, .unset, .unset] [(.long ((((1000000000 : Int64) + (r1_v (1 : Int64) (rp &&& (9223372036854775807 : Int64)))) - (1 : Int64)) / (r1_v (1 : Int64) (rp &&& (9223372036854775807 : Int64)))))])) _
      refine XS.lstore X1.here hx rfl (hb hby at_35) rfl (l' := #[.val (.long rp), .second, .val (.long sta), .second, .val (.long rwa), .second, .val (.long rwb), .second, .val (.int mo), .val (.long (r1_v (1 : Int64) (rp &&& (9223372036854775807 : Int64)))), .second, .val (.long ((((1000000000 : Int64) + (r1_v (1 : Int64) (rp &&& (9223372036854775807 : Int64)))) - (1 : Int64)) / (r1_v (1 : Int64) (rp &&& (9223372036854775807 : Int64))))), .second, .unset, .unset, .unset, .unset, .unset, .unset, .unset, .unset, .unset, .unset, .unset, .unset, .unset, .unset, .unset, .unset]) rfl ?_
      have ev3 : (j0_11_l11 rp) = ((((1000000000 : Int64) + (r1_v (1 : Int64) (rp &&& (9223372036854775807 : Int64)))) - (1 : Int64)) / (r1_v (1 : Int64) (rp &&& (9223372036854775807 : Int64)))) := by unfold j0_11_l11; rw [if_pos hk2]
      rw [ev3] at k
      exact k
    · show Steps p.tables e below (T1.setTop (mkF m 17 #[.val (.long rp), .second, .val (.long sta), .second, .val (.long rwa), .second, .val (.long rwb), .second, .val (.int mo), .val (.long (r1_v (1 : Int64) (rp &&& (9223372036854775807 : Int64)))), .second, .unset, .unset, .unset, .unset, .unset, .unset, .unset, .unset, .unset, .unset, .unset, .unset, .unset, .unset, .unset, .unset, .unset, .unset] [(.int (lcmpW (r1_v (1 : Int64) (rp &&& (9223372036854775807 : Int64))) (1000000000 : Int64)))])) _
      refine XS.ifNo X1.here hx rfl (hb hby at_17) rfl (own_fltL hk2).1 ?_
      show Steps p.tables e below (T1.setTop (mkF m 20 #[.val (.long rp), .second, .val (.long sta), .second, .val (.long rwa), .second, .val (.long rwb), .second, .val (.int mo), .val (.long (r1_v (1 : Int64) (rp &&& (9223372036854775807 : Int64)))), .second, .unset, .unset, .unset, .unset, .unset, .unset, .unset, .unset, .unset, .unset, .unset, .unset, .unset, .unset, .unset, .unset, .unset, .unset] [])) _
      refine XS.lconst X1.here hx rfl (hb hby at_20) ?_
      show Steps p.tables e below (T1.setTop (mkF m 21 #[.val (.long rp), .second, .val (.long sta), .second, .val (.long rwa), .second, .val (.long rwb), .second, .val (.int mo), .val (.long (r1_v (1 : Int64) (rp &&& (9223372036854775807 : Int64)))), .second, .unset, .unset, .unset, .unset, .unset, .unset, .unset, .unset, .unset, .unset, .unset, .unset, .unset, .unset, .unset, .unset, .unset, .unset] [(.long (1 : Int64))])) _
      refine XS.goto X1.here hx rfl (pc0 := 21) (pc' := 35) rfl (hb hby at_21) (by decide) (by decide) ?_
      show Steps p.tables e below (T1.setTop (mkF m 35 #[.val (.long rp), .second, .val (.long sta), .second, .val (.long rwa), .second, .val (.long rwb), .second, .val (.int mo), .val (.long (r1_v (1 : Int64) (rp &&& (9223372036854775807 : Int64)))), .second, .unset, .unset, .unset, .unset, .unset, .unset, .unset, .unset, .unset, .unset, .unset, .unset, .unset, .unset, .unset, .unset, .unset, .unset] [(.long (1 : Int64))])) _
      refine XS.lstore X1.here hx rfl (hb hby at_35) rfl (l' := #[.val (.long rp), .second, .val (.long sta), .second, .val (.long rwa), .second, .val (.long rwb), .second, .val (.int mo), .val (.long (r1_v (1 : Int64) (rp &&& (9223372036854775807 : Int64)))), .second, .val (.long (1 : Int64)), .second, .unset, .unset, .unset, .unset, .unset, .unset, .unset, .unset, .unset, .unset, .unset, .unset, .unset, .unset, .unset, .unset]) rfl ?_
      have ev4 : (j0_11_l11 rp) = (1 : Int64) := by unfold j0_11_l11; rw [if_neg hk2]
      rw [ev4] at k
      exact k
  obtain ⟨_, _, ⟨T7, L7, k7, n7⟩, -, X7, ⟨Lc7, hQ7, l7, y7, z7⟩, st7⟩ := Jvm.LawKit.callS X1 hx (y := (⟨"java/lang/Math", "max", "(JJ)J"⟩ : MethodName)) hown (mvT hZ (hw _ (List.mem_of_getElem? (i := 1) rfl))) (mvT hZ (hw _ (List.mem_of_getElem? (i := 2) rfl))) (mvT hZ (hw _ (List.mem_of_getElem? (i := 3) rfl))) (mvT hZ (hw _ (List.mem_of_getElem? (i := 4) rfl))) (by decide) (backOf (W := 0) (rm1 l Z a0 hw [] (j0_11_l11 rp) (5000000 : Int64) h0 n0 Z0 ) hZ (hw _ (List.mem_of_getElem? (i := 4) rfl)) (hw _ (List.mem_of_getElem? (i := 3) rfl)) (by decide) (by decide)) (g := (mkF m 42 #[.val (.long rp), .second, .val (.long sta), .second, .val (.long rwa), .second, .val (.long rwb), .second, .val (.int mo), .val (.long (r1_v (1 : Int64) (rp &&& (9223372036854775807 : Int64)))), .second, .val (.long (j0_11_l11 rp)), .second, .unset, .unset, .unset, .unset, .unset, .unset, .unset, .unset, .unset, .unset, .unset, .unset, .unset, .unset, .unset, .unset] [(.long (5000000 : Int64)), (.long (j0_11_l11 rp))])) rfl (by rw [hml]; rfl) (argsL := [(.long (j0_11_l11 rp)), (.long (5000000 : Int64))]) (rest := []) (lenOf pd_0 rfl) rfl (by show 2 * 0 + _ ≤ _; exact Nat.le_of_eq rfl) (hb hby at_42) (fun _ _ => ⟨rfl, e1, (by decide : 0 + 0 ≤ _), (by decide : 0 + 0 ≤ _)⟩)
  dsimp only [Pt.U, Pt.locs, Pt.cells, Pt.slots] at X7 l7 y7 z7 st7 hQ7
  subst l7 y7 z7
  obtain ⟨rfl, N7q, e7⟩ := hQ7
  have N7 := Fr.app N1 N7q
  obtain ⟨T8, h8, X8, e8, E8, A8, D8, -, st8⟩ := newO X7 hx hZ hown (hw _ (List.mem_of_getElem? (i := 7) rfl)) (hw _ (List.mem_of_getElem? (i := 8) rfl)) (hw _ (List.mem_of_getElem? (i := 9) rfl)) e7 (g := (mkF m 47 #[.val (.long rp), .second, .val (.long sta), .second, .val (.long rwa), .second, .val (.long rwb), .second, .val (.int mo), .val (.long (r1_v (1 : Int64) (rp &&& (9223372036854775807 : Int64)))), .second, .val (.long (j0_11_l11 rp)), .second, .val (.long (r1_v (j0_11_l11 rp) (5000000 : Int64))), .second, .unset, .unset, .unset, .unset, .unset, .unset, .unset, .unset, .unset, .unset, .unset, .unset, .unset, .unset] [])) rfl (hb hby at_47) (by decide) (by decide)
  obtain ⟨b8, g8⟩ : ∃ z, z = h0.size := ⟨_, rfl⟩
  rw [← g8] at A8 D8 st8
  have gg8 : n0 ≤ b8 := Nat.le_trans Z0 (Nat.le_of_eq g8.symm)
  have f9 : Sta Z h8 "com/example/hikyaku/hikyaku/mqtt/Pacer" "NANOS_PER_SECOND" "J" (.long (1000000000 : Int64)) := S_NANOS_PER_SECOND.ext E8
  have f10 : Sta Z h8 "com/example/hikyaku/hikyaku/mqtt/Pacer" "LATE_NANOS" "J" (.long (5000000 : Int64)) := S_LATE_NANOS.ext E8
  have Z8 : n0 ≤ h8.size := Nat.le_trans Z0 E8.1
  have f11 : Fld Z h8 b8 "com/example/hikyaku/hikyaku/mqtt/Pacer" "turnNanos" "J" (.long (0 : Int64)) := D8 (Or.inr (hw _ (List.mem_of_getElem? (i := 19) rfl))) (ty := .long) (by decide)
  have f12 : Fld Z h8 b8 "com/example/hikyaku/hikyaku/mqtt/Pacer" "lateNanos" "J" (.long (0 : Int64)) := D8 (Or.inr (hw _ (List.mem_of_getElem? (i := 24) rfl))) (ty := .long) (by decide)
  have f13 : Fld Z h8 b8 "com/example/hikyaku/hikyaku/mqtt/Pacer" "turnAt" "J" (.long (0 : Int64)) := D8 (Or.inl (hw _ (List.mem_of_getElem? (i := 26) rfl))) (ty := .long) (by decide)
  obtain ⟨_, _, ⟨T14, L14, k14, n14⟩, -, X14, ⟨Lc14, hQ14, l14, y14, z14⟩, st14⟩ := X8.specialBack hx (y := (⟨"com/example/hikyaku/hikyaku/mqtt/Pacer", "<init>", "(JJ)V"⟩ : MethodName)) rfl hown (mvT hZ (hw _ (List.mem_of_getElem? (i := 10) rfl))) (mvT hZ (hw _ (List.mem_of_getElem? (i := 11) rfl))) (mvT hZ (hw _ (List.mem_of_getElem? (i := 12) rfl))) (by decide) (backOf (W := 1) (rm2 l Z a0 hw [] b8 (r1_v (1 : Int64) (rp &&& (9223372036854775807 : Int64))) sta (0 : Int64) (0 : Int64) (0 : Int64) h8 n0 Z8 f9 f10 (own_nz rp) A8 f11 f12 f13 (own_pge rp) gg8) hZ (hw _ (List.mem_of_getElem? (i := 12) rfl)) (hw _ (List.mem_of_getElem? (i := 9) rfl)) (by decide) (by decide)) (g := (mkF m 54 #[.val (.long rp), .second, .val (.long sta), .second, .val (.long rwa), .second, .val (.long rwb), .second, .val (.int mo), .val (.long (r1_v (1 : Int64) (rp &&& (9223372036854775807 : Int64)))), .second, .val (.long (j0_11_l11 rp)), .second, .val (.long (r1_v (j0_11_l11 rp) (5000000 : Int64))), .second, .unset, .unset, .unset, .unset, .unset, .unset, .unset, .unset, .unset, .unset, .unset, .unset, .unset, .unset] [(.long sta), (.long (r1_v (1 : Int64) (rp &&& (9223372036854775807 : Int64)))), (.ref b8), (.ref b8)])) rfl (by rw [hml]; rfl) (Steps.refl _) (a := b8) (argsL := [(.long (r1_v (1 : Int64) (rp &&& (9223372036854775807 : Int64)))), (.long sta)]) (rest := [(.ref b8)]) (lenOf pd_1 rfl) rfl (by show 2 * 0 + _ ≤ _; exact Nat.le_of_eq rfl) (hb hby at_54) (fun _ _ => ⟨rfl, e8, (by decide : 1 + 0 ≤ _), (by decide : 3 + 0 ≤ _)⟩)
  dsimp only [Pt.U, Pt.locs, Pt.cells, Pt.slots] at X14 l14 y14 z14 st14 hQ14
  subst l14 y14 z14
  obtain ⟨rfl, N14q, K14c, f15, f16, f17⟩ := hQ14
  have N14 := Fr.app N7 N14q
  have f18 : Exa Z T14.heap b8 "com/example/hikyaku/hikyaku/mqtt/Pacer" := A8.keep K14c
  have Z14 : n0 ≤ T14.heap.size := Nat.le_trans Z8 K14c.1
  obtain ⟨cq19, kq19, q19a, q19b, q19c⟩ := isOf hZ rfl f18
  obtain ⟨_, _, ⟨T19, L19, k19, n19⟩, -, X19, ⟨Lc19, hQ19, l19, y19, z19⟩, st19⟩ := X14.virtualBack hx (y := (⟨"com/example/hikyaku/hikyaku/mqtt/Pacer", "turnAt", "()J"⟩ : MethodName)) (z := (⟨"com/example/hikyaku/hikyaku/mqtt/Pacer", "turnAt", "()J"⟩ : MethodName)) hown (mvT hZ (hw _ (List.mem_of_getElem? (i := 27) rfl))) (mvT hZ (hw _ (List.mem_of_getElem? (i := 28) rfl))) (notFace_of_selects (args := #[]) (mvT hZ (hw _ (List.mem_of_getElem? (i := 30) rfl)))) (mvT hZ (hw _ (List.mem_of_getElem? (i := 30) rfl))) (mvT hZ (hw _ (List.mem_of_getElem? (i := 29) rfl))) (by decide) (backOf (W := 0) (rm4 l Z a0 hw [] b8 sta T14.heap n0 Z14 f17) hZ (hw _ (List.mem_of_getElem? (i := 31) rfl)) (hw _ (List.mem_of_getElem? (i := 9) rfl)) (by decide) (by decide)) q19a q19c (g := (mkF m 61 #[.val (.long rp), .second, .val (.long sta), .second, .val (.long rwa), .second, .val (.long rwb), .second, .val (.int mo), .val (.long (r1_v (1 : Int64) (rp &&& (9223372036854775807 : Int64)))), .second, .val (.long (j0_11_l11 rp)), .second, .val (.long (r1_v (j0_11_l11 rp) (5000000 : Int64))), .second, .val (.ref b8), .unset, .unset, .unset, .unset, .unset, .unset, .unset, .unset, .unset, .unset, .unset, .unset, .unset] [(.ref b8)])) rfl (by rw [hml]; rfl) (Steps.refl _) (argsL := []) (rest := []) (lenOf pd_2 rfl) rfl (by show 2 * 0 + _ ≤ _; exact Nat.le_of_eq rfl) (hb hby at_61) (fun _ _ => ⟨rfl, rfl, (by decide : 1 + 0 ≤ _), (by decide : 3 + 0 ≤ _)⟩)
  dsimp only [Pt.U, Pt.locs, Pt.cells, Pt.slots] at X19 l19 y19 z19 st19 hQ19
  subst l19 y19 z19
  obtain ⟨rfl, N19q, e19⟩ := hQ19
  have N19 := Fr.app N14 N19q
  obtain ⟨_, _, ⟨T20, L20, k20, n20⟩, -, X20, ⟨Lc20, hQ20, l20, y20, z20⟩, st20⟩ := Jvm.LawKit.callS X19 hx (y := (⟨"com/example/hikyaku/hikyaku/mqtt/PacerTakePinLaw", "delay", "(JJI)J"⟩ : MethodName)) hown (mvT hZ (hw _ (List.mem_of_getElem? (i := 32) rfl))) (mvT hZ (hw _ (List.mem_of_getElem? (i := 33) rfl))) (mvT hZ (hw _ (List.mem_of_getElem? (i := 34) rfl))) (mvT hZ (hw _ (List.mem_of_getElem? (i := 35) rfl))) (by decide) (backOf (W := 0) (rm5 l Z a0 hw [] (r1_v (j0_11_l11 rp) (5000000 : Int64)) rwa mo T14.heap n0 Z14 ) hZ (hw _ (List.mem_of_getElem? (i := 35) rfl)) (hw _ (List.mem_of_getElem? (i := 34) rfl)) (by decide) (by decide)) (g := (mkF m 82 #[.val (.long rp), .second, .val (.long sta), .second, .val (.long rwa), .second, .val (.long rwb), .second, .val (.int mo), .val (.long (r1_v (1 : Int64) (rp &&& (9223372036854775807 : Int64)))), .second, .val (.long (j0_11_l11 rp)), .second, .val (.long (r1_v (j0_11_l11 rp) (5000000 : Int64))), .second, .val (.ref b8), .val (.int (1 : Int32)), .unset, .unset, .unset, .unset, .unset, .unset, .unset, .unset, .unset, .unset, .unset, .unset] [(.int mo), (.long rwa), (.long (r1_v (j0_11_l11 rp) (5000000 : Int64)))])) rfl (by rw [hml]; rfl) (argsL := [(.long (r1_v (j0_11_l11 rp) (5000000 : Int64))), (.long rwa), (.int mo)]) (rest := []) (lenOf pd_3 rfl) rfl (by show 2 * 0 + _ ≤ _; exact Nat.le_of_eq rfl) (hb hby at_82) (fun _ _ => ⟨rfl, e19, (by decide : 1 + 0 ≤ _), (by decide : 3 + 0 ≤ _)⟩)
  dsimp only [Pt.U, Pt.locs, Pt.cells, Pt.slots] at X20 l20 y20 z20 st20 hQ20
  subst l20 y20 z20
  obtain ⟨rfl, N20q, e20⟩ := hQ20
  have N20 := Fr.app N19 N20q
  obtain ⟨cq21, kq21, q21a, q21b, q21c⟩ := isOf hZ e20 f18
  obtain ⟨_, _, ⟨T21, L21, k21, n21⟩, -, X21, ⟨Lc21, hQ21, l21, y21, z21⟩, st21⟩ := X20.virtualBack hx (y := (⟨"com/example/hikyaku/hikyaku/mqtt/Pacer", "take", "(J)V"⟩ : MethodName)) (z := (⟨"com/example/hikyaku/hikyaku/mqtt/Pacer", "take", "(J)V"⟩ : MethodName)) hown (mvT hZ (hw _ (List.mem_of_getElem? (i := 37) rfl))) (mvT hZ (hw _ (List.mem_of_getElem? (i := 38) rfl))) (notFace_of_selects (args := #[]) (mvT hZ (hw _ (List.mem_of_getElem? (i := 40) rfl)))) (mvT hZ (hw _ (List.mem_of_getElem? (i := 40) rfl))) (mvT hZ (hw _ (List.mem_of_getElem? (i := 39) rfl))) (by decide) (backOf (W := 0) (rm6 l Z a0 hw [] b8 (sta + (r5_v (r1_v (j0_11_l11 rp) (5000000 : Int64)) rwa mo)) sta (r1_v (((1000000000 : Int64) / (r1_v (1 : Int64) (rp &&& (9223372036854775807 : Int64)))) + ((j2_37_s0 (r1_v (1 : Int64) (rp &&& (9223372036854775807 : Int64)))).toInt64)) (5000000 : Int64)) (((1000000000 : Int64) / (r1_v (1 : Int64) (rp &&& (9223372036854775807 : Int64)))) + ((j2_37_s0 (r1_v (1 : Int64) (rp &&& (9223372036854775807 : Int64)))).toInt64)) T14.heap n0 Z14 f17 f16 f15 f18 gg8 f18) hZ (hw _ (List.mem_of_getElem? (i := 41) rfl)) (hw _ (List.mem_of_getElem? (i := 9) rfl)) (by decide) (by decide)) q21a q21c (g := (mkF m 97 #[.val (.long rp), .second, .val (.long sta), .second, .val (.long rwa), .second, .val (.long rwb), .second, .val (.int mo), .val (.long (r1_v (1 : Int64) (rp &&& (9223372036854775807 : Int64)))), .second, .val (.long (j0_11_l11 rp)), .second, .val (.long (r1_v (j0_11_l11 rp) (5000000 : Int64))), .second, .val (.ref b8), .val (.int (1 : Int32)), .val (.long (r5_v (r1_v (j0_11_l11 rp) (5000000 : Int64)) rwa mo)), .second, .val (.long (sta + (r5_v (r1_v (j0_11_l11 rp) (5000000 : Int64)) rwa mo))), .second, .unset, .unset, .unset, .unset, .unset, .unset, .unset, .unset] [(.long (sta + (r5_v (r1_v (j0_11_l11 rp) (5000000 : Int64)) rwa mo))), (.ref b8)])) rfl (by rw [hml]; rfl) (Steps.refl _) (argsL := [(.long (sta + (r5_v (r1_v (j0_11_l11 rp) (5000000 : Int64)) rwa mo)))]) (rest := []) (lenOf pd_4 rfl) rfl (by show 2 * 0 + _ ≤ _; exact Nat.le_of_eq rfl) (hb hby at_97) (fun _ _ => ⟨rfl, e20, (by decide : 1 + 0 ≤ _), (by decide : 3 + 0 ≤ _)⟩)
  dsimp only [Pt.U, Pt.locs, Pt.cells, Pt.slots] at X21 l21 y21 z21 st21 hQ21
  subst l21 y21 z21
  obtain ⟨rfl, N21q, K21c, f22, f23, f24⟩ := hQ21
  have N21 := Fr.app N20 N21q
  have f25 : Exa Z T21.heap b8 "com/example/hikyaku/hikyaku/mqtt/Pacer" := f18.keep K21c
  have Z21 : n0 ≤ T21.heap.size := Nat.le_trans Z14 K21c.1
  have pre29 : ∀ t, Steps p.tables e below (T21.setTop (mkF m 100 #[.val (.long rp), .second, .val (.long sta), .second, .val (.long rwa), .second, .val (.long rwb), .second, .val (.int mo), .val (.long (r1_v (1 : Int64) (rp &&& (9223372036854775807 : Int64)))), .second, .val (.long (j0_11_l11 rp)), .second, .val (.long (r1_v (j0_11_l11 rp) (5000000 : Int64))), .second, .val (.ref b8), .val (.int (1 : Int32)), .val (.long (r5_v (r1_v (j0_11_l11 rp) (5000000 : Int64)) rwa mo)), .second, .val (.long (sta + (r5_v (r1_v (j0_11_l11 rp) (5000000 : Int64)) rwa mo))), .second, .unset, .unset, .unset, .unset, .unset, .unset, .unset, .unset] [])) t → Steps p.tables e below (s₁.setTop (entryFrame m #[(.long rp), (.long sta), (.long rwa), (.long rwb), (.int mo)] maxLocals)) t := by
    intro t k
    refine pre6 _ ?_
    show Steps p.tables e below (T1.setTop (mkF m 37 #[.val (.long rp), .second, .val (.long sta), .second, .val (.long rwa), .second, .val (.long rwb), .second, .val (.int mo), .val (.long (r1_v (1 : Int64) (rp &&& (9223372036854775807 : Int64)))), .second, .val (.long (j0_11_l11 rp)), .second, .unset, .unset, .unset, .unset, .unset, .unset, .unset, .unset, .unset, .unset, .unset, .unset, .unset, .unset, .unset, .unset] [])) _
    refine XS.lload X1.here hx rfl (hb hby at_37) rfl ?_
    show Steps p.tables e below (T1.setTop (mkF m 39 #[.val (.long rp), .second, .val (.long sta), .second, .val (.long rwa), .second, .val (.long rwb), .second, .val (.int mo), .val (.long (r1_v (1 : Int64) (rp &&& (9223372036854775807 : Int64)))), .second, .val (.long (j0_11_l11 rp)), .second, .unset, .unset, .unset, .unset, .unset, .unset, .unset, .unset, .unset, .unset, .unset, .unset, .unset, .unset, .unset, .unset] [(.long (j0_11_l11 rp))])) _
    refine X1.ldc2Long hx hown (mvT hZ (hw _ (List.mem_of_getElem? (i := 6) rfl))) (g := (mkF m 39 #[.val (.long rp), .second, .val (.long sta), .second, .val (.long rwa), .second, .val (.long rwb), .second, .val (.int mo), .val (.long (r1_v (1 : Int64) (rp &&& (9223372036854775807 : Int64)))), .second, .val (.long (j0_11_l11 rp)), .second, .unset, .unset, .unset, .unset, .unset, .unset, .unset, .unset, .unset, .unset, .unset, .unset, .unset, .unset, .unset, .unset] [(.long (j0_11_l11 rp))])) rfl (hb hby at_39) _ ?_
    show Steps p.tables e below (T1.setTop (mkF m 42 #[.val (.long rp), .second, .val (.long sta), .second, .val (.long rwa), .second, .val (.long rwb), .second, .val (.int mo), .val (.long (r1_v (1 : Int64) (rp &&& (9223372036854775807 : Int64)))), .second, .val (.long (j0_11_l11 rp)), .second, .unset, .unset, .unset, .unset, .unset, .unset, .unset, .unset, .unset, .unset, .unset, .unset, .unset, .unset, .unset, .unset] [(.long (5000000 : Int64)), (.long (j0_11_l11 rp))])) _
    refine st7 _ ?_
    show Steps p.tables e below (T7.setTop (mkF m 45 #[.val (.long rp), .second, .val (.long sta), .second, .val (.long rwa), .second, .val (.long rwb), .second, .val (.int mo), .val (.long (r1_v (1 : Int64) (rp &&& (9223372036854775807 : Int64)))), .second, .val (.long (j0_11_l11 rp)), .second, .unset, .unset, .unset, .unset, .unset, .unset, .unset, .unset, .unset, .unset, .unset, .unset, .unset, .unset, .unset, .unset] [(.long (r1_v (j0_11_l11 rp) (5000000 : Int64)))])) _
    refine XS.lstore X7.here hx rfl (hb hby at_45) rfl (l' := #[.val (.long rp), .second, .val (.long sta), .second, .val (.long rwa), .second, .val (.long rwb), .second, .val (.int mo), .val (.long (r1_v (1 : Int64) (rp &&& (9223372036854775807 : Int64)))), .second, .val (.long (j0_11_l11 rp)), .second, .val (.long (r1_v (j0_11_l11 rp) (5000000 : Int64))), .second, .unset, .unset, .unset, .unset, .unset, .unset, .unset, .unset, .unset, .unset, .unset, .unset, .unset, .unset]) rfl ?_
    show Steps p.tables e below (T7.setTop (mkF m 47 #[.val (.long rp), .second, .val (.long sta), .second, .val (.long rwa), .second, .val (.long rwb), .second, .val (.int mo), .val (.long (r1_v (1 : Int64) (rp &&& (9223372036854775807 : Int64)))), .second, .val (.long (j0_11_l11 rp)), .second, .val (.long (r1_v (j0_11_l11 rp) (5000000 : Int64))), .second, .unset, .unset, .unset, .unset, .unset, .unset, .unset, .unset, .unset, .unset, .unset, .unset, .unset, .unset] [])) _
    refine st8 _ ?_
    show Steps p.tables e below (T8.setTop (mkF m 50 #[.val (.long rp), .second, .val (.long sta), .second, .val (.long rwa), .second, .val (.long rwb), .second, .val (.int mo), .val (.long (r1_v (1 : Int64) (rp &&& (9223372036854775807 : Int64)))), .second, .val (.long (j0_11_l11 rp)), .second, .val (.long (r1_v (j0_11_l11 rp) (5000000 : Int64))), .second, .unset, .unset, .unset, .unset, .unset, .unset, .unset, .unset, .unset, .unset, .unset, .unset, .unset, .unset] [(.ref b8)])) _
    refine XS.dup X8.here hx rfl (hb hby at_50) rfl rfl ?_
    show Steps p.tables e below (T8.setTop (mkF m 51 #[.val (.long rp), .second, .val (.long sta), .second, .val (.long rwa), .second, .val (.long rwb), .second, .val (.int mo), .val (.long (r1_v (1 : Int64) (rp &&& (9223372036854775807 : Int64)))), .second, .val (.long (j0_11_l11 rp)), .second, .val (.long (r1_v (j0_11_l11 rp) (5000000 : Int64))), .second, .unset, .unset, .unset, .unset, .unset, .unset, .unset, .unset, .unset, .unset, .unset, .unset, .unset, .unset] [(.ref b8), (.ref b8)])) _
    refine XS.lload X8.here hx rfl (hb hby at_51) rfl ?_
    show Steps p.tables e below (T8.setTop (mkF m 53 #[.val (.long rp), .second, .val (.long sta), .second, .val (.long rwa), .second, .val (.long rwb), .second, .val (.int mo), .val (.long (r1_v (1 : Int64) (rp &&& (9223372036854775807 : Int64)))), .second, .val (.long (j0_11_l11 rp)), .second, .val (.long (r1_v (j0_11_l11 rp) (5000000 : Int64))), .second, .unset, .unset, .unset, .unset, .unset, .unset, .unset, .unset, .unset, .unset, .unset, .unset, .unset, .unset] [(.long (r1_v (1 : Int64) (rp &&& (9223372036854775807 : Int64)))), (.ref b8), (.ref b8)])) _
    refine XS.lloadN X8.here hx rfl (hb hby at_53) rfl ?_
    show Steps p.tables e below (T8.setTop (mkF m 54 #[.val (.long rp), .second, .val (.long sta), .second, .val (.long rwa), .second, .val (.long rwb), .second, .val (.int mo), .val (.long (r1_v (1 : Int64) (rp &&& (9223372036854775807 : Int64)))), .second, .val (.long (j0_11_l11 rp)), .second, .val (.long (r1_v (j0_11_l11 rp) (5000000 : Int64))), .second, .unset, .unset, .unset, .unset, .unset, .unset, .unset, .unset, .unset, .unset, .unset, .unset, .unset, .unset] [(.long sta), (.long (r1_v (1 : Int64) (rp &&& (9223372036854775807 : Int64)))), (.ref b8), (.ref b8)])) _
    refine st14.trans ?_
    show Steps p.tables e below (T14.setTop (mkF m 57 #[.val (.long rp), .second, .val (.long sta), .second, .val (.long rwa), .second, .val (.long rwb), .second, .val (.int mo), .val (.long (r1_v (1 : Int64) (rp &&& (9223372036854775807 : Int64)))), .second, .val (.long (j0_11_l11 rp)), .second, .val (.long (r1_v (j0_11_l11 rp) (5000000 : Int64))), .second, .unset, .unset, .unset, .unset, .unset, .unset, .unset, .unset, .unset, .unset, .unset, .unset, .unset, .unset] [(.ref b8)])) _
    refine XS.astore X14.here hx rfl (hb hby at_57) rfl rfl (l' := #[.val (.long rp), .second, .val (.long sta), .second, .val (.long rwa), .second, .val (.long rwb), .second, .val (.int mo), .val (.long (r1_v (1 : Int64) (rp &&& (9223372036854775807 : Int64)))), .second, .val (.long (j0_11_l11 rp)), .second, .val (.long (r1_v (j0_11_l11 rp) (5000000 : Int64))), .second, .val (.ref b8), .unset, .unset, .unset, .unset, .unset, .unset, .unset, .unset, .unset, .unset, .unset, .unset, .unset]) rfl ?_
    show Steps p.tables e below (T14.setTop (mkF m 59 #[.val (.long rp), .second, .val (.long sta), .second, .val (.long rwa), .second, .val (.long rwb), .second, .val (.int mo), .val (.long (r1_v (1 : Int64) (rp &&& (9223372036854775807 : Int64)))), .second, .val (.long (j0_11_l11 rp)), .second, .val (.long (r1_v (j0_11_l11 rp) (5000000 : Int64))), .second, .val (.ref b8), .unset, .unset, .unset, .unset, .unset, .unset, .unset, .unset, .unset, .unset, .unset, .unset, .unset] [])) _
    refine XS.aload X14.here hx rfl (hb hby at_59) rfl rfl ?_
    show Steps p.tables e below (T14.setTop (mkF m 61 #[.val (.long rp), .second, .val (.long sta), .second, .val (.long rwa), .second, .val (.long rwb), .second, .val (.int mo), .val (.long (r1_v (1 : Int64) (rp &&& (9223372036854775807 : Int64)))), .second, .val (.long (j0_11_l11 rp)), .second, .val (.long (r1_v (j0_11_l11 rp) (5000000 : Int64))), .second, .val (.ref b8), .unset, .unset, .unset, .unset, .unset, .unset, .unset, .unset, .unset, .unset, .unset, .unset, .unset] [(.ref b8)])) _
    refine st19.trans ?_
    show Steps p.tables e below (T19.setTop (mkF m 64 #[.val (.long rp), .second, .val (.long sta), .second, .val (.long rwa), .second, .val (.long rwb), .second, .val (.int mo), .val (.long (r1_v (1 : Int64) (rp &&& (9223372036854775807 : Int64)))), .second, .val (.long (j0_11_l11 rp)), .second, .val (.long (r1_v (j0_11_l11 rp) (5000000 : Int64))), .second, .val (.ref b8), .unset, .unset, .unset, .unset, .unset, .unset, .unset, .unset, .unset, .unset, .unset, .unset, .unset] [(.long sta)])) _
    refine XS.lloadN X19.here hx rfl (hb hby at_64) rfl ?_
    show Steps p.tables e below (T19.setTop (mkF m 65 #[.val (.long rp), .second, .val (.long sta), .second, .val (.long rwa), .second, .val (.long rwb), .second, .val (.int mo), .val (.long (r1_v (1 : Int64) (rp &&& (9223372036854775807 : Int64)))), .second, .val (.long (j0_11_l11 rp)), .second, .val (.long (r1_v (j0_11_l11 rp) (5000000 : Int64))), .second, .val (.ref b8), .unset, .unset, .unset, .unset, .unset, .unset, .unset, .unset, .unset, .unset, .unset, .unset, .unset] [(.long sta), (.long sta)])) _
    refine XS.lcmp X19.here hx rfl (hb hby at_65) rfl ?_
    show Steps p.tables e below (T19.setTop (mkF m 66 #[.val (.long rp), .second, .val (.long sta), .second, .val (.long rwa), .second, .val (.long rwb), .second, .val (.int mo), .val (.long (r1_v (1 : Int64) (rp &&& (9223372036854775807 : Int64)))), .second, .val (.long (j0_11_l11 rp)), .second, .val (.long (r1_v (j0_11_l11 rp) (5000000 : Int64))), .second, .val (.ref b8), .unset, .unset, .unset, .unset, .unset, .unset, .unset, .unset, .unset, .unset, .unset, .unset, .unset] [(.int (lcmpW sta sta))])) _
    refine XS.ifNo X19.here hx rfl (hb hby at_66) rfl (own_teqL (rfl : (sta = sta))).2 ?_
    show Steps p.tables e below (T19.setTop (mkF m 69 #[.val (.long rp), .second, .val (.long sta), .second, .val (.long rwa), .second, .val (.long rwb), .second, .val (.int mo), .val (.long (r1_v (1 : Int64) (rp &&& (9223372036854775807 : Int64)))), .second, .val (.long (j0_11_l11 rp)), .second, .val (.long (r1_v (j0_11_l11 rp) (5000000 : Int64))), .second, .val (.ref b8), .unset, .unset, .unset, .unset, .unset, .unset, .unset, .unset, .unset, .unset, .unset, .unset, .unset] [])) _
    refine XS.iconst X19.here hx rfl (hb hby at_69) ?_
    show Steps p.tables e below (T19.setTop (mkF m 70 #[.val (.long rp), .second, .val (.long sta), .second, .val (.long rwa), .second, .val (.long rwb), .second, .val (.int mo), .val (.long (r1_v (1 : Int64) (rp &&& (9223372036854775807 : Int64)))), .second, .val (.long (j0_11_l11 rp)), .second, .val (.long (r1_v (j0_11_l11 rp) (5000000 : Int64))), .second, .val (.ref b8), .unset, .unset, .unset, .unset, .unset, .unset, .unset, .unset, .unset, .unset, .unset, .unset, .unset] [(.int (1 : Int32))])) _
    refine XS.goto X19.here hx rfl (pc0 := 70) (pc' := 74) rfl (hb hby at_70) (by decide) (by decide) ?_
    show Steps p.tables e below (T19.setTop (mkF m 74 #[.val (.long rp), .second, .val (.long sta), .second, .val (.long rwa), .second, .val (.long rwb), .second, .val (.int mo), .val (.long (r1_v (1 : Int64) (rp &&& (9223372036854775807 : Int64)))), .second, .val (.long (j0_11_l11 rp)), .second, .val (.long (r1_v (j0_11_l11 rp) (5000000 : Int64))), .second, .val (.ref b8), .unset, .unset, .unset, .unset, .unset, .unset, .unset, .unset, .unset, .unset, .unset, .unset, .unset] [(.int (1 : Int32))])) _
    refine XS.istore X19.here hx rfl (hb hby at_74) rfl (l' := #[.val (.long rp), .second, .val (.long sta), .second, .val (.long rwa), .second, .val (.long rwb), .second, .val (.int mo), .val (.long (r1_v (1 : Int64) (rp &&& (9223372036854775807 : Int64)))), .second, .val (.long (j0_11_l11 rp)), .second, .val (.long (r1_v (j0_11_l11 rp) (5000000 : Int64))), .second, .val (.ref b8), .val (.int (1 : Int32)), .unset, .unset, .unset, .unset, .unset, .unset, .unset, .unset, .unset, .unset, .unset, .unset]) rfl ?_
    show Steps p.tables e below (T19.setTop (mkF m 76 #[.val (.long rp), .second, .val (.long sta), .second, .val (.long rwa), .second, .val (.long rwb), .second, .val (.int mo), .val (.long (r1_v (1 : Int64) (rp &&& (9223372036854775807 : Int64)))), .second, .val (.long (j0_11_l11 rp)), .second, .val (.long (r1_v (j0_11_l11 rp) (5000000 : Int64))), .second, .val (.ref b8), .val (.int (1 : Int32)), .unset, .unset, .unset, .unset, .unset, .unset, .unset, .unset, .unset, .unset, .unset, .unset] [])) _
    refine XS.lload X19.here hx rfl (hb hby at_76) rfl ?_
    show Steps p.tables e below (T19.setTop (mkF m 78 #[.val (.long rp), .second, .val (.long sta), .second, .val (.long rwa), .second, .val (.long rwb), .second, .val (.int mo), .val (.long (r1_v (1 : Int64) (rp &&& (9223372036854775807 : Int64)))), .second, .val (.long (j0_11_l11 rp)), .second, .val (.long (r1_v (j0_11_l11 rp) (5000000 : Int64))), .second, .val (.ref b8), .val (.int (1 : Int32)), .unset, .unset, .unset, .unset, .unset, .unset, .unset, .unset, .unset, .unset, .unset, .unset] [(.long (r1_v (j0_11_l11 rp) (5000000 : Int64)))])) _
    refine XS.lload X19.here hx rfl (hb hby at_78) rfl ?_
    show Steps p.tables e below (T19.setTop (mkF m 80 #[.val (.long rp), .second, .val (.long sta), .second, .val (.long rwa), .second, .val (.long rwb), .second, .val (.int mo), .val (.long (r1_v (1 : Int64) (rp &&& (9223372036854775807 : Int64)))), .second, .val (.long (j0_11_l11 rp)), .second, .val (.long (r1_v (j0_11_l11 rp) (5000000 : Int64))), .second, .val (.ref b8), .val (.int (1 : Int32)), .unset, .unset, .unset, .unset, .unset, .unset, .unset, .unset, .unset, .unset, .unset, .unset] [(.long rwa), (.long (r1_v (j0_11_l11 rp) (5000000 : Int64)))])) _
    refine XS.iload X19.here hx rfl (hb hby at_80) rfl ?_
    show Steps p.tables e below (T19.setTop (mkF m 82 #[.val (.long rp), .second, .val (.long sta), .second, .val (.long rwa), .second, .val (.long rwb), .second, .val (.int mo), .val (.long (r1_v (1 : Int64) (rp &&& (9223372036854775807 : Int64)))), .second, .val (.long (j0_11_l11 rp)), .second, .val (.long (r1_v (j0_11_l11 rp) (5000000 : Int64))), .second, .val (.ref b8), .val (.int (1 : Int32)), .unset, .unset, .unset, .unset, .unset, .unset, .unset, .unset, .unset, .unset, .unset, .unset] [(.int mo), (.long rwa), (.long (r1_v (j0_11_l11 rp) (5000000 : Int64)))])) _
    refine st20 _ ?_
    show Steps p.tables e below (T20.setTop (mkF m 85 #[.val (.long rp), .second, .val (.long sta), .second, .val (.long rwa), .second, .val (.long rwb), .second, .val (.int mo), .val (.long (r1_v (1 : Int64) (rp &&& (9223372036854775807 : Int64)))), .second, .val (.long (j0_11_l11 rp)), .second, .val (.long (r1_v (j0_11_l11 rp) (5000000 : Int64))), .second, .val (.ref b8), .val (.int (1 : Int32)), .unset, .unset, .unset, .unset, .unset, .unset, .unset, .unset, .unset, .unset, .unset, .unset] [(.long (r5_v (r1_v (j0_11_l11 rp) (5000000 : Int64)) rwa mo))])) _
    refine XS.lstore X20.here hx rfl (hb hby at_85) rfl (l' := #[.val (.long rp), .second, .val (.long sta), .second, .val (.long rwa), .second, .val (.long rwb), .second, .val (.int mo), .val (.long (r1_v (1 : Int64) (rp &&& (9223372036854775807 : Int64)))), .second, .val (.long (j0_11_l11 rp)), .second, .val (.long (r1_v (j0_11_l11 rp) (5000000 : Int64))), .second, .val (.ref b8), .val (.int (1 : Int32)), .val (.long (r5_v (r1_v (j0_11_l11 rp) (5000000 : Int64)) rwa mo)), .second, .unset, .unset, .unset, .unset, .unset, .unset, .unset, .unset, .unset, .unset]) rfl ?_
    show Steps p.tables e below (T20.setTop (mkF m 87 #[.val (.long rp), .second, .val (.long sta), .second, .val (.long rwa), .second, .val (.long rwb), .second, .val (.int mo), .val (.long (r1_v (1 : Int64) (rp &&& (9223372036854775807 : Int64)))), .second, .val (.long (j0_11_l11 rp)), .second, .val (.long (r1_v (j0_11_l11 rp) (5000000 : Int64))), .second, .val (.ref b8), .val (.int (1 : Int32)), .val (.long (r5_v (r1_v (j0_11_l11 rp) (5000000 : Int64)) rwa mo)), .second, .unset, .unset, .unset, .unset, .unset, .unset, .unset, .unset, .unset, .unset] [])) _
    refine XS.lloadN X20.here hx rfl (hb hby at_87) rfl ?_
    show Steps p.tables e below (T20.setTop (mkF m 88 #[.val (.long rp), .second, .val (.long sta), .second, .val (.long rwa), .second, .val (.long rwb), .second, .val (.int mo), .val (.long (r1_v (1 : Int64) (rp &&& (9223372036854775807 : Int64)))), .second, .val (.long (j0_11_l11 rp)), .second, .val (.long (r1_v (j0_11_l11 rp) (5000000 : Int64))), .second, .val (.ref b8), .val (.int (1 : Int32)), .val (.long (r5_v (r1_v (j0_11_l11 rp) (5000000 : Int64)) rwa mo)), .second, .unset, .unset, .unset, .unset, .unset, .unset, .unset, .unset, .unset, .unset] [(.long sta)])) _
    refine XS.lload X20.here hx rfl (hb hby at_88) rfl ?_
    show Steps p.tables e below (T20.setTop (mkF m 90 #[.val (.long rp), .second, .val (.long sta), .second, .val (.long rwa), .second, .val (.long rwb), .second, .val (.int mo), .val (.long (r1_v (1 : Int64) (rp &&& (9223372036854775807 : Int64)))), .second, .val (.long (j0_11_l11 rp)), .second, .val (.long (r1_v (j0_11_l11 rp) (5000000 : Int64))), .second, .val (.ref b8), .val (.int (1 : Int32)), .val (.long (r5_v (r1_v (j0_11_l11 rp) (5000000 : Int64)) rwa mo)), .second, .unset, .unset, .unset, .unset, .unset, .unset, .unset, .unset, .unset, .unset] [(.long (r5_v (r1_v (j0_11_l11 rp) (5000000 : Int64)) rwa mo)), (.long sta)])) _
    refine XS.ladd X20.here hx rfl (hb hby at_90) rfl ?_
    show Steps p.tables e below (T20.setTop (mkF m 91 #[.val (.long rp), .second, .val (.long sta), .second, .val (.long rwa), .second, .val (.long rwb), .second, .val (.int mo), .val (.long (r1_v (1 : Int64) (rp &&& (9223372036854775807 : Int64)))), .second, .val (.long (j0_11_l11 rp)), .second, .val (.long (r1_v (j0_11_l11 rp) (5000000 : Int64))), .second, .val (.ref b8), .val (.int (1 : Int32)), .val (.long (r5_v (r1_v (j0_11_l11 rp) (5000000 : Int64)) rwa mo)), .second, .unset, .unset, .unset, .unset, .unset, .unset, .unset, .unset, .unset, .unset] [(.long (sta + (r5_v (r1_v (j0_11_l11 rp) (5000000 : Int64)) rwa mo)))])) _
    refine XS.lstore X20.here hx rfl (hb hby at_91) rfl (l' := #[.val (.long rp), .second, .val (.long sta), .second, .val (.long rwa), .second, .val (.long rwb), .second, .val (.int mo), .val (.long (r1_v (1 : Int64) (rp &&& (9223372036854775807 : Int64)))), .second, .val (.long (j0_11_l11 rp)), .second, .val (.long (r1_v (j0_11_l11 rp) (5000000 : Int64))), .second, .val (.ref b8), .val (.int (1 : Int32)), .val (.long (r5_v (r1_v (j0_11_l11 rp) (5000000 : Int64)) rwa mo)), .second, .val (.long (sta + (r5_v (r1_v (j0_11_l11 rp) (5000000 : Int64)) rwa mo))), .second, .unset, .unset, .unset, .unset, .unset, .unset, .unset, .unset]) rfl ?_
    show Steps p.tables e below (T20.setTop (mkF m 93 #[.val (.long rp), .second, .val (.long sta), .second, .val (.long rwa), .second, .val (.long rwb), .second, .val (.int mo), .val (.long (r1_v (1 : Int64) (rp &&& (9223372036854775807 : Int64)))), .second, .val (.long (j0_11_l11 rp)), .second, .val (.long (r1_v (j0_11_l11 rp) (5000000 : Int64))), .second, .val (.ref b8), .val (.int (1 : Int32)), .val (.long (r5_v (r1_v (j0_11_l11 rp) (5000000 : Int64)) rwa mo)), .second, .val (.long (sta + (r5_v (r1_v (j0_11_l11 rp) (5000000 : Int64)) rwa mo))), .second, .unset, .unset, .unset, .unset, .unset, .unset, .unset, .unset] [])) _
    refine XS.aload X20.here hx rfl (hb hby at_93) rfl rfl ?_
    show Steps p.tables e below (T20.setTop (mkF m 95 #[.val (.long rp), .second, .val (.long sta), .second, .val (.long rwa), .second, .val (.long rwb), .second, .val (.int mo), .val (.long (r1_v (1 : Int64) (rp &&& (9223372036854775807 : Int64)))), .second, .val (.long (j0_11_l11 rp)), .second, .val (.long (r1_v (j0_11_l11 rp) (5000000 : Int64))), .second, .val (.ref b8), .val (.int (1 : Int32)), .val (.long (r5_v (r1_v (j0_11_l11 rp) (5000000 : Int64)) rwa mo)), .second, .val (.long (sta + (r5_v (r1_v (j0_11_l11 rp) (5000000 : Int64)) rwa mo))), .second, .unset, .unset, .unset, .unset, .unset, .unset, .unset, .unset] [(.ref b8)])) _
    refine XS.lload X20.here hx rfl (hb hby at_95) rfl ?_
    show Steps p.tables e below (T20.setTop (mkF m 97 #[.val (.long rp), .second, .val (.long sta), .second, .val (.long rwa), .second, .val (.long rwb), .second, .val (.int mo), .val (.long (r1_v (1 : Int64) (rp &&& (9223372036854775807 : Int64)))), .second, .val (.long (j0_11_l11 rp)), .second, .val (.long (r1_v (j0_11_l11 rp) (5000000 : Int64))), .second, .val (.ref b8), .val (.int (1 : Int32)), .val (.long (r5_v (r1_v (j0_11_l11 rp) (5000000 : Int64)) rwa mo)), .second, .val (.long (sta + (r5_v (r1_v (j0_11_l11 rp) (5000000 : Int64)) rwa mo))), .second, .unset, .unset, .unset, .unset, .unset, .unset, .unset, .unset] [(.long (sta + (r5_v (r1_v (j0_11_l11 rp) (5000000 : Int64)) rwa mo))), (.ref b8)])) _
    refine st21.trans ?_
    exact k
  have pre30 : ∀ t, Steps p.tables e below (T21.setTop (mkF m 119 #[.val (.long rp), .second, .val (.long sta), .second, .val (.long rwa), .second, .val (.long rwb), .second, .val (.int mo), .val (.long (r1_v (1 : Int64) (rp &&& (9223372036854775807 : Int64)))), .second, .val (.long (j0_11_l11 rp)), .second, .val (.long (r1_v (j0_11_l11 rp) (5000000 : Int64))), .second, .val (.ref b8), .val (.int (1 : Int32)), .val (.long (r5_v (r1_v (j0_11_l11 rp) (5000000 : Int64)) rwa mo)), .second, .val (.long (sta + (r5_v (r1_v (j0_11_l11 rp) (5000000 : Int64)) rwa mo))), .second, .val (.long (j0_100_l21 rp sta rwa mo)), .second, .unset, .unset, .unset, .unset, .unset, .unset] [])) t → Steps p.tables e below (s₁.setTop (entryFrame m #[(.long rp), (.long sta), (.long rwa), (.long rwb), (.int mo)] maxLocals)) t := by
    intro t k
    refine pre29 _ ?_
    show Steps p.tables e below (T21.setTop (mkF m 100 #[.val (.long rp), .second, .val (.long sta), .second, .val (.long rwa), .second, .val (.long rwb), .second, .val (.int mo), .val (.long (r1_v (1 : Int64) (rp &&& (9223372036854775807 : Int64)))), .second, .val (.long (j0_11_l11 rp)), .second, .val (.long (r1_v (j0_11_l11 rp) (5000000 : Int64))), .second, .val (.ref b8), .val (.int (1 : Int32)), .val (.long (r5_v (r1_v (j0_11_l11 rp) (5000000 : Int64)) rwa mo)), .second, .val (.long (sta + (r5_v (r1_v (j0_11_l11 rp) (5000000 : Int64)) rwa mo))), .second, .unset, .unset, .unset, .unset, .unset, .unset, .unset, .unset] [])) _
    refine XS.lload X21.here hx rfl (hb hby at_100) rfl ?_
    show Steps p.tables e below (T21.setTop (mkF m 102 #[.val (.long rp), .second, .val (.long sta), .second, .val (.long rwa), .second, .val (.long rwb), .second, .val (.int mo), .val (.long (r1_v (1 : Int64) (rp &&& (9223372036854775807 : Int64)))), .second, .val (.long (j0_11_l11 rp)), .second, .val (.long (r1_v (j0_11_l11 rp) (5000000 : Int64))), .second, .val (.ref b8), .val (.int (1 : Int32)), .val (.long (r5_v (r1_v (j0_11_l11 rp) (5000000 : Int64)) rwa mo)), .second, .val (.long (sta + (r5_v (r1_v (j0_11_l11 rp) (5000000 : Int64)) rwa mo))), .second, .unset, .unset, .unset, .unset, .unset, .unset, .unset, .unset] [(.long (r5_v (r1_v (j0_11_l11 rp) (5000000 : Int64)) rwa mo))])) _
    refine XS.lload X21.here hx rfl (hb hby at_102) rfl ?_
    show Steps p.tables e below (T21.setTop (mkF m 104 #[.val (.long rp), .second, .val (.long sta), .second, .val (.long rwa), .second, .val (.long rwb), .second, .val (.int mo), .val (.long (r1_v (1 : Int64) (rp &&& (9223372036854775807 : Int64)))), .second, .val (.long (j0_11_l11 rp)), .second, .val (.long (r1_v (j0_11_l11 rp) (5000000 : Int64))), .second, .val (.ref b8), .val (.int (1 : Int32)), .val (.long (r5_v (r1_v (j0_11_l11 rp) (5000000 : Int64)) rwa mo)), .second, .val (.long (sta + (r5_v (r1_v (j0_11_l11 rp) (5000000 : Int64)) rwa mo))), .second, .unset, .unset, .unset, .unset, .unset, .unset, .unset, .unset] [(.long (r1_v (j0_11_l11 rp) (5000000 : Int64))), (.long (r5_v (r1_v (j0_11_l11 rp) (5000000 : Int64)) rwa mo))])) _
    refine XS.lcmp X21.here hx rfl (hb hby at_104) rfl ?_
    by_cases hk26 : (r5_v (r1_v (j0_11_l11 rp) (5000000 : Int64)) rwa mo) < (r1_v (j0_11_l11 rp) (5000000 : Int64))
    · show Steps p.tables e below (T21.setTop (mkF m 105 #[.val (.long rp), .second, .val (.long sta), .second, .val (.long rwa), .second, .val (.long rwb), .second, .val (.int mo), .val (.long (r1_v (1 : Int64) (rp &&& (9223372036854775807 : Int64)))), .second, .val (.long (j0_11_l11 rp)), .second, .val (.long (r1_v (j0_11_l11 rp) (5000000 : Int64))), .second, .val (.ref b8), .val (.int (1 : Int32)), .val (.long (r5_v (r1_v (j0_11_l11 rp) (5000000 : Int64)) rwa mo)), .second, .val (.long (sta + (r5_v (r1_v (j0_11_l11 rp) (5000000 : Int64)) rwa mo))), .second, .unset, .unset, .unset, .unset, .unset, .unset, .unset, .unset] [(.int (lcmpW (r5_v (r1_v (j0_11_l11 rp) (5000000 : Int64)) rwa mo) (r1_v (j0_11_l11 rp) (5000000 : Int64))))])) _
      refine XS.ifNo X21.here hx rfl (hb hby at_105) rfl (own_tltL hk26).2.1 ?_
      show Steps p.tables e below (T21.setTop (mkF m 108 #[.val (.long rp), .second, .val (.long sta), .second, .val (.long rwa), .second, .val (.long rwb), .second, .val (.int mo), .val (.long (r1_v (1 : Int64) (rp &&& (9223372036854775807 : Int64)))), .second, .val (.long (j0_11_l11 rp)), .second, .val (.long (r1_v (j0_11_l11 rp) (5000000 : Int64))), .second, .val (.ref b8), .val (.int (1 : Int32)), .val (.long (r5_v (r1_v (j0_11_l11 rp) (5000000 : Int64)) rwa mo)), .second, .val (.long (sta + (r5_v (r1_v (j0_11_l11 rp) (5000000 : Int64)) rwa mo))), .second, .unset, .unset, .unset, .unset, .unset, .unset, .unset, .unset] [])) _
      refine XS.lloadN X21.here hx rfl (hb hby at_108) rfl ?_
      show Steps p.tables e below (T21.setTop (mkF m 109 #[.val (.long rp), .second, .val (.long sta), .second, .val (.long rwa), .second, .val (.long rwb), .second, .val (.int mo), .val (.long (r1_v (1 : Int64) (rp &&& (9223372036854775807 : Int64)))), .second, .val (.long (j0_11_l11 rp)), .second, .val (.long (r1_v (j0_11_l11 rp) (5000000 : Int64))), .second, .val (.ref b8), .val (.int (1 : Int32)), .val (.long (r5_v (r1_v (j0_11_l11 rp) (5000000 : Int64)) rwa mo)), .second, .val (.long (sta + (r5_v (r1_v (j0_11_l11 rp) (5000000 : Int64)) rwa mo))), .second, .unset, .unset, .unset, .unset, .unset, .unset, .unset, .unset] [(.long sta)])) _
      refine XS.goto X21.here hx rfl (pc0 := 109) (pc' := 114) rfl (hb hby at_109) (by decide) (by decide) ?_
      show Steps p.tables e below (T21.setTop (mkF m 114 #[.val (.long rp), .second, .val (.long sta), .second, .val (.long rwa), .second, .val (.long rwb), .second, .val (.int mo), .val (.long (r1_v (1 : Int64) (rp &&& (9223372036854775807 : Int64)))), .second, .val (.long (j0_11_l11 rp)), .second, .val (.long (r1_v (j0_11_l11 rp) (5000000 : Int64))), .second, .val (.ref b8), .val (.int (1 : Int32)), .val (.long (r5_v (r1_v (j0_11_l11 rp) (5000000 : Int64)) rwa mo)), .second, .val (.long (sta + (r5_v (r1_v (j0_11_l11 rp) (5000000 : Int64)) rwa mo))), .second, .unset, .unset, .unset, .unset, .unset, .unset, .unset, .unset] [(.long sta)])) _
      refine XS.lload X21.here hx rfl (hb hby at_114) rfl ?_
      show Steps p.tables e below (T21.setTop (mkF m 116 #[.val (.long rp), .second, .val (.long sta), .second, .val (.long rwa), .second, .val (.long rwb), .second, .val (.int mo), .val (.long (r1_v (1 : Int64) (rp &&& (9223372036854775807 : Int64)))), .second, .val (.long (j0_11_l11 rp)), .second, .val (.long (r1_v (j0_11_l11 rp) (5000000 : Int64))), .second, .val (.ref b8), .val (.int (1 : Int32)), .val (.long (r5_v (r1_v (j0_11_l11 rp) (5000000 : Int64)) rwa mo)), .second, .val (.long (sta + (r5_v (r1_v (j0_11_l11 rp) (5000000 : Int64)) rwa mo))), .second, .unset, .unset, .unset, .unset, .unset, .unset, .unset, .unset] [(.long (j0_11_l11 rp)), (.long sta)])) _
      refine XS.ladd X21.here hx rfl (hb hby at_116) rfl ?_
      show Steps p.tables e below (T21.setTop (mkF m 117 #[.val (.long rp), .second, .val (.long sta), .second, .val (.long rwa), .second, .val (.long rwb), .second, .val (.int mo), .val (.long (r1_v (1 : Int64) (rp &&& (9223372036854775807 : Int64)))), .second, .val (.long (j0_11_l11 rp)), .second, .val (.long (r1_v (j0_11_l11 rp) (5000000 : Int64))), .second, .val (.ref b8), .val (.int (1 : Int32)), .val (.long (r5_v (r1_v (j0_11_l11 rp) (5000000 : Int64)) rwa mo)), .second, .val (.long (sta + (r5_v (r1_v (j0_11_l11 rp) (5000000 : Int64)) rwa mo))), .second, .unset, .unset, .unset, .unset, .unset, .unset, .unset, .unset] [(.long (sta + (j0_11_l11 rp)))])) _
      refine XS.lstore X21.here hx rfl (hb hby at_117) rfl (l' := #[.val (.long rp), .second, .val (.long sta), .second, .val (.long rwa), .second, .val (.long rwb), .second, .val (.int mo), .val (.long (r1_v (1 : Int64) (rp &&& (9223372036854775807 : Int64)))), .second, .val (.long (j0_11_l11 rp)), .second, .val (.long (r1_v (j0_11_l11 rp) (5000000 : Int64))), .second, .val (.ref b8), .val (.int (1 : Int32)), .val (.long (r5_v (r1_v (j0_11_l11 rp) (5000000 : Int64)) rwa mo)), .second, .val (.long (sta + (r5_v (r1_v (j0_11_l11 rp) (5000000 : Int64)) rwa mo))), .second, .val (.long (sta + (j0_11_l11 rp))), .second, .unset, .unset, .unset, .unset, .unset, .unset]) rfl ?_
      have ev27 : (j0_100_l21 rp sta rwa mo) = (sta + (j0_11_l11 rp)) := by unfold j0_100_l21; rw [if_pos hk26]
      rw [ev27] at k
      exact k
    · show Steps p.tables e below (T21.setTop (mkF m 105 #[.val (.long rp), .second, .val (.long sta), .second, .val (.long rwa), .second, .val (.long rwb), .second, .val (.int mo), .val (.long (r1_v (1 : Int64) (rp &&& (9223372036854775807 : Int64)))), .second, .val (.long (j0_11_l11 rp)), .second, .val (.long (r1_v (j0_11_l11 rp) (5000000 : Int64))), .second, .val (.ref b8), .val (.int (1 : Int32)), .val (.long (r5_v (r1_v (j0_11_l11 rp) (5000000 : Int64)) rwa mo)), .second, .val (.long (sta + (r5_v (r1_v (j0_11_l11 rp) (5000000 : Int64)) rwa mo))), .second, .unset, .unset, .unset, .unset, .unset, .unset, .unset, .unset] [(.int (lcmpW (r5_v (r1_v (j0_11_l11 rp) (5000000 : Int64)) rwa mo) (r1_v (j0_11_l11 rp) (5000000 : Int64))))])) _
      refine XS.ifYes X21.here hx rfl (pc0 := 105) (pc' := 112) rfl (hb hby at_105) rfl (own_fltL hk26).2.1 (by decide) (by decide) ?_
      show Steps p.tables e below (T21.setTop (mkF m 112 #[.val (.long rp), .second, .val (.long sta), .second, .val (.long rwa), .second, .val (.long rwb), .second, .val (.int mo), .val (.long (r1_v (1 : Int64) (rp &&& (9223372036854775807 : Int64)))), .second, .val (.long (j0_11_l11 rp)), .second, .val (.long (r1_v (j0_11_l11 rp) (5000000 : Int64))), .second, .val (.ref b8), .val (.int (1 : Int32)), .val (.long (r5_v (r1_v (j0_11_l11 rp) (5000000 : Int64)) rwa mo)), .second, .val (.long (sta + (r5_v (r1_v (j0_11_l11 rp) (5000000 : Int64)) rwa mo))), .second, .unset, .unset, .unset, .unset, .unset, .unset, .unset, .unset] [])) _
      refine XS.lload X21.here hx rfl (hb hby at_112) rfl ?_
      show Steps p.tables e below (T21.setTop (mkF m 114 #[.val (.long rp), .second, .val (.long sta), .second, .val (.long rwa), .second, .val (.long rwb), .second, .val (.int mo), .val (.long (r1_v (1 : Int64) (rp &&& (9223372036854775807 : Int64)))), .second, .val (.long (j0_11_l11 rp)), .second, .val (.long (r1_v (j0_11_l11 rp) (5000000 : Int64))), .second, .val (.ref b8), .val (.int (1 : Int32)), .val (.long (r5_v (r1_v (j0_11_l11 rp) (5000000 : Int64)) rwa mo)), .second, .val (.long (sta + (r5_v (r1_v (j0_11_l11 rp) (5000000 : Int64)) rwa mo))), .second, .unset, .unset, .unset, .unset, .unset, .unset, .unset, .unset] [(.long (sta + (r5_v (r1_v (j0_11_l11 rp) (5000000 : Int64)) rwa mo)))])) _
      refine XS.lload X21.here hx rfl (hb hby at_114) rfl ?_
      show Steps p.tables e below (T21.setTop (mkF m 116 #[.val (.long rp), .second, .val (.long sta), .second, .val (.long rwa), .second, .val (.long rwb), .second, .val (.int mo), .val (.long (r1_v (1 : Int64) (rp &&& (9223372036854775807 : Int64)))), .second, .val (.long (j0_11_l11 rp)), .second, .val (.long (r1_v (j0_11_l11 rp) (5000000 : Int64))), .second, .val (.ref b8), .val (.int (1 : Int32)), .val (.long (r5_v (r1_v (j0_11_l11 rp) (5000000 : Int64)) rwa mo)), .second, .val (.long (sta + (r5_v (r1_v (j0_11_l11 rp) (5000000 : Int64)) rwa mo))), .second, .unset, .unset, .unset, .unset, .unset, .unset, .unset, .unset] [(.long (j0_11_l11 rp)), (.long (sta + (r5_v (r1_v (j0_11_l11 rp) (5000000 : Int64)) rwa mo)))])) _
      refine XS.ladd X21.here hx rfl (hb hby at_116) rfl ?_
      show Steps p.tables e below (T21.setTop (mkF m 117 #[.val (.long rp), .second, .val (.long sta), .second, .val (.long rwa), .second, .val (.long rwb), .second, .val (.int mo), .val (.long (r1_v (1 : Int64) (rp &&& (9223372036854775807 : Int64)))), .second, .val (.long (j0_11_l11 rp)), .second, .val (.long (r1_v (j0_11_l11 rp) (5000000 : Int64))), .second, .val (.ref b8), .val (.int (1 : Int32)), .val (.long (r5_v (r1_v (j0_11_l11 rp) (5000000 : Int64)) rwa mo)), .second, .val (.long (sta + (r5_v (r1_v (j0_11_l11 rp) (5000000 : Int64)) rwa mo))), .second, .unset, .unset, .unset, .unset, .unset, .unset, .unset, .unset] [(.long ((sta + (r5_v (r1_v (j0_11_l11 rp) (5000000 : Int64)) rwa mo)) + (j0_11_l11 rp)))])) _
      refine XS.lstore X21.here hx rfl (hb hby at_117) rfl (l' := #[.val (.long rp), .second, .val (.long sta), .second, .val (.long rwa), .second, .val (.long rwb), .second, .val (.int mo), .val (.long (r1_v (1 : Int64) (rp &&& (9223372036854775807 : Int64)))), .second, .val (.long (j0_11_l11 rp)), .second, .val (.long (r1_v (j0_11_l11 rp) (5000000 : Int64))), .second, .val (.ref b8), .val (.int (1 : Int32)), .val (.long (r5_v (r1_v (j0_11_l11 rp) (5000000 : Int64)) rwa mo)), .second, .val (.long (sta + (r5_v (r1_v (j0_11_l11 rp) (5000000 : Int64)) rwa mo))), .second, .val (.long ((sta + (r5_v (r1_v (j0_11_l11 rp) (5000000 : Int64)) rwa mo)) + (j0_11_l11 rp))), .second, .unset, .unset, .unset, .unset, .unset, .unset]) rfl ?_
      have ev28 : (j0_100_l21 rp sta rwa mo) = ((sta + (r5_v (r1_v (j0_11_l11 rp) (5000000 : Int64)) rwa mo)) + (j0_11_l11 rp)) := by unfold j0_100_l21; rw [if_neg hk26]
      rw [ev28] at k
      exact k
  obtain ⟨cq31, kq31, q31a, q31b, q31c⟩ := isOf hZ rfl f25
  obtain ⟨_, _, ⟨T31, L31, k31, n31⟩, -, X31, ⟨Lc31, hQ31, l31, y31, z31⟩, st31⟩ := X21.virtualBack hx (y := (⟨"com/example/hikyaku/hikyaku/mqtt/Pacer", "turnAt", "()J"⟩ : MethodName)) (z := (⟨"com/example/hikyaku/hikyaku/mqtt/Pacer", "turnAt", "()J"⟩ : MethodName)) hown (mvT hZ (hw _ (List.mem_of_getElem? (i := 27) rfl))) (mvT hZ (hw _ (List.mem_of_getElem? (i := 28) rfl))) (notFace_of_selects (args := #[]) (mvT hZ (hw _ (List.mem_of_getElem? (i := 30) rfl)))) (mvT hZ (hw _ (List.mem_of_getElem? (i := 30) rfl))) (mvT hZ (hw _ (List.mem_of_getElem? (i := 29) rfl))) (by decide) (backOf (W := 0) (rm4 l Z a0 hw [] b8 (r6_turnAt (sta + (r5_v (r1_v (j0_11_l11 rp) (5000000 : Int64)) rwa mo)) sta (r1_v (((1000000000 : Int64) / (r1_v (1 : Int64) (rp &&& (9223372036854775807 : Int64)))) + ((j2_37_s0 (r1_v (1 : Int64) (rp &&& (9223372036854775807 : Int64)))).toInt64)) (5000000 : Int64)) (((1000000000 : Int64) / (r1_v (1 : Int64) (rp &&& (9223372036854775807 : Int64)))) + ((j2_37_s0 (r1_v (1 : Int64) (rp &&& (9223372036854775807 : Int64)))).toInt64))) T21.heap n0 Z21 f22) hZ (hw _ (List.mem_of_getElem? (i := 31) rfl)) (hw _ (List.mem_of_getElem? (i := 9) rfl)) (by decide) (by decide)) q31a q31c (g := (mkF m 126 #[.val (.long rp), .second, .val (.long sta), .second, .val (.long rwa), .second, .val (.long rwb), .second, .val (.int mo), .val (.long (r1_v (1 : Int64) (rp &&& (9223372036854775807 : Int64)))), .second, .val (.long (j0_11_l11 rp)), .second, .val (.long (r1_v (j0_11_l11 rp) (5000000 : Int64))), .second, .val (.ref b8), .val (.int (1 : Int32)), .val (.long (r5_v (r1_v (j0_11_l11 rp) (5000000 : Int64)) rwa mo)), .second, .val (.long (sta + (r5_v (r1_v (j0_11_l11 rp) (5000000 : Int64)) rwa mo))), .second, .val (.long (j0_100_l21 rp sta rwa mo)), .second, .unset, .unset, .unset, .unset, .unset, .unset] [(.ref b8)])) rfl (by rw [hml]; rfl) (Steps.refl _) (argsL := []) (rest := []) (lenOf pd_2 rfl) rfl (by show 2 * 0 + _ ≤ _; exact Nat.le_of_eq rfl) (hb hby at_126) (fun _ _ => ⟨rfl, rfl, (by decide : 1 + 0 ≤ _), (by decide : 3 + 0 ≤ _)⟩)
  dsimp only [Pt.U, Pt.locs, Pt.cells, Pt.slots] at X31 l31 y31 z31 st31 hQ31
  subst l31 y31 z31
  obtain ⟨rfl, N31q, e31⟩ := hQ31
  have N31 := Fr.app N21 N31q
  obtain ⟨_, _, ⟨T32, L32, k32, n32⟩, -, X32, ⟨Lc32, hQ32, l32, y32, z32⟩, st32⟩ := Jvm.LawKit.callS X31 hx (y := (⟨"com/example/hikyaku/hikyaku/mqtt/PacerTakePinLaw", "delay", "(JJI)J"⟩ : MethodName)) hown (mvT hZ (hw _ (List.mem_of_getElem? (i := 32) rfl))) (mvT hZ (hw _ (List.mem_of_getElem? (i := 33) rfl))) (mvT hZ (hw _ (List.mem_of_getElem? (i := 34) rfl))) (mvT hZ (hw _ (List.mem_of_getElem? (i := 35) rfl))) (by decide) (backOf (W := 0) (rm5 l Z a0 hw [] (r1_v (j0_11_l11 rp) (5000000 : Int64)) rwb (mo >>> ((2 : Int32) &&& 31)) T21.heap n0 Z21 ) hZ (hw _ (List.mem_of_getElem? (i := 35) rfl)) (hw _ (List.mem_of_getElem? (i := 34) rfl)) (by decide) (by decide)) (g := (mkF m 150 #[.val (.long rp), .second, .val (.long sta), .second, .val (.long rwa), .second, .val (.long rwb), .second, .val (.int mo), .val (.long (r1_v (1 : Int64) (rp &&& (9223372036854775807 : Int64)))), .second, .val (.long (j0_11_l11 rp)), .second, .val (.long (r1_v (j0_11_l11 rp) (5000000 : Int64))), .second, .val (.ref b8), .val (.int (1 : Int32)), .val (.long (r5_v (r1_v (j0_11_l11 rp) (5000000 : Int64)) rwa mo)), .second, .val (.long (sta + (r5_v (r1_v (j0_11_l11 rp) (5000000 : Int64)) rwa mo))), .second, .val (.long (j0_100_l21 rp sta rwa mo)), .second, .unset, .unset, .unset, .unset, .unset, .unset] [(.int (mo >>> ((2 : Int32) &&& 31))), (.long rwb), (.long (r1_v (j0_11_l11 rp) (5000000 : Int64)))])) rfl (by rw [hml]; rfl) (argsL := [(.long (r1_v (j0_11_l11 rp) (5000000 : Int64))), (.long rwb), (.int (mo >>> ((2 : Int32) &&& 31)))]) (rest := []) (lenOf pd_3 rfl) rfl (by show 2 * 0 + _ ≤ _; exact Nat.le_of_eq rfl) (hb hby at_150) (fun _ _ => ⟨rfl, e31, (by decide : 1 + 0 ≤ _), (by decide : 3 + 0 ≤ _)⟩)
  dsimp only [Pt.U, Pt.locs, Pt.cells, Pt.slots] at X32 l32 y32 z32 st32 hQ32
  subst l32 y32 z32
  obtain ⟨rfl, N32q, e32⟩ := hQ32
  have N32 := Fr.app N31 N32q
  obtain ⟨cq33, kq33, q33a, q33b, q33c⟩ := isOf hZ e32 f25
  obtain ⟨_, _, ⟨T33, L33, k33, n33⟩, -, X33, ⟨Lc33, hQ33, l33, y33, z33⟩, st33⟩ := X32.virtualBack hx (y := (⟨"com/example/hikyaku/hikyaku/mqtt/Pacer", "take", "(J)V"⟩ : MethodName)) (z := (⟨"com/example/hikyaku/hikyaku/mqtt/Pacer", "take", "(J)V"⟩ : MethodName)) hown (mvT hZ (hw _ (List.mem_of_getElem? (i := 37) rfl))) (mvT hZ (hw _ (List.mem_of_getElem? (i := 38) rfl))) (notFace_of_selects (args := #[]) (mvT hZ (hw _ (List.mem_of_getElem? (i := 40) rfl)))) (mvT hZ (hw _ (List.mem_of_getElem? (i := 40) rfl))) (mvT hZ (hw _ (List.mem_of_getElem? (i := 39) rfl))) (by decide) (backOf (W := 0) (rm6 l Z a0 hw [] b8 ((j0_100_l21 rp sta rwa mo) + (r5_v (r1_v (j0_11_l11 rp) (5000000 : Int64)) rwb (mo >>> ((2 : Int32) &&& 31)))) (r6_turnAt (sta + (r5_v (r1_v (j0_11_l11 rp) (5000000 : Int64)) rwa mo)) sta (r1_v (((1000000000 : Int64) / (r1_v (1 : Int64) (rp &&& (9223372036854775807 : Int64)))) + ((j2_37_s0 (r1_v (1 : Int64) (rp &&& (9223372036854775807 : Int64)))).toInt64)) (5000000 : Int64)) (((1000000000 : Int64) / (r1_v (1 : Int64) (rp &&& (9223372036854775807 : Int64)))) + ((j2_37_s0 (r1_v (1 : Int64) (rp &&& (9223372036854775807 : Int64)))).toInt64))) (r1_v (((1000000000 : Int64) / (r1_v (1 : Int64) (rp &&& (9223372036854775807 : Int64)))) + ((j2_37_s0 (r1_v (1 : Int64) (rp &&& (9223372036854775807 : Int64)))).toInt64)) (5000000 : Int64)) (((1000000000 : Int64) / (r1_v (1 : Int64) (rp &&& (9223372036854775807 : Int64)))) + ((j2_37_s0 (r1_v (1 : Int64) (rp &&& (9223372036854775807 : Int64)))).toInt64)) T21.heap n0 Z21 f22 f23 f24 f25 gg8 f25) hZ (hw _ (List.mem_of_getElem? (i := 41) rfl)) (hw _ (List.mem_of_getElem? (i := 9) rfl)) (by decide) (by decide)) q33a q33c (g := (mkF m 166 #[.val (.long rp), .second, .val (.long sta), .second, .val (.long rwa), .second, .val (.long rwb), .second, .val (.int mo), .val (.long (r1_v (1 : Int64) (rp &&& (9223372036854775807 : Int64)))), .second, .val (.long (j0_11_l11 rp)), .second, .val (.long (r1_v (j0_11_l11 rp) (5000000 : Int64))), .second, .val (.ref b8), .val (.int (1 : Int32)), .val (.long (r5_v (r1_v (j0_11_l11 rp) (5000000 : Int64)) rwa mo)), .second, .val (.long (sta + (r5_v (r1_v (j0_11_l11 rp) (5000000 : Int64)) rwa mo))), .second, .val (.long (j0_100_l21 rp sta rwa mo)), .second, .val (.long (r5_v (r1_v (j0_11_l11 rp) (5000000 : Int64)) rwb (mo >>> ((2 : Int32) &&& 31)))), .second, .val (.long ((j0_100_l21 rp sta rwa mo) + (r5_v (r1_v (j0_11_l11 rp) (5000000 : Int64)) rwb (mo >>> ((2 : Int32) &&& 31))))), .second, .unset, .unset] [(.long ((j0_100_l21 rp sta rwa mo) + (r5_v (r1_v (j0_11_l11 rp) (5000000 : Int64)) rwb (mo >>> ((2 : Int32) &&& 31))))), (.ref b8)])) rfl (by rw [hml]; rfl) (Steps.refl _) (argsL := [(.long ((j0_100_l21 rp sta rwa mo) + (r5_v (r1_v (j0_11_l11 rp) (5000000 : Int64)) rwb (mo >>> ((2 : Int32) &&& 31)))))]) (rest := []) (lenOf pd_4 rfl) rfl (by show 2 * 0 + _ ≤ _; exact Nat.le_of_eq rfl) (hb hby at_166) (fun _ _ => ⟨rfl, e32, (by decide : 1 + 0 ≤ _), (by decide : 3 + 0 ≤ _)⟩)
  dsimp only [Pt.U, Pt.locs, Pt.cells, Pt.slots] at X33 l33 y33 z33 st33 hQ33
  subst l33 y33 z33
  obtain ⟨rfl, N33q, K33c, f34, f35, f36⟩ := hQ33
  have N33 := Fr.app N32 N33q
  have f37 : Exa Z T33.heap b8 "com/example/hikyaku/hikyaku/mqtt/Pacer" := f25.keep K33c
  have Z33 : n0 ≤ T33.heap.size := Nat.le_trans Z21 K33c.1
  have pre41 : ∀ t, Steps p.tables e below (T33.setTop (mkF m 169 #[.val (.long rp), .second, .val (.long sta), .second, .val (.long rwa), .second, .val (.long rwb), .second, .val (.int mo), .val (.long (r1_v (1 : Int64) (rp &&& (9223372036854775807 : Int64)))), .second, .val (.long (j0_11_l11 rp)), .second, .val (.long (r1_v (j0_11_l11 rp) (5000000 : Int64))), .second, .val (.ref b8), .val (.int (1 : Int32)), .val (.long (r5_v (r1_v (j0_11_l11 rp) (5000000 : Int64)) rwa mo)), .second, .val (.long (sta + (r5_v (r1_v (j0_11_l11 rp) (5000000 : Int64)) rwa mo))), .second, .val (.long (j0_100_l21 rp sta rwa mo)), .second, .val (.long (r5_v (r1_v (j0_11_l11 rp) (5000000 : Int64)) rwb (mo >>> ((2 : Int32) &&& 31)))), .second, .val (.long ((j0_100_l21 rp sta rwa mo) + (r5_v (r1_v (j0_11_l11 rp) (5000000 : Int64)) rwb (mo >>> ((2 : Int32) &&& 31))))), .second, .unset, .unset] [])) t → Steps p.tables e below (s₁.setTop (entryFrame m #[(.long rp), (.long sta), (.long rwa), (.long rwb), (.int mo)] maxLocals)) t := by
    intro t k
    refine pre30 _ ?_
    show Steps p.tables e below (T21.setTop (mkF m 119 #[.val (.long rp), .second, .val (.long sta), .second, .val (.long rwa), .second, .val (.long rwb), .second, .val (.int mo), .val (.long (r1_v (1 : Int64) (rp &&& (9223372036854775807 : Int64)))), .second, .val (.long (j0_11_l11 rp)), .second, .val (.long (r1_v (j0_11_l11 rp) (5000000 : Int64))), .second, .val (.ref b8), .val (.int (1 : Int32)), .val (.long (r5_v (r1_v (j0_11_l11 rp) (5000000 : Int64)) rwa mo)), .second, .val (.long (sta + (r5_v (r1_v (j0_11_l11 rp) (5000000 : Int64)) rwa mo))), .second, .val (.long (j0_100_l21 rp sta rwa mo)), .second, .unset, .unset, .unset, .unset, .unset, .unset] [])) _
    refine XS.iload X21.here hx rfl (hb hby at_119) rfl ?_
    show Steps p.tables e below (T21.setTop (mkF m 121 #[.val (.long rp), .second, .val (.long sta), .second, .val (.long rwa), .second, .val (.long rwb), .second, .val (.int mo), .val (.long (r1_v (1 : Int64) (rp &&& (9223372036854775807 : Int64)))), .second, .val (.long (j0_11_l11 rp)), .second, .val (.long (r1_v (j0_11_l11 rp) (5000000 : Int64))), .second, .val (.ref b8), .val (.int (1 : Int32)), .val (.long (r5_v (r1_v (j0_11_l11 rp) (5000000 : Int64)) rwa mo)), .second, .val (.long (sta + (r5_v (r1_v (j0_11_l11 rp) (5000000 : Int64)) rwa mo))), .second, .val (.long (j0_100_l21 rp sta rwa mo)), .second, .unset, .unset, .unset, .unset, .unset, .unset] [(.int (1 : Int32))])) _
    refine XS.ifNo X21.here hx rfl (hb hby at_121) rfl ((if0 _ _).trans (feq (by decide : ¬ ((1 : Int32) = (0 : Int32)))).1) ?_
    show Steps p.tables e below (T21.setTop (mkF m 124 #[.val (.long rp), .second, .val (.long sta), .second, .val (.long rwa), .second, .val (.long rwb), .second, .val (.int mo), .val (.long (r1_v (1 : Int64) (rp &&& (9223372036854775807 : Int64)))), .second, .val (.long (j0_11_l11 rp)), .second, .val (.long (r1_v (j0_11_l11 rp) (5000000 : Int64))), .second, .val (.ref b8), .val (.int (1 : Int32)), .val (.long (r5_v (r1_v (j0_11_l11 rp) (5000000 : Int64)) rwa mo)), .second, .val (.long (sta + (r5_v (r1_v (j0_11_l11 rp) (5000000 : Int64)) rwa mo))), .second, .val (.long (j0_100_l21 rp sta rwa mo)), .second, .unset, .unset, .unset, .unset, .unset, .unset] [])) _
    refine XS.aload X21.here hx rfl (hb hby at_124) rfl rfl ?_
    show Steps p.tables e below (T21.setTop (mkF m 126 #[.val (.long rp), .second, .val (.long sta), .second, .val (.long rwa), .second, .val (.long rwb), .second, .val (.int mo), .val (.long (r1_v (1 : Int64) (rp &&& (9223372036854775807 : Int64)))), .second, .val (.long (j0_11_l11 rp)), .second, .val (.long (r1_v (j0_11_l11 rp) (5000000 : Int64))), .second, .val (.ref b8), .val (.int (1 : Int32)), .val (.long (r5_v (r1_v (j0_11_l11 rp) (5000000 : Int64)) rwa mo)), .second, .val (.long (sta + (r5_v (r1_v (j0_11_l11 rp) (5000000 : Int64)) rwa mo))), .second, .val (.long (j0_100_l21 rp sta rwa mo)), .second, .unset, .unset, .unset, .unset, .unset, .unset] [(.ref b8)])) _
    refine st31.trans ?_
    show Steps p.tables e below (T31.setTop (mkF m 129 #[.val (.long rp), .second, .val (.long sta), .second, .val (.long rwa), .second, .val (.long rwb), .second, .val (.int mo), .val (.long (r1_v (1 : Int64) (rp &&& (9223372036854775807 : Int64)))), .second, .val (.long (j0_11_l11 rp)), .second, .val (.long (r1_v (j0_11_l11 rp) (5000000 : Int64))), .second, .val (.ref b8), .val (.int (1 : Int32)), .val (.long (r5_v (r1_v (j0_11_l11 rp) (5000000 : Int64)) rwa mo)), .second, .val (.long (sta + (r5_v (r1_v (j0_11_l11 rp) (5000000 : Int64)) rwa mo))), .second, .val (.long (j0_100_l21 rp sta rwa mo)), .second, .unset, .unset, .unset, .unset, .unset, .unset] [(.long (r6_turnAt (sta + (r5_v (r1_v (j0_11_l11 rp) (5000000 : Int64)) rwa mo)) sta (r1_v (((1000000000 : Int64) / (r1_v (1 : Int64) (rp &&& (9223372036854775807 : Int64)))) + ((j2_37_s0 (r1_v (1 : Int64) (rp &&& (9223372036854775807 : Int64)))).toInt64)) (5000000 : Int64)) (((1000000000 : Int64) / (r1_v (1 : Int64) (rp &&& (9223372036854775807 : Int64)))) + ((j2_37_s0 (r1_v (1 : Int64) (rp &&& (9223372036854775807 : Int64)))).toInt64))))])) _
    refine XS.lload X31.here hx rfl (hb hby at_129) rfl ?_
    show Steps p.tables e below (T31.setTop (mkF m 131 #[.val (.long rp), .second, .val (.long sta), .second, .val (.long rwa), .second, .val (.long rwb), .second, .val (.int mo), .val (.long (r1_v (1 : Int64) (rp &&& (9223372036854775807 : Int64)))), .second, .val (.long (j0_11_l11 rp)), .second, .val (.long (r1_v (j0_11_l11 rp) (5000000 : Int64))), .second, .val (.ref b8), .val (.int (1 : Int32)), .val (.long (r5_v (r1_v (j0_11_l11 rp) (5000000 : Int64)) rwa mo)), .second, .val (.long (sta + (r5_v (r1_v (j0_11_l11 rp) (5000000 : Int64)) rwa mo))), .second, .val (.long (j0_100_l21 rp sta rwa mo)), .second, .unset, .unset, .unset, .unset, .unset, .unset] [(.long (j0_100_l21 rp sta rwa mo)), (.long (r6_turnAt (sta + (r5_v (r1_v (j0_11_l11 rp) (5000000 : Int64)) rwa mo)) sta (r1_v (((1000000000 : Int64) / (r1_v (1 : Int64) (rp &&& (9223372036854775807 : Int64)))) + ((j2_37_s0 (r1_v (1 : Int64) (rp &&& (9223372036854775807 : Int64)))).toInt64)) (5000000 : Int64)) (((1000000000 : Int64) / (r1_v (1 : Int64) (rp &&& (9223372036854775807 : Int64)))) + ((j2_37_s0 (r1_v (1 : Int64) (rp &&& (9223372036854775807 : Int64)))).toInt64))))])) _
    refine XS.lcmp X31.here hx rfl (hb hby at_131) rfl ?_
    show Steps p.tables e below (T31.setTop (mkF m 132 #[.val (.long rp), .second, .val (.long sta), .second, .val (.long rwa), .second, .val (.long rwb), .second, .val (.int mo), .val (.long (r1_v (1 : Int64) (rp &&& (9223372036854775807 : Int64)))), .second, .val (.long (j0_11_l11 rp)), .second, .val (.long (r1_v (j0_11_l11 rp) (5000000 : Int64))), .second, .val (.ref b8), .val (.int (1 : Int32)), .val (.long (r5_v (r1_v (j0_11_l11 rp) (5000000 : Int64)) rwa mo)), .second, .val (.long (sta + (r5_v (r1_v (j0_11_l11 rp) (5000000 : Int64)) rwa mo))), .second, .val (.long (j0_100_l21 rp sta rwa mo)), .second, .unset, .unset, .unset, .unset, .unset, .unset] [(.int (lcmpW (r6_turnAt (sta + (r5_v (r1_v (j0_11_l11 rp) (5000000 : Int64)) rwa mo)) sta (r1_v (((1000000000 : Int64) / (r1_v (1 : Int64) (rp &&& (9223372036854775807 : Int64)))) + ((j2_37_s0 (r1_v (1 : Int64) (rp &&& (9223372036854775807 : Int64)))).toInt64)) (5000000 : Int64)) (((1000000000 : Int64) / (r1_v (1 : Int64) (rp &&& (9223372036854775807 : Int64)))) + ((j2_37_s0 (r1_v (1 : Int64) (rp &&& (9223372036854775807 : Int64)))).toInt64))) (j0_100_l21 rp sta rwa mo)))])) _
    refine XS.ifNo X31.here hx rfl (hb hby at_132) rfl (own_teqL (own_a rp sta rwa mo : ((r6_turnAt (sta + (r5_v (r1_v (j0_11_l11 rp) (5000000 : Int64)) rwa mo)) sta (r1_v (((1000000000 : Int64) / (r1_v (1 : Int64) (rp &&& (9223372036854775807 : Int64)))) + ((j2_37_s0 (r1_v (1 : Int64) (rp &&& (9223372036854775807 : Int64)))).toInt64)) (5000000 : Int64)) (((1000000000 : Int64) / (r1_v (1 : Int64) (rp &&& (9223372036854775807 : Int64)))) + ((j2_37_s0 (r1_v (1 : Int64) (rp &&& (9223372036854775807 : Int64)))).toInt64))) = (j0_100_l21 rp sta rwa mo)))).2 ?_
    show Steps p.tables e below (T31.setTop (mkF m 135 #[.val (.long rp), .second, .val (.long sta), .second, .val (.long rwa), .second, .val (.long rwb), .second, .val (.int mo), .val (.long (r1_v (1 : Int64) (rp &&& (9223372036854775807 : Int64)))), .second, .val (.long (j0_11_l11 rp)), .second, .val (.long (r1_v (j0_11_l11 rp) (5000000 : Int64))), .second, .val (.ref b8), .val (.int (1 : Int32)), .val (.long (r5_v (r1_v (j0_11_l11 rp) (5000000 : Int64)) rwa mo)), .second, .val (.long (sta + (r5_v (r1_v (j0_11_l11 rp) (5000000 : Int64)) rwa mo))), .second, .val (.long (j0_100_l21 rp sta rwa mo)), .second, .unset, .unset, .unset, .unset, .unset, .unset] [])) _
    refine XS.iconst X31.here hx rfl (hb hby at_135) ?_
    show Steps p.tables e below (T31.setTop (mkF m 136 #[.val (.long rp), .second, .val (.long sta), .second, .val (.long rwa), .second, .val (.long rwb), .second, .val (.int mo), .val (.long (r1_v (1 : Int64) (rp &&& (9223372036854775807 : Int64)))), .second, .val (.long (j0_11_l11 rp)), .second, .val (.long (r1_v (j0_11_l11 rp) (5000000 : Int64))), .second, .val (.ref b8), .val (.int (1 : Int32)), .val (.long (r5_v (r1_v (j0_11_l11 rp) (5000000 : Int64)) rwa mo)), .second, .val (.long (sta + (r5_v (r1_v (j0_11_l11 rp) (5000000 : Int64)) rwa mo))), .second, .val (.long (j0_100_l21 rp sta rwa mo)), .second, .unset, .unset, .unset, .unset, .unset, .unset] [(.int (1 : Int32))])) _
    refine XS.goto X31.here hx rfl (pc0 := 136) (pc' := 140) rfl (hb hby at_136) (by decide) (by decide) ?_
    show Steps p.tables e below (T31.setTop (mkF m 140 #[.val (.long rp), .second, .val (.long sta), .second, .val (.long rwa), .second, .val (.long rwb), .second, .val (.int mo), .val (.long (r1_v (1 : Int64) (rp &&& (9223372036854775807 : Int64)))), .second, .val (.long (j0_11_l11 rp)), .second, .val (.long (r1_v (j0_11_l11 rp) (5000000 : Int64))), .second, .val (.ref b8), .val (.int (1 : Int32)), .val (.long (r5_v (r1_v (j0_11_l11 rp) (5000000 : Int64)) rwa mo)), .second, .val (.long (sta + (r5_v (r1_v (j0_11_l11 rp) (5000000 : Int64)) rwa mo))), .second, .val (.long (j0_100_l21 rp sta rwa mo)), .second, .unset, .unset, .unset, .unset, .unset, .unset] [(.int (1 : Int32))])) _
    refine XS.istore X31.here hx rfl (hb hby at_140) rfl (l' := #[.val (.long rp), .second, .val (.long sta), .second, .val (.long rwa), .second, .val (.long rwb), .second, .val (.int mo), .val (.long (r1_v (1 : Int64) (rp &&& (9223372036854775807 : Int64)))), .second, .val (.long (j0_11_l11 rp)), .second, .val (.long (r1_v (j0_11_l11 rp) (5000000 : Int64))), .second, .val (.ref b8), .val (.int (1 : Int32)), .val (.long (r5_v (r1_v (j0_11_l11 rp) (5000000 : Int64)) rwa mo)), .second, .val (.long (sta + (r5_v (r1_v (j0_11_l11 rp) (5000000 : Int64)) rwa mo))), .second, .val (.long (j0_100_l21 rp sta rwa mo)), .second, .unset, .unset, .unset, .unset, .unset, .unset]) rfl ?_
    show Steps p.tables e below (T31.setTop (mkF m 142 #[.val (.long rp), .second, .val (.long sta), .second, .val (.long rwa), .second, .val (.long rwb), .second, .val (.int mo), .val (.long (r1_v (1 : Int64) (rp &&& (9223372036854775807 : Int64)))), .second, .val (.long (j0_11_l11 rp)), .second, .val (.long (r1_v (j0_11_l11 rp) (5000000 : Int64))), .second, .val (.ref b8), .val (.int (1 : Int32)), .val (.long (r5_v (r1_v (j0_11_l11 rp) (5000000 : Int64)) rwa mo)), .second, .val (.long (sta + (r5_v (r1_v (j0_11_l11 rp) (5000000 : Int64)) rwa mo))), .second, .val (.long (j0_100_l21 rp sta rwa mo)), .second, .unset, .unset, .unset, .unset, .unset, .unset] [])) _
    refine XS.lload X31.here hx rfl (hb hby at_142) rfl ?_
    show Steps p.tables e below (T31.setTop (mkF m 144 #[.val (.long rp), .second, .val (.long sta), .second, .val (.long rwa), .second, .val (.long rwb), .second, .val (.int mo), .val (.long (r1_v (1 : Int64) (rp &&& (9223372036854775807 : Int64)))), .second, .val (.long (j0_11_l11 rp)), .second, .val (.long (r1_v (j0_11_l11 rp) (5000000 : Int64))), .second, .val (.ref b8), .val (.int (1 : Int32)), .val (.long (r5_v (r1_v (j0_11_l11 rp) (5000000 : Int64)) rwa mo)), .second, .val (.long (sta + (r5_v (r1_v (j0_11_l11 rp) (5000000 : Int64)) rwa mo))), .second, .val (.long (j0_100_l21 rp sta rwa mo)), .second, .unset, .unset, .unset, .unset, .unset, .unset] [(.long (r1_v (j0_11_l11 rp) (5000000 : Int64)))])) _
    refine XS.lload X31.here hx rfl (hb hby at_144) rfl ?_
    show Steps p.tables e below (T31.setTop (mkF m 146 #[.val (.long rp), .second, .val (.long sta), .second, .val (.long rwa), .second, .val (.long rwb), .second, .val (.int mo), .val (.long (r1_v (1 : Int64) (rp &&& (9223372036854775807 : Int64)))), .second, .val (.long (j0_11_l11 rp)), .second, .val (.long (r1_v (j0_11_l11 rp) (5000000 : Int64))), .second, .val (.ref b8), .val (.int (1 : Int32)), .val (.long (r5_v (r1_v (j0_11_l11 rp) (5000000 : Int64)) rwa mo)), .second, .val (.long (sta + (r5_v (r1_v (j0_11_l11 rp) (5000000 : Int64)) rwa mo))), .second, .val (.long (j0_100_l21 rp sta rwa mo)), .second, .unset, .unset, .unset, .unset, .unset, .unset] [(.long rwb), (.long (r1_v (j0_11_l11 rp) (5000000 : Int64)))])) _
    refine XS.iload X31.here hx rfl (hb hby at_146) rfl ?_
    show Steps p.tables e below (T31.setTop (mkF m 148 #[.val (.long rp), .second, .val (.long sta), .second, .val (.long rwa), .second, .val (.long rwb), .second, .val (.int mo), .val (.long (r1_v (1 : Int64) (rp &&& (9223372036854775807 : Int64)))), .second, .val (.long (j0_11_l11 rp)), .second, .val (.long (r1_v (j0_11_l11 rp) (5000000 : Int64))), .second, .val (.ref b8), .val (.int (1 : Int32)), .val (.long (r5_v (r1_v (j0_11_l11 rp) (5000000 : Int64)) rwa mo)), .second, .val (.long (sta + (r5_v (r1_v (j0_11_l11 rp) (5000000 : Int64)) rwa mo))), .second, .val (.long (j0_100_l21 rp sta rwa mo)), .second, .unset, .unset, .unset, .unset, .unset, .unset] [(.int mo), (.long rwb), (.long (r1_v (j0_11_l11 rp) (5000000 : Int64)))])) _
    refine XS.iconst X31.here hx rfl (hb hby at_148) ?_
    show Steps p.tables e below (T31.setTop (mkF m 149 #[.val (.long rp), .second, .val (.long sta), .second, .val (.long rwa), .second, .val (.long rwb), .second, .val (.int mo), .val (.long (r1_v (1 : Int64) (rp &&& (9223372036854775807 : Int64)))), .second, .val (.long (j0_11_l11 rp)), .second, .val (.long (r1_v (j0_11_l11 rp) (5000000 : Int64))), .second, .val (.ref b8), .val (.int (1 : Int32)), .val (.long (r5_v (r1_v (j0_11_l11 rp) (5000000 : Int64)) rwa mo)), .second, .val (.long (sta + (r5_v (r1_v (j0_11_l11 rp) (5000000 : Int64)) rwa mo))), .second, .val (.long (j0_100_l21 rp sta rwa mo)), .second, .unset, .unset, .unset, .unset, .unset, .unset] [(.int (2 : Int32)), (.int mo), (.long rwb), (.long (r1_v (j0_11_l11 rp) (5000000 : Int64)))])) _
    refine XS.ishr X31.here hx rfl (hb hby at_149) rfl ?_
    show Steps p.tables e below (T31.setTop (mkF m 150 #[.val (.long rp), .second, .val (.long sta), .second, .val (.long rwa), .second, .val (.long rwb), .second, .val (.int mo), .val (.long (r1_v (1 : Int64) (rp &&& (9223372036854775807 : Int64)))), .second, .val (.long (j0_11_l11 rp)), .second, .val (.long (r1_v (j0_11_l11 rp) (5000000 : Int64))), .second, .val (.ref b8), .val (.int (1 : Int32)), .val (.long (r5_v (r1_v (j0_11_l11 rp) (5000000 : Int64)) rwa mo)), .second, .val (.long (sta + (r5_v (r1_v (j0_11_l11 rp) (5000000 : Int64)) rwa mo))), .second, .val (.long (j0_100_l21 rp sta rwa mo)), .second, .unset, .unset, .unset, .unset, .unset, .unset] [(.int (mo >>> ((2 : Int32) &&& 31))), (.long rwb), (.long (r1_v (j0_11_l11 rp) (5000000 : Int64)))])) _
    refine st32 _ ?_
    show Steps p.tables e below (T32.setTop (mkF m 153 #[.val (.long rp), .second, .val (.long sta), .second, .val (.long rwa), .second, .val (.long rwb), .second, .val (.int mo), .val (.long (r1_v (1 : Int64) (rp &&& (9223372036854775807 : Int64)))), .second, .val (.long (j0_11_l11 rp)), .second, .val (.long (r1_v (j0_11_l11 rp) (5000000 : Int64))), .second, .val (.ref b8), .val (.int (1 : Int32)), .val (.long (r5_v (r1_v (j0_11_l11 rp) (5000000 : Int64)) rwa mo)), .second, .val (.long (sta + (r5_v (r1_v (j0_11_l11 rp) (5000000 : Int64)) rwa mo))), .second, .val (.long (j0_100_l21 rp sta rwa mo)), .second, .unset, .unset, .unset, .unset, .unset, .unset] [(.long (r5_v (r1_v (j0_11_l11 rp) (5000000 : Int64)) rwb (mo >>> ((2 : Int32) &&& 31))))])) _
    refine XS.lstore X32.here hx rfl (hb hby at_153) rfl (l' := #[.val (.long rp), .second, .val (.long sta), .second, .val (.long rwa), .second, .val (.long rwb), .second, .val (.int mo), .val (.long (r1_v (1 : Int64) (rp &&& (9223372036854775807 : Int64)))), .second, .val (.long (j0_11_l11 rp)), .second, .val (.long (r1_v (j0_11_l11 rp) (5000000 : Int64))), .second, .val (.ref b8), .val (.int (1 : Int32)), .val (.long (r5_v (r1_v (j0_11_l11 rp) (5000000 : Int64)) rwa mo)), .second, .val (.long (sta + (r5_v (r1_v (j0_11_l11 rp) (5000000 : Int64)) rwa mo))), .second, .val (.long (j0_100_l21 rp sta rwa mo)), .second, .val (.long (r5_v (r1_v (j0_11_l11 rp) (5000000 : Int64)) rwb (mo >>> ((2 : Int32) &&& 31)))), .second, .unset, .unset, .unset, .unset]) rfl ?_
    show Steps p.tables e below (T32.setTop (mkF m 155 #[.val (.long rp), .second, .val (.long sta), .second, .val (.long rwa), .second, .val (.long rwb), .second, .val (.int mo), .val (.long (r1_v (1 : Int64) (rp &&& (9223372036854775807 : Int64)))), .second, .val (.long (j0_11_l11 rp)), .second, .val (.long (r1_v (j0_11_l11 rp) (5000000 : Int64))), .second, .val (.ref b8), .val (.int (1 : Int32)), .val (.long (r5_v (r1_v (j0_11_l11 rp) (5000000 : Int64)) rwa mo)), .second, .val (.long (sta + (r5_v (r1_v (j0_11_l11 rp) (5000000 : Int64)) rwa mo))), .second, .val (.long (j0_100_l21 rp sta rwa mo)), .second, .val (.long (r5_v (r1_v (j0_11_l11 rp) (5000000 : Int64)) rwb (mo >>> ((2 : Int32) &&& 31)))), .second, .unset, .unset, .unset, .unset] [])) _
    refine XS.lload X32.here hx rfl (hb hby at_155) rfl ?_
    show Steps p.tables e below (T32.setTop (mkF m 157 #[.val (.long rp), .second, .val (.long sta), .second, .val (.long rwa), .second, .val (.long rwb), .second, .val (.int mo), .val (.long (r1_v (1 : Int64) (rp &&& (9223372036854775807 : Int64)))), .second, .val (.long (j0_11_l11 rp)), .second, .val (.long (r1_v (j0_11_l11 rp) (5000000 : Int64))), .second, .val (.ref b8), .val (.int (1 : Int32)), .val (.long (r5_v (r1_v (j0_11_l11 rp) (5000000 : Int64)) rwa mo)), .second, .val (.long (sta + (r5_v (r1_v (j0_11_l11 rp) (5000000 : Int64)) rwa mo))), .second, .val (.long (j0_100_l21 rp sta rwa mo)), .second, .val (.long (r5_v (r1_v (j0_11_l11 rp) (5000000 : Int64)) rwb (mo >>> ((2 : Int32) &&& 31)))), .second, .unset, .unset, .unset, .unset] [(.long (j0_100_l21 rp sta rwa mo))])) _
    refine XS.lload X32.here hx rfl (hb hby at_157) rfl ?_
    show Steps p.tables e below (T32.setTop (mkF m 159 #[.val (.long rp), .second, .val (.long sta), .second, .val (.long rwa), .second, .val (.long rwb), .second, .val (.int mo), .val (.long (r1_v (1 : Int64) (rp &&& (9223372036854775807 : Int64)))), .second, .val (.long (j0_11_l11 rp)), .second, .val (.long (r1_v (j0_11_l11 rp) (5000000 : Int64))), .second, .val (.ref b8), .val (.int (1 : Int32)), .val (.long (r5_v (r1_v (j0_11_l11 rp) (5000000 : Int64)) rwa mo)), .second, .val (.long (sta + (r5_v (r1_v (j0_11_l11 rp) (5000000 : Int64)) rwa mo))), .second, .val (.long (j0_100_l21 rp sta rwa mo)), .second, .val (.long (r5_v (r1_v (j0_11_l11 rp) (5000000 : Int64)) rwb (mo >>> ((2 : Int32) &&& 31)))), .second, .unset, .unset, .unset, .unset] [(.long (r5_v (r1_v (j0_11_l11 rp) (5000000 : Int64)) rwb (mo >>> ((2 : Int32) &&& 31)))), (.long (j0_100_l21 rp sta rwa mo))])) _
    refine XS.ladd X32.here hx rfl (hb hby at_159) rfl ?_
    show Steps p.tables e below (T32.setTop (mkF m 160 #[.val (.long rp), .second, .val (.long sta), .second, .val (.long rwa), .second, .val (.long rwb), .second, .val (.int mo), .val (.long (r1_v (1 : Int64) (rp &&& (9223372036854775807 : Int64)))), .second, .val (.long (j0_11_l11 rp)), .second, .val (.long (r1_v (j0_11_l11 rp) (5000000 : Int64))), .second, .val (.ref b8), .val (.int (1 : Int32)), .val (.long (r5_v (r1_v (j0_11_l11 rp) (5000000 : Int64)) rwa mo)), .second, .val (.long (sta + (r5_v (r1_v (j0_11_l11 rp) (5000000 : Int64)) rwa mo))), .second, .val (.long (j0_100_l21 rp sta rwa mo)), .second, .val (.long (r5_v (r1_v (j0_11_l11 rp) (5000000 : Int64)) rwb (mo >>> ((2 : Int32) &&& 31)))), .second, .unset, .unset, .unset, .unset] [(.long ((j0_100_l21 rp sta rwa mo) + (r5_v (r1_v (j0_11_l11 rp) (5000000 : Int64)) rwb (mo >>> ((2 : Int32) &&& 31)))))])) _
    refine XS.lstore X32.here hx rfl (hb hby at_160) rfl (l' := #[.val (.long rp), .second, .val (.long sta), .second, .val (.long rwa), .second, .val (.long rwb), .second, .val (.int mo), .val (.long (r1_v (1 : Int64) (rp &&& (9223372036854775807 : Int64)))), .second, .val (.long (j0_11_l11 rp)), .second, .val (.long (r1_v (j0_11_l11 rp) (5000000 : Int64))), .second, .val (.ref b8), .val (.int (1 : Int32)), .val (.long (r5_v (r1_v (j0_11_l11 rp) (5000000 : Int64)) rwa mo)), .second, .val (.long (sta + (r5_v (r1_v (j0_11_l11 rp) (5000000 : Int64)) rwa mo))), .second, .val (.long (j0_100_l21 rp sta rwa mo)), .second, .val (.long (r5_v (r1_v (j0_11_l11 rp) (5000000 : Int64)) rwb (mo >>> ((2 : Int32) &&& 31)))), .second, .val (.long ((j0_100_l21 rp sta rwa mo) + (r5_v (r1_v (j0_11_l11 rp) (5000000 : Int64)) rwb (mo >>> ((2 : Int32) &&& 31))))), .second, .unset, .unset]) rfl ?_
    show Steps p.tables e below (T32.setTop (mkF m 162 #[.val (.long rp), .second, .val (.long sta), .second, .val (.long rwa), .second, .val (.long rwb), .second, .val (.int mo), .val (.long (r1_v (1 : Int64) (rp &&& (9223372036854775807 : Int64)))), .second, .val (.long (j0_11_l11 rp)), .second, .val (.long (r1_v (j0_11_l11 rp) (5000000 : Int64))), .second, .val (.ref b8), .val (.int (1 : Int32)), .val (.long (r5_v (r1_v (j0_11_l11 rp) (5000000 : Int64)) rwa mo)), .second, .val (.long (sta + (r5_v (r1_v (j0_11_l11 rp) (5000000 : Int64)) rwa mo))), .second, .val (.long (j0_100_l21 rp sta rwa mo)), .second, .val (.long (r5_v (r1_v (j0_11_l11 rp) (5000000 : Int64)) rwb (mo >>> ((2 : Int32) &&& 31)))), .second, .val (.long ((j0_100_l21 rp sta rwa mo) + (r5_v (r1_v (j0_11_l11 rp) (5000000 : Int64)) rwb (mo >>> ((2 : Int32) &&& 31))))), .second, .unset, .unset] [])) _
    refine XS.aload X32.here hx rfl (hb hby at_162) rfl rfl ?_
    show Steps p.tables e below (T32.setTop (mkF m 164 #[.val (.long rp), .second, .val (.long sta), .second, .val (.long rwa), .second, .val (.long rwb), .second, .val (.int mo), .val (.long (r1_v (1 : Int64) (rp &&& (9223372036854775807 : Int64)))), .second, .val (.long (j0_11_l11 rp)), .second, .val (.long (r1_v (j0_11_l11 rp) (5000000 : Int64))), .second, .val (.ref b8), .val (.int (1 : Int32)), .val (.long (r5_v (r1_v (j0_11_l11 rp) (5000000 : Int64)) rwa mo)), .second, .val (.long (sta + (r5_v (r1_v (j0_11_l11 rp) (5000000 : Int64)) rwa mo))), .second, .val (.long (j0_100_l21 rp sta rwa mo)), .second, .val (.long (r5_v (r1_v (j0_11_l11 rp) (5000000 : Int64)) rwb (mo >>> ((2 : Int32) &&& 31)))), .second, .val (.long ((j0_100_l21 rp sta rwa mo) + (r5_v (r1_v (j0_11_l11 rp) (5000000 : Int64)) rwb (mo >>> ((2 : Int32) &&& 31))))), .second, .unset, .unset] [(.ref b8)])) _
    refine XS.lload X32.here hx rfl (hb hby at_164) rfl ?_
    show Steps p.tables e below (T32.setTop (mkF m 166 #[.val (.long rp), .second, .val (.long sta), .second, .val (.long rwa), .second, .val (.long rwb), .second, .val (.int mo), .val (.long (r1_v (1 : Int64) (rp &&& (9223372036854775807 : Int64)))), .second, .val (.long (j0_11_l11 rp)), .second, .val (.long (r1_v (j0_11_l11 rp) (5000000 : Int64))), .second, .val (.ref b8), .val (.int (1 : Int32)), .val (.long (r5_v (r1_v (j0_11_l11 rp) (5000000 : Int64)) rwa mo)), .second, .val (.long (sta + (r5_v (r1_v (j0_11_l11 rp) (5000000 : Int64)) rwa mo))), .second, .val (.long (j0_100_l21 rp sta rwa mo)), .second, .val (.long (r5_v (r1_v (j0_11_l11 rp) (5000000 : Int64)) rwb (mo >>> ((2 : Int32) &&& 31)))), .second, .val (.long ((j0_100_l21 rp sta rwa mo) + (r5_v (r1_v (j0_11_l11 rp) (5000000 : Int64)) rwb (mo >>> ((2 : Int32) &&& 31))))), .second, .unset, .unset] [(.long ((j0_100_l21 rp sta rwa mo) + (r5_v (r1_v (j0_11_l11 rp) (5000000 : Int64)) rwb (mo >>> ((2 : Int32) &&& 31))))), (.ref b8)])) _
    refine st33.trans ?_
    exact k
  have pre42 : ∀ t, Steps p.tables e below (T33.setTop (mkF m 189 #[.val (.long rp), .second, .val (.long sta), .second, .val (.long rwa), .second, .val (.long rwb), .second, .val (.int mo), .val (.long (r1_v (1 : Int64) (rp &&& (9223372036854775807 : Int64)))), .second, .val (.long (j0_11_l11 rp)), .second, .val (.long (r1_v (j0_11_l11 rp) (5000000 : Int64))), .second, .val (.ref b8), .val (.int (1 : Int32)), .val (.long (r5_v (r1_v (j0_11_l11 rp) (5000000 : Int64)) rwa mo)), .second, .val (.long (sta + (r5_v (r1_v (j0_11_l11 rp) (5000000 : Int64)) rwa mo))), .second, .val (.long (j0_100_l21 rp sta rwa mo)), .second, .val (.long (r5_v (r1_v (j0_11_l11 rp) (5000000 : Int64)) rwb (mo >>> ((2 : Int32) &&& 31)))), .second, .val (.long ((j0_100_l21 rp sta rwa mo) + (r5_v (r1_v (j0_11_l11 rp) (5000000 : Int64)) rwb (mo >>> ((2 : Int32) &&& 31))))), .second, .val (.long (j0_169_l27 rp sta rwa rwb mo)), .second] [])) t → Steps p.tables e below (s₁.setTop (entryFrame m #[(.long rp), (.long sta), (.long rwa), (.long rwb), (.int mo)] maxLocals)) t := by
    intro t k
    refine pre41 _ ?_
    show Steps p.tables e below (T33.setTop (mkF m 169 #[.val (.long rp), .second, .val (.long sta), .second, .val (.long rwa), .second, .val (.long rwb), .second, .val (.int mo), .val (.long (r1_v (1 : Int64) (rp &&& (9223372036854775807 : Int64)))), .second, .val (.long (j0_11_l11 rp)), .second, .val (.long (r1_v (j0_11_l11 rp) (5000000 : Int64))), .second, .val (.ref b8), .val (.int (1 : Int32)), .val (.long (r5_v (r1_v (j0_11_l11 rp) (5000000 : Int64)) rwa mo)), .second, .val (.long (sta + (r5_v (r1_v (j0_11_l11 rp) (5000000 : Int64)) rwa mo))), .second, .val (.long (j0_100_l21 rp sta rwa mo)), .second, .val (.long (r5_v (r1_v (j0_11_l11 rp) (5000000 : Int64)) rwb (mo >>> ((2 : Int32) &&& 31)))), .second, .val (.long ((j0_100_l21 rp sta rwa mo) + (r5_v (r1_v (j0_11_l11 rp) (5000000 : Int64)) rwb (mo >>> ((2 : Int32) &&& 31))))), .second, .unset, .unset] [])) _
    refine XS.lload X33.here hx rfl (hb hby at_169) rfl ?_
    show Steps p.tables e below (T33.setTop (mkF m 171 #[.val (.long rp), .second, .val (.long sta), .second, .val (.long rwa), .second, .val (.long rwb), .second, .val (.int mo), .val (.long (r1_v (1 : Int64) (rp &&& (9223372036854775807 : Int64)))), .second, .val (.long (j0_11_l11 rp)), .second, .val (.long (r1_v (j0_11_l11 rp) (5000000 : Int64))), .second, .val (.ref b8), .val (.int (1 : Int32)), .val (.long (r5_v (r1_v (j0_11_l11 rp) (5000000 : Int64)) rwa mo)), .second, .val (.long (sta + (r5_v (r1_v (j0_11_l11 rp) (5000000 : Int64)) rwa mo))), .second, .val (.long (j0_100_l21 rp sta rwa mo)), .second, .val (.long (r5_v (r1_v (j0_11_l11 rp) (5000000 : Int64)) rwb (mo >>> ((2 : Int32) &&& 31)))), .second, .val (.long ((j0_100_l21 rp sta rwa mo) + (r5_v (r1_v (j0_11_l11 rp) (5000000 : Int64)) rwb (mo >>> ((2 : Int32) &&& 31))))), .second, .unset, .unset] [(.long (r5_v (r1_v (j0_11_l11 rp) (5000000 : Int64)) rwb (mo >>> ((2 : Int32) &&& 31))))])) _
    refine XS.lload X33.here hx rfl (hb hby at_171) rfl ?_
    show Steps p.tables e below (T33.setTop (mkF m 173 #[.val (.long rp), .second, .val (.long sta), .second, .val (.long rwa), .second, .val (.long rwb), .second, .val (.int mo), .val (.long (r1_v (1 : Int64) (rp &&& (9223372036854775807 : Int64)))), .second, .val (.long (j0_11_l11 rp)), .second, .val (.long (r1_v (j0_11_l11 rp) (5000000 : Int64))), .second, .val (.ref b8), .val (.int (1 : Int32)), .val (.long (r5_v (r1_v (j0_11_l11 rp) (5000000 : Int64)) rwa mo)), .second, .val (.long (sta + (r5_v (r1_v (j0_11_l11 rp) (5000000 : Int64)) rwa mo))), .second, .val (.long (j0_100_l21 rp sta rwa mo)), .second, .val (.long (r5_v (r1_v (j0_11_l11 rp) (5000000 : Int64)) rwb (mo >>> ((2 : Int32) &&& 31)))), .second, .val (.long ((j0_100_l21 rp sta rwa mo) + (r5_v (r1_v (j0_11_l11 rp) (5000000 : Int64)) rwb (mo >>> ((2 : Int32) &&& 31))))), .second, .unset, .unset] [(.long (r1_v (j0_11_l11 rp) (5000000 : Int64))), (.long (r5_v (r1_v (j0_11_l11 rp) (5000000 : Int64)) rwb (mo >>> ((2 : Int32) &&& 31))))])) _
    refine XS.lcmp X33.here hx rfl (hb hby at_173) rfl ?_
    by_cases hk38 : (r5_v (r1_v (j0_11_l11 rp) (5000000 : Int64)) rwb (mo >>> ((2 : Int32) &&& 31))) < (r1_v (j0_11_l11 rp) (5000000 : Int64))
    · show Steps p.tables e below (T33.setTop (mkF m 174 #[.val (.long rp), .second, .val (.long sta), .second, .val (.long rwa), .second, .val (.long rwb), .second, .val (.int mo), .val (.long (r1_v (1 : Int64) (rp &&& (9223372036854775807 : Int64)))), .second, .val (.long (j0_11_l11 rp)), .second, .val (.long (r1_v (j0_11_l11 rp) (5000000 : Int64))), .second, .val (.ref b8), .val (.int (1 : Int32)), .val (.long (r5_v (r1_v (j0_11_l11 rp) (5000000 : Int64)) rwa mo)), .second, .val (.long (sta + (r5_v (r1_v (j0_11_l11 rp) (5000000 : Int64)) rwa mo))), .second, .val (.long (j0_100_l21 rp sta rwa mo)), .second, .val (.long (r5_v (r1_v (j0_11_l11 rp) (5000000 : Int64)) rwb (mo >>> ((2 : Int32) &&& 31)))), .second, .val (.long ((j0_100_l21 rp sta rwa mo) + (r5_v (r1_v (j0_11_l11 rp) (5000000 : Int64)) rwb (mo >>> ((2 : Int32) &&& 31))))), .second, .unset, .unset] [(.int (lcmpW (r5_v (r1_v (j0_11_l11 rp) (5000000 : Int64)) rwb (mo >>> ((2 : Int32) &&& 31))) (r1_v (j0_11_l11 rp) (5000000 : Int64))))])) _
      refine XS.ifNo X33.here hx rfl (hb hby at_174) rfl (own_tltL hk38).2.1 ?_
      show Steps p.tables e below (T33.setTop (mkF m 177 #[.val (.long rp), .second, .val (.long sta), .second, .val (.long rwa), .second, .val (.long rwb), .second, .val (.int mo), .val (.long (r1_v (1 : Int64) (rp &&& (9223372036854775807 : Int64)))), .second, .val (.long (j0_11_l11 rp)), .second, .val (.long (r1_v (j0_11_l11 rp) (5000000 : Int64))), .second, .val (.ref b8), .val (.int (1 : Int32)), .val (.long (r5_v (r1_v (j0_11_l11 rp) (5000000 : Int64)) rwa mo)), .second, .val (.long (sta + (r5_v (r1_v (j0_11_l11 rp) (5000000 : Int64)) rwa mo))), .second, .val (.long (j0_100_l21 rp sta rwa mo)), .second, .val (.long (r5_v (r1_v (j0_11_l11 rp) (5000000 : Int64)) rwb (mo >>> ((2 : Int32) &&& 31)))), .second, .val (.long ((j0_100_l21 rp sta rwa mo) + (r5_v (r1_v (j0_11_l11 rp) (5000000 : Int64)) rwb (mo >>> ((2 : Int32) &&& 31))))), .second, .unset, .unset] [])) _
      refine XS.lload X33.here hx rfl (hb hby at_177) rfl ?_
      show Steps p.tables e below (T33.setTop (mkF m 179 #[.val (.long rp), .second, .val (.long sta), .second, .val (.long rwa), .second, .val (.long rwb), .second, .val (.int mo), .val (.long (r1_v (1 : Int64) (rp &&& (9223372036854775807 : Int64)))), .second, .val (.long (j0_11_l11 rp)), .second, .val (.long (r1_v (j0_11_l11 rp) (5000000 : Int64))), .second, .val (.ref b8), .val (.int (1 : Int32)), .val (.long (r5_v (r1_v (j0_11_l11 rp) (5000000 : Int64)) rwa mo)), .second, .val (.long (sta + (r5_v (r1_v (j0_11_l11 rp) (5000000 : Int64)) rwa mo))), .second, .val (.long (j0_100_l21 rp sta rwa mo)), .second, .val (.long (r5_v (r1_v (j0_11_l11 rp) (5000000 : Int64)) rwb (mo >>> ((2 : Int32) &&& 31)))), .second, .val (.long ((j0_100_l21 rp sta rwa mo) + (r5_v (r1_v (j0_11_l11 rp) (5000000 : Int64)) rwb (mo >>> ((2 : Int32) &&& 31))))), .second, .unset, .unset] [(.long (j0_100_l21 rp sta rwa mo))])) _
      refine XS.goto X33.here hx rfl (pc0 := 179) (pc' := 184) rfl (hb hby at_179) (by decide) (by decide) ?_
      show Steps p.tables e below (T33.setTop (mkF m 184 #[.val (.long rp), .second, .val (.long sta), .second, .val (.long rwa), .second, .val (.long rwb), .second, .val (.int mo), .val (.long (r1_v (1 : Int64) (rp &&& (9223372036854775807 : Int64)))), .second, .val (.long (j0_11_l11 rp)), .second, .val (.long (r1_v (j0_11_l11 rp) (5000000 : Int64))), .second, .val (.ref b8), .val (.int (1 : Int32)), .val (.long (r5_v (r1_v (j0_11_l11 rp) (5000000 : Int64)) rwa mo)), .second, .val (.long (sta + (r5_v (r1_v (j0_11_l11 rp) (5000000 : Int64)) rwa mo))), .second, .val (.long (j0_100_l21 rp sta rwa mo)), .second, .val (.long (r5_v (r1_v (j0_11_l11 rp) (5000000 : Int64)) rwb (mo >>> ((2 : Int32) &&& 31)))), .second, .val (.long ((j0_100_l21 rp sta rwa mo) + (r5_v (r1_v (j0_11_l11 rp) (5000000 : Int64)) rwb (mo >>> ((2 : Int32) &&& 31))))), .second, .unset, .unset] [(.long (j0_100_l21 rp sta rwa mo))])) _
      refine XS.lload X33.here hx rfl (hb hby at_184) rfl ?_
      show Steps p.tables e below (T33.setTop (mkF m 186 #[.val (.long rp), .second, .val (.long sta), .second, .val (.long rwa), .second, .val (.long rwb), .second, .val (.int mo), .val (.long (r1_v (1 : Int64) (rp &&& (9223372036854775807 : Int64)))), .second, .val (.long (j0_11_l11 rp)), .second, .val (.long (r1_v (j0_11_l11 rp) (5000000 : Int64))), .second, .val (.ref b8), .val (.int (1 : Int32)), .val (.long (r5_v (r1_v (j0_11_l11 rp) (5000000 : Int64)) rwa mo)), .second, .val (.long (sta + (r5_v (r1_v (j0_11_l11 rp) (5000000 : Int64)) rwa mo))), .second, .val (.long (j0_100_l21 rp sta rwa mo)), .second, .val (.long (r5_v (r1_v (j0_11_l11 rp) (5000000 : Int64)) rwb (mo >>> ((2 : Int32) &&& 31)))), .second, .val (.long ((j0_100_l21 rp sta rwa mo) + (r5_v (r1_v (j0_11_l11 rp) (5000000 : Int64)) rwb (mo >>> ((2 : Int32) &&& 31))))), .second, .unset, .unset] [(.long (j0_11_l11 rp)), (.long (j0_100_l21 rp sta rwa mo))])) _
      refine XS.ladd X33.here hx rfl (hb hby at_186) rfl ?_
      show Steps p.tables e below (T33.setTop (mkF m 187 #[.val (.long rp), .second, .val (.long sta), .second, .val (.long rwa), .second, .val (.long rwb), .second, .val (.int mo), .val (.long (r1_v (1 : Int64) (rp &&& (9223372036854775807 : Int64)))), .second, .val (.long (j0_11_l11 rp)), .second, .val (.long (r1_v (j0_11_l11 rp) (5000000 : Int64))), .second, .val (.ref b8), .val (.int (1 : Int32)), .val (.long (r5_v (r1_v (j0_11_l11 rp) (5000000 : Int64)) rwa mo)), .second, .val (.long (sta + (r5_v (r1_v (j0_11_l11 rp) (5000000 : Int64)) rwa mo))), .second, .val (.long (j0_100_l21 rp sta rwa mo)), .second, .val (.long (r5_v (r1_v (j0_11_l11 rp) (5000000 : Int64)) rwb (mo >>> ((2 : Int32) &&& 31)))), .second, .val (.long ((j0_100_l21 rp sta rwa mo) + (r5_v (r1_v (j0_11_l11 rp) (5000000 : Int64)) rwb (mo >>> ((2 : Int32) &&& 31))))), .second, .unset, .unset] [(.long ((j0_100_l21 rp sta rwa mo) + (j0_11_l11 rp)))])) _
      refine XS.lstore X33.here hx rfl (hb hby at_187) rfl (l' := #[.val (.long rp), .second, .val (.long sta), .second, .val (.long rwa), .second, .val (.long rwb), .second, .val (.int mo), .val (.long (r1_v (1 : Int64) (rp &&& (9223372036854775807 : Int64)))), .second, .val (.long (j0_11_l11 rp)), .second, .val (.long (r1_v (j0_11_l11 rp) (5000000 : Int64))), .second, .val (.ref b8), .val (.int (1 : Int32)), .val (.long (r5_v (r1_v (j0_11_l11 rp) (5000000 : Int64)) rwa mo)), .second, .val (.long (sta + (r5_v (r1_v (j0_11_l11 rp) (5000000 : Int64)) rwa mo))), .second, .val (.long (j0_100_l21 rp sta rwa mo)), .second, .val (.long (r5_v (r1_v (j0_11_l11 rp) (5000000 : Int64)) rwb (mo >>> ((2 : Int32) &&& 31)))), .second, .val (.long ((j0_100_l21 rp sta rwa mo) + (r5_v (r1_v (j0_11_l11 rp) (5000000 : Int64)) rwb (mo >>> ((2 : Int32) &&& 31))))), .second, .val (.long ((j0_100_l21 rp sta rwa mo) + (j0_11_l11 rp))), .second]) rfl ?_
      have ev39 : (j0_169_l27 rp sta rwa rwb mo) = ((j0_100_l21 rp sta rwa mo) + (j0_11_l11 rp)) := by unfold j0_169_l27; rw [if_pos hk38]
      rw [ev39] at k
      exact k
    · show Steps p.tables e below (T33.setTop (mkF m 174 #[.val (.long rp), .second, .val (.long sta), .second, .val (.long rwa), .second, .val (.long rwb), .second, .val (.int mo), .val (.long (r1_v (1 : Int64) (rp &&& (9223372036854775807 : Int64)))), .second, .val (.long (j0_11_l11 rp)), .second, .val (.long (r1_v (j0_11_l11 rp) (5000000 : Int64))), .second, .val (.ref b8), .val (.int (1 : Int32)), .val (.long (r5_v (r1_v (j0_11_l11 rp) (5000000 : Int64)) rwa mo)), .second, .val (.long (sta + (r5_v (r1_v (j0_11_l11 rp) (5000000 : Int64)) rwa mo))), .second, .val (.long (j0_100_l21 rp sta rwa mo)), .second, .val (.long (r5_v (r1_v (j0_11_l11 rp) (5000000 : Int64)) rwb (mo >>> ((2 : Int32) &&& 31)))), .second, .val (.long ((j0_100_l21 rp sta rwa mo) + (r5_v (r1_v (j0_11_l11 rp) (5000000 : Int64)) rwb (mo >>> ((2 : Int32) &&& 31))))), .second, .unset, .unset] [(.int (lcmpW (r5_v (r1_v (j0_11_l11 rp) (5000000 : Int64)) rwb (mo >>> ((2 : Int32) &&& 31))) (r1_v (j0_11_l11 rp) (5000000 : Int64))))])) _
      refine XS.ifYes X33.here hx rfl (pc0 := 174) (pc' := 182) rfl (hb hby at_174) rfl (own_fltL hk38).2.1 (by decide) (by decide) ?_
      show Steps p.tables e below (T33.setTop (mkF m 182 #[.val (.long rp), .second, .val (.long sta), .second, .val (.long rwa), .second, .val (.long rwb), .second, .val (.int mo), .val (.long (r1_v (1 : Int64) (rp &&& (9223372036854775807 : Int64)))), .second, .val (.long (j0_11_l11 rp)), .second, .val (.long (r1_v (j0_11_l11 rp) (5000000 : Int64))), .second, .val (.ref b8), .val (.int (1 : Int32)), .val (.long (r5_v (r1_v (j0_11_l11 rp) (5000000 : Int64)) rwa mo)), .second, .val (.long (sta + (r5_v (r1_v (j0_11_l11 rp) (5000000 : Int64)) rwa mo))), .second, .val (.long (j0_100_l21 rp sta rwa mo)), .second, .val (.long (r5_v (r1_v (j0_11_l11 rp) (5000000 : Int64)) rwb (mo >>> ((2 : Int32) &&& 31)))), .second, .val (.long ((j0_100_l21 rp sta rwa mo) + (r5_v (r1_v (j0_11_l11 rp) (5000000 : Int64)) rwb (mo >>> ((2 : Int32) &&& 31))))), .second, .unset, .unset] [])) _
      refine XS.lload X33.here hx rfl (hb hby at_182) rfl ?_
      show Steps p.tables e below (T33.setTop (mkF m 184 #[.val (.long rp), .second, .val (.long sta), .second, .val (.long rwa), .second, .val (.long rwb), .second, .val (.int mo), .val (.long (r1_v (1 : Int64) (rp &&& (9223372036854775807 : Int64)))), .second, .val (.long (j0_11_l11 rp)), .second, .val (.long (r1_v (j0_11_l11 rp) (5000000 : Int64))), .second, .val (.ref b8), .val (.int (1 : Int32)), .val (.long (r5_v (r1_v (j0_11_l11 rp) (5000000 : Int64)) rwa mo)), .second, .val (.long (sta + (r5_v (r1_v (j0_11_l11 rp) (5000000 : Int64)) rwa mo))), .second, .val (.long (j0_100_l21 rp sta rwa mo)), .second, .val (.long (r5_v (r1_v (j0_11_l11 rp) (5000000 : Int64)) rwb (mo >>> ((2 : Int32) &&& 31)))), .second, .val (.long ((j0_100_l21 rp sta rwa mo) + (r5_v (r1_v (j0_11_l11 rp) (5000000 : Int64)) rwb (mo >>> ((2 : Int32) &&& 31))))), .second, .unset, .unset] [(.long ((j0_100_l21 rp sta rwa mo) + (r5_v (r1_v (j0_11_l11 rp) (5000000 : Int64)) rwb (mo >>> ((2 : Int32) &&& 31)))))])) _
      refine XS.lload X33.here hx rfl (hb hby at_184) rfl ?_
      show Steps p.tables e below (T33.setTop (mkF m 186 #[.val (.long rp), .second, .val (.long sta), .second, .val (.long rwa), .second, .val (.long rwb), .second, .val (.int mo), .val (.long (r1_v (1 : Int64) (rp &&& (9223372036854775807 : Int64)))), .second, .val (.long (j0_11_l11 rp)), .second, .val (.long (r1_v (j0_11_l11 rp) (5000000 : Int64))), .second, .val (.ref b8), .val (.int (1 : Int32)), .val (.long (r5_v (r1_v (j0_11_l11 rp) (5000000 : Int64)) rwa mo)), .second, .val (.long (sta + (r5_v (r1_v (j0_11_l11 rp) (5000000 : Int64)) rwa mo))), .second, .val (.long (j0_100_l21 rp sta rwa mo)), .second, .val (.long (r5_v (r1_v (j0_11_l11 rp) (5000000 : Int64)) rwb (mo >>> ((2 : Int32) &&& 31)))), .second, .val (.long ((j0_100_l21 rp sta rwa mo) + (r5_v (r1_v (j0_11_l11 rp) (5000000 : Int64)) rwb (mo >>> ((2 : Int32) &&& 31))))), .second, .unset, .unset] [(.long (j0_11_l11 rp)), (.long ((j0_100_l21 rp sta rwa mo) + (r5_v (r1_v (j0_11_l11 rp) (5000000 : Int64)) rwb (mo >>> ((2 : Int32) &&& 31)))))])) _
      refine XS.ladd X33.here hx rfl (hb hby at_186) rfl ?_
      show Steps p.tables e below (T33.setTop (mkF m 187 #[.val (.long rp), .second, .val (.long sta), .second, .val (.long rwa), .second, .val (.long rwb), .second, .val (.int mo), .val (.long (r1_v (1 : Int64) (rp &&& (9223372036854775807 : Int64)))), .second, .val (.long (j0_11_l11 rp)), .second, .val (.long (r1_v (j0_11_l11 rp) (5000000 : Int64))), .second, .val (.ref b8), .val (.int (1 : Int32)), .val (.long (r5_v (r1_v (j0_11_l11 rp) (5000000 : Int64)) rwa mo)), .second, .val (.long (sta + (r5_v (r1_v (j0_11_l11 rp) (5000000 : Int64)) rwa mo))), .second, .val (.long (j0_100_l21 rp sta rwa mo)), .second, .val (.long (r5_v (r1_v (j0_11_l11 rp) (5000000 : Int64)) rwb (mo >>> ((2 : Int32) &&& 31)))), .second, .val (.long ((j0_100_l21 rp sta rwa mo) + (r5_v (r1_v (j0_11_l11 rp) (5000000 : Int64)) rwb (mo >>> ((2 : Int32) &&& 31))))), .second, .unset, .unset] [(.long (((j0_100_l21 rp sta rwa mo) + (r5_v (r1_v (j0_11_l11 rp) (5000000 : Int64)) rwb (mo >>> ((2 : Int32) &&& 31)))) + (j0_11_l11 rp)))])) _
      refine XS.lstore X33.here hx rfl (hb hby at_187) rfl (l' := #[.val (.long rp), .second, .val (.long sta), .second, .val (.long rwa), .second, .val (.long rwb), .second, .val (.int mo), .val (.long (r1_v (1 : Int64) (rp &&& (9223372036854775807 : Int64)))), .second, .val (.long (j0_11_l11 rp)), .second, .val (.long (r1_v (j0_11_l11 rp) (5000000 : Int64))), .second, .val (.ref b8), .val (.int (1 : Int32)), .val (.long (r5_v (r1_v (j0_11_l11 rp) (5000000 : Int64)) rwa mo)), .second, .val (.long (sta + (r5_v (r1_v (j0_11_l11 rp) (5000000 : Int64)) rwa mo))), .second, .val (.long (j0_100_l21 rp sta rwa mo)), .second, .val (.long (r5_v (r1_v (j0_11_l11 rp) (5000000 : Int64)) rwb (mo >>> ((2 : Int32) &&& 31)))), .second, .val (.long ((j0_100_l21 rp sta rwa mo) + (r5_v (r1_v (j0_11_l11 rp) (5000000 : Int64)) rwb (mo >>> ((2 : Int32) &&& 31))))), .second, .val (.long (((j0_100_l21 rp sta rwa mo) + (r5_v (r1_v (j0_11_l11 rp) (5000000 : Int64)) rwb (mo >>> ((2 : Int32) &&& 31)))) + (j0_11_l11 rp))), .second]) rfl ?_
      have ev40 : (j0_169_l27 rp sta rwa rwb mo) = (((j0_100_l21 rp sta rwa mo) + (r5_v (r1_v (j0_11_l11 rp) (5000000 : Int64)) rwb (mo >>> ((2 : Int32) &&& 31)))) + (j0_11_l11 rp)) := by unfold j0_169_l27; rw [if_neg hk38]
      rw [ev40] at k
      exact k
  obtain ⟨cq43, kq43, q43a, q43b, q43c⟩ := isOf hZ rfl f37
  obtain ⟨_, _, ⟨T43, L43, k43, n43⟩, -, X43, ⟨Lc43, hQ43, l43, y43, z43⟩, st43⟩ := X33.virtualBack hx (y := (⟨"com/example/hikyaku/hikyaku/mqtt/Pacer", "turnAt", "()J"⟩ : MethodName)) (z := (⟨"com/example/hikyaku/hikyaku/mqtt/Pacer", "turnAt", "()J"⟩ : MethodName)) hown (mvT hZ (hw _ (List.mem_of_getElem? (i := 27) rfl))) (mvT hZ (hw _ (List.mem_of_getElem? (i := 28) rfl))) (notFace_of_selects (args := #[]) (mvT hZ (hw _ (List.mem_of_getElem? (i := 30) rfl)))) (mvT hZ (hw _ (List.mem_of_getElem? (i := 30) rfl))) (mvT hZ (hw _ (List.mem_of_getElem? (i := 29) rfl))) (by decide) (backOf (W := 0) (rm4 l Z a0 hw [] b8 (r6_turnAt ((j0_100_l21 rp sta rwa mo) + (r5_v (r1_v (j0_11_l11 rp) (5000000 : Int64)) rwb (mo >>> ((2 : Int32) &&& 31)))) (r6_turnAt (sta + (r5_v (r1_v (j0_11_l11 rp) (5000000 : Int64)) rwa mo)) sta (r1_v (((1000000000 : Int64) / (r1_v (1 : Int64) (rp &&& (9223372036854775807 : Int64)))) + ((j2_37_s0 (r1_v (1 : Int64) (rp &&& (9223372036854775807 : Int64)))).toInt64)) (5000000 : Int64)) (((1000000000 : Int64) / (r1_v (1 : Int64) (rp &&& (9223372036854775807 : Int64)))) + ((j2_37_s0 (r1_v (1 : Int64) (rp &&& (9223372036854775807 : Int64)))).toInt64))) (r1_v (((1000000000 : Int64) / (r1_v (1 : Int64) (rp &&& (9223372036854775807 : Int64)))) + ((j2_37_s0 (r1_v (1 : Int64) (rp &&& (9223372036854775807 : Int64)))).toInt64)) (5000000 : Int64)) (((1000000000 : Int64) / (r1_v (1 : Int64) (rp &&& (9223372036854775807 : Int64)))) + ((j2_37_s0 (r1_v (1 : Int64) (rp &&& (9223372036854775807 : Int64)))).toInt64))) T33.heap n0 Z33 f34) hZ (hw _ (List.mem_of_getElem? (i := 31) rfl)) (hw _ (List.mem_of_getElem? (i := 9) rfl)) (by decide) (by decide)) q43a q43c (g := (mkF m 196 #[.val (.long rp), .second, .val (.long sta), .second, .val (.long rwa), .second, .val (.long rwb), .second, .val (.int mo), .val (.long (r1_v (1 : Int64) (rp &&& (9223372036854775807 : Int64)))), .second, .val (.long (j0_11_l11 rp)), .second, .val (.long (r1_v (j0_11_l11 rp) (5000000 : Int64))), .second, .val (.ref b8), .val (.int (1 : Int32)), .val (.long (r5_v (r1_v (j0_11_l11 rp) (5000000 : Int64)) rwa mo)), .second, .val (.long (sta + (r5_v (r1_v (j0_11_l11 rp) (5000000 : Int64)) rwa mo))), .second, .val (.long (j0_100_l21 rp sta rwa mo)), .second, .val (.long (r5_v (r1_v (j0_11_l11 rp) (5000000 : Int64)) rwb (mo >>> ((2 : Int32) &&& 31)))), .second, .val (.long ((j0_100_l21 rp sta rwa mo) + (r5_v (r1_v (j0_11_l11 rp) (5000000 : Int64)) rwb (mo >>> ((2 : Int32) &&& 31))))), .second, .val (.long (j0_169_l27 rp sta rwa rwb mo)), .second] [(.ref b8)])) rfl (by rw [hml]; rfl) (Steps.refl _) (argsL := []) (rest := []) (lenOf pd_2 rfl) rfl (by show 2 * 0 + _ ≤ _; exact Nat.le_of_eq rfl) (hb hby at_196) (fun _ _ => ⟨rfl, rfl, (by decide : 1 + 0 ≤ _), (by decide : 3 + 0 ≤ _)⟩)
  dsimp only [Pt.U, Pt.locs, Pt.cells, Pt.slots] at X43 l43 y43 z43 st43 hQ43
  subst l43 y43 z43
  obtain ⟨rfl, N43q, e43⟩ := hQ43
  have N43 := Fr.app N33 N43q
  obtain ⟨fs, hr, hrun, hended, hW, hsame⟩ := X43.leave (v := some (.int (1 : Int32))) (fun h => by rw [Bd.returns] at h; cases h)
  refine ⟨_, _, pre42 _ ?_, hrun, hended, _, _, rfl, ?_, ⟨_, rfl⟩, hW, hsame.mono (by decide) (by decide)⟩
  · show Steps p.tables e below (T33.setTop (mkF m 189 #[.val (.long rp), .second, .val (.long sta), .second, .val (.long rwa), .second, .val (.long rwb), .second, .val (.int mo), .val (.long (r1_v (1 : Int64) (rp &&& (9223372036854775807 : Int64)))), .second, .val (.long (j0_11_l11 rp)), .second, .val (.long (r1_v (j0_11_l11 rp) (5000000 : Int64))), .second, .val (.ref b8), .val (.int (1 : Int32)), .val (.long (r5_v (r1_v (j0_11_l11 rp) (5000000 : Int64)) rwa mo)), .second, .val (.long (sta + (r5_v (r1_v (j0_11_l11 rp) (5000000 : Int64)) rwa mo))), .second, .val (.long (j0_100_l21 rp sta rwa mo)), .second, .val (.long (r5_v (r1_v (j0_11_l11 rp) (5000000 : Int64)) rwb (mo >>> ((2 : Int32) &&& 31)))), .second, .val (.long ((j0_100_l21 rp sta rwa mo) + (r5_v (r1_v (j0_11_l11 rp) (5000000 : Int64)) rwb (mo >>> ((2 : Int32) &&& 31))))), .second, .val (.long (j0_169_l27 rp sta rwa rwb mo)), .second] [])) _
    refine XS.iload X33.here hx rfl (hb hby at_189) rfl ?_
    show Steps p.tables e below (T33.setTop (mkF m 191 #[.val (.long rp), .second, .val (.long sta), .second, .val (.long rwa), .second, .val (.long rwb), .second, .val (.int mo), .val (.long (r1_v (1 : Int64) (rp &&& (9223372036854775807 : Int64)))), .second, .val (.long (j0_11_l11 rp)), .second, .val (.long (r1_v (j0_11_l11 rp) (5000000 : Int64))), .second, .val (.ref b8), .val (.int (1 : Int32)), .val (.long (r5_v (r1_v (j0_11_l11 rp) (5000000 : Int64)) rwa mo)), .second, .val (.long (sta + (r5_v (r1_v (j0_11_l11 rp) (5000000 : Int64)) rwa mo))), .second, .val (.long (j0_100_l21 rp sta rwa mo)), .second, .val (.long (r5_v (r1_v (j0_11_l11 rp) (5000000 : Int64)) rwb (mo >>> ((2 : Int32) &&& 31)))), .second, .val (.long ((j0_100_l21 rp sta rwa mo) + (r5_v (r1_v (j0_11_l11 rp) (5000000 : Int64)) rwb (mo >>> ((2 : Int32) &&& 31))))), .second, .val (.long (j0_169_l27 rp sta rwa rwb mo)), .second] [(.int (1 : Int32))])) _
    refine XS.ifNo X33.here hx rfl (hb hby at_191) rfl ((if0 _ _).trans (feq (by decide : ¬ ((1 : Int32) = (0 : Int32)))).1) ?_
    show Steps p.tables e below (T33.setTop (mkF m 194 #[.val (.long rp), .second, .val (.long sta), .second, .val (.long rwa), .second, .val (.long rwb), .second, .val (.int mo), .val (.long (r1_v (1 : Int64) (rp &&& (9223372036854775807 : Int64)))), .second, .val (.long (j0_11_l11 rp)), .second, .val (.long (r1_v (j0_11_l11 rp) (5000000 : Int64))), .second, .val (.ref b8), .val (.int (1 : Int32)), .val (.long (r5_v (r1_v (j0_11_l11 rp) (5000000 : Int64)) rwa mo)), .second, .val (.long (sta + (r5_v (r1_v (j0_11_l11 rp) (5000000 : Int64)) rwa mo))), .second, .val (.long (j0_100_l21 rp sta rwa mo)), .second, .val (.long (r5_v (r1_v (j0_11_l11 rp) (5000000 : Int64)) rwb (mo >>> ((2 : Int32) &&& 31)))), .second, .val (.long ((j0_100_l21 rp sta rwa mo) + (r5_v (r1_v (j0_11_l11 rp) (5000000 : Int64)) rwb (mo >>> ((2 : Int32) &&& 31))))), .second, .val (.long (j0_169_l27 rp sta rwa rwb mo)), .second] [])) _
    refine XS.aload X33.here hx rfl (hb hby at_194) rfl rfl ?_
    show Steps p.tables e below (T33.setTop (mkF m 196 #[.val (.long rp), .second, .val (.long sta), .second, .val (.long rwa), .second, .val (.long rwb), .second, .val (.int mo), .val (.long (r1_v (1 : Int64) (rp &&& (9223372036854775807 : Int64)))), .second, .val (.long (j0_11_l11 rp)), .second, .val (.long (r1_v (j0_11_l11 rp) (5000000 : Int64))), .second, .val (.ref b8), .val (.int (1 : Int32)), .val (.long (r5_v (r1_v (j0_11_l11 rp) (5000000 : Int64)) rwa mo)), .second, .val (.long (sta + (r5_v (r1_v (j0_11_l11 rp) (5000000 : Int64)) rwa mo))), .second, .val (.long (j0_100_l21 rp sta rwa mo)), .second, .val (.long (r5_v (r1_v (j0_11_l11 rp) (5000000 : Int64)) rwb (mo >>> ((2 : Int32) &&& 31)))), .second, .val (.long ((j0_100_l21 rp sta rwa mo) + (r5_v (r1_v (j0_11_l11 rp) (5000000 : Int64)) rwb (mo >>> ((2 : Int32) &&& 31))))), .second, .val (.long (j0_169_l27 rp sta rwa rwb mo)), .second] [(.ref b8)])) _
    refine st43.trans ?_
    show Steps p.tables e below (T43.setTop (mkF m 199 #[.val (.long rp), .second, .val (.long sta), .second, .val (.long rwa), .second, .val (.long rwb), .second, .val (.int mo), .val (.long (r1_v (1 : Int64) (rp &&& (9223372036854775807 : Int64)))), .second, .val (.long (j0_11_l11 rp)), .second, .val (.long (r1_v (j0_11_l11 rp) (5000000 : Int64))), .second, .val (.ref b8), .val (.int (1 : Int32)), .val (.long (r5_v (r1_v (j0_11_l11 rp) (5000000 : Int64)) rwa mo)), .second, .val (.long (sta + (r5_v (r1_v (j0_11_l11 rp) (5000000 : Int64)) rwa mo))), .second, .val (.long (j0_100_l21 rp sta rwa mo)), .second, .val (.long (r5_v (r1_v (j0_11_l11 rp) (5000000 : Int64)) rwb (mo >>> ((2 : Int32) &&& 31)))), .second, .val (.long ((j0_100_l21 rp sta rwa mo) + (r5_v (r1_v (j0_11_l11 rp) (5000000 : Int64)) rwb (mo >>> ((2 : Int32) &&& 31))))), .second, .val (.long (j0_169_l27 rp sta rwa rwb mo)), .second] [(.long (r6_turnAt ((j0_100_l21 rp sta rwa mo) + (r5_v (r1_v (j0_11_l11 rp) (5000000 : Int64)) rwb (mo >>> ((2 : Int32) &&& 31)))) (r6_turnAt (sta + (r5_v (r1_v (j0_11_l11 rp) (5000000 : Int64)) rwa mo)) sta (r1_v (((1000000000 : Int64) / (r1_v (1 : Int64) (rp &&& (9223372036854775807 : Int64)))) + ((j2_37_s0 (r1_v (1 : Int64) (rp &&& (9223372036854775807 : Int64)))).toInt64)) (5000000 : Int64)) (((1000000000 : Int64) / (r1_v (1 : Int64) (rp &&& (9223372036854775807 : Int64)))) + ((j2_37_s0 (r1_v (1 : Int64) (rp &&& (9223372036854775807 : Int64)))).toInt64))) (r1_v (((1000000000 : Int64) / (r1_v (1 : Int64) (rp &&& (9223372036854775807 : Int64)))) + ((j2_37_s0 (r1_v (1 : Int64) (rp &&& (9223372036854775807 : Int64)))).toInt64)) (5000000 : Int64)) (((1000000000 : Int64) / (r1_v (1 : Int64) (rp &&& (9223372036854775807 : Int64)))) + ((j2_37_s0 (r1_v (1 : Int64) (rp &&& (9223372036854775807 : Int64)))).toInt64))))])) _
    refine XS.lload X43.here hx rfl (hb hby at_199) rfl ?_
    show Steps p.tables e below (T43.setTop (mkF m 201 #[.val (.long rp), .second, .val (.long sta), .second, .val (.long rwa), .second, .val (.long rwb), .second, .val (.int mo), .val (.long (r1_v (1 : Int64) (rp &&& (9223372036854775807 : Int64)))), .second, .val (.long (j0_11_l11 rp)), .second, .val (.long (r1_v (j0_11_l11 rp) (5000000 : Int64))), .second, .val (.ref b8), .val (.int (1 : Int32)), .val (.long (r5_v (r1_v (j0_11_l11 rp) (5000000 : Int64)) rwa mo)), .second, .val (.long (sta + (r5_v (r1_v (j0_11_l11 rp) (5000000 : Int64)) rwa mo))), .second, .val (.long (j0_100_l21 rp sta rwa mo)), .second, .val (.long (r5_v (r1_v (j0_11_l11 rp) (5000000 : Int64)) rwb (mo >>> ((2 : Int32) &&& 31)))), .second, .val (.long ((j0_100_l21 rp sta rwa mo) + (r5_v (r1_v (j0_11_l11 rp) (5000000 : Int64)) rwb (mo >>> ((2 : Int32) &&& 31))))), .second, .val (.long (j0_169_l27 rp sta rwa rwb mo)), .second] [(.long (j0_169_l27 rp sta rwa rwb mo)), (.long (r6_turnAt ((j0_100_l21 rp sta rwa mo) + (r5_v (r1_v (j0_11_l11 rp) (5000000 : Int64)) rwb (mo >>> ((2 : Int32) &&& 31)))) (r6_turnAt (sta + (r5_v (r1_v (j0_11_l11 rp) (5000000 : Int64)) rwa mo)) sta (r1_v (((1000000000 : Int64) / (r1_v (1 : Int64) (rp &&& (9223372036854775807 : Int64)))) + ((j2_37_s0 (r1_v (1 : Int64) (rp &&& (9223372036854775807 : Int64)))).toInt64)) (5000000 : Int64)) (((1000000000 : Int64) / (r1_v (1 : Int64) (rp &&& (9223372036854775807 : Int64)))) + ((j2_37_s0 (r1_v (1 : Int64) (rp &&& (9223372036854775807 : Int64)))).toInt64))) (r1_v (((1000000000 : Int64) / (r1_v (1 : Int64) (rp &&& (9223372036854775807 : Int64)))) + ((j2_37_s0 (r1_v (1 : Int64) (rp &&& (9223372036854775807 : Int64)))).toInt64)) (5000000 : Int64)) (((1000000000 : Int64) / (r1_v (1 : Int64) (rp &&& (9223372036854775807 : Int64)))) + ((j2_37_s0 (r1_v (1 : Int64) (rp &&& (9223372036854775807 : Int64)))).toInt64))))])) _
    refine XS.lcmp X43.here hx rfl (hb hby at_201) rfl ?_
    show Steps p.tables e below (T43.setTop (mkF m 202 #[.val (.long rp), .second, .val (.long sta), .second, .val (.long rwa), .second, .val (.long rwb), .second, .val (.int mo), .val (.long (r1_v (1 : Int64) (rp &&& (9223372036854775807 : Int64)))), .second, .val (.long (j0_11_l11 rp)), .second, .val (.long (r1_v (j0_11_l11 rp) (5000000 : Int64))), .second, .val (.ref b8), .val (.int (1 : Int32)), .val (.long (r5_v (r1_v (j0_11_l11 rp) (5000000 : Int64)) rwa mo)), .second, .val (.long (sta + (r5_v (r1_v (j0_11_l11 rp) (5000000 : Int64)) rwa mo))), .second, .val (.long (j0_100_l21 rp sta rwa mo)), .second, .val (.long (r5_v (r1_v (j0_11_l11 rp) (5000000 : Int64)) rwb (mo >>> ((2 : Int32) &&& 31)))), .second, .val (.long ((j0_100_l21 rp sta rwa mo) + (r5_v (r1_v (j0_11_l11 rp) (5000000 : Int64)) rwb (mo >>> ((2 : Int32) &&& 31))))), .second, .val (.long (j0_169_l27 rp sta rwa rwb mo)), .second] [(.int (lcmpW (r6_turnAt ((j0_100_l21 rp sta rwa mo) + (r5_v (r1_v (j0_11_l11 rp) (5000000 : Int64)) rwb (mo >>> ((2 : Int32) &&& 31)))) (r6_turnAt (sta + (r5_v (r1_v (j0_11_l11 rp) (5000000 : Int64)) rwa mo)) sta (r1_v (((1000000000 : Int64) / (r1_v (1 : Int64) (rp &&& (9223372036854775807 : Int64)))) + ((j2_37_s0 (r1_v (1 : Int64) (rp &&& (9223372036854775807 : Int64)))).toInt64)) (5000000 : Int64)) (((1000000000 : Int64) / (r1_v (1 : Int64) (rp &&& (9223372036854775807 : Int64)))) + ((j2_37_s0 (r1_v (1 : Int64) (rp &&& (9223372036854775807 : Int64)))).toInt64))) (r1_v (((1000000000 : Int64) / (r1_v (1 : Int64) (rp &&& (9223372036854775807 : Int64)))) + ((j2_37_s0 (r1_v (1 : Int64) (rp &&& (9223372036854775807 : Int64)))).toInt64)) (5000000 : Int64)) (((1000000000 : Int64) / (r1_v (1 : Int64) (rp &&& (9223372036854775807 : Int64)))) + ((j2_37_s0 (r1_v (1 : Int64) (rp &&& (9223372036854775807 : Int64)))).toInt64))) (j0_169_l27 rp sta rwa rwb mo)))])) _
    refine XS.ifNo X43.here hx rfl (hb hby at_202) rfl (own_teqL (own_b rp sta rwa rwb mo : ((r6_turnAt ((j0_100_l21 rp sta rwa mo) + (r5_v (r1_v (j0_11_l11 rp) (5000000 : Int64)) rwb (mo >>> ((2 : Int32) &&& 31)))) (r6_turnAt (sta + (r5_v (r1_v (j0_11_l11 rp) (5000000 : Int64)) rwa mo)) sta (r1_v (((1000000000 : Int64) / (r1_v (1 : Int64) (rp &&& (9223372036854775807 : Int64)))) + ((j2_37_s0 (r1_v (1 : Int64) (rp &&& (9223372036854775807 : Int64)))).toInt64)) (5000000 : Int64)) (((1000000000 : Int64) / (r1_v (1 : Int64) (rp &&& (9223372036854775807 : Int64)))) + ((j2_37_s0 (r1_v (1 : Int64) (rp &&& (9223372036854775807 : Int64)))).toInt64))) (r1_v (((1000000000 : Int64) / (r1_v (1 : Int64) (rp &&& (9223372036854775807 : Int64)))) + ((j2_37_s0 (r1_v (1 : Int64) (rp &&& (9223372036854775807 : Int64)))).toInt64)) (5000000 : Int64)) (((1000000000 : Int64) / (r1_v (1 : Int64) (rp &&& (9223372036854775807 : Int64)))) + ((j2_37_s0 (r1_v (1 : Int64) (rp &&& (9223372036854775807 : Int64)))).toInt64))) = (j0_169_l27 rp sta rwa rwb mo)))).2 ?_
    show Steps p.tables e below (T43.setTop (mkF m 205 #[.val (.long rp), .second, .val (.long sta), .second, .val (.long rwa), .second, .val (.long rwb), .second, .val (.int mo), .val (.long (r1_v (1 : Int64) (rp &&& (9223372036854775807 : Int64)))), .second, .val (.long (j0_11_l11 rp)), .second, .val (.long (r1_v (j0_11_l11 rp) (5000000 : Int64))), .second, .val (.ref b8), .val (.int (1 : Int32)), .val (.long (r5_v (r1_v (j0_11_l11 rp) (5000000 : Int64)) rwa mo)), .second, .val (.long (sta + (r5_v (r1_v (j0_11_l11 rp) (5000000 : Int64)) rwa mo))), .second, .val (.long (j0_100_l21 rp sta rwa mo)), .second, .val (.long (r5_v (r1_v (j0_11_l11 rp) (5000000 : Int64)) rwb (mo >>> ((2 : Int32) &&& 31)))), .second, .val (.long ((j0_100_l21 rp sta rwa mo) + (r5_v (r1_v (j0_11_l11 rp) (5000000 : Int64)) rwb (mo >>> ((2 : Int32) &&& 31))))), .second, .val (.long (j0_169_l27 rp sta rwa rwb mo)), .second] [])) _
    refine XS.iconst X43.here hx rfl (hb hby at_205) ?_
    show Steps p.tables e below (T43.setTop (mkF m 206 #[.val (.long rp), .second, .val (.long sta), .second, .val (.long rwa), .second, .val (.long rwb), .second, .val (.int mo), .val (.long (r1_v (1 : Int64) (rp &&& (9223372036854775807 : Int64)))), .second, .val (.long (j0_11_l11 rp)), .second, .val (.long (r1_v (j0_11_l11 rp) (5000000 : Int64))), .second, .val (.ref b8), .val (.int (1 : Int32)), .val (.long (r5_v (r1_v (j0_11_l11 rp) (5000000 : Int64)) rwa mo)), .second, .val (.long (sta + (r5_v (r1_v (j0_11_l11 rp) (5000000 : Int64)) rwa mo))), .second, .val (.long (j0_100_l21 rp sta rwa mo)), .second, .val (.long (r5_v (r1_v (j0_11_l11 rp) (5000000 : Int64)) rwb (mo >>> ((2 : Int32) &&& 31)))), .second, .val (.long ((j0_100_l21 rp sta rwa mo) + (r5_v (r1_v (j0_11_l11 rp) (5000000 : Int64)) rwb (mo >>> ((2 : Int32) &&& 31))))), .second, .val (.long (j0_169_l27 rp sta rwa rwb mo)), .second] [(.int (1 : Int32))])) _
    refine XS.goto X43.here hx rfl (pc0 := 206) (pc' := 210) rfl (hb hby at_206) (by decide) (by decide) ?_
    show Steps p.tables e below (T43.setTop (mkF m 210 #[.val (.long rp), .second, .val (.long sta), .second, .val (.long rwa), .second, .val (.long rwb), .second, .val (.int mo), .val (.long (r1_v (1 : Int64) (rp &&& (9223372036854775807 : Int64)))), .second, .val (.long (j0_11_l11 rp)), .second, .val (.long (r1_v (j0_11_l11 rp) (5000000 : Int64))), .second, .val (.ref b8), .val (.int (1 : Int32)), .val (.long (r5_v (r1_v (j0_11_l11 rp) (5000000 : Int64)) rwa mo)), .second, .val (.long (sta + (r5_v (r1_v (j0_11_l11 rp) (5000000 : Int64)) rwa mo))), .second, .val (.long (j0_100_l21 rp sta rwa mo)), .second, .val (.long (r5_v (r1_v (j0_11_l11 rp) (5000000 : Int64)) rwb (mo >>> ((2 : Int32) &&& 31)))), .second, .val (.long ((j0_100_l21 rp sta rwa mo) + (r5_v (r1_v (j0_11_l11 rp) (5000000 : Int64)) rwb (mo >>> ((2 : Int32) &&& 31))))), .second, .val (.long (j0_169_l27 rp sta rwa rwb mo)), .second] [(.int (1 : Int32))])) _
    exact retN X43 hx (t := .boolean) Bd.returns (by simp) (hb hby at_210) hr
  · show Q0 Z rp sta rwa rwb mo h0 n0 _ T43.heap _
    rw [e43]
    exact ⟨rfl, N43⟩
theorem own_seq {args : Array Value} {s : State} {C n d : String} {k : Int64} (h : (Jvm.Cond.eq (.static C n d) (.long k)).value args s none s [] = some true) : (Term.static C n d).eval args s none [] s = some (.long k) := by
  cases hf : (Term.static C n d).eval args s none [] s with
  | none => simp [Cond.value, hf] at h
  | some x =>
    have e : (Term.long k).eval args s none [] s = some (.long k) := rfl
    cases x <;> simp [Cond.value, hf, e] at h ⊢; exact h
set_option maxRecDepth 65536 in
set_option maxHeartbeats 40000000 in
theorem comes_1 {Post : Tables → Env → Array Value → State → Outcome → State → Prop} (hpost : ∀ tb e args s v u, (limb_1_1.after args s (.returned v) u = true ∧ limb_1_2.after args s (.returned v) u = true ∧ True) → FrameEnd s (.returned v) u (Jvm.fieldLocs frame_1_writes args s ++ Jvm.arrayLocs frame_1_arrays args s ++ Jvm.staticLocs frame_1_statics s) 16 128 → Post tb e args s (.returned v) u) :
    ArmFor flags0 classFile x code maxLocals ret World_1 tables_1 room_1 Calls_1 rest_1 Pre_1 Post := by
  intro l hfl _ _ p e ha hc hk s m args below hf hA hF happ hP
  obtain ⟨hcalls, hrest, hpre⟩ := hP
  obtain ⟨-, -, -, hnamed, -, -, -, hat⟩ := (Spec.applies_iff hf).mp happ
  obtain ⟨hg, hn⟩ := and_e (Cond.before_iff.mp (show (Jvm.Cond.and given_1 narrow_1).before args s = true from hpre))
  obtain ⟨gv1, gv2⟩ := and_e hg
  obtain ⟨gv3, gv4⟩ := and_e gv2
  obtain ⟨gv5, gv6⟩ := and_e gv4
  obtain ⟨gv7, gv8⟩ := and_e gv6
  obtain ⟨gv9, gv10⟩ := and_e gv8
  obtain ⟨w0, w1, w2, w3, w4, rfl⟩ : ∃ w0 w1 w2 w3 w4 : Value, args = #[w0, w1, w2, w3, w4] := by
    have hs : args.size = 5 := by simpa [Cond.value, given_1] using gv1
    obtain ⟨L⟩ := args
    match L, hs with
    | [w0, w1, w2, w3, w4], _ => exact ⟨w0, w1, w2, w3, w4, rfl⟩
  have hw := fun d (hd : d ∈ tables_1) => atoms_spec (ws := Jvm.Cond.code x code maxLocals ret :: tables_1) hat d (List.mem_cons_of_mem _ hd)
  have hfit : Fit s := fun {y c} hc i hi => by
    obtain ⟨ha, rfl⟩ := Array.getElem?_eq_some_iff.mp hc
    have q := List.all_eq_true.mp ((Array.all_eq_true_iff_forall_mem.mp hF) _ (Array.getElem_mem ha)) i (List.mem_range.mpr hi)
    simpa [Array.getElem?_eq_getElem hi] using q
  obtain ⟨i0, ei0⟩ := isL_v gv3
  obtain rfl : w0 = (.long i0) := Option.some.inj ei0
  obtain ⟨i1, ei1⟩ := isL_v gv5
  obtain rfl : w1 = (.long i1) := Option.some.inj ei1
  obtain ⟨i2, ei2⟩ := isL_v gv7
  obtain rfl : w2 = (.long i2) := Option.some.inj ei2
  obtain ⟨i3, ei3⟩ := isL_v gv9
  obtain rfl : w3 = (.long i3) := Option.some.inj ei3
  obtain ⟨i4, ei4⟩ := is_v gv10
  obtain rfl : w4 = (.int i4) := Option.some.inj ei4
  obtain ⟨q1, q2⟩ := and_e hn
  obtain ⟨n, o, h1, h2, h3, _, L, rfl, ⟨rfl, N⟩, hq⟩ := rm0 l s _ hw tables_1 i0 i1 i2 i3 i4 s.heap s.heap.size (Nat.le_refl _) (Sta.start (own_seq q1) (Or.inr ⟨(hw _ (List.mem_of_getElem? (i := 9) rfl)), (hw _ (List.mem_of_getElem? (i := 17) rfl))⟩)) (Sta.start (own_seq q2) (Or.inr ⟨(hw _ (List.mem_of_getElem? (i := 9) rfl)), (hw _ (List.mem_of_getElem? (i := 21) rfl))⟩)) p e ha hc hk s m _ below hf ((Spec.applies_iff_loose hf).mp happ).1 ⟨rfl, State.Warmed39.refl s, rfl⟩ trivial
  refine ⟨n, _, h1, h2, h3, hpost _ _ _ _ _ _ ⟨Cond.after_iff.mpr rfl, Cond.after_iff.mpr (eq_i res_at (Term.int_eval (1)) rfl), trivial⟩ ⟨hq.1, hq.2.1, (hq.2.2.sift fun y hy => Or.inr (N y hy)).mono (by decide) (by decide)⟩⟩
theorem main_1_1 : Claimed_1_1 := comes_1 fun _ _ _ _ _ _ h hF => ⟨h.1, hF⟩
theorem main_1_2 : Claimed_1_2 := comes_1 fun _ _ _ _ _ _ h hF => ⟨h.2.1, hF⟩
end Jvm.Pilot.@@N@@
namespace Jvm.Pilot.@@N@@
open Jvm Jvm.ClassFile Sem Op Lib Jvm.Free Jvm.Stand Jvm.Pilot.@@N@@.Jvm.D
/-! MADE BY PROGRAM (witnessworld.py) out of the Statement's table words and the real class files: 10 classes; the members and pool entries that the words name. The judged class is class 1, her method 2. -/
namespace start1
open Jvm.ClassFile
def u (s : String) : CpInfo := .utf8 (stringToUtf16 s)
/-- a pool by its gaps: so many unusable entries, then the entry; so many at the end -/
def gap : Nat → List CpInfo → List CpInfo
  | 0, r => r
  | n + 1, r => .unusable :: gap n r
def poolList (es : List (Nat × CpInfo)) (last : Nat) : List CpInfo := es.foldr (fun e r => gap e.1 (e.2 :: r)) (gap last [])
def pool (es : List (Nat × CpInfo)) (last : Nat) : Array CpInfo := ⟨poolList es last⟩
def fileOf (pool : Array CpInfo) (this : Nat) (attrs : Array Attribute := #[]) (ms : Array MethodInfo := #[]) (fl : Nat := 33) (sup : Nat := 0) (ifs : Array Nat := #[]) (fds : Array FieldInfo := #[]) : ClassFile where
  minorVersion := 0
  majorVersion := 65
  constantPool := pool
  accessFlags := fl
  thisClass := this
  superClass := sup
  interfaces := ifs
  fields := fds
  methods := ms
  attributes := attrs
def plain (name : String) (sup : Option ClassId) : Class where
  name := name
  kind := .ordinary
  loader := none
  accessFlags := 33
  super := sup
  interfaces := #[]
  cf := none
  fields := #[]
  methods := #[]
  instanceTypes := #[]
  staticTypes := #[]
  resolved := #[]
  callSites := []
  init := .initialized
  statics := none
  mirror := none

def pool0 : Array CpInfo := pool [(5, u "<init>"), (0, u "()V"), (1, .class_ 10), (1, u "java/lang/Object")] 113

def k0c0 : Code := { maxStack := 0, maxLocals := 1, code := object_method_1_code, exceptionTable := #[], attributes := #[] }
def k0m0 : Method := { name := "<init>", desc := "()V", sig := { parameters := [], returnType := none }, accessFlags := 1, code := some k0c0 }
/-- java/lang/Object -/
def k0 : Class := { plain "java/lang/Object" none with
  accessFlags := 33
  interfaces := #[]
  cf := some (fileOf pool0 8 #[] #[{ accessFlags := 1, nameIndex := 5, descriptorIndex := 6, attributes := #[] }] 33 0 #[] #[])
  fields := #[]
  methods := #[k0m0]
  instanceTypes := #[]
  staticTypes := #[]
  resolved := Array.replicate 124 none
  statics := none }

def pool1 : Array CpInfo := pool [(2, .class_ 4), (1, u "java/lang/Object"), (0, u "<init>"), (0, u "()V"), (2, .long 9223372036854775807), (1, .long 65535), (1, .methodref 14 15), (0, .class_ 16), (0, .nameAndType 17 18), (0, u "java/lang/Math"), (0, u "max"), (0, u "(JJ)J"), (0, .long 268435455), (1, .long 1000000000), (1, .long 5000000), (1, .class_ 26), (0, u "com/example/hikyaku/hikyaku/mqtt/Pacer"), (0, .methodref 25 28), (0, .nameAndType 5 29), (0, u "(JJ)V"), (0, .methodref 25 31), (0, .nameAndType 32 33), (0, u "turnAt"), (0, u "()J"), (0, .methodref 35 36), (0, .class_ 37), (0, .nameAndType 38 39), (0, u "com/example/hikyaku/hikyaku/mqtt/PacerTakePinLaw"), (0, u "delay"), (0, u "(JJI)J"), (0, .methodref 25 41), (0, .nameAndType 42 43), (0, u "take"), (0, u "(J)V"), (3, u "law"), (0, u "(JJJJI)Z")] 2

def k1m0 : Method := { name := "<init>", desc := "()V", sig := { parameters := [], returnType := none }, accessFlags := 1, code := none }
def k1c1 : Code := { maxStack := 8, maxLocals := 6, code := method_2_code, exceptionTable := #[], attributes := #[] }
def k1m1 : Method := { name := "delay", desc := "(JJI)J", sig := { parameters := [.long, .long, .int], returnType := some .long }, accessFlags := 10, code := some k1c1 }
def k1c2 : Code := { maxStack := 6, maxLocals := 29, code := code, exceptionTable := #[], attributes := #[] }
def k1m2 : Method := { name := "law", desc := "(JJJJI)Z", sig := { parameters := [.long, .long, .long, .long, .int], returnType := some .boolean }, accessFlags := 9, code := some k1c2 }
/-- com/example/hikyaku/hikyaku/mqtt/PacerTakePinLaw -/
def k1 : Class := { plain "com/example/hikyaku/hikyaku/mqtt/PacerTakePinLaw" (some 0) with
  accessFlags := 49
  interfaces := #[]
  cf := some (fileOf pool1 35 #[] #[{ accessFlags := 1, nameIndex := 5, descriptorIndex := 6, attributes := #[] }, { accessFlags := 10, nameIndex := 38, descriptorIndex := 39, attributes := #[] }, { accessFlags := 9, nameIndex := 47, descriptorIndex := 48, attributes := #[] }] 49 2 #[] #[])
  fields := #[]
  methods := #[k1m0, k1m1, k1m2]
  instanceTypes := #[]
  staticTypes := #[]
  resolved := Array.replicate 51 none
  statics := none }

def pool2 : Array CpInfo := pool [(1, .class_ 2), (0, u "java/lang/Math"), (1, .class_ 6), (1, u "java/lang/Object"), (0, u "<init>"), (0, u "()V"), (89, .class_ 100), (1, u "java/lang/Math$RandomNumberGeneratorHolder"), (20, u "(JJ)J"), (50, u "negativeZeroFloatBits"), (0, u "J"), (2, u "negativeZeroDoubleBits"), (21, u "max"), (46, u "$assertionsDisabled"), (0, u "Z"), (91, u "twoToTheDoubleScaleDown"), (0, u "D"), (4, u "twoToTheDoubleScaleUp"), (9, u "E"), (3, u "PI"), (2, u "TAU"), (2, u "DEGREES_TO_RADIANS"), (0, u "RADIANS_TO_DEGREES")] 94

def k2m0 : Method := { name := "<init>", desc := "()V", sig := { parameters := [], returnType := none }, accessFlags := 2, code := none }
def k2c1 : Code := { maxStack := 4, maxLocals := 4, code := jdk_29_method_66_code, exceptionTable := #[], attributes := #[] }
def k2m1 : Method := { name := "max", desc := "(JJ)J", sig := { parameters := [.long, .long], returnType := some .long }, accessFlags := 9, code := some k2c1 }
/-- java/lang/Math -/
def k2 : Class := { plain "java/lang/Math" (some 0) with
  accessFlags := 49
  interfaces := #[]
  cf := some (fileOf pool2 1 #[.nestMembers #[98]] #[{ accessFlags := 2, nameIndex := 7, descriptorIndex := 8, attributes := #[] }, { accessFlags := 9, nameIndex := 198, descriptorIndex := 121, attributes := #[] }] 49 4 #[] #[{ accessFlags := 25, nameIndex := 354, descriptorIndex := 339, attributes := #[] }, { accessFlags := 25, nameIndex := 358, descriptorIndex := 339, attributes := #[] }, { accessFlags := 25, nameIndex := 361, descriptorIndex := 339, attributes := #[] }, { accessFlags := 26, nameIndex := 364, descriptorIndex := 339, attributes := #[] }, { accessFlags := 26, nameIndex := 365, descriptorIndex := 339, attributes := #[] }, { accessFlags := 26, nameIndex := 172, descriptorIndex := 173, attributes := #[] }, { accessFlags := 26, nameIndex := 176, descriptorIndex := 173, attributes := #[] }, { accessFlags := 8, nameIndex := 344, descriptorIndex := 339, attributes := #[] }, { accessFlags := 8, nameIndex := 338, descriptorIndex := 339, attributes := #[] }, { accessFlags := 4120, nameIndex := 245, descriptorIndex := 246, attributes := #[] }])
  fields := #[{ name := "E", type := .double, accessFlags := 25, slot := 0, constantValue := 0 }, { name := "PI", type := .double, accessFlags := 25, slot := 1, constantValue := 0 }, { name := "TAU", type := .double, accessFlags := 25, slot := 2, constantValue := 0 }, { name := "DEGREES_TO_RADIANS", type := .double, accessFlags := 26, slot := 3, constantValue := 0 }, { name := "RADIANS_TO_DEGREES", type := .double, accessFlags := 26, slot := 4, constantValue := 0 }, { name := "negativeZeroFloatBits", type := .long, accessFlags := 26, slot := 5, constantValue := 0 }, { name := "negativeZeroDoubleBits", type := .long, accessFlags := 26, slot := 6, constantValue := 0 }, { name := "twoToTheDoubleScaleUp", type := .double, accessFlags := 8, slot := 7, constantValue := 0 }, { name := "twoToTheDoubleScaleDown", type := .double, accessFlags := 8, slot := 8, constantValue := 0 }, { name := "$assertionsDisabled", type := .boolean, accessFlags := 4120, slot := 9, constantValue := 0 }]
  methods := #[k2m0, k2m1]
  instanceTypes := #[]
  staticTypes := #[.double, .double, .double, .double, .double, .long, .long, .double, .double, .boolean]
  resolved := Array.replicate 460 none
  statics := none }

def pool3 : Array CpInfo := pool [(1, .methodref 2 3), (0, .class_ 4), (0, .nameAndType 5 6), (0, u "java/lang/Object"), (0, u "<init>"), (0, u "()V"), (9, .fieldref 17 18), (0, .class_ 19), (0, .nameAndType 20 21), (0, u "com/example/hikyaku/hikyaku/mqtt/Pacer"), (0, u "NANOS_PER_SECOND"), (0, u "J"), (0, .fieldref 17 23), (0, .nameAndType 24 21), (0, u "turnNanos"), (0, .fieldref 17 26), (0, .nameAndType 27 21), (0, u "LATE_NANOS"), (0, .methodref 29 30), (0, .class_ 31), (0, .nameAndType 32 33), (0, u "java/lang/Math"), (0, u "max"), (0, u "(JJ)J"), (0, .fieldref 17 35), (0, .nameAndType 36 21), (0, u "lateNanos"), (0, .fieldref 17 38), (0, .nameAndType 39 21), (0, u "turnAt"), (15, u "(JJ)V"), (3, u "()J"), (2, u "take"), (0, u "(J)V")] 18

def k3c0 : Code := { maxStack := 7, maxLocals := 5, code := prog_39_method_1_code, exceptionTable := #[], attributes := #[] }
def k3m0 : Method := { name := "<init>", desc := "(JJ)V", sig := { parameters := [.long, .long], returnType := none }, accessFlags := 0, code := some k3c0 }
def k3c1 : Code := { maxStack := 2, maxLocals := 1, code := prog_39_method_2_code, exceptionTable := #[], attributes := #[] }
def k3m1 : Method := { name := "turnAt", desc := "()J", sig := { parameters := [], returnType := some .long }, accessFlags := 0, code := some k3c1 }
def k3c2 : Code := { maxStack := 5, maxLocals := 3, code := prog_39_method_4_code, exceptionTable := #[], attributes := #[] }
def k3m2 : Method := { name := "take", desc := "(J)V", sig := { parameters := [.long], returnType := none }, accessFlags := 0, code := some k3c2 }
/-- com/example/hikyaku/hikyaku/mqtt/Pacer -/
def k3 : Class := { plain "com/example/hikyaku/hikyaku/mqtt/Pacer" (some 0) with
  accessFlags := 32
  interfaces := #[]
  cf := some (fileOf pool3 17 #[] #[{ accessFlags := 0, nameIndex := 5, descriptorIndex := 55, attributes := #[] }, { accessFlags := 0, nameIndex := 39, descriptorIndex := 59, attributes := #[] }, { accessFlags := 0, nameIndex := 62, descriptorIndex := 63, attributes := #[] }] 32 2 #[] #[{ accessFlags := 24, nameIndex := 27, descriptorIndex := 21, attributes := #[] }, { accessFlags := 26, nameIndex := 20, descriptorIndex := 21, attributes := #[] }, { accessFlags := 18, nameIndex := 24, descriptorIndex := 21, attributes := #[] }, { accessFlags := 18, nameIndex := 36, descriptorIndex := 21, attributes := #[] }, { accessFlags := 2, nameIndex := 39, descriptorIndex := 21, attributes := #[] }])
  fields := #[{ name := "LATE_NANOS", type := .long, accessFlags := 24, slot := 0, constantValue := 0 }, { name := "NANOS_PER_SECOND", type := .long, accessFlags := 26, slot := 1, constantValue := 0 }, { name := "turnNanos", type := .long, accessFlags := 18, slot := 0, constantValue := 0 }, { name := "lateNanos", type := .long, accessFlags := 18, slot := 1, constantValue := 0 }, { name := "turnAt", type := .long, accessFlags := 2, slot := 2, constantValue := 0 }]
  methods := #[k3m0, k3m1, k3m2]
  instanceTypes := #[.long, .long, .long]
  staticTypes := #[.long, .long]
  resolved := Array.replicate 82 none
  statics := some 0 }

def pool4 : Array CpInfo := pool [(1, u "java/lang/Cloneable"), (0, .class_ 1), (0, u "java/lang/Object"), (0, .class_ 3)] 3

/-- java/lang/Cloneable -/
def k4 : Class := { plain "java/lang/Cloneable" (some 0) with
  accessFlags := 1537
  interfaces := #[]
  cf := some (fileOf pool4 2 #[] #[] 1537 4 #[] #[])
  fields := #[]
  methods := #[]
  instanceTypes := #[]
  staticTypes := #[]
  resolved := Array.replicate 8 none
  statics := none }

def pool5 : Array CpInfo := pool [(1, u "java/io/Serializable"), (0, .class_ 1), (0, u "java/lang/Object"), (0, .class_ 3)] 3

/-- java/io/Serializable -/
def k5 : Class := { plain "java/io/Serializable" (some 0) with
  accessFlags := 1537
  interfaces := #[]
  cf := some (fileOf pool5 2 #[] #[] 1537 4 #[] #[])
  fields := #[]
  methods := #[]
  instanceTypes := #[]
  staticTypes := #[]
  resolved := Array.replicate 8 none
  statics := none }

/-- the primitive byte -/
def k6 : Class := { plain "byte" none with kind := .primitive 'B', accessFlags := 0x411 }
/-- [B -/
def k7 : Class := { plain "[B" (some 0) with kind := .array 6 .byte, interfaces := #[4, 5], accessFlags := 1041 }

/-- the primitive int -/
def k8 : Class := { plain "int" none with kind := .primitive 'I', accessFlags := 0x411 }
/-- [I -/
def k9 : Class := { plain "[I" (some 0) with kind := .array 8 .int, interfaces := #[4, 5], accessFlags := 1041 }

def heap : Heap := #[{ cls := 3, slots := #[.long 5000000, .long 1000000000], vm := .statics 3 }]
def classes : Array Class := #[k0, k1, k2, k3, k4, k5, k6, k7, k8, k9]
def interned : List (Array UInt16 × Addr) := []
def slotsUsed : Nat := 2
def theMethod : MethodId := ⟨1, 2⟩
def args0 : Array Value := #[.long 1000, .long 77, .long 5, .long 6, .int 9]
def aboutOver (below : List Frame) : State where
  vm := { classes := classes, interned := interned.toArray }
  heap := heap
  slotsUsed := slotsUsed
  threads := #[{ frames := .invoking theMethod args0 :: below }]
def below0 : List Frame := [.native { method := ⟨0, 0⟩, args := #[] }]
def about1 : State := aboutOver below0
def p0 : Program := .bare "" "" ""
def e0 : Env := launch0.env 0 0 0
theorem w_frames : about1.frames = Frame.invoking theMethod args0 :: below0 := rfl
set_option maxRecDepth 65536 in
theorem w_args : argsFit about1.vm theMethod args0 = true := by decide +kernel
set_option maxRecDepth 65536 in
theorem w_heap : heapFits about1 = true := by decide +kernel
set_option maxRecDepth 65536 in
theorem w_runnable : about1.curStatus? = some .runnable := by decide +kernel
set_option maxRecDepth 65536 in
theorem w_alone : about1.alone = true := by decide +kernel
set_option maxRecDepth 65536 in
theorem w_named : about1.methodNamed? x = some theMethod := by decide +kernel
set_option maxRecDepth 65536 in
theorem w_hears : about1.hears theMethod below0 = true := by decide +kernel
set_option maxRecDepth 65536 in
theorem w_ripe : about1.ripe theMethod args0 below0 = true := by decide +kernel
theorem w_running : about1.status = .running := rfl
set_option maxRecDepth 65536 in
theorem w_room : about1.hasRoom e0.platform room_1 = true :=
  launch0.hasRoom_least _ room_1 (by decide +kernel) (by decide +kernel) (by decide +kernel) (by decide +kernel) (by decide +kernel) (by decide +kernel)
theorem allAtoms_all (ts : List Jvm.Cond) (a : Array Jvm.Value) (st : Jvm.State) : (allAtoms ts).before a st = ts.all (fun c => c.before a st) := by
  induction ts with
  | nil => rfl
  | cons c t ih =>
    show (Jvm.Cond.and c (allAtoms t)).before a st = _
    rw [Jvm.Cond.before_and, ih, List.all_cons]
def words1 : List Jvm.Cond := Jvm.Cond.code x code maxLocals ret :: tables_1
/-- a 'code' word, met by the world's own term for the bytes: nothing is compared byte by byte -/
theorem code_word {y : MethodName} {bytes : ByteArray} {mx : Nat} {rt : Option FieldType} {a : Array Value} {s : State} {m : MethodId} {meth : Method} {c : Code} (h1 : s.methodNamed? y = some m) (h2 : s.vm.method? m = some meth) (h3 : meth.code = some c) (h4 : c.code = bytes)
    (h5 : (c.maxLocals == mx && c.exceptionTable.isEmpty && decide (c.maxStack ≤ mostOperands) && decide (meth.sig.returnType = rt) && !meth.locks && decide (parseMethodDescriptor y.desc = some meth.sig)) = true) : (Jvm.Cond.code y bytes mx rt).before a s = true := by
  simp only [Bool.and_eq_true, beq_iff_eq, Bool.not_eq_true', decide_eq_true_eq] at h5
  obtain ⟨⟨⟨⟨⟨g1, g2⟩, g3⟩, g4⟩, g5⟩, g6⟩ := h5
  simp [Cond.before, Cond.holds, Cond.value, h1, h2, h3, h4, g1, g2, g3, g4, g5, g6]
def isCode : Jvm.Cond → Bool
  | .code _ _ _ _ => true
  | _ => false
theorem all_split {L : List Jvm.Cond} {P : Jvm.Cond → Bool} (h1 : L.all (fun c => isCode c || P c) = true) (h2 : ∀ c ∈ L.filter isCode, P c = true) : L.all P = true := by
  refine List.all_eq_true.mpr fun c hc => ?_
  have h := List.all_eq_true.mp h1 c hc
  rcases Bool.eq_false_or_eq_true (isCode c) with hi | hi
  · exact h2 c (List.mem_filter.mpr ⟨hc, hi⟩)
  · simpa [hi] using h
set_option maxRecDepth 65536 in
theorem w_c0 : (Jvm.Cond.code x code maxLocals ret).before args0 about1 = true := code_word (m := ⟨1, 2⟩) (meth := k1m2) (c := k1c2) (by decide +kernel) rfl rfl rfl (by decide +kernel)
set_option maxRecDepth 65536 in
theorem w_c1 : (Jvm.Cond.code ({ cls := "java/lang/Math", name := "max", desc := "(JJ)J" } : Jvm.MethodName) jdk_29_method_66_code (4 : Nat) (Option.some Jvm.ClassFile.FieldType.long)).before args0 about1 = true := code_word (m := ⟨2, 1⟩) (meth := k2m1) (c := k2c1) (by decide +kernel) rfl rfl rfl (by decide +kernel)
set_option maxRecDepth 65536 in
theorem w_c2 : (Jvm.Cond.code ({ cls := "com/example/hikyaku/hikyaku/mqtt/Pacer", name := "<init>", desc := "(JJ)V" } : Jvm.MethodName) prog_39_method_1_code (5 : Nat) (Option.none : Option Jvm.ClassFile.FieldType)).before args0 about1 = true := code_word (m := ⟨3, 0⟩) (meth := k3m0) (c := k3c0) (by decide +kernel) rfl rfl rfl (by decide +kernel)
set_option maxRecDepth 65536 in
theorem w_c3 : (Jvm.Cond.code ({ cls := "java/lang/Object", name := "<init>", desc := "()V" } : Jvm.MethodName) object_method_1_code (1 : Nat) (Option.none : Option Jvm.ClassFile.FieldType)).before args0 about1 = true := code_word (m := ⟨0, 0⟩) (meth := k0m0) (c := k0c0) (by decide +kernel) rfl rfl rfl (by decide +kernel)
set_option maxRecDepth 65536 in
theorem w_c4 : (Jvm.Cond.code ({ cls := "com/example/hikyaku/hikyaku/mqtt/Pacer", name := "turnAt", desc := "()J" } : Jvm.MethodName) prog_39_method_2_code (1 : Nat) (Option.some Jvm.ClassFile.FieldType.long)).before args0 about1 = true := code_word (m := ⟨3, 1⟩) (meth := k3m1) (c := k3c1) (by decide +kernel) rfl rfl rfl (by decide +kernel)
set_option maxRecDepth 65536 in
theorem w_c5 : (Jvm.Cond.code ({ cls := "com/example/hikyaku/hikyaku/mqtt/PacerTakePinLaw", name := "delay", desc := "(JJI)J" } : Jvm.MethodName) method_2_code (6 : Nat) (Option.some Jvm.ClassFile.FieldType.long)).before args0 about1 = true := code_word (m := ⟨1, 1⟩) (meth := k1m1) (c := k1c1) (by decide +kernel) rfl rfl rfl (by decide +kernel)
set_option maxRecDepth 65536 in
theorem w_c6 : (Jvm.Cond.code ({ cls := "com/example/hikyaku/hikyaku/mqtt/Pacer", name := "take", desc := "(J)V" } : Jvm.MethodName) prog_39_method_4_code (3 : Nat) (Option.none : Option Jvm.ClassFile.FieldType)).before args0 about1 = true := code_word (m := ⟨3, 2⟩) (meth := k3m2) (c := k3c2) (by decide +kernel) rfl rfl rfl (by decide +kernel)
def codes1 : List Jvm.Cond := [Jvm.Cond.code x code maxLocals ret, Jvm.Cond.code ({ cls := "java/lang/Math", name := "max", desc := "(JJ)J" } : Jvm.MethodName) jdk_29_method_66_code (4 : Nat) (Option.some Jvm.ClassFile.FieldType.long), Jvm.Cond.code ({ cls := "com/example/hikyaku/hikyaku/mqtt/Pacer", name := "<init>", desc := "(JJ)V" } : Jvm.MethodName) prog_39_method_1_code (5 : Nat) (Option.none : Option Jvm.ClassFile.FieldType), Jvm.Cond.code ({ cls := "java/lang/Object", name := "<init>", desc := "()V" } : Jvm.MethodName) object_method_1_code (1 : Nat) (Option.none : Option Jvm.ClassFile.FieldType), Jvm.Cond.code ({ cls := "com/example/hikyaku/hikyaku/mqtt/Pacer", name := "turnAt", desc := "()J" } : Jvm.MethodName) prog_39_method_2_code (1 : Nat) (Option.some Jvm.ClassFile.FieldType.long), Jvm.Cond.code ({ cls := "com/example/hikyaku/hikyaku/mqtt/PacerTakePinLaw", name := "delay", desc := "(JJI)J" } : Jvm.MethodName) method_2_code (6 : Nat) (Option.some Jvm.ClassFile.FieldType.long), Jvm.Cond.code ({ cls := "com/example/hikyaku/hikyaku/mqtt/Pacer", name := "take", desc := "(J)V" } : Jvm.MethodName) prog_39_method_4_code (3 : Nat) (Option.none : Option Jvm.ClassFile.FieldType)]
set_option maxRecDepth 65536 in
theorem codes_eq : words1.filter isCode = codes1 := rfl
theorem w_codes : ∀ c ∈ words1.filter isCode, c.before args0 about1 = true := by
  rw [codes_eq]
  intro c hc
  simp only [codes1, List.mem_cons, List.not_mem_nil, or_false] at hc
  rcases hc with rfl | rfl | rfl | rfl | rfl | rfl | rfl
  · exact w_c0
  · exact w_c1
  · exact w_c2
  · exact w_c3
  · exact w_c4
  · exact w_c5
  · exact w_c6
set_option maxRecDepth 65536 in
theorem w_t1 : (words1.take 24).all (fun c => isCode c || c.before args0 about1) = true := by decide +kernel
set_option maxRecDepth 65536 in
theorem w_t2 : (words1.drop 24).all (fun c => isCode c || c.before args0 about1) = true := by decide +kernel
theorem w_tables : (allAtoms (Jvm.Cond.code x code maxLocals ret :: tables_1)).before args0 about1 = true := by
  rw [allAtoms_all]
  show words1.all (fun c => c.before args0 about1) = true
  refine all_split ?_ w_codes
  rw [← List.take_append_drop 24 words1, List.all_append, w_t1, w_t2]
  rfl
set_option maxRecDepth 65536 in
theorem w_case : (Jvm.Cond.and given_1 narrow_1).before args0 about1 = true := by decide +kernel
theorem w_applies : (headSpec (Jvm.Cond.code x code maxLocals ret :: tables_1) room_1).applies x e0.platform about1 = true :=
  (Spec.applies_iff w_frames).mpr ⟨w_running, w_runnable, w_alone, w_named, w_hears, w_ripe, w_room, w_tables⟩
theorem atStart : AtStart classFile x code maxLocals ret World_1 tables_1 room_1 Calls_1 rest_1 Pre_1 launch0 p0 e0 about1 theMethod args0 below0 :=
  ⟨lists_1, trivial, launch0.admits_env _ _ _, launch0.least_env, fairChoices_fair.cas, fairChoices_fair.clock, w_frames, w_args, w_heap, w_applies, trivial, trivial, w_case⟩
end start1
theorem witness_1 : WitnessClaimed_1 := ⟨start1.p0, start1.e0, start1.about1, start1.theMethod, start1.args0, start1.below0, start1.atStart⟩
end Jvm.Pilot.@@N@@
