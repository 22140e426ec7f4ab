import JvmDerived
import JvmDerived.Pilot.@@N@@Statement
import JvmDerived.Pilot.@@N@@Code
set_option linter.unusedVariables false
set_option linter.unusedSimpArgs false
namespace Jvm.RoadKit
open Sem ClassFile Op Lib Jvm.Stand Jvm.Free Jvm.LawKit
section New
variable {p : Program} {l : Launch} {e : Env} {R : Room} {s : State} {m : MethodId} {args : Array Value} {below : List Frame} {meth : Method} {c : Code} {T : State} {locs : List Loc} {cells slots : Nat}
theorem retI (X : Stand p l e R s m args below meth c T locs cells slots) (hx : p.tables.exec = Jvm.exec) {pc : Nat} {Ls : Array Slot} {z : Int32} {rest : List Value} (hret : meth.sig.returnType = some .int) (hd : decode c.code pc = .ok (.ireturn, 1)) {fs : List Frame}
    (hl : ∀ (f : JFrame) (acts : List Action), f.method = m → f.locked = none → f.entered = [] → (doReturn e (T.setTop f) acts (some (.int z))).1 = T.setFrames fs) : Steps p.tables e below (T.setTop (mkF m pc Ls (.int z :: rest))) (T.setFrames fs) := by
  have hm' : T.vm.method? m = some meth := X.method'
  have hn : narrow .int (.int z) = .int z := rfl
  show Steps p.tables e below (T.setTop { method := m, pc := pc, locals := Ls, stack := _ :: rest, locked := none }) _
  jvm_step X.here [X.here.top, hx, hd, hm', hret, hn]
  first | (intro acts; rw [hl _ acts rfl rfl rfl]) | rw [hl _ _ rfl rfl rfl]
  exact Steps.refl _
theorem own_lremM {g : JFrame} {target : State} (X : Stand p l e R s m args below meth c T locs cells slots) (hx : p.tables.exec = Jvm.exec) (hg : g.method = m) {x y : Int64} {rest : List Value} (hd : decode c.code g.pc = .ok (.lrem, 1)) (hs : g.stack = .long y :: .long x :: rest) (hy : y ≠ 0)
    (hr : Steps p.tables e below (T.setTop { g with pc := g.pc + 1, stack := .long (x % y) :: rest }) target) : Steps p.tables e below (T.setTop g) target := by
  have q : x - (x / y) * y = x % y := lrem_mod x y
  exact XS.lrem X.here hx hg hd hs hy (by rw [q]; exact hr)
end New
/-! own: a long's comparison, an array by a function -/
theorem own_tltL {x y : Int64} (h : x < y) : ifCond.holds .lt (lcmpW x y) = true ∧ ifCond.holds .ge (lcmpW x y) = false ∧ ifCond.holds .gt (lcmpW y x) = true ∧ ifCond.holds .le (lcmpW y x) = false := by
  have h1 := (lc_lt x y).mpr h
  have h2 := (lc_gt y x).mpr h
  rw [← lcW] at h1 h2
  simp only [if0]
  exact ⟨(tlt h1).1, (tlt h1).2.1, (tlt h2).2.2.1, (tlt h2).2.2.2⟩
theorem own_fltL {x y : Int64} (h : ¬ x < y) : ifCond.holds .lt (lcmpW x y) = false ∧ ifCond.holds .ge (lcmpW x y) = true ∧ ifCond.holds .gt (lcmpW y x) = false ∧ ifCond.holds .le (lcmpW y x) = true := by
  have h1 := mt (lc_lt x y).mp h
  have h2 := mt (lc_gt y x).mp h
  rw [← lcW] at h1 h2
  simp only [if0]
  exact ⟨(flt h1).1, (flt h1).2.1, (flt h2).2.2.1, (flt h2).2.2.2⟩
theorem own_teqL {x y : Int64} (h : x = y) : ifCond.holds .eq (lcmpW x y) = true ∧ ifCond.holds .ne (lcmpW x y) = false := by
  have h1 := (lc_eq x y).mpr h
  rw [← lcW] at h1
  simp only [if0]
  exact teq h1
theorem own_feqL {x y : Int64} (h : ¬ x = y) : ifCond.holds .eq (lcmpW x y) = false ∧ ifCond.holds .ne (lcmpW x y) = true := by
  have h1 := mt (lc_eq x y).mp h
  rw [← lcW] at h1
  simp only [if0]
  exact feq h1
theorem own_iadd {x y : Int32} {X Y : Int} (hx : x.toInt = X) (hy : y.toInt = Y) (h1 : -2147483648 ≤ X + Y) (h2 : X + Y < 2147483648) : (x + y).toInt = X + Y := by
  have := c_iadd x y; have := rng32 (x + y); omega
theorem own_isub {x y : Int32} {X Y : Int} (hx : x.toInt = X) (hy : y.toInt = Y) (h1 : -2147483648 ≤ X - Y) (h2 : X - Y < 2147483648) : (x - y).toInt = X - Y := by
  have := c_isub x y; have := rng32 (x - y); omega
theorem own_imul {x y : Int32} {X Y : Int} (hx : x.toInt = X) (hy : y.toInt = Y) (h1 : -2147483648 ≤ X * Y) (h2 : X * Y < 2147483648) : (x * y).toInt = X * Y := by
  have := c_imul x y; have := rng32 (x * y); subst hx hy; omega
theorem own_ladd {x y : Int64} {X Y : Int} (hx : x.toInt = X) (hy : y.toInt = Y) (h1 : -9223372036854775808 ≤ X + Y) (h2 : X + Y < 9223372036854775808) : (x + y).toInt = X + Y := by
  have := c_ladd x y; have := rng64 (x + y); omega
theorem own_lsub {x y : Int64} {X Y : Int} (hx : x.toInt = X) (hy : y.toInt = Y) (h1 : -9223372036854775808 ≤ X - Y) (h2 : X - Y < 9223372036854775808) : (x - y).toInt = X - Y := by
  have := c_lsub x y; have := rng64 (x - y); omega
theorem own_lmul {x y : Int64} {X Y : Int} (hx : x.toInt = X) (hy : y.toInt = Y) (h1 : -9223372036854775808 ≤ X * Y) (h2 : X * Y < 9223372036854775808) : (x * y).toInt = X * Y := by
  have := c_lmul x y; have := rng64 (x * y); subst hx hy; omega
theorem own_maskL (x m : Int64) (k : Nat) (M : Int) (hM : m.toInt = M) (hk : k ≤ 63) (hm : m.toBitVec.toNat = 2 ^ k - 1) : 0 ≤ (x &&& m).toInt ∧ (x &&& m).toInt ≤ M := by
  have h := c_maskL x m k hk hm
  have h2 := c_maskL m m k hk hm
  have e : m &&& m = m := by simp
  rw [e] at h2
  have p : (0 : Int) < ((2 ^ k : Nat) : Int) := by have := Nat.two_pow_pos k; omega
  have a1 := Int.emod_nonneg x.toInt (show ((2 ^ k : Nat) : Int) ≠ 0 by omega)
  have a2 := Int.emod_lt_of_pos x.toInt p
  have hmi : m.toInt = ((2 ^ k - 1 : Nat) : Int) := by
    have h3 : m.toInt = (m.toBitVec.toNat : Int) := by
      show m.toBitVec.toInt = _
      rw [BitVec.toInt_eq_toNat_cond, hm]
      have : 2 ^ k ≤ 2 ^ 63 := Nat.pow_le_pow_right (by decide) hk
      split <;> omega
    rw [h3, hm]
  omega
theorem own_nb (x : Int32) : nar .byte (x.toInt8.toInt32) = x.toInt8.toInt32 := by
  show (x.toInt8.toInt32).toInt8.toInt32 = _
  simp
theorem own_sel {args : Array Value} {s : State} {y z : MethodName} (hi : (Cond.instanceMethod y).before args s = true) (hp : (Cond.privateMethod y).before args s = true) (h2 : (Cond.selects y.cls z z).before args s = true) (hc : z.cls = y.cls)
    (hy : y.cls ≠ "java/lang/invoke/MethodHandle" ∧ y.cls ≠ "java/lang/invoke/VarHandle") : (Cond.selects y.cls y y).before args s = true := by
  obtain ⟨mk, meth, hn, hm, -, -⟩ := Cond.instanceMethod_spec hi
  obtain ⟨c, r, m2, -, -, f3, -, k, f4, f5⟩ := Cond.selects_spec h2
  have e1 := findClass_of_methodNamed hn
  have e2 := findClass_of_methodNamed f3
  rw [hc, e1] at e2
  have e3 : m2.cls = mk.cls := (Option.some.inj e2).symm
  have e4 := State.methodFound?_of_named hn hy
  have e5 := selectMethod_private (p := {}) (c := mk.cls) hm (Cond.privateMethod_at hp mk meth hn hm)
  rw [e3] at f4
  simp [Cond.before, Cond.holds, Cond.value, e1, e4, hn, e5, f4, f5]
def AF (Z : State) (h : Heap) (a : Addr) (ty : FieldType) (n : Nat) (g : Nat → Value) : Prop := ∃ c : Cell, Arr Z h a c ty ∧ c.slots.size = n ∧ ∀ j, j < n → c.slots[j]? = some (g j)
abbrev AI (Z : State) (h : Heap) (a : Addr) (ty : FieldType) (n : Nat) (f : Nat → Int32) : Prop := AF Z h a ty n (fun j => .int (f j))
abbrev AJ (Z : State) (h : Heap) (a : Addr) (ty : FieldType) (n : Nat) (f : Nat → Int64) : Prop := AF Z h a ty n (fun j => .long (f j))
abbrev AD (Z : State) (h : Heap) (a : Addr) (ty : FieldType) (n : Nat) (f : Nat → UInt64) : Prop := AF Z h a ty n (fun j => .double (f j))
theorem own_exaP {Z : State} {h : Heap} {a : Addr} {C : String} (E : Exa Z h a C) : ∃ c : Cell, h[a]? = some c ∧ c.vm.isStatics = false := by
  obtain ⟨c, k, h1, -, -, h4, -⟩ := E; exact ⟨c, h1, h4⟩
theorem own_arrP {Z : State} {h : Heap} {a : Addr} {ty : FieldType} {n : Nat} {g : Nat → Value} (F : AF Z h a ty n g) : ∃ c : Cell, h[a]? = some c ∧ c.vm.isStatics = false := by
  obtain ⟨c, A, -⟩ := F; exact ⟨c, A.1, A.plain⟩
theorem own_sta {Z : State} {h h' : Heap} {ws : List Addr} {C n d : String} {v : Value} (F : Sta Z h C n d v) (K : Keep h h' ws) (q : ∀ x ∈ ws, ∃ c : Cell, h[x]? = some c ∧ c.vm.isStatics = false) : Sta Z h' C n d v := by
  obtain ⟨cf, i, k, f, st, cell, h1, h2, h3, h4, h5, h6, h7⟩ := F
  refine ⟨cf, i, k, f, st, cell, h1, h2, h3, h4, K.2.1 st cell h5 (fun hm => ?_), h6, h7⟩
  obtain ⟨c, g1, g2⟩ := q st hm
  cases g1.symm.trans h5
  rw [h6] at g2; cases g2
def up {α : Type} (f : Nat → α) (i : Nat) (v : α) : Nat → α := fun j => if j = i then v else f j
def zI : Nat → Int32 := fun _ => 0
def zJ : Nat → Int64 := fun _ => 0
section Arrs
variable {Z : State} {h h' : Heap} {a b : Addr} {ty : FieldType} {n : Nat} {g g' : Nat → Value}
theorem AF.lt (F : AF Z h a ty n g) : a < h.size := by obtain ⟨c, A, -⟩ := F; exact A.lt
theorem AF.ext (F : AF Z h a ty n g) (E : Ext h h') : AF Z h' a ty n g := by obtain ⟨c, A, r⟩ := F; exact ⟨c, A.ext E, r⟩
theorem AF.other {sl : Nat} {v : Value} (F : AF Z h b ty n g) (W : Wr h h' a sl v) (q : b ≠ a) : AF Z h' b ty n g := by obtain ⟨c, A, r⟩ := F; exact ⟨c, A.other W q, r⟩
theorem AF.keep {ws : List Addr} (F : AF Z h a ty n g) (K : Keep h h' ws) (q : a ∉ ws) : AF Z h' a ty n g := by obtain ⟨c, A, r⟩ := F; exact ⟨c, ⟨K.2.1 a c A.1 q, A.2⟩, r⟩
theorem AF.re (F : AF Z h a ty n g) (q : ∀ j, j < n → g j = g' j) : AF Z h a ty n g' := by obtain ⟨c, A, S, H⟩ := F; exact ⟨c, A, S, fun j hj => by rw [H j hj, q j hj]⟩
theorem AF.at (F : AF Z h a ty n g) {j : Int32} (i : Nat) (hj : j.toInt = i) (hi : i < n) : ∃ c : Cell, Arr Z h a c ty ∧ ¬ (j < 0 ∨ c.slots.size ≤ j.toNatClampNeg) ∧ c.slots[j.toNatClampNeg]? = some (g i) := by
  obtain ⟨c, A, S, H⟩ := F
  have e : j.toNatClampNeg = i := by simp only [Int32.toNatClampNeg, hj]; omega
  refine ⟨c, A, ?_, by rw [e]; exact H i hi⟩
  rw [e, S, Int32.lt_iff_toInt_lt, hj]
  have : (0 : Int32).toInt = 0 := rfl
  omega
theorem AF.len (F : AF Z h a ty n g) : ∃ c : Cell, Arr Z h a c ty ∧ c.slots.size = n := by obtain ⟨c, A, S, -⟩ := F; exact ⟨c, A, S⟩
theorem AF.set {k : Nat} {v : Value} (F : AF Z h a ty n g) (W : Wr h h' a k v) : AF Z h' a ty n (fun j => if j = k then v else g j) := by
  obtain ⟨c, A, S, H⟩ := F
  refine ⟨_, A.same W, by rw [sz_set]; exact S, fun j hj => ?_⟩
  by_cases q : j = k
  · subst q; simp [Cell.setSlot, S, hj]
  · show _ = some (if j = k then v else g j)
    rw [if_neg q]; have := H j hj; simp only [Cell.setSlot] at this ⊢; rw [Array.getElem?_setIfInBounds_ne (Ne.symm q)]; exact this
theorem own_tn {j : Int32} {i : Nat} (hj : j.toInt = i) : j.toNatClampNeg = i := by simp only [Int32.toNatClampNeg, hj]; omega
theorem AF.setI {f : Nat → Int32} {j : Int32} {v : Int32} (F : AI Z h a ty n f) (W : Wr h h' a j.toNatClampNeg (.int v)) (i : Nat) (hj : j.toInt = i) : AI Z h' a ty n (up f i v) := by
  rw [own_tn hj] at W
  exact (AF.set F W).re fun k _ => by by_cases q : k = i <;> simp [up, q]
theorem AF.setJ {f : Nat → Int64} {j : Int32} {v : Int64} (F : AJ Z h a ty n f) (W : Wr h h' a j.toNatClampNeg (.long v)) (i : Nat) (hj : j.toInt = i) : AJ Z h' a ty n (up f i v) := by
  rw [own_tn hj] at W
  exact (AF.set F W).re fun k _ => by by_cases q : k = i <;> simp [up, q]
theorem AF.setD {f : Nat → UInt64} {j : Int32} {v : UInt64} (F : AD Z h a ty n f) (W : Wr h h' a j.toNatClampNeg (.double v)) (i : Nat) (hj : j.toInt = i) : AD Z h' a ty n (up f i v) := by
  rw [own_tn hj] at W
  exact (AF.set F W).re fun k _ => by by_cases q : k = i <;> simp [up, q]
theorem AF.new {k : ClassId} {z : Int32} (A : Arr Z h a (newA k ty z) ty) (hz : z.toInt = n) : AF Z h a ty n (fun _ => defaultValue ty) :=
  ⟨_, A, by rw [sz_new]; exact own_tn hz, fun j hj => by simp [newA, own_tn hz, hj]⟩
end Arrs
end Jvm.RoadKit
namespace Jvm.Pilot.@@N@@
open Jvm Jvm.ClassFile Sem Op Lib Jvm.Free Jvm.Stand Jvm.LawKit Jvm.RoadKit Bundle Jvm.Pilot.@@N@@.Jvm.D
theorem own_na {Z : State} {a0 : Array Value} {C S O K : String} {n : Nat} (w1 : (Jvm.Cond.superclass C S).before a0 Z = true) (w2 : (Jvm.Cond.superclass S O).before a0 Z = true) (w3 : (Jvm.Cond.noSuperclass O).before a0 Z = true) (wk : (Jvm.Cond.instantiable K n).before a0 Z = true)
    (hC : C ≠ K) (hS : S ≠ K) (hO : O ≠ K) : ∃ c t, Z.vm.findClass C = some c ∧ Z.vm.findClass K = some t ∧ Z.vm.assignable c t = false := by
  obtain ⟨t, kt, g1, g2, g3, g4, -⟩ := Cond.instantiable_spec wk
  obtain ⟨co, ko, o1, o2, o3, -, -⟩ := Cond.noSuperclass_spec w3
  have neO := ids_ne o1 g1 hO
  have nO : NS Z O K := ⟨co, t, o1, g1, fun fuel => by
    cases fuel with
    | zero => rfl
    | succ f => simp [Vm.isSubclassAux, neO, o2, o3]⟩
  obtain ⟨c, t', h0, g0, n3⟩ := NS.step w1 (NS.step w2 nO hS) hC
  cases g1.symm.trans g0
  obtain ⟨p, k, kp, h1, h2, h3, h4, h5, -, h7⟩ := Cond.superclass_spec h0 w1
  have ne := ids_ne h0 g1 hC
  have g4' : kt.isInterface = false := by cases hq : kt.isInterface <;> simp [hq] at g4 ⊢
  refine ⟨c, t, h0, g1, ?_⟩
  show Z.vm.assignableAux (255 + 1) c t = false
  simp [Vm.assignableAux, ne, h2, g2, h5, g3, g4', Vm.isSubclass, n3]
theorem ef_1 (m : MethodId) (xa : Int32) (xb : Int32) : entryFrame m #[(.int xa), (.int xb)] 2 = mkF m 0 #[.val (.int xa), .val (.int xb)] [] := by first | (simp [entryFrame, mkF, argsToLocals, Value.category]; done) | rfl
theorem d1_0 : decode jdk_29_method_65_code 0 = .ok (.iload_n 0, 1) := by decide +kernel
theorem d1_1 : decode jdk_29_method_65_code 1 = .ok (.iload_n 1, 1) := by decide +kernel
theorem d1_2 : decode jdk_29_method_65_code 2 = .ok (.if_icmp .lt 7, 3) := by decide +kernel
theorem d1_9 : decode jdk_29_method_65_code 9 = .ok (.iload_n 1, 1) := by decide +kernel
theorem d1_10 : decode jdk_29_method_65_code 10 = .ok (.ireturn, 1) := by decide +kernel
theorem d1_5 : decode jdk_29_method_65_code 5 = .ok (.iload_n 0, 1) := by decide +kernel
theorem d1_6 : decode jdk_29_method_65_code 6 = .ok (.goto 4, 3) := by decide +kernel
def r1_v (xa : Int32) (xb : Int32) : Int32 := (if xa < xb then xb else xa)
def Q1 (Z : State) (xa : Int32) (xb : Int32) (h0 : Heap) (n0 : Nat) (v : Option Value) (h : Heap) (L : List Loc) : Prop := v = some (.int (r1_v xa xb)) ∧ Fr n0 L ∧ h = h0
set_option maxRecDepth 65536 in
set_option maxHeartbeats 40000000 in
theorem rm1 (l : Launch) (Z : State) (a0 : Array Value) (hw : ∀ d ∈ tables_1, d.before a0 Z = true) (ws : List Jvm.Cond) (xa : Int32) (xb : Int32) (h0 : Heap) (n0 : Nat) (Z0 : n0 ≤ h0.size) :
    MetFree l (⟨"java/lang/Math", "max", "(II)I"⟩ : MethodName) (head1 (Jvm.Cond.code (⟨"java/lang/Math", "max", "(II)I"⟩ : MethodName) jdk_29_method_65_code 2 (some .int) :: ws) ({ frames := 0, cells := 0, slots := 0, locals := 0 } : Room)) (fun a U => a = #[(.int xa), (.int xb)] ∧ Z.Warmed39 U.vm ∧ U.heap = h0) (fun _ _ _ _ _ => True) (fun _ U o U' => ∃ v L, o = .returned v ∧ Q1 Z xa xb h0 n0 v U'.heap L ∧ FrameEnd U o U' L ({ frames := 0, cells := 0, slots := 0, locals := 0 } : Room).cells ({ frames := 0, cells := 0, slots := 0, locals := 0 } : Room).slots) := by
  refine MetFree.of_bodySF (Jvm.Free.JP.mathPlain rfl (by decide +kernel)) hisR ?_
  intro p e s m args below meth c s₁ Bd hml0 hP hK
  obtain ⟨rfl, hZ, hh⟩ := hP
  have hx := Bd.exec
  have hby := Bd.bytes
  have hml : c.maxLocals = 2 := hml0
  have hown : s.vm.findClass "java/lang/Math" = some m.cls := findClass_of_methodNamed Bd.named
  have hnm := (name_of_methodNamed Bd.named Bd.method).1
  have X0 : Stand p l e ({ frames := 0, cells := 0, slots := 0, locals := 0 } : Room) s m #[(.int xa), (.int xb)] below meth c s₁ [] 0 0 := Stand.of_body Bd
  have e0 : s₁.heap = h0 := by rw [← hh, Bd.state]; rfl
  have N0 := Fr.nil n0
  have K0 : Keep h0 h0 [] := Keep.refl h0 _
  have pre0 : ∀ t, Steps p.tables e below (s₁.setTop (mkF m 0 #[.val (.int xa), .val (.int xb)] [])) t → Steps p.tables e below (s₁.setTop (entryFrame m #[(.int xa), (.int xb)] 2)) t := fun t k => castTop (ef_1 m xa xb) k
  have pre1 : ∀ t, Steps p.tables e below (s₁.setTop (mkF m 2 #[.val (.int xa), .val (.int xb)] [(.int xb), (.int xa)])) t → Steps p.tables e below (s₁.setTop (entryFrame m #[(.int xa), (.int xb)] 2)) t := by
    intro t k
    refine pre0 _ ?_
    show Steps p.tables e below (s₁.setTop (mkF m 0 #[.val (.int xa), .val (.int xb)] [])) _
    refine XS.iloadN X0.here hx rfl (hb hby d1_0) rfl ?_
    show Steps p.tables e below (s₁.setTop (mkF m 1 #[.val (.int xa), .val (.int xb)] [(.int xa)])) _
    refine XS.iloadN X0.here hx rfl (hb hby d1_1) rfl ?_
    exact k
  by_cases hk2 : xa < xb
  · obtain ⟨fs, hr, hrun, hended, hW, hsame⟩ := X0.leave (v := some (.int xb)) (fun h => by rw [Bd.returns] at h; cases h)
    refine ⟨_, _, pre1 _ ?_, hrun, hended, _, _, rfl, ?_, ⟨_, rfl⟩, hW, hsame.mono (by decide) (by decide)⟩
    · show Steps p.tables e below (s₁.setTop (mkF m 2 #[.val (.int xa), .val (.int xb)] [(.int xb), (.int xa)])) _
      refine XS.icmpYes X0.here hx rfl (pc0 := 2) (pc' := 9) rfl (hb hby d1_2) rfl (tlt hk2).1 (by decide) (by decide) ?_
      show Steps p.tables e below (s₁.setTop (mkF m 9 #[.val (.int xa), .val (.int xb)] [])) _
      refine XS.iloadN X0.here hx rfl (hb hby d1_9) rfl ?_
      show Steps p.tables e below (s₁.setTop (mkF m 10 #[.val (.int xa), .val (.int xb)] [(.int xb)])) _
      exact retI X0 hx Bd.returns (hb hby d1_10) hr
    · show Q1 Z xa xb h0 n0 _ s₁.heap _
      rw [e0]
      have ev3 : (r1_v xa xb) = xb := by unfold r1_v; rw [if_pos hk2]
      exact ⟨(congrArg (fun z => some (Value.int z)) ev3.symm), N0, rfl⟩
  · obtain ⟨fs, hr, hrun, hended, hW, hsame⟩ := X0.leave (v := some (.int xa)) (fun h => by rw [Bd.returns] at h; cases h)
    refine ⟨_, _, pre1 _ ?_, hrun, hended, _, _, rfl, ?_, ⟨_, rfl⟩, hW, hsame.mono (by decide) (by decide)⟩
    · show Steps p.tables e below (s₁.setTop (mkF m 2 #[.val (.int xa), .val (.int xb)] [(.int xb), (.int xa)])) _
      refine XS.icmpNo X0.here hx rfl (hb hby d1_2) rfl (flt hk2).1 ?_
      show Steps p.tables e below (s₁.setTop (mkF m 5 #[.val (.int xa), .val (.int xb)] [])) _
      refine XS.iloadN X0.here hx rfl (hb hby d1_5) rfl ?_
      show Steps p.tables e below (s₁.setTop (mkF m 6 #[.val (.int xa), .val (.int xb)] [(.int xa)])) _
      refine XS.goto X0.here hx rfl (pc0 := 6) (pc' := 10) rfl (hb hby d1_6) (by decide) (by decide) ?_
      show Steps p.tables e below (s₁.setTop (mkF m 10 #[.val (.int xa), .val (.int xb)] [(.int xa)])) _
      exact retI X0 hx Bd.returns (hb hby d1_10) hr
    · show Q1 Z xa xb h0 n0 _ s₁.heap _
      rw [e0]
      have ev4 : (r1_v xa xb) = xa := by unfold r1_v; rw [if_neg hk2]
      exact ⟨(congrArg (fun z => some (Value.int z)) ev4.symm), N0, rfl⟩
theorem ef_3 (m : MethodId) (ra : Addr) : entryFrame m #[(.ref ra)] 1 = mkF m 0 #[.val (.ref ra)] [] := by first | (simp [entryFrame, mkF, argsToLocals, Value.category]; done) | rfl
theorem d3_0 : decode jdk_30_method_1_code 0 = .ok (.aload_n 0, 1) := by decide +kernel
theorem d3_1 : decode jdk_30_method_1_code 1 = .ok (.invokespecial 1, 3) := by decide +kernel
theorem d3_4 : decode jdk_30_method_1_code 4 = .ok (.return_, 1) := by decide +kernel
theorem pn_java_lang_Record : plainName "java/lang/Record" = true := by first | (simp [plainName, overriddenIn]; done) | decide +kernel
def Q3 (Z : State) (ra : Addr) (h0 : Heap) (n0 : Nat) (v : Option Value) (h : Heap) (L : List Loc) : Prop := v = none ∧ Fr n0 L ∧ h = h0
set_option maxRecDepth 65536 in
set_option maxHeartbeats 40000000 in
theorem rm3 (l : Launch) (Z : State) (a0 : Array Value) (hw : ∀ d ∈ tables_1, d.before a0 Z = true) (ws : List Jvm.Cond) (ra : Addr) (h0 : Heap) (n0 : Nat) (Z0 : n0 ≤ h0.size) :
    MetFree l (⟨"java/lang/Record", "<init>", "()V"⟩ : MethodName) (head1 (Jvm.Cond.code (⟨"java/lang/Record", "<init>", "()V"⟩ : MethodName) jdk_30_method_1_code 1 none :: ws) ({ frames := 1, cells := 0, slots := 0, locals := 12 } : Room)) (fun a U => a = #[(.ref ra)] ∧ Z.Warmed39 U.vm ∧ U.heap = h0) (fun _ _ _ _ _ => True) (fun _ U o U' => ∃ v L, o = .returned v ∧ Q3 Z ra h0 n0 v U'.heap L ∧ FrameEnd U o U' L ({ frames := 1, cells := 0, slots := 0, locals := 12 } : Room).cells ({ frames := 1, cells := 0, slots := 0, locals := 12 } : Room).slots) := by
  refine MetFree.of_bodySF (plainFor_of_name pn_java_lang_Record) hisR ?_
  intro p e s m args below meth c s₁ Bd hml0 hP hK
  obtain ⟨rfl, hZ, hh⟩ := hP
  have hx := Bd.exec
  have hby := Bd.bytes
  have hml : c.maxLocals = 1 := hml0
  have hown : s.vm.findClass "java/lang/Record" = some m.cls := findClass_of_methodNamed Bd.named
  have hnm := (name_of_methodNamed Bd.named Bd.method).1
  have X0 : Stand p l e ({ frames := 1, cells := 0, slots := 0, locals := 12 } : Room) s m #[(.ref ra)] below meth c s₁ [] 0 0 := Stand.of_body Bd
  have e0 : s₁.heap = h0 := by rw [← hh, Bd.state]; rfl
  have N0 := Fr.nil n0
  have K0 : Keep h0 h0 [] := Keep.refl h0 _
  have pre0 : ∀ t, Steps p.tables e below (s₁.setTop (mkF m 0 #[.val (.ref ra)] [])) t → Steps p.tables e below (s₁.setTop (entryFrame m #[(.ref ra)] 1)) t := fun t k => castTop (ef_3 m ra) k
  obtain ⟨T1, X1, e1, st1⟩ := initO X0 hx hZ hown (hw _ (List.mem_of_getElem? (i := 16) rfl)) (hw _ (List.mem_of_getElem? (i := 17) rfl)) (hw _ (List.mem_of_getElem? (i := 18) rfl)) e0 (g := (mkF m 1 #[.val (.ref ra)] [(.ref ra)])) rfl (by rw [hml]; rfl) rfl (hb hby d3_1) (by decide) (W := 0) (by show 2 * 0 + _ ≤ _; exact Nat.le_of_eq rfl) (by decide)
  obtain ⟨fs, hr, hrun, hended, hW, hsame⟩ := X1.leave (v := none) (fun _ => rfl)
  refine ⟨_, _, pre0 _ ?_, hrun, hended, _, _, rfl, ?_, ⟨_, rfl⟩, hW, hsame.mono (by decide) (by decide)⟩
  · show Steps p.tables e below (s₁.setTop (mkF m 0 #[.val (.ref ra)] [])) _
    refine XS.aloadN X0.here hx rfl (hb hby d3_0) rfl rfl ?_
    show Steps p.tables e below (s₁.setTop (mkF m 1 #[.val (.ref ra)] [(.ref ra)])) _
    refine st1 _ ?_
    show Steps p.tables e below (T1.setTop (mkF m 4 #[.val (.ref ra)] [])) _
    exact X1.returnOut hx Bd.returns (hb hby d3_4) hr
  · show Q3 Z ra h0 n0 _ T1.heap _
    rw [e1]
    exact ⟨rfl, N0, rfl⟩
theorem ef_2 (m : MethodId) (ra : Addr) (pv : Int32) : entryFrame m #[(.ref ra), (.int pv)] 2 = mkF m 0 #[.val (.ref ra), .val (.int pv)] [] := by first | (simp [entryFrame, mkF, argsToLocals, Value.category]; done) | rfl
theorem d2_0 : decode prog_16_method_1_code 0 = .ok (.aload_n 0, 1) := by decide +kernel
theorem pd_0 : parseMethodDescriptor "()V" = some ⟨[], none⟩ := by decide +kernel
theorem d2_1 : decode prog_16_method_1_code 1 = .ok (.invokespecial 3, 3) := by decide +kernel
theorem d2_4 : decode prog_16_method_1_code 4 = .ok (.iload_n 1, 1) := by decide +kernel
theorem d2_5 : decode prog_16_method_1_code 5 = .ok (.iconst 1, 1) := by decide +kernel
theorem d2_6 : decode prog_16_method_1_code 6 = .ok (.if_icmp .ge 17, 3) := by decide +kernel
theorem d2_23 : decode prog_16_method_1_code 23 = .ok (.aload_n 0, 1) := by decide +kernel
theorem d2_24 : decode prog_16_method_1_code 24 = .ok (.iload_n 1, 1) := by decide +kernel
theorem d2_25 : decode prog_16_method_1_code 25 = .ok (.putfield 18, 3) := by decide +kernel
theorem d2_28 : decode prog_16_method_1_code 28 = .ok (.return_, 1) := by decide +kernel
theorem pn_com_example_partlint_partlint_model_ApiLevel : plainName "com/example/partlint/partlint/model/ApiLevel" = true := by first | (simp [plainName, overriddenIn]; done) | decide +kernel
def Q2 (Z : State) (ra : Addr) (pv : Int32) (u_value_ra : Int32) (h0 : Heap) (n0 : Nat) (v : Option Value) (h : Heap) (L : List Loc) : Prop := v = none ∧ Fr n0 L ∧ Keep h0 h [ra] ∧ Fld Z h ra "com/example/partlint/partlint/model/ApiLevel" "value" "I" (.int pv)
set_option maxRecDepth 65536 in
set_option maxHeartbeats 40000000 in
theorem rm2 (l : Launch) (Z : State) (a0 : Array Value) (hw : ∀ d ∈ tables_1, d.before a0 Z = true) (ws : List Jvm.Cond) (ra : Addr) (pv : Int32) (u_value_ra : Int32) (h0 : Heap) (n0 : Nat) (Z0 : n0 ≤ h0.size) (hc6 : ¬ (pv < (1 : Int32))) (E_ra : Exa Z h0 ra "com/example/partlint/partlint/model/ApiLevel") (F_value_ra : Fld Z h0 ra "com/example/partlint/partlint/model/ApiLevel" "value" "I" (.int u_value_ra)) (g_ra : n0 ≤ ra) :
    MetFree l (⟨"com/example/partlint/partlint/model/ApiLevel", "<init>", "(I)V"⟩ : MethodName) (head1 (Jvm.Cond.code (⟨"com/example/partlint/partlint/model/ApiLevel", "<init>", "(I)V"⟩ : MethodName) prog_16_method_1_code 2 none :: ws) ({ frames := 2, cells := 0, slots := 0, locals := 24 } : Room)) (fun a U => a = #[(.ref ra), (.int pv)] ∧ Z.Warmed39 U.vm ∧ U.heap = h0) (fun _ _ _ _ _ => True) (fun _ U o U' => ∃ v L, o = .returned v ∧ Q2 Z ra pv u_value_ra h0 n0 v U'.heap L ∧ FrameEnd U o U' L ({ frames := 2, cells := 0, slots := 0, locals := 24 } : Room).cells ({ frames := 2, cells := 0, slots := 0, locals := 24 } : Room).slots) := by
  refine MetFree.of_bodySF (plainFor_of_name pn_com_example_partlint_partlint_model_ApiLevel) hisR ?_
  intro p e s m args below meth c s₁ Bd hml0 hP hK
  obtain ⟨rfl, hZ, hh⟩ := hP
  have hx := Bd.exec
  have hby := Bd.bytes
  have hml : c.maxLocals = 2 := hml0
  have hown : s.vm.findClass "com/example/partlint/partlint/model/ApiLevel" = some m.cls := findClass_of_methodNamed Bd.named
  have hnm := (name_of_methodNamed Bd.named Bd.method).1
  have X0 : Stand p l e ({ frames := 2, cells := 0, slots := 0, locals := 24 } : Room) s m #[(.ref ra), (.int pv)] below meth c s₁ [] 0 0 := Stand.of_body Bd
  have e0 : s₁.heap = h0 := by rw [← hh, Bd.state]; rfl
  have N0 := Fr.nil n0
  have K0 : Keep h0 h0 [ra] := Keep.refl h0 _
  have pre0 : ∀ t, Steps p.tables e below (s₁.setTop (mkF m 0 #[.val (.ref ra), .val (.int pv)] [])) t → Steps p.tables e below (s₁.setTop (entryFrame m #[(.ref ra), (.int pv)] 2)) t := fun t k => castTop (ef_2 m ra pv) k
  obtain ⟨_, _, ⟨T1, L1, k1, n1⟩, -, X1, ⟨Lc1, hQ1, l1, y1, z1⟩, st1⟩ := X0.specialBack hx (y := (⟨"java/lang/Record", "<init>", "()V"⟩ : MethodName)) rfl hown (mvT hZ (hw _ (List.mem_of_getElem? (i := 11) rfl))) (mvT hZ (hw _ (List.mem_of_getElem? (i := 12) rfl))) (mvT hZ (hw _ (List.mem_of_getElem? (i := 15) rfl))) (by decide) (backOf (W := 0) (rm3 l Z a0 hw [] ra h0 n0 Z0 ) hZ (hw _ (List.mem_of_getElem? (i := 15) rfl)) (hw _ (List.mem_of_getElem? (i := 14) rfl)) (by decide) (by decide)) (g := (mkF m 1 #[.val (.ref ra), .val (.int pv)] [(.ref ra)])) rfl (by rw [hml]; rfl) (Steps.refl _) (a := ra) (argsL := []) (rest := []) (lenOf pd_0 rfl) rfl (by show 2 * 0 + _ ≤ _; exact Nat.le_of_eq rfl) (hb hby d2_1) (fun _ _ => ⟨rfl, e0, (by decide : 0 + 0 ≤ _), (by decide : 0 + 0 ≤ _)⟩)
  dsimp only [Pt.U, Pt.locs, Pt.cells, Pt.slots] at X1 l1 y1 z1 st1 hQ1
  subst l1 y1 z1
  obtain ⟨rfl, N1q, e1⟩ := hQ1
  have N1 := Fr.app N0 N1q
  obtain ⟨T2, h2, X2, e2, W2, st2⟩ := putF X1 hx hZ hown (host := "") (Or.inl (hw _ (List.mem_of_getElem? (i := 19) rfl))) Via.refl e1 F_value_ra E_ra (Or.inr ⟨(hw _ (List.mem_of_getElem? (i := 20) rfl)), rfl, hnm⟩) (hw _ (List.mem_of_getElem? (i := 6) rfl)) (ty := .int) (by decide) rfl rfl (g := (mkF m 25 #[.val (.ref ra), .val (.int pv)] [(.int pv), (.ref ra)])) rfl rfl (hb hby d2_25)
  have N2 := Fr.snoc X2 N1 g_ra
  have Z2 : n0 ≤ h2.size := Nat.le_trans Z0 (Keep.of_wr W2).1
  have K2 : Keep h0 h2 [ra] := K0.wr W2 (Or.inl (List.mem_of_getElem? (i := 0) rfl))
  have f3 : Fld Z h2 ra "com/example/partlint/partlint/model/ApiLevel" "value" "I" (.int pv) := F_value_ra.same W2
  have f4 : Exa Z h2 ra "com/example/partlint/partlint/model/ApiLevel" := E_ra.wr W2
  obtain ⟨fs, hr, hrun, hended, hW, hsame⟩ := X2.leave (v := none) (fun _ => rfl)
  refine ⟨_, _, pre0 _ ?_, hrun, hended, _, _, rfl, ?_, ⟨_, rfl⟩, hW, hsame.mono (by decide) (by decide)⟩
  · show Steps p.tables e below (s₁.setTop (mkF m 0 #[.val (.ref ra), .val (.int pv)] [])) _
    refine XS.aloadN X0.here hx rfl (hb hby d2_0) rfl rfl ?_
    show Steps p.tables e below (s₁.setTop (mkF m 1 #[.val (.ref ra), .val (.int pv)] [(.ref ra)])) _
    refine st1.trans ?_
    show Steps p.tables e below (T1.setTop (mkF m 4 #[.val (.ref ra), .val (.int pv)] [])) _
    refine XS.iloadN X1.here hx rfl (hb hby d2_4) rfl ?_
    show Steps p.tables e below (T1.setTop (mkF m 5 #[.val (.ref ra), .val (.int pv)] [(.int pv)])) _
    refine XS.iconst X1.here hx rfl (hb hby d2_5) ?_
    show Steps p.tables e below (T1.setTop (mkF m 6 #[.val (.ref ra), .val (.int pv)] [(.int (1 : Int32)), (.int pv)])) _
    refine XS.icmpYes X1.here hx rfl (pc0 := 6) (pc' := 23) rfl (hb hby d2_6) rfl (flt hc6).2.1 (by decide) (by decide) ?_
    show Steps p.tables e below (T1.setTop (mkF m 23 #[.val (.ref ra), .val (.int pv)] [])) _
    refine XS.aloadN X1.here hx rfl (hb hby d2_23) rfl rfl ?_
    show Steps p.tables e below (T1.setTop (mkF m 24 #[.val (.ref ra), .val (.int pv)] [(.ref ra)])) _
    refine XS.iloadN X1.here hx rfl (hb hby d2_24) rfl ?_
    show Steps p.tables e below (T1.setTop (mkF m 25 #[.val (.ref ra), .val (.int pv)] [(.int pv), (.ref ra)])) _
    refine st2 _ ?_
    show Steps p.tables e below (T2.setTop (mkF m 28 #[.val (.ref ra), .val (.int pv)] [])) _
    exact X2.returnOut hx Bd.returns (hb hby d2_28) hr
  · show Q2 Z ra pv u_value_ra h0 n0 _ T2.heap _
    rw [e2]
    exact ⟨rfl, N2, K2, f3⟩
theorem ef_8 (m : MethodId) (ra : Addr) : entryFrame m #[(.ref ra)] 1 = mkF m 0 #[.val (.ref ra)] [] := by first | (simp [entryFrame, mkF, argsToLocals, Value.category]; done) | rfl
theorem d8_0 : decode jdk_18_method_1_code 0 = .ok (.aload_n 0, 1) := by decide +kernel
theorem d8_1 : decode jdk_18_method_1_code 1 = .ok (.invokespecial 1, 3) := by decide +kernel
theorem d8_4 : decode jdk_18_method_1_code 4 = .ok (.return_, 1) := by decide +kernel
theorem pn_java_lang_Number : plainName "java/lang/Number" = true := by first | (simp [plainName, overriddenIn]; done) | decide +kernel
def Q8 (Z : State) (ra : Addr) (h0 : Heap) (n0 : Nat) (v : Option Value) (h : Heap) (L : List Loc) : Prop := v = none ∧ Fr n0 L ∧ h = h0
set_option maxRecDepth 65536 in
set_option maxHeartbeats 40000000 in
theorem rm8 (l : Launch) (Z : State) (a0 : Array Value) (hw : ∀ d ∈ tables_1, d.before a0 Z = true) (ws : List Jvm.Cond) (ra : Addr) (h0 : Heap) (n0 : Nat) (Z0 : n0 ≤ h0.size) :
    MetFree l (⟨"java/lang/Number", "<init>", "()V"⟩ : MethodName) (head1 (Jvm.Cond.code (⟨"java/lang/Number", "<init>", "()V"⟩ : MethodName) jdk_18_method_1_code 1 none :: ws) ({ frames := 1, cells := 0, slots := 0, locals := 12 } : Room)) (fun a U => a = #[(.ref ra)] ∧ Z.Warmed39 U.vm ∧ U.heap = h0) (fun _ _ _ _ _ => True) (fun _ U o U' => ∃ v L, o = .returned v ∧ Q8 Z ra h0 n0 v U'.heap L ∧ FrameEnd U o U' L ({ frames := 1, cells := 0, slots := 0, locals := 12 } : Room).cells ({ frames := 1, cells := 0, slots := 0, locals := 12 } : Room).slots) := by
  refine MetFree.of_bodySF (plainFor_of_name pn_java_lang_Number) hisR ?_
  intro p e s m args below meth c s₁ Bd hml0 hP hK
  obtain ⟨rfl, hZ, hh⟩ := hP
  have hx := Bd.exec
  have hby := Bd.bytes
  have hml : c.maxLocals = 1 := hml0
  have hown : s.vm.findClass "java/lang/Number" = some m.cls := findClass_of_methodNamed Bd.named
  have hnm := (name_of_methodNamed Bd.named Bd.method).1
  have X0 : Stand p l e ({ frames := 1, cells := 0, slots := 0, locals := 12 } : Room) s m #[(.ref ra)] below meth c s₁ [] 0 0 := Stand.of_body Bd
  have e0 : s₁.heap = h0 := by rw [← hh, Bd.state]; rfl
  have N0 := Fr.nil n0
  have K0 : Keep h0 h0 [] := Keep.refl h0 _
  have pre0 : ∀ t, Steps p.tables e below (s₁.setTop (mkF m 0 #[.val (.ref ra)] [])) t → Steps p.tables e below (s₁.setTop (entryFrame m #[(.ref ra)] 1)) t := fun t k => castTop (ef_8 m ra) k
  obtain ⟨T1, X1, e1, st1⟩ := initO X0 hx hZ hown (hw _ (List.mem_of_getElem? (i := 50) rfl)) (hw _ (List.mem_of_getElem? (i := 17) rfl)) (hw _ (List.mem_of_getElem? (i := 18) rfl)) e0 (g := (mkF m 1 #[.val (.ref ra)] [(.ref ra)])) rfl (by rw [hml]; rfl) rfl (hb hby d8_1) (by decide) (W := 0) (by show 2 * 0 + _ ≤ _; exact Nat.le_of_eq rfl) (by decide)
  obtain ⟨fs, hr, hrun, hended, hW, hsame⟩ := X1.leave (v := none) (fun _ => rfl)
  refine ⟨_, _, pre0 _ ?_, hrun, hended, _, _, rfl, ?_, ⟨_, rfl⟩, hW, hsame.mono (by decide) (by decide)⟩
  · show Steps p.tables e below (s₁.setTop (mkF m 0 #[.val (.ref ra)] [])) _
    refine XS.aloadN X0.here hx rfl (hb hby d8_0) rfl rfl ?_
    show Steps p.tables e below (s₁.setTop (mkF m 1 #[.val (.ref ra)] [(.ref ra)])) _
    refine st1 _ ?_
    show Steps p.tables e below (T1.setTop (mkF m 4 #[.val (.ref ra)] [])) _
    exact X1.returnOut hx Bd.returns (hb hby d8_4) hr
  · show Q8 Z ra h0 n0 _ T1.heap _
    rw [e1]
    exact ⟨rfl, N0, rfl⟩
theorem ef_7 (m : MethodId) (ra : Addr) (pv : Int32) : entryFrame m #[(.ref ra), (.int pv)] 2 = mkF m 0 #[.val (.ref ra), .val (.int pv)] [] := by first | (simp [entryFrame, mkF, argsToLocals, Value.category]; done) | rfl
theorem d7_0 : decode jdk_33_method_23_code 0 = .ok (.aload_n 0, 1) := by decide +kernel
theorem d7_1 : decode jdk_33_method_23_code 1 = .ok (.invokespecial 202, 3) := by decide +kernel
theorem d7_4 : decode jdk_33_method_23_code 4 = .ok (.aload_n 0, 1) := by decide +kernel
theorem d7_5 : decode jdk_33_method_23_code 5 = .ok (.iload_n 1, 1) := by decide +kernel
theorem d7_6 : decode jdk_33_method_23_code 6 = .ok (.putfield 205, 3) := by decide +kernel
theorem d7_9 : decode jdk_33_method_23_code 9 = .ok (.return_, 1) := by decide +kernel
theorem pn_java_lang_Integer : plainName "java/lang/Integer" = true := by first | (simp [plainName, overriddenIn]; done) | decide +kernel
def Q7 (Z : State) (ra : Addr) (pv : Int32) (u_value_ra : Int32) (h0 : Heap) (n0 : Nat) (v : Option Value) (h : Heap) (L : List Loc) : Prop := v = none ∧ Fr n0 L ∧ Keep h0 h [ra] ∧ Fld Z h ra "java/lang/Integer" "value" "I" (.int pv)
set_option maxRecDepth 65536 in
set_option maxHeartbeats 40000000 in
theorem rm7 (l : Launch) (Z : State) (a0 : Array Value) (hw : ∀ d ∈ tables_1, d.before a0 Z = true) (ws : List Jvm.Cond) (ra : Addr) (pv : Int32) (u_value_ra : Int32) (h0 : Heap) (n0 : Nat) (Z0 : n0 ≤ h0.size) (E_ra : Exa Z h0 ra "java/lang/Integer") (F_value_ra : Fld Z h0 ra "java/lang/Integer" "value" "I" (.int u_value_ra)) (g_ra : n0 ≤ ra) :
    MetFree l (⟨"java/lang/Integer", "<init>", "(I)V"⟩ : MethodName) (head1 (Jvm.Cond.code (⟨"java/lang/Integer", "<init>", "(I)V"⟩ : MethodName) jdk_33_method_23_code 2 none :: ws) ({ frames := 2, cells := 0, slots := 0, locals := 24 } : Room)) (fun a U => a = #[(.ref ra), (.int pv)] ∧ Z.Warmed39 U.vm ∧ U.heap = h0) (fun _ _ _ _ _ => True) (fun _ U o U' => ∃ v L, o = .returned v ∧ Q7 Z ra pv u_value_ra h0 n0 v U'.heap L ∧ FrameEnd U o U' L ({ frames := 2, cells := 0, slots := 0, locals := 24 } : Room).cells ({ frames := 2, cells := 0, slots := 0, locals := 24 } : Room).slots) := by
  refine MetFree.of_bodySF (plainFor_of_name pn_java_lang_Integer) hisR ?_
  intro p e s m args below meth c s₁ Bd hml0 hP hK
  obtain ⟨rfl, hZ, hh⟩ := hP
  have hx := Bd.exec
  have hby := Bd.bytes
  have hml : c.maxLocals = 2 := hml0
  have hown : s.vm.findClass "java/lang/Integer" = some m.cls := findClass_of_methodNamed Bd.named
  have hnm := (name_of_methodNamed Bd.named Bd.method).1
  have X0 : Stand p l e ({ frames := 2, cells := 0, slots := 0, locals := 24 } : Room) s m #[(.ref ra), (.int pv)] below meth c s₁ [] 0 0 := Stand.of_body Bd
  have e0 : s₁.heap = h0 := by rw [← hh, Bd.state]; rfl
  have N0 := Fr.nil n0
  have K0 : Keep h0 h0 [ra] := Keep.refl h0 _
  have pre0 : ∀ t, Steps p.tables e below (s₁.setTop (mkF m 0 #[.val (.ref ra), .val (.int pv)] [])) t → Steps p.tables e below (s₁.setTop (entryFrame m #[(.ref ra), (.int pv)] 2)) t := fun t k => castTop (ef_7 m ra pv) k
  obtain ⟨_, _, ⟨T1, L1, k1, n1⟩, -, X1, ⟨Lc1, hQ1, l1, y1, z1⟩, st1⟩ := X0.specialBack hx (y := (⟨"java/lang/Number", "<init>", "()V"⟩ : MethodName)) rfl hown (mvT hZ (hw _ (List.mem_of_getElem? (i := 44) rfl))) (mvT hZ (hw _ (List.mem_of_getElem? (i := 45) rfl))) (mvT hZ (hw _ (List.mem_of_getElem? (i := 49) rfl))) (by decide) (backOf (W := 0) (rm8 l Z a0 hw [] ra h0 n0 Z0 ) hZ (hw _ (List.mem_of_getElem? (i := 49) rfl)) (hw _ (List.mem_of_getElem? (i := 48) rfl)) (by decide) (by decide)) (g := (mkF m 1 #[.val (.ref ra), .val (.int pv)] [(.ref ra)])) rfl (by rw [hml]; rfl) (Steps.refl _) (a := ra) (argsL := []) (rest := []) (lenOf pd_0 rfl) rfl (by show 2 * 0 + _ ≤ _; exact Nat.le_of_eq rfl) (hb hby d7_1) (fun _ _ => ⟨rfl, e0, (by decide : 0 + 0 ≤ _), (by decide : 0 + 0 ≤ _)⟩)
  dsimp only [Pt.U, Pt.locs, Pt.cells, Pt.slots] at X1 l1 y1 z1 st1 hQ1
  subst l1 y1 z1
  obtain ⟨rfl, N1q, e1⟩ := hQ1
  have N1 := Fr.app N0 N1q
  obtain ⟨T2, h2, X2, e2, W2, st2⟩ := putF X1 hx hZ hown (host := "") (Or.inl (hw _ (List.mem_of_getElem? (i := 51) rfl))) Via.refl e1 F_value_ra E_ra (Or.inr ⟨(hw _ (List.mem_of_getElem? (i := 52) rfl)), rfl, hnm⟩) (hw _ (List.mem_of_getElem? (i := 39) rfl)) (ty := .int) (by decide) rfl rfl (g := (mkF m 6 #[.val (.ref ra), .val (.int pv)] [(.int pv), (.ref ra)])) rfl rfl (hb hby d7_6)
  have N2 := Fr.snoc X2 N1 g_ra
  have Z2 : n0 ≤ h2.size := Nat.le_trans Z0 (Keep.of_wr W2).1
  have K2 : Keep h0 h2 [ra] := K0.wr W2 (Or.inl (List.mem_of_getElem? (i := 0) rfl))
  have f3 : Fld Z h2 ra "java/lang/Integer" "value" "I" (.int pv) := F_value_ra.same W2
  have f4 : Exa Z h2 ra "java/lang/Integer" := E_ra.wr W2
  obtain ⟨fs, hr, hrun, hended, hW, hsame⟩ := X2.leave (v := none) (fun _ => rfl)
  refine ⟨_, _, pre0 _ ?_, hrun, hended, _, _, rfl, ?_, ⟨_, rfl⟩, hW, hsame.mono (by decide) (by decide)⟩
  · show Steps p.tables e below (s₁.setTop (mkF m 0 #[.val (.ref ra), .val (.int pv)] [])) _
    refine XS.aloadN X0.here hx rfl (hb hby d7_0) rfl rfl ?_
    show Steps p.tables e below (s₁.setTop (mkF m 1 #[.val (.ref ra), .val (.int pv)] [(.ref ra)])) _
    refine st1.trans ?_
    show Steps p.tables e below (T1.setTop (mkF m 4 #[.val (.ref ra), .val (.int pv)] [])) _
    refine XS.aloadN X1.here hx rfl (hb hby d7_4) rfl rfl ?_
    show Steps p.tables e below (T1.setTop (mkF m 5 #[.val (.ref ra), .val (.int pv)] [(.ref ra)])) _
    refine XS.iloadN X1.here hx rfl (hb hby d7_5) rfl ?_
    show Steps p.tables e below (T1.setTop (mkF m 6 #[.val (.ref ra), .val (.int pv)] [(.int pv), (.ref ra)])) _
    refine st2 _ ?_
    show Steps p.tables e below (T2.setTop (mkF m 9 #[.val (.ref ra), .val (.int pv)] [])) _
    exact X2.returnOut hx Bd.returns (hb hby d7_9) hr
  · show Q7 Z ra pv u_value_ra h0 n0 _ T2.heap _
    rw [e2]
    exact ⟨rfl, N2, K2, f3⟩
theorem ef_5c (m : MethodId) (vv : Int32) : entryFrame m #[(.int vv)] 1 = mkF m 0 #[.val (.int vv)] [] := by first | (simp [entryFrame, mkF, argsToLocals, Value.category]; done) | rfl
theorem d5_0 : decode jdk_33_method_22_code 0 = .ok (.iload_n 0, 1) := by decide +kernel
theorem d5_1 : decode jdk_33_method_22_code 1 = .ok (.bipush (-128), 2) := by decide +kernel
theorem d5_3 : decode jdk_33_method_22_code 3 = .ok (.if_icmp .lt 20, 3) := by decide +kernel
theorem d5_6 : decode jdk_33_method_22_code 6 = .ok (.iload_n 0, 1) := by decide +kernel
theorem d5_7 : decode jdk_33_method_22_code 7 = .ok (.getstatic 191, 3) := by decide +kernel
theorem d5_10 : decode jdk_33_method_22_code 10 = .ok (.if_icmp .gt 13, 3) := by decide +kernel
theorem d5_13 : decode jdk_33_method_22_code 13 = .ok (.getstatic 195, 3) := by decide +kernel
theorem d5_16 : decode jdk_33_method_22_code 16 = .ok (.iload_n 0, 1) := by decide +kernel
theorem d5_17 : decode jdk_33_method_22_code 17 = .ok (.sipush 128, 3) := by decide +kernel
theorem d5_20 : decode jdk_33_method_22_code 20 = .ok (.iadd, 1) := by decide +kernel
theorem d5_21 : decode jdk_33_method_22_code 21 = .ok (.aaload, 1) := by decide +kernel
theorem d5_22 : decode jdk_33_method_22_code 22 = .ok (.areturn, 1) := by decide +kernel
def Q5c (Z : State) (vv : Int32) (rc : Addr) (gv : Nat → Value) (rx : Addr) (jn : Nat) (h0 : Heap) (n0 : Nat) (v : Option Value) (h : Heap) (L : List Loc) : Prop := v = some (.ref rx) ∧ Fr n0 L ∧ h = h0
set_option maxRecDepth 65536 in
set_option maxHeartbeats 40000000 in
theorem rm5c (l : Launch) (Z : State) (a0 : Array Value) (hw : ∀ d ∈ tables_1, d.before a0 Z = true) (ws : List Jvm.Cond) (vv : Int32) (rc : Addr) (gv : Nat → Value) (rx : Addr) (jn : Nat) (h0 : Heap) (n0 : Nat) (Z0 : n0 ≤ h0.size) (S_high : Sta Z h0 "java/lang/Integer$IntegerCache" "high" "I" (.int (127 : Int32))) (S_cache : Sta Z h0 "java/lang/Integer$IntegerCache" "cache" "[Ljava/lang/Integer;" (.ref rc)) (A_rc : AF Z h0 rc (.object "java/lang/Integer") 256 gv) (hjn : (vv + (128 : Int32)).toInt = jn) (hjl : jn < 256) (hgx : gv jn = .ref rx) (hc3 : ¬ (vv < (-128 : Int32))) (hc10 : ¬ ((127 : Int32) < vv)) :
    MetFree l (⟨"java/lang/Integer", "valueOf", "(I)Ljava/lang/Integer;"⟩ : MethodName) (head1 (Jvm.Cond.code (⟨"java/lang/Integer", "valueOf", "(I)Ljava/lang/Integer;"⟩ : MethodName) jdk_33_method_22_code 1 (some (.object "java/lang/Integer")) :: ws) ({ frames := 0, cells := 0, slots := 0, locals := 0 } : Room)) (fun a U => a = #[(.int vv)] ∧ Z.Warmed39 U.vm ∧ U.heap = h0) (fun _ _ _ _ _ => True) (fun _ U o U' => ∃ v L, o = .returned v ∧ Q5c Z vv rc gv rx jn h0 n0 v U'.heap L ∧ FrameEnd U o U' L ({ frames := 0, cells := 0, slots := 0, locals := 0 } : Room).cells ({ frames := 0, cells := 0, slots := 0, locals := 0 } : Room).slots) := by
  refine MetFree.of_bodySF (plainFor_of_name pn_java_lang_Integer) hisR ?_
  intro p e s m args below meth c s₁ Bd hml0 hP hK
  obtain ⟨rfl, hZ, hh⟩ := hP
  have hx := Bd.exec
  have hby := Bd.bytes
  have hml : c.maxLocals = 1 := hml0
  have hown : s.vm.findClass "java/lang/Integer" = some m.cls := findClass_of_methodNamed Bd.named
  have hnm := (name_of_methodNamed Bd.named Bd.method).1
  have X0 : Stand p l e ({ frames := 0, cells := 0, slots := 0, locals := 0 } : Room) s m #[(.int vv)] below meth c s₁ [] 0 0 := Stand.of_body Bd
  have e0 : s₁.heap = h0 := by rw [← hh, Bd.state]; rfl
  have N0 := Fr.nil n0
  have K0 : Keep h0 h0 [] := Keep.refl h0 _
  have pre0 : ∀ t, Steps p.tables e below (s₁.setTop (mkF m 0 #[.val (.int vv)] [])) t → Steps p.tables e below (s₁.setTop (entryFrame m #[(.int vv)] 1)) t := fun t k => castTop (ef_5c m vv) k
  obtain ⟨T1, X1, e1, st1⟩ := getS2 X0 hx hZ hown (host := "") (Or.inl (hw _ (List.mem_of_getElem? (i := 25) rfl))) Via.refl e0 S_high (g := (mkF m 7 #[.val (.int vv)] [(.int vv)])) rfl (hb hby d5_7)
  obtain ⟨T2, X2, e2, st2⟩ := getS2 X1 hx hZ hown (host := "") (Or.inl (hw _ (List.mem_of_getElem? (i := 27) rfl))) Via.refl e1 S_cache (g := (mkF m 13 #[.val (.int vv)] [])) rfl (hb hby d5_13)
  obtain ⟨cl3, Arcl3, hincl3, hatcl3⟩ := AF.at A_rc (j := (vv + (128 : Int32))) jn hjn hjl
  rw [hgx] at hatcl3
  obtain ⟨fs, hr, hrun, hended, hW, hsame⟩ := X2.leave (v := some (.ref rx)) (fun h => by rw [Bd.returns] at h; cases h)
  refine ⟨_, _, pre0 _ ?_, hrun, hended, _, _, rfl, ?_, ⟨_, rfl⟩, hW, hsame.mono (by decide) (by decide)⟩
  · show Steps p.tables e below (s₁.setTop (mkF m 0 #[.val (.int vv)] [])) _
    refine XS.iloadN X0.here hx rfl (hb hby d5_0) rfl ?_
    show Steps p.tables e below (s₁.setTop (mkF m 1 #[.val (.int vv)] [(.int vv)])) _
    refine XS.bipush X0.here hx rfl (hb hby d5_1) ?_
    show Steps p.tables e below (s₁.setTop (mkF m 3 #[.val (.int vv)] [(.int (-128 : Int32)), (.int vv)])) _
    refine XS.icmpNo X0.here hx rfl (hb hby d5_3) rfl (flt hc3).1 ?_
    show Steps p.tables e below (s₁.setTop (mkF m 6 #[.val (.int vv)] [])) _
    refine XS.iloadN X0.here hx rfl (hb hby d5_6) rfl ?_
    show Steps p.tables e below (s₁.setTop (mkF m 7 #[.val (.int vv)] [(.int vv)])) _
    refine st1 _ ?_
    show Steps p.tables e below (T1.setTop (mkF m 10 #[.val (.int vv)] [(.int (127 : Int32)), (.int vv)])) _
    refine XS.icmpNo X1.here hx rfl (hb hby d5_10) rfl (flt hc10).2.2.1 ?_
    show Steps p.tables e below (T1.setTop (mkF m 13 #[.val (.int vv)] [])) _
    refine st2 _ ?_
    show Steps p.tables e below (T2.setTop (mkF m 16 #[.val (.int vv)] [(.ref rc)])) _
    refine XS.iloadN X2.here hx rfl (hb hby d5_16) rfl ?_
    show Steps p.tables e below (T2.setTop (mkF m 17 #[.val (.int vv)] [(.int vv), (.ref rc)])) _
    refine XS.sipush X2.here hx rfl (hb hby d5_17) ?_
    show Steps p.tables e below (T2.setTop (mkF m 20 #[.val (.int vv)] [(.int (128 : Int32)), (.int vv), (.ref rc)])) _
    refine XS.iadd X2.here hx rfl (hb hby d5_20) rfl ?_
    show Steps p.tables e below (T2.setTop (mkF m 21 #[.val (.int vv)] [(.int (vv + (128 : Int32))), (.ref rc)])) _
    refine X2.aaload hx (j := (vv + (128 : Int32))) (v := (.ref rx)) (by rw [e2]; exact Arcl3.1) (State.isArrayOf_alike hZ.alike Arcl3.2.1) rfl Arcl3.2.2 hincl3 hatcl3 (g := (mkF m 21 #[.val (.int vv)] [(.int (vv + (128 : Int32))), (.ref rc)])) rfl rfl (hb hby d5_21) _ ?_
    show Steps p.tables e below (T2.setTop (mkF m 22 #[.val (.int vv)] [(.ref rx)])) _
    exact retOut X2 hx Bd.returns rfl (Or.inr (Or.inr (Or.inr (Or.inr ⟨rfl, rfl, rfl⟩)))) (hb hby d5_22) hr
  · show Q5c Z vv rc gv rx jn h0 n0 _ T2.heap _
    rw [e2]
    exact ⟨rfl, N0, rfl⟩
theorem ef_5n (m : MethodId) (vv : Int32) : entryFrame m #[(.int vv)] 1 = mkF m 0 #[.val (.int vv)] [] := by first | (simp [entryFrame, mkF, argsToLocals, Value.category]; done) | rfl
theorem d5_23 : decode jdk_33_method_22_code 23 = .ok (.new 1, 3) := by decide +kernel
theorem d5_26 : decode jdk_33_method_22_code 26 = .ok (.dup, 1) := by decide +kernel
theorem d5_27 : decode jdk_33_method_22_code 27 = .ok (.iload_n 0, 1) := by decide +kernel
theorem pd_1 : parseMethodDescriptor "(I)V" = some ⟨[.int], none⟩ := by decide +kernel
theorem d5_28 : decode jdk_33_method_22_code 28 = .ok (.invokespecial 199, 3) := by decide +kernel
theorem d5_31 : decode jdk_33_method_22_code 31 = .ok (.areturn, 1) := by decide +kernel
def Q5n (Z : State) (vv : Int32) (h0 : Heap) (n0 : Nat) (v : Option Value) (h : Heap) (L : List Loc) : Prop := ∃ fr0 : Addr, n0 ≤ fr0 ∧ h0.size ≤ fr0 ∧ v = some (.ref fr0) ∧ Fr n0 L ∧ Keep h0 h [] ∧ Exa Z h fr0 "java/lang/Integer" ∧ Fld Z h fr0 "java/lang/Integer" "value" "I" (.int vv)
set_option maxRecDepth 65536 in
set_option maxHeartbeats 40000000 in
theorem rm5n (l : Launch) (Z : State) (a0 : Array Value) (hw : ∀ d ∈ tables_1, d.before a0 Z = true) (ws : List Jvm.Cond) (vv : Int32) (h0 : Heap) (n0 : Nat) (Z0 : n0 ≤ h0.size) (S_high : Sta Z h0 "java/lang/Integer$IntegerCache" "high" "I" (.int (127 : Int32))) (hc3 : ¬ (vv < (-128 : Int32))) (hc10 : ((127 : Int32) < vv)) :
    MetFree l (⟨"java/lang/Integer", "valueOf", "(I)Ljava/lang/Integer;"⟩ : MethodName) (head1 (Jvm.Cond.code (⟨"java/lang/Integer", "valueOf", "(I)Ljava/lang/Integer;"⟩ : MethodName) jdk_33_method_22_code 1 (some (.object "java/lang/Integer")) :: ws) ({ frames := 3, cells := 1, slots := 1, locals := 38 } : Room)) (fun a U => a = #[(.int vv)] ∧ Z.Warmed39 U.vm ∧ U.heap = h0) (fun _ _ _ _ _ => True) (fun _ U o U' => ∃ v L, o = .returned v ∧ Q5n Z vv h0 n0 v U'.heap L ∧ FrameEnd U o U' L ({ frames := 3, cells := 1, slots := 1, locals := 38 } : Room).cells ({ frames := 3, cells := 1, slots := 1, locals := 38 } : Room).slots) := by
  refine MetFree.of_bodySF (plainFor_of_name pn_java_lang_Integer) hisR ?_
  intro p e s m args below meth c s₁ Bd hml0 hP hK
  obtain ⟨rfl, hZ, hh⟩ := hP
  have hx := Bd.exec
  have hby := Bd.bytes
  have hml : c.maxLocals = 1 := hml0
  have hown : s.vm.findClass "java/lang/Integer" = some m.cls := findClass_of_methodNamed Bd.named
  have hnm := (name_of_methodNamed Bd.named Bd.method).1
  have X0 : Stand p l e ({ frames := 3, cells := 1, slots := 1, locals := 38 } : Room) s m #[(.int vv)] below meth c s₁ [] 0 0 := Stand.of_body Bd
  have e0 : s₁.heap = h0 := by rw [← hh, Bd.state]; rfl
  have N0 := Fr.nil n0
  have K0 : Keep h0 h0 [] := Keep.refl h0 _
  have pre0 : ∀ t, Steps p.tables e below (s₁.setTop (mkF m 0 #[.val (.int vv)] [])) t → Steps p.tables e below (s₁.setTop (entryFrame m #[(.int vv)] 1)) t := fun t k => castTop (ef_5n m vv) k
  obtain ⟨T1, X1, e1, st1⟩ := getS2 X0 hx hZ hown (host := "") (Or.inl (hw _ (List.mem_of_getElem? (i := 25) rfl))) Via.refl e0 S_high (g := (mkF m 7 #[.val (.int vv)] [(.int vv)])) rfl (hb hby d5_7)
  obtain ⟨T2, h2, X2, e2, E2, A2, D2, -, st2⟩ := newO X1 hx hZ hown (hw _ (List.mem_of_getElem? (i := 38) rfl)) (hw _ (List.mem_of_getElem? (i := 39) rfl)) (hw _ (List.mem_of_getElem? (i := 23) rfl)) e1 (g := (mkF m 23 #[.val (.int vv)] [])) rfl (hb hby d5_23) (by decide) (by decide)
  obtain ⟨b2, g2⟩ : ∃ z, z = h0.size := ⟨_, rfl⟩
  rw [← g2] at A2 D2 st2
  have gg2 : n0 ≤ b2 := Nat.le_trans Z0 (Nat.le_of_eq g2.symm)
  have sz2 : h0.size ≤ b2 := Nat.le_trans K0.1 (Nat.le_of_eq g2.symm)
  have f3 : Sta Z h2 "java/lang/Integer$IntegerCache" "high" "I" (.int (127 : Int32)) := S_high.ext E2
  have Z2 : n0 ≤ h2.size := Nat.le_trans Z0 E2.1
  have K2 : Keep h0 h2 [] := K0.ext E2
  have f4 : Fld Z h2 b2 "java/lang/Integer" "value" "I" (.int (0 : Int32)) := D2 (Or.inr (hw _ (List.mem_of_getElem? (i := 52) rfl))) (ty := .int) (by decide)
  obtain ⟨_, _, ⟨T5, L5, k5, n5⟩, -, X5, ⟨Lc5, hQ5, l5, y5, z5⟩, st5⟩ := X2.specialBack hx (y := (⟨"java/lang/Integer", "<init>", "(I)V"⟩ : MethodName)) rfl hown (mvT hZ (hw _ (List.mem_of_getElem? (i := 40) rfl))) (mvT hZ (hw _ (List.mem_of_getElem? (i := 41) rfl))) (mvT hZ (hw _ (List.mem_of_getElem? (i := 43) rfl))) (by decide) (backOf (W := 1) (rm7 l Z a0 hw [] b2 vv (0 : Int32) h2 n0 Z2 A2 f4 gg2) hZ (hw _ (List.mem_of_getElem? (i := 43) rfl)) (hw _ (List.mem_of_getElem? (i := 23) rfl)) (by decide) (by decide)) (g := (mkF m 28 #[.val (.int vv)] [(.int vv), (.ref b2), (.ref b2)])) rfl (by rw [hml]; rfl) (Steps.refl _) (a := b2) (argsL := [(.int vv)]) (rest := [(.ref b2)]) (lenOf pd_1 rfl) rfl (by show 2 * 0 + _ ≤ _; exact Nat.le_of_eq rfl) (hb hby d5_28) (fun _ _ => ⟨rfl, e2, (by decide : 1 + 0 ≤ _), (by decide : 1 + 0 ≤ _)⟩)
  dsimp only [Pt.U, Pt.locs, Pt.cells, Pt.slots] at X5 l5 y5 z5 st5 hQ5
  subst l5 y5 z5
  obtain ⟨rfl, N5q, K5c, f6⟩ := hQ5
  have N5 := Fr.app N0 N5q
  have f7 : Sta Z T5.heap "java/lang/Integer$IntegerCache" "high" "I" (.int (127 : Int32)) := own_sta f3 K5c (allS (own_exaP A2) all0)
  have f8 : Exa Z T5.heap b2 "java/lang/Integer" := A2.keep K5c
  have Z5 : n0 ≤ T5.heap.size := Nat.le_trans Z2 K5c.1
  have K5 : Keep h0 T5.heap [] := K2.trans K5c (allS (Or.inr sz2) all0)
  obtain ⟨fs, hr, hrun, hended, hW, hsame⟩ := X5.leave (v := some (.ref b2)) (fun h => by rw [Bd.returns] at h; cases h)
  refine ⟨_, _, pre0 _ ?_, hrun, hended, _, _, rfl, ?_, ⟨_, rfl⟩, hW, hsame.mono (by decide) (by decide)⟩
  · show Steps p.tables e below (s₁.setTop (mkF m 0 #[.val (.int vv)] [])) _
    refine XS.iloadN X0.here hx rfl (hb hby d5_0) rfl ?_
    show Steps p.tables e below (s₁.setTop (mkF m 1 #[.val (.int vv)] [(.int vv)])) _
    refine XS.bipush X0.here hx rfl (hb hby d5_1) ?_
    show Steps p.tables e below (s₁.setTop (mkF m 3 #[.val (.int vv)] [(.int (-128 : Int32)), (.int vv)])) _
    refine XS.icmpNo X0.here hx rfl (hb hby d5_3) rfl (flt hc3).1 ?_
    show Steps p.tables e below (s₁.setTop (mkF m 6 #[.val (.int vv)] [])) _
    refine XS.iloadN X0.here hx rfl (hb hby d5_6) rfl ?_
    show Steps p.tables e below (s₁.setTop (mkF m 7 #[.val (.int vv)] [(.int vv)])) _
    refine st1 _ ?_
    show Steps p.tables e below (T1.setTop (mkF m 10 #[.val (.int vv)] [(.int (127 : Int32)), (.int vv)])) _
    refine XS.icmpYes X1.here hx rfl (pc0 := 10) (pc' := 23) rfl (hb hby d5_10) rfl (tlt hc10).2.2.1 (by decide) (by decide) ?_
    show Steps p.tables e below (T1.setTop (mkF m 23 #[.val (.int vv)] [])) _
    refine st2 _ ?_
    show Steps p.tables e below (T2.setTop (mkF m 26 #[.val (.int vv)] [(.ref b2)])) _
    refine XS.dup X2.here hx rfl (hb hby d5_26) rfl rfl ?_
    show Steps p.tables e below (T2.setTop (mkF m 27 #[.val (.int vv)] [(.ref b2), (.ref b2)])) _
    refine XS.iloadN X2.here hx rfl (hb hby d5_27) rfl ?_
    show Steps p.tables e below (T2.setTop (mkF m 28 #[.val (.int vv)] [(.int vv), (.ref b2), (.ref b2)])) _
    refine st5.trans ?_
    show Steps p.tables e below (T5.setTop (mkF m 31 #[.val (.int vv)] [(.ref b2)])) _
    exact retOut X5 hx Bd.returns rfl (Or.inr (Or.inr (Or.inr (Or.inr ⟨rfl, rfl, rfl⟩)))) (hb hby d5_31) hr
  · show Q5n Z vv h0 n0 _ T5.heap _
    exact ⟨b2, gg2, sz2, rfl, N5, K5, f8, f6⟩
theorem ef_6 (m : MethodId) (ra : Addr) (rb : Addr) : entryFrame m #[(.ref ra), (.ref rb)] 3 = mkF m 0 #[.val (.ref ra), .val (.ref rb), .unset] [] := by first | (simp [entryFrame, mkF, argsToLocals, Value.category]; done) | rfl
theorem d6_0 : decode prog_16_method_8_code 0 = .ok (.aload_n 1, 1) := by decide +kernel
theorem d6_1 : decode prog_16_method_8_code 1 = .ok (.instanceof 1, 3) := by decide +kernel
theorem d6_4 : decode prog_16_method_8_code 4 = .ok (.ifCond .eq 23, 3) := by decide +kernel
theorem d6_7 : decode prog_16_method_8_code 7 = .ok (.aload_n 1, 1) := by decide +kernel
theorem d6_8 : decode prog_16_method_8_code 8 = .ok (.checkcast 1, 3) := by decide +kernel
theorem d6_11 : decode prog_16_method_8_code 11 = .ok (.astore_n 2, 1) := by decide +kernel
theorem d6_12 : decode prog_16_method_8_code 12 = .ok (.aload_n 2, 1) := by decide +kernel
theorem d6_13 : decode prog_16_method_8_code 13 = .ok (.getfield 18, 3) := by decide +kernel
theorem d6_16 : decode prog_16_method_8_code 16 = .ok (.aload_n 0, 1) := by decide +kernel
theorem d6_17 : decode prog_16_method_8_code 17 = .ok (.getfield 18, 3) := by decide +kernel
theorem d6_20 : decode prog_16_method_8_code 20 = .ok (.if_icmp .ne 7, 3) := by decide +kernel
theorem d6_23 : decode prog_16_method_8_code 23 = .ok (.iconst 1, 1) := by decide +kernel
theorem d6_24 : decode prog_16_method_8_code 24 = .ok (.goto 4, 3) := by decide +kernel
theorem d6_28 : decode prog_16_method_8_code 28 = .ok (.ireturn, 1) := by decide +kernel
theorem d6_27 : decode prog_16_method_8_code 27 = .ok (.iconst 0, 1) := by decide +kernel
def r6_v (w_value : Int32) (w_value_ra : Int32) : Int32 := (if w_value = w_value_ra then (1 : Int32) else (0 : Int32))
def Q6 (Z : State) (ra : Addr) (rb : Addr) (w_value : Int32) (w_value_ra : Int32) (h0 : Heap) (n0 : Nat) (v : Option Value) (h : Heap) (L : List Loc) : Prop := v = some (.int (r6_v w_value w_value_ra)) ∧ Fr n0 L ∧ h = h0
set_option maxRecDepth 65536 in
set_option maxHeartbeats 40000000 in
theorem rm6 (l : Launch) (Z : State) (a0 : Array Value) (hw : ∀ d ∈ tables_1, d.before a0 Z = true) (ws : List Jvm.Cond) (ra : Addr) (rb : Addr) (w_value : Int32) (w_value_ra : Int32) (h0 : Heap) (n0 : Nat) (Z0 : n0 ≤ h0.size) (E_rb : Exa Z h0 rb "com/example/partlint/partlint/model/ApiLevel") (F_value_rb : Fld Z h0 rb "com/example/partlint/partlint/model/ApiLevel" "value" "I" (.int w_value)) (F_value_ra : Fld Z h0 ra "com/example/partlint/partlint/model/ApiLevel" "value" "I" (.int w_value_ra)) :
    MetFree l (⟨"com/example/partlint/partlint/model/ApiLevel", "equals", "(Ljava/lang/Object;)Z"⟩ : MethodName) (head1 (Jvm.Cond.code (⟨"com/example/partlint/partlint/model/ApiLevel", "equals", "(Ljava/lang/Object;)Z"⟩ : MethodName) prog_16_method_8_code 3 (some .boolean) :: ws) ({ frames := 0, cells := 0, slots := 0, locals := 0 } : Room)) (fun a U => a = #[(.ref ra), (.ref rb)] ∧ Z.Warmed39 U.vm ∧ U.heap = h0) (fun _ _ _ _ _ => True) (fun _ U o U' => ∃ v L, o = .returned v ∧ Q6 Z ra rb w_value w_value_ra h0 n0 v U'.heap L ∧ FrameEnd U o U' L ({ frames := 0, cells := 0, slots := 0, locals := 0 } : Room).cells ({ frames := 0, cells := 0, slots := 0, locals := 0 } : Room).slots) := by
  refine MetFree.of_bodySF (plainFor_of_name pn_com_example_partlint_partlint_model_ApiLevel) hisR ?_
  intro p e s m args below meth c s₁ Bd hml0 hP hK
  obtain ⟨rfl, hZ, hh⟩ := hP
  have hx := Bd.exec
  have hby := Bd.bytes
  have hml : c.maxLocals = 3 := hml0
  have hown : s.vm.findClass "com/example/partlint/partlint/model/ApiLevel" = some m.cls := findClass_of_methodNamed Bd.named
  have hnm := (name_of_methodNamed Bd.named Bd.method).1
  have X0 : Stand p l e ({ frames := 0, cells := 0, slots := 0, locals := 0 } : Room) s m #[(.ref ra), (.ref rb)] below meth c s₁ [] 0 0 := Stand.of_body Bd
  have e0 : s₁.heap = h0 := by rw [← hh, Bd.state]; rfl
  have N0 := Fr.nil n0
  have K0 : Keep h0 h0 [] := Keep.refl h0 _
  have pre0 : ∀ t, Steps p.tables e below (s₁.setTop (mkF m 0 #[.val (.ref ra), .val (.ref rb), .unset] [])) t → Steps p.tables e below (s₁.setTop (entryFrame m #[(.ref ra), (.ref rb)] 3)) t := fun t k => castTop (ef_6 m ra rb) k
  obtain ⟨T1, X1, e1, st1⟩ := instY X0 hx hZ hown (hw _ (List.mem_of_getElem? (i := 33) rfl)) e0 (Ins.self E_rb) (g := (mkF m 1 #[.val (.ref ra), .val (.ref rb), .unset] [(.ref rb)])) rfl rfl (hb hby d6_1)
  obtain ⟨T2, X2, e2, st2⟩ := castY X1 hx hZ hown (hw _ (List.mem_of_getElem? (i := 33) rfl)) e1 (Ins.self E_rb) (g := (mkF m 8 #[.val (.ref ra), .val (.ref rb), .unset] [(.ref rb)])) rfl rfl (hb hby d6_8)
  obtain ⟨T3, X3, e3, st3⟩ := getF X2 hx hZ hown (host := "") (Or.inl (hw _ (List.mem_of_getElem? (i := 19) rfl))) Via.refl e2 F_value_rb (g := (mkF m 13 #[.val (.ref ra), .val (.ref rb), .val (.ref rb)] [(.ref rb)])) rfl rfl (hb hby d6_13)
  obtain ⟨T4, X4, e4, st4⟩ := getF X3 hx hZ hown (host := "") (Or.inl (hw _ (List.mem_of_getElem? (i := 19) rfl))) Via.refl e3 F_value_ra (g := (mkF m 17 #[.val (.ref ra), .val (.ref rb), .val (.ref rb)] [(.ref ra), (.int w_value)])) rfl rfl (hb hby d6_17)
  have pre5 : ∀ t, Steps p.tables e below (T4.setTop (mkF m 20 #[.val (.ref ra), .val (.ref rb), .val (.ref rb)] [(.int w_value_ra), (.int w_value)])) t → Steps p.tables e below (s₁.setTop (entryFrame m #[(.ref ra), (.ref rb)] 3)) t := by
    intro t k
    refine pre0 _ ?_
    show Steps p.tables e below (s₁.setTop (mkF m 0 #[.val (.ref ra), .val (.ref rb), .unset] [])) _
    refine XS.aloadN X0.here hx rfl (hb hby d6_0) rfl rfl ?_
    show Steps p.tables e below (s₁.setTop (mkF m 1 #[.val (.ref ra), .val (.ref rb), .unset] [(.ref rb)])) _
    refine st1 _ ?_
    show Steps p.tables e below (T1.setTop (mkF m 4 #[.val (.ref ra), .val (.ref rb), .unset] [(.int (1 : Int32))])) _
    refine XS.ifNo X1.here hx rfl (hb hby d6_4) rfl ((if0 _ _).trans (feq (by decide : ¬ ((1 : Int32) = (0 : Int32)))).1) ?_
    show Steps p.tables e below (T1.setTop (mkF m 7 #[.val (.ref ra), .val (.ref rb), .unset] [])) _
    refine XS.aloadN X1.here hx rfl (hb hby d6_7) rfl rfl ?_
    show Steps p.tables e below (T1.setTop (mkF m 8 #[.val (.ref ra), .val (.ref rb), .unset] [(.ref rb)])) _
    refine st2 _ ?_
    show Steps p.tables e below (T2.setTop (mkF m 11 #[.val (.ref ra), .val (.ref rb), .unset] [(.ref rb)])) _
    refine XS.astoreN X2.here hx rfl (hb hby d6_11) rfl rfl (l' := #[.val (.ref ra), .val (.ref rb), .val (.ref rb)]) rfl ?_
    show Steps p.tables e below (T2.setTop (mkF m 12 #[.val (.ref ra), .val (.ref rb), .val (.ref rb)] [])) _
    refine XS.aloadN X2.here hx rfl (hb hby d6_12) rfl rfl ?_
    show Steps p.tables e below (T2.setTop (mkF m 13 #[.val (.ref ra), .val (.ref rb), .val (.ref rb)] [(.ref rb)])) _
    refine st3 _ ?_
    show Steps p.tables e below (T3.setTop (mkF m 16 #[.val (.ref ra), .val (.ref rb), .val (.ref rb)] [(.int w_value)])) _
    refine XS.aloadN X3.here hx rfl (hb hby d6_16) rfl rfl ?_
    show Steps p.tables e below (T3.setTop (mkF m 17 #[.val (.ref ra), .val (.ref rb), .val (.ref rb)] [(.ref ra), (.int w_value)])) _
    refine st4 _ ?_
    exact k
  by_cases hk6 : w_value = w_value_ra
  · obtain ⟨fs, hr, hrun, hended, hW, hsame⟩ := X4.leave (v := some (.int (1 : Int32))) (fun h => by rw [Bd.returns] at h; cases h)
    refine ⟨_, _, pre5 _ ?_, hrun, hended, _, _, rfl, ?_, ⟨_, rfl⟩, hW, hsame.mono (by decide) (by decide)⟩
    · show Steps p.tables e below (T4.setTop (mkF m 20 #[.val (.ref ra), .val (.ref rb), .val (.ref rb)] [(.int w_value_ra), (.int w_value)])) _
      refine XS.icmpNo X4.here hx rfl (hb hby d6_20) rfl (teq hk6).2 ?_
      show Steps p.tables e below (T4.setTop (mkF m 23 #[.val (.ref ra), .val (.ref rb), .val (.ref rb)] [])) _
      refine XS.iconst X4.here hx rfl (hb hby d6_23) ?_
      show Steps p.tables e below (T4.setTop (mkF m 24 #[.val (.ref ra), .val (.ref rb), .val (.ref rb)] [(.int (1 : Int32))])) _
      refine XS.goto X4.here hx rfl (pc0 := 24) (pc' := 28) rfl (hb hby d6_24) (by decide) (by decide) ?_
      show Steps p.tables e below (T4.setTop (mkF m 28 #[.val (.ref ra), .val (.ref rb), .val (.ref rb)] [(.int (1 : Int32))])) _
      exact retN X4 hx (t := .boolean) Bd.returns (by simp) (hb hby d6_28) hr
    · show Q6 Z ra rb w_value w_value_ra h0 n0 _ T4.heap _
      rw [e4]
      have ev7 : (r6_v w_value w_value_ra) = (1 : Int32) := by unfold r6_v; rw [if_pos hk6]
      exact ⟨(congrArg (fun z => some (Value.int z)) ev7.symm), N0, rfl⟩
  · obtain ⟨fs, hr, hrun, hended, hW, hsame⟩ := X4.leave (v := some (.int (0 : Int32))) (fun h => by rw [Bd.returns] at h; cases h)
    refine ⟨_, _, pre5 _ ?_, hrun, hended, _, _, rfl, ?_, ⟨_, rfl⟩, hW, hsame.mono (by decide) (by decide)⟩
    · show Steps p.tables e below (T4.setTop (mkF m 20 #[.val (.ref ra), .val (.ref rb), .val (.ref rb)] [(.int w_value_ra), (.int w_value)])) _
      refine XS.icmpYes X4.here hx rfl (pc0 := 20) (pc' := 27) rfl (hb hby d6_20) rfl (feq hk6).2 (by decide) (by decide) ?_
      show Steps p.tables e below (T4.setTop (mkF m 27 #[.val (.ref ra), .val (.ref rb), .val (.ref rb)] [])) _
      refine XS.iconst X4.here hx rfl (hb hby d6_27) ?_
      show Steps p.tables e below (T4.setTop (mkF m 28 #[.val (.ref ra), .val (.ref rb), .val (.ref rb)] [(.int (0 : Int32))])) _
      exact retN X4 hx (t := .boolean) Bd.returns (by simp) (hb hby d6_28) hr
    · show Q6 Z ra rb w_value w_value_ra h0 n0 _ T4.heap _
      rw [e4]
      have ev8 : (r6_v w_value w_value_ra) = (0 : Int32) := by unfold r6_v; rw [if_neg hk6]
      exact ⟨(congrArg (fun z => some (Value.int z)) ev8.symm), N0, rfl⟩
theorem ef_6n (m : MethodId) (ra : Addr) : entryFrame m #[(.ref ra), .null] 3 = mkF m 0 #[.val (.ref ra), .val .null, .unset] [] := by first | (simp [entryFrame, mkF, argsToLocals, Value.category]; done) | rfl
def Q6n (Z : State) (ra : Addr) (h0 : Heap) (n0 : Nat) (v : Option Value) (h : Heap) (L : List Loc) : Prop := v = some (.int (0 : Int32)) ∧ Fr n0 L ∧ h = h0
set_option maxRecDepth 65536 in
set_option maxHeartbeats 40000000 in
theorem rm6n (l : Launch) (Z : State) (a0 : Array Value) (hw : ∀ d ∈ tables_1, d.before a0 Z = true) (ws : List Jvm.Cond) (ra : Addr) (h0 : Heap) (n0 : Nat) (Z0 : n0 ≤ h0.size) :
    MetFree l (⟨"com/example/partlint/partlint/model/ApiLevel", "equals", "(Ljava/lang/Object;)Z"⟩ : MethodName) (head1 (Jvm.Cond.code (⟨"com/example/partlint/partlint/model/ApiLevel", "equals", "(Ljava/lang/Object;)Z"⟩ : MethodName) prog_16_method_8_code 3 (some .boolean) :: ws) ({ frames := 0, cells := 0, slots := 0, locals := 0 } : Room)) (fun a U => a = #[(.ref ra), .null] ∧ Z.Warmed39 U.vm ∧ U.heap = h0) (fun _ _ _ _ _ => True) (fun _ U o U' => ∃ v L, o = .returned v ∧ Q6n Z ra h0 n0 v U'.heap L ∧ FrameEnd U o U' L ({ frames := 0, cells := 0, slots := 0, locals := 0 } : Room).cells ({ frames := 0, cells := 0, slots := 0, locals := 0 } : Room).slots) := by
  refine MetFree.of_bodySF (plainFor_of_name pn_com_example_partlint_partlint_model_ApiLevel) hisR ?_
  intro p e s m args below meth c s₁ Bd hml0 hP hK
  obtain ⟨rfl, hZ, hh⟩ := hP
  have hx := Bd.exec
  have hby := Bd.bytes
  have hml : c.maxLocals = 3 := hml0
  have hown : s.vm.findClass "com/example/partlint/partlint/model/ApiLevel" = some m.cls := findClass_of_methodNamed Bd.named
  have hnm := (name_of_methodNamed Bd.named Bd.method).1
  have X0 : Stand p l e ({ frames := 0, cells := 0, slots := 0, locals := 0 } : Room) s m #[(.ref ra), .null] below meth c s₁ [] 0 0 := Stand.of_body Bd
  have e0 : s₁.heap = h0 := by rw [← hh, Bd.state]; rfl
  have N0 := Fr.nil n0
  have K0 : Keep h0 h0 [] := Keep.refl h0 _
  have pre0 : ∀ t, Steps p.tables e below (s₁.setTop (mkF m 0 #[.val (.ref ra), .val .null, .unset] [])) t → Steps p.tables e below (s₁.setTop (entryFrame m #[(.ref ra), .null] 3)) t := fun t k => castTop (ef_6n m ra) k
  obtain ⟨fs, hr, hrun, hended, hW, hsame⟩ := X0.leave (v := some (.int (0 : Int32))) (fun h => by rw [Bd.returns] at h; cases h)
  refine ⟨_, _, pre0 _ ?_, hrun, hended, _, _, rfl, ?_, ⟨_, rfl⟩, hW, hsame.mono (by decide) (by decide)⟩
  · show Steps p.tables e below (s₁.setTop (mkF m 0 #[.val (.ref ra), .val .null, .unset] [])) _
    refine XS.aloadN X0.here hx rfl (hb hby d6_0) rfl rfl ?_
    show Steps p.tables e below (s₁.setTop (mkF m 1 #[.val (.ref ra), .val .null, .unset] [.null])) _
    refine X0.instanceofNull hx (g := (mkF m 1 #[.val (.ref ra), .val .null, .unset] [.null])) rfl rfl (hb hby d6_1) _ ?_
    show Steps p.tables e below (s₁.setTop (mkF m 4 #[.val (.ref ra), .val .null, .unset] [(.int (0 : Int32))])) _
    refine XS.ifYes X0.here hx rfl (pc0 := 4) (pc' := 27) rfl (hb hby d6_4) rfl ((if0 _ _).trans (teq (by decide : ((0 : Int32) = (0 : Int32)))).1) (by decide) (by decide) ?_
    show Steps p.tables e below (s₁.setTop (mkF m 27 #[.val (.ref ra), .val .null, .unset] [])) _
    refine XS.iconst X0.here hx rfl (hb hby d6_27) ?_
    show Steps p.tables e below (s₁.setTop (mkF m 28 #[.val (.ref ra), .val .null, .unset] [(.int (0 : Int32))])) _
    exact retN X0 hx (t := .boolean) Bd.returns (by simp) (hb hby d6_28) hr
  · show Q6n Z ra h0 n0 _ s₁.heap _
    rw [e0]
    exact ⟨rfl, N0, rfl⟩
theorem ef_6i (m : MethodId) (ra : Addr) (rb : Addr) : entryFrame m #[(.ref ra), (.ref rb)] 3 = mkF m 0 #[.val (.ref ra), .val (.ref rb), .unset] [] := by first | (simp [entryFrame, mkF, argsToLocals, Value.category]; done) | rfl
def Q6i (Z : State) (ra : Addr) (rb : Addr) (h0 : Heap) (n0 : Nat) (v : Option Value) (h : Heap) (L : List Loc) : Prop := v = some (.int (0 : Int32)) ∧ Fr n0 L ∧ h = h0
set_option maxRecDepth 65536 in
set_option maxHeartbeats 40000000 in
theorem rm6i (l : Launch) (Z : State) (a0 : Array Value) (hw : ∀ d ∈ tables_1, d.before a0 Z = true) (ws : List Jvm.Cond) (ra : Addr) (rb : Addr) (h0 : Heap) (n0 : Nat) (Z0 : n0 ≤ h0.size) (E_rb : Exa Z h0 rb "java/lang/Integer") :
    MetFree l (⟨"com/example/partlint/partlint/model/ApiLevel", "equals", "(Ljava/lang/Object;)Z"⟩ : MethodName) (head1 (Jvm.Cond.code (⟨"com/example/partlint/partlint/model/ApiLevel", "equals", "(Ljava/lang/Object;)Z"⟩ : MethodName) prog_16_method_8_code 3 (some .boolean) :: ws) ({ frames := 0, cells := 0, slots := 0, locals := 0 } : Room)) (fun a U => a = #[(.ref ra), (.ref rb)] ∧ Z.Warmed39 U.vm ∧ U.heap = h0) (fun _ _ _ _ _ => True) (fun _ U o U' => ∃ v L, o = .returned v ∧ Q6i Z ra rb h0 n0 v U'.heap L ∧ FrameEnd U o U' L ({ frames := 0, cells := 0, slots := 0, locals := 0 } : Room).cells ({ frames := 0, cells := 0, slots := 0, locals := 0 } : Room).slots) := by
  refine MetFree.of_bodySF (plainFor_of_name pn_com_example_partlint_partlint_model_ApiLevel) hisR ?_
  intro p e s m args below meth c s₁ Bd hml0 hP hK
  obtain ⟨rfl, hZ, hh⟩ := hP
  have hx := Bd.exec
  have hby := Bd.bytes
  have hml : c.maxLocals = 3 := hml0
  have hown : s.vm.findClass "com/example/partlint/partlint/model/ApiLevel" = some m.cls := findClass_of_methodNamed Bd.named
  have hnm := (name_of_methodNamed Bd.named Bd.method).1
  have X0 : Stand p l e ({ frames := 0, cells := 0, slots := 0, locals := 0 } : Room) s m #[(.ref ra), (.ref rb)] below meth c s₁ [] 0 0 := Stand.of_body Bd
  have e0 : s₁.heap = h0 := by rw [← hh, Bd.state]; rfl
  have N0 := Fr.nil n0
  have K0 : Keep h0 h0 [] := Keep.refl h0 _
  have pre0 : ∀ t, Steps p.tables e below (s₁.setTop (mkF m 0 #[.val (.ref ra), .val (.ref rb), .unset] [])) t → Steps p.tables e below (s₁.setTop (entryFrame m #[(.ref ra), (.ref rb)] 3)) t := fun t k => castTop (ef_6i m ra rb) k
  obtain ⟨T1, X1, e1, st1⟩ := instNo X0 hx hZ hown (hw _ (List.mem_of_getElem? (i := 33) rfl)) e0 E_rb (own_na (hw _ (List.mem_of_getElem? (i := 35) rfl)) (hw _ (List.mem_of_getElem? (i := 36) rfl)) (hw _ (List.mem_of_getElem? (i := 37) rfl)) (hw _ (List.mem_of_getElem? (i := 6) rfl)) (by decide) (by decide) (by decide)) (g := (mkF m 1 #[.val (.ref ra), .val (.ref rb), .unset] [(.ref rb)])) rfl rfl (hb hby d6_1)
  obtain ⟨fs, hr, hrun, hended, hW, hsame⟩ := X1.leave (v := some (.int (0 : Int32))) (fun h => by rw [Bd.returns] at h; cases h)
  refine ⟨_, _, pre0 _ ?_, hrun, hended, _, _, rfl, ?_, ⟨_, rfl⟩, hW, hsame.mono (by decide) (by decide)⟩
  · show Steps p.tables e below (s₁.setTop (mkF m 0 #[.val (.ref ra), .val (.ref rb), .unset] [])) _
    refine XS.aloadN X0.here hx rfl (hb hby d6_0) rfl rfl ?_
    show Steps p.tables e below (s₁.setTop (mkF m 1 #[.val (.ref ra), .val (.ref rb), .unset] [(.ref rb)])) _
    refine st1 _ ?_
    show Steps p.tables e below (T1.setTop (mkF m 4 #[.val (.ref ra), .val (.ref rb), .unset] [(.int (0 : Int32))])) _
    refine XS.ifYes X1.here hx rfl (pc0 := 4) (pc' := 27) rfl (hb hby d6_4) rfl ((if0 _ _).trans (teq (by decide : ((0 : Int32) = (0 : Int32)))).1) (by decide) (by decide) ?_
    show Steps p.tables e below (T1.setTop (mkF m 27 #[.val (.ref ra), .val (.ref rb), .unset] [])) _
    refine XS.iconst X1.here hx rfl (hb hby d6_27) ?_
    show Steps p.tables e below (T1.setTop (mkF m 28 #[.val (.ref ra), .val (.ref rb), .unset] [(.int (0 : Int32))])) _
    exact retN X1 hx (t := .boolean) Bd.returns (by simp) (hb hby d6_28) hr
  · show Q6i Z ra rb h0 n0 _ T1.heap _
    rw [e1]
    exact ⟨rfl, N0, rfl⟩
theorem ef_0 (m : MethodId) (aa : Int32) (bb : Int32) (cc : Int32) : entryFrame m #[(.int aa), (.int bb), (.int cc)] maxLocals = mkF m 0 #[.val (.int aa), .val (.int bb), .val (.int cc), .unset, .unset, .unset, .unset, .unset, .unset, .unset, .unset, .unset] [] := by first | (simp [entryFrame, mkF, argsToLocals, Value.category, maxLocals]; done) | rfl
theorem pd_2 : parseMethodDescriptor "(II)I" = some ⟨[.int, .int], some .int⟩ := by decide +kernel
theorem pd_3 : parseMethodDescriptor "(I)Ljava/lang/Integer;" = some ⟨[.int], some (.object "java/lang/Integer")⟩ := by decide +kernel
theorem pd_4 : parseMethodDescriptor "(Ljava/lang/Object;)Z" = some ⟨[(.object "java/lang/Object")], some .boolean⟩ := by decide +kernel
def j0_14_l5 (aa : Int32) (bb : Int32) (cc : Int32) : Int32 := (if (cc &&& (3 : Int32)) = (0 : Int32) then (r1_v (1 : Int32) (aa &&& (2147483647 : Int32))) else (if (cc &&& (3 : Int32)) = (1 : Int32) then (if (r1_v (1 : Int32) (aa &&& (2147483647 : Int32))) < (2147483647 : Int32) then ((r1_v (1 : Int32) (aa &&& (2147483647 : Int32))) + (1 : Int32)) else ((r1_v (1 : Int32) (aa &&& (2147483647 : Int32))) - (1 : Int32))) else (r1_v (1 : Int32) (bb &&& (2147483647 : Int32)))))
def j0_101_l11 (aa : Int32) (bb : Int32) (cc : Int32) : Int32 := (if (r1_v (1 : Int32) (aa &&& (2147483647 : Int32))) = (j0_14_l5 aa bb cc) then (1 : Int32) else (0 : Int32))
theorem pn_com_example_partlint_partlint_model_ApiLevelEqualsPinLaw : plainName "com/example/partlint/partlint/model/ApiLevelEqualsPinLaw" = true := by first | (simp [plainName, overriddenIn]; done) | decide +kernel
theorem own_va' (aa : Int32) : 1 ≤ (r1_v (1 : Int32) (aa &&& (2147483647 : Int32))).toInt := by
  unfold r1_v
  have : 0 ≤ (aa &&& (2147483647 : Int32)).toInt ∧ (aa &&& (2147483647 : Int32)).toInt ≤ 2147483647 := c_and aa (2147483647 : Int32) (by decide)
  generalize (aa &&& (2147483647 : Int32)) = u1_ at *
  try simp only [Int32.reduceToInt, Int64.reduceToInt] at *
  simp only [Int32.lt_iff_toInt_lt, ← Int32.toInt_inj, Int32.reduceToInt, Int64.reduceToInt]
  repeat' split
  all_goals first | omega | (simp only [Int32.reduceToInt, Int64.reduceToInt] at *; omega) | (simp at *; done) | (simp at *; omega)
theorem own_va (aa : Int32) : ¬ ((r1_v (1 : Int32) (aa &&& (2147483647 : Int32))) < (1 : Int32)) := by
  have := own_va' aa
  rw [Int32.lt_iff_toInt_lt]
  have e1 : (1 : Int32).toInt = 1 := rfl
  omega
theorem own_m128 (aa : Int32) : ¬ ((r1_v (1 : Int32) (aa &&& (2147483647 : Int32))) < (-128 : Int32)) := by
  have := own_va' aa
  rw [Int32.lt_iff_toInt_lt]
  have e1 : (-128 : Int32).toInt = -128 := rfl
  omega
theorem own_jn (aa : Int32) (h : ¬ (127 : Int32) < (r1_v (1 : Int32) (aa &&& (2147483647 : Int32)))) : ∃ jn : Nat, ((r1_v (1 : Int32) (aa &&& (2147483647 : Int32))) + (128 : Int32)).toInt = jn ∧ jn < 256 := by
  have := own_va' aa
  generalize (r1_v (1 : Int32) (aa &&& (2147483647 : Int32))) = va at *
  rw [Int32.lt_iff_toInt_lt] at h
  have e1 : (127 : Int32).toInt = 127 := rfl
  have e2 : (va + (128 : Int32)).toInt = va.toInt + 128 := own_iadd rfl rfl (by omega) (by omega)
  exact ⟨(va.toInt + 128).toNat, by omega, by omega⟩
theorem own_vb (aa bb cc : Int32) : ¬ ((j0_14_l5 aa bb cc) < (1 : Int32)) := by
  have h1 := own_va' aa
  have h2 := own_va' bb
  unfold j0_14_l5
  generalize (r1_v (1 : Int32) (aa &&& (2147483647 : Int32))) = va at *
  generalize (r1_v (1 : Int32) (bb &&& (2147483647 : Int32))) = vb at *
  generalize (cc &&& (3 : Int32)) = mo at *
  have e1 : (1 : Int32).toInt = 1 := rfl
  have eM : (2147483647 : Int32).toInt = 2147483647 := rfl
  have r0 := rng32 va
  split
  · rw [Int32.lt_iff_toInt_lt]; omega
  · split
    · split
      · rename_i h
        rw [Int32.lt_iff_toInt_lt] at h ⊢
        have : (va + (1 : Int32)).toInt = va.toInt + 1 := own_iadd rfl rfl (by omega) (by omega)
        omega
      · rename_i h
        rw [Int32.lt_iff_toInt_lt] at h ⊢
        have : (va - (1 : Int32)).toInt = va.toInt - 1 := own_isub rfl rfl (by omega) (by omega)
        omega
    · rw [Int32.lt_iff_toInt_lt]; omega
theorem own_e1 (aa bb cc : Int32) : (r6_v (j0_14_l5 aa bb cc) (r1_v (1 : Int32) (aa &&& (2147483647 : Int32)))) = (j0_101_l11 aa bb cc) := by
  unfold r6_v j0_101_l11
  generalize (j0_14_l5 aa bb cc) = vb
  generalize (r1_v (1 : Int32) (aa &&& (2147483647 : Int32))) = va
  by_cases h : va = vb
  · subst h; simp
  · rw [if_neg h, if_neg (fun q => h q.symm)]
theorem own_e2 (aa bb cc : Int32) : (r6_v (r1_v (1 : Int32) (aa &&& (2147483647 : Int32))) (j0_14_l5 aa bb cc)) = (j0_101_l11 aa bb cc) := by
  unfold r6_v j0_101_l11
  generalize (j0_14_l5 aa bb cc) = vb
  generalize (r1_v (1 : Int32) (aa &&& (2147483647 : Int32))) = va
  by_cases h : va = vb
  · subst h; simp
  · rw [if_neg h]
theorem own_e3 (aa bb cc : Int32) : ¬ ((r6_v (r1_v (1 : Int32) (aa &&& (2147483647 : Int32))) (r1_v (1 : Int32) (aa &&& (2147483647 : Int32)))) = (0 : Int32)) := by
  unfold r6_v
  rw [if_pos rfl]
  decide
theorem own_e4 (aa bb cc : Int32) : ¬ ((r6_v (r1_v (1 : Int32) (aa &&& (2147483647 : Int32))) (r1_v (1 : Int32) (aa &&& (2147483647 : Int32)))) = (0 : Int32)) := by
  unfold r6_v
  rw [if_pos rfl]
  decide
def Q0 (Z : State) (aa : Int32) (bb : Int32) (cc : Int32) (rc : Addr) (gv : Nat → Value) (rx : Addr) (h0 : Heap) (n0 : Nat) (v : Option Value) (h : Heap) (L : List Loc) : Prop := v = some (.int (1 : Int32)) ∧ Fr n0 L
set_option maxRecDepth 65536 in
set_option maxHeartbeats 40000000 in
theorem rm0 (l : Launch) (Z : State) (a0 : Array Value) (hw : ∀ d ∈ tables_1, d.before a0 Z = true) (ws : List Jvm.Cond) (aa : Int32) (bb : Int32) (cc : Int32) (rc : Addr) (gv : Nat → Value) (rx : Addr) (h0 : Heap) (n0 : Nat) (Z0 : n0 ≤ h0.size) (S_high : Sta Z h0 "java/lang/Integer$IntegerCache" "high" "I" (.int (127 : Int32))) (S_cache : Sta Z h0 "java/lang/Integer$IntegerCache" "cache" "[Ljava/lang/Integer;" (.ref rc)) (A_rc : AF Z h0 rc (.object "java/lang/Integer") 256 gv) (E_rx : Exa Z h0 rx "java/lang/Integer") (hgx : ∀ jn : Nat, ((r1_v (1 : Int32) (aa &&& (2147483647 : Int32))) + (128 : Int32)).toInt = jn → jn < 256 → gv jn = .ref rx) :
    MetFree l x (head1 (Jvm.Cond.code x code maxLocals ret :: ws) room_1) (fun a U => a = #[(.int aa), (.int bb), (.int cc)] ∧ Z.Warmed39 U.vm ∧ U.heap = h0) (fun _ _ _ _ _ => True) (fun _ U o U' => ∃ v L, o = .returned v ∧ Q0 Z aa bb cc rc gv rx h0 n0 v U'.heap L ∧ FrameEnd U o U' L room_1.cells room_1.slots) := by
  refine MetFree.of_bodySF (plainFor_of_name pn_com_example_partlint_partlint_model_ApiLevelEqualsPinLaw) hisR ?_
  intro p e s m args below meth c s₁ Bd hml0 hP hK
  obtain ⟨rfl, hZ, hh⟩ := hP
  have hx := Bd.exec
  have hby := Bd.bytes
  have hml : c.maxLocals = 12 := hml0
  have hown : s.vm.findClass "com/example/partlint/partlint/model/ApiLevelEqualsPinLaw" = some m.cls := findClass_of_methodNamed Bd.named
  have hnm := (name_of_methodNamed Bd.named Bd.method).1
  have X0 : Stand p l e room_1 s m #[(.int aa), (.int bb), (.int cc)] below meth c s₁ [] 0 0 := Stand.of_body Bd
  have e0 : s₁.heap = h0 := by rw [← hh, Bd.state]; rfl
  have N0 := Fr.nil n0
  have K0 : Keep h0 h0 [] := Keep.refl h0 _
  have pre0 : ∀ t, Steps p.tables e below (s₁.setTop (mkF m 0 #[.val (.int aa), .val (.int bb), .val (.int cc), .unset, .unset, .unset, .unset, .unset, .unset, .unset, .unset, .unset] [])) t → Steps p.tables e below (s₁.setTop (entryFrame m #[(.int aa), (.int bb), (.int cc)] maxLocals)) t := fun t k => castTop (ef_0 m aa bb cc) k
  obtain ⟨_, _, ⟨T1, L1, k1, n1⟩, -, X1, ⟨Lc1, hQ1, l1, y1, z1⟩, st1⟩ := Jvm.LawKit.callS X0 hx (y := (⟨"java/lang/Math", "max", "(II)I"⟩ : MethodName)) hown (mvT hZ (hw _ (List.mem_of_getElem? (i := 1) rfl))) (mvT hZ (hw _ (List.mem_of_getElem? (i := 2) rfl))) (mvT hZ (hw _ (List.mem_of_getElem? (i := 3) rfl))) (mvT hZ (hw _ (List.mem_of_getElem? (i := 4) rfl))) (by decide) (backOf (W := 0) (rm1 l Z a0 hw [] (1 : Int32) (aa &&& (2147483647 : Int32)) h0 n0 Z0 ) hZ (hw _ (List.mem_of_getElem? (i := 4) rfl)) (hw _ (List.mem_of_getElem? (i := 3) rfl)) (by decide) (by decide)) (g := (mkF m 5 #[.val (.int aa), .val (.int bb), .val (.int cc), .unset, .unset, .unset, .unset, .unset, .unset, .unset, .unset, .unset] [(.int (aa &&& (2147483647 : Int32))), (.int (1 : Int32))])) rfl (by rw [hml]; rfl) (argsL := [(.int (1 : Int32)), (.int (aa &&& (2147483647 : Int32)))]) (rest := []) (lenOf pd_2 rfl) rfl (by show 2 * 0 + _ ≤ _; exact Nat.le_of_eq rfl) (hb hby at_5) (fun _ _ => ⟨rfl, e0, (by decide : 0 + 0 ≤ _), (by decide : 0 + 0 ≤ _)⟩)
  dsimp only [Pt.U, Pt.locs, Pt.cells, Pt.slots] at X1 l1 y1 z1 st1 hQ1
  subst l1 y1 z1
  obtain ⟨rfl, N1q, e1⟩ := hQ1
  have N1 := Fr.app N0 N1q
  have pre2 : ∀ t, Steps p.tables e below (T1.setTop (mkF m 14 #[.val (.int aa), .val (.int bb), .val (.int cc), .val (.int (r1_v (1 : Int32) (aa &&& (2147483647 : Int32)))), .val (.int (cc &&& (3 : Int32))), .unset, .unset, .unset, .unset, .unset, .unset, .unset] [])) t → Steps p.tables e below (s₁.setTop (entryFrame m #[(.int aa), (.int bb), (.int cc)] maxLocals)) t := by
    intro t k
    refine pre0 _ ?_
    show Steps p.tables e below (s₁.setTop (mkF m 0 #[.val (.int aa), .val (.int bb), .val (.int cc), .unset, .unset, .unset, .unset, .unset, .unset, .unset, .unset, .unset] [])) _
    refine XS.iconst X0.here hx rfl (hb hby at_0) ?_
    show Steps p.tables e below (s₁.setTop (mkF m 1 #[.val (.int aa), .val (.int bb), .val (.int cc), .unset, .unset, .unset, .unset, .unset, .unset, .unset, .unset, .unset] [(.int (1 : Int32))])) _
    refine XS.iloadN X0.here hx rfl (hb hby at_1) rfl ?_
    show Steps p.tables e below (s₁.setTop (mkF m 2 #[.val (.int aa), .val (.int bb), .val (.int cc), .unset, .unset, .unset, .unset, .unset, .unset, .unset, .unset, .unset] [(.int aa), (.int (1 : Int32))])) _
    refine X0.ldcInt hx hown (mvT hZ (hw _ (List.mem_of_getElem? (i := 0) rfl))) (g := (mkF m 2 #[.val (.int aa), .val (.int bb), .val (.int cc), .unset, .unset, .unset, .unset, .unset, .unset, .unset, .unset, .unset] [(.int aa), (.int (1 : Int32))])) rfl (hb hby at_2) _ ?_
    show Steps p.tables e below (s₁.setTop (mkF m 4 #[.val (.int aa), .val (.int bb), .val (.int cc), .unset, .unset, .unset, .unset, .unset, .unset, .unset, .unset, .unset] [(.int (2147483647 : Int32)), (.int aa), (.int (1 : Int32))])) _
    refine XS.iand X0.here hx rfl (hb hby at_4) rfl ?_
    show Steps p.tables e below (s₁.setTop (mkF m 5 #[.val (.int aa), .val (.int bb), .val (.int cc), .unset, .unset, .unset, .unset, .unset, .unset, .unset, .unset, .unset] [(.int (aa &&& (2147483647 : Int32))), (.int (1 : Int32))])) _
    refine st1 _ ?_
    show Steps p.tables e below (T1.setTop (mkF m 8 #[.val (.int aa), .val (.int bb), .val (.int cc), .unset, .unset, .unset, .unset, .unset, .unset, .unset, .unset, .unset] [(.int (r1_v (1 : Int32) (aa &&& (2147483647 : Int32))))])) _
    refine XS.istoreN X1.here hx rfl (hb hby at_8) rfl (l' := #[.val (.int aa), .val (.int bb), .val (.int cc), .val (.int (r1_v (1 : Int32) (aa &&& (2147483647 : Int32)))), .unset, .unset, .unset, .unset, .unset, .unset, .unset, .unset]) rfl ?_
    show Steps p.tables e below (T1.setTop (mkF m 9 #[.val (.int aa), .val (.int bb), .val (.int cc), .val (.int (r1_v (1 : Int32) (aa &&& (2147483647 : Int32)))), .unset, .unset, .unset, .unset, .unset, .unset, .unset, .unset] [])) _
    refine XS.iloadN X1.here hx rfl (hb hby at_9) rfl ?_
    show Steps p.tables e below (T1.setTop (mkF m 10 #[.val (.int aa), .val (.int bb), .val (.int cc), .val (.int (r1_v (1 : Int32) (aa &&& (2147483647 : Int32)))), .unset, .unset, .unset, .unset, .unset, .unset, .unset, .unset] [(.int cc)])) _
    refine XS.iconst X1.here hx rfl (hb hby at_10) ?_
    show Steps p.tables e below (T1.setTop (mkF m 11 #[.val (.int aa), .val (.int bb), .val (.int cc), .val (.int (r1_v (1 : Int32) (aa &&& (2147483647 : Int32)))), .unset, .unset, .unset, .unset, .unset, .unset, .unset, .unset] [(.int (3 : Int32)), (.int cc)])) _
    refine XS.iand X1.here hx rfl (hb hby at_11) rfl ?_
    show Steps p.tables e below (T1.setTop (mkF m 12 #[.val (.int aa), .val (.int bb), .val (.int cc), .val (.int (r1_v (1 : Int32) (aa &&& (2147483647 : Int32)))), .unset, .unset, .unset, .unset, .unset, .unset, .unset, .unset] [(.int (cc &&& (3 : Int32)))])) _
    refine XS.istore X1.here hx rfl (hb hby at_12) rfl (l' := #[.val (.int aa), .val (.int bb), .val (.int cc), .val (.int (r1_v (1 : Int32) (aa &&& (2147483647 : Int32)))), .val (.int (cc &&& (3 : Int32))), .unset, .unset, .unset, .unset, .unset, .unset, .unset]) rfl ?_
    exact k
  obtain ⟨T18, Lo18, X18, e18, N18, pre18⟩ : ∃ (T' : State) (lo : List Loc), Stand p l e room_1 s m #[(.int aa), (.int bb), (.int cc)] below meth c T' lo 0 0 ∧ T'.heap = h0 ∧ Fr n0 lo ∧ ∀ t, Steps p.tables e below (T'.setTop (mkF m 61 #[.val (.int aa), .val (.int bb), .val (.int cc), .val (.int (r1_v (1 : Int32) (aa &&& (2147483647 : Int32)))), .val (.int (cc &&& (3 : Int32))), .val (.int (j0_14_l5 aa bb cc)), .unset, .unset, .unset, .unset, .unset, .unset] [])) t → Steps p.tables e below (s₁.setTop (entryFrame m #[(.int aa), (.int bb), (.int cc)] maxLocals)) t := by
    have pre3 : ∀ t, Steps p.tables e below (T1.setTop (mkF m 16 #[.val (.int aa), .val (.int bb), .val (.int cc), .val (.int (r1_v (1 : Int32) (aa &&& (2147483647 : Int32)))), .val (.int (cc &&& (3 : Int32))), .unset, .unset, .unset, .unset, .unset, .unset, .unset] [(.int (cc &&& (3 : Int32)))])) t → Steps p.tables e below (s₁.setTop (entryFrame m #[(.int aa), (.int bb), (.int cc)] maxLocals)) t := by
      intro t k
      refine pre2 _ ?_
      show Steps p.tables e below (T1.setTop (mkF m 14 #[.val (.int aa), .val (.int bb), .val (.int cc), .val (.int (r1_v (1 : Int32) (aa &&& (2147483647 : Int32)))), .val (.int (cc &&& (3 : Int32))), .unset, .unset, .unset, .unset, .unset, .unset, .unset] [])) _
      refine XS.iload X1.here hx rfl (hb hby at_14) rfl ?_
      exact k
    by_cases hk4 : (cc &&& (3 : Int32)) = (0 : Int32)
    · have pre5 : ∀ t, Steps p.tables e below (T1.setTop (mkF m 61 #[.val (.int aa), .val (.int bb), .val (.int cc), .val (.int (r1_v (1 : Int32) (aa &&& (2147483647 : Int32)))), .val (.int (cc &&& (3 : Int32))), .val (.int (r1_v (1 : Int32) (aa &&& (2147483647 : Int32)))), .unset, .unset, .unset, .unset, .unset, .unset] [])) t → Steps p.tables e below (s₁.setTop (entryFrame m #[(.int aa), (.int bb), (.int cc)] maxLocals)) t := by
        intro t k
        refine pre3 _ ?_
        show Steps p.tables e below (T1.setTop (mkF m 16 #[.val (.int aa), .val (.int bb), .val (.int cc), .val (.int (r1_v (1 : Int32) (aa &&& (2147483647 : Int32)))), .val (.int (cc &&& (3 : Int32))), .unset, .unset, .unset, .unset, .unset, .unset, .unset] [(.int (cc &&& (3 : Int32)))])) _
        refine XS.ifNo X1.here hx rfl (hb hby at_16) rfl ((if0 _ _).trans (teq hk4).2) ?_
        show Steps p.tables e below (T1.setTop (mkF m 19 #[.val (.int aa), .val (.int bb), .val (.int cc), .val (.int (r1_v (1 : Int32) (aa &&& (2147483647 : Int32)))), .val (.int (cc &&& (3 : Int32))), .unset, .unset, .unset, .unset, .unset, .unset, .unset] [])) _
        refine XS.iloadN X1.here hx rfl (hb hby at_19) rfl ?_
        show Steps p.tables e below (T1.setTop (mkF m 20 #[.val (.int aa), .val (.int bb), .val (.int cc), .val (.int (r1_v (1 : Int32) (aa &&& (2147483647 : Int32)))), .val (.int (cc &&& (3 : Int32))), .unset, .unset, .unset, .unset, .unset, .unset, .unset] [(.int (r1_v (1 : Int32) (aa &&& (2147483647 : Int32))))])) _
        refine XS.istore X1.here hx rfl (hb hby at_20) rfl (l' := #[.val (.int aa), .val (.int bb), .val (.int cc), .val (.int (r1_v (1 : Int32) (aa &&& (2147483647 : Int32)))), .val (.int (cc &&& (3 : Int32))), .val (.int (r1_v (1 : Int32) (aa &&& (2147483647 : Int32)))), .unset, .unset, .unset, .unset, .unset, .unset]) rfl ?_
        show Steps p.tables e below (T1.setTop (mkF m 22 #[.val (.int aa), .val (.int bb), .val (.int cc), .val (.int (r1_v (1 : Int32) (aa &&& (2147483647 : Int32)))), .val (.int (cc &&& (3 : Int32))), .val (.int (r1_v (1 : Int32) (aa &&& (2147483647 : Int32)))), .unset, .unset, .unset, .unset, .unset, .unset] [])) _
        refine XS.goto X1.here hx rfl (pc0 := 22) (pc' := 61) rfl (hb hby at_22) (by decide) (by decide) ?_
        exact k
      have ev14 : (j0_14_l5 aa bb cc) = (r1_v (1 : Int32) (aa &&& (2147483647 : Int32))) := by unfold j0_14_l5; rw [if_pos hk4]
      exact ⟨_, _, X1, e1, N1, fun t k => pre5 _ (by rw [ev14] at k; exact k)⟩
    · have pre6 : ∀ t, Steps p.tables e below (T1.setTop (mkF m 28 #[.val (.int aa), .val (.int bb), .val (.int cc), .val (.int (r1_v (1 : Int32) (aa &&& (2147483647 : Int32)))), .val (.int (cc &&& (3 : Int32))), .unset, .unset, .unset, .unset, .unset, .unset, .unset] [(.int (1 : Int32)), (.int (cc &&& (3 : Int32)))])) t → Steps p.tables e below (s₁.setTop (entryFrame m #[(.int aa), (.int bb), (.int cc)] maxLocals)) t := by
        intro t k
        refine pre3 _ ?_
        show Steps p.tables e below (T1.setTop (mkF m 16 #[.val (.int aa), .val (.int bb), .val (.int cc), .val (.int (r1_v (1 : Int32) (aa &&& (2147483647 : Int32)))), .val (.int (cc &&& (3 : Int32))), .unset, .unset, .unset, .unset, .unset, .unset, .unset] [(.int (cc &&& (3 : Int32)))])) _
        refine XS.ifYes X1.here hx rfl (pc0 := 16) (pc' := 25) rfl (hb hby at_16) rfl ((if0 _ _).trans (feq hk4).2) (by decide) (by decide) ?_
        show Steps p.tables e below (T1.setTop (mkF m 25 #[.val (.int aa), .val (.int bb), .val (.int cc), .val (.int (r1_v (1 : Int32) (aa &&& (2147483647 : Int32)))), .val (.int (cc &&& (3 : Int32))), .unset, .unset, .unset, .unset, .unset, .unset, .unset] [])) _
        refine XS.iload X1.here hx rfl (hb hby at_25) rfl ?_
        show Steps p.tables e below (T1.setTop (mkF m 27 #[.val (.int aa), .val (.int bb), .val (.int cc), .val (.int (r1_v (1 : Int32) (aa &&& (2147483647 : Int32)))), .val (.int (cc &&& (3 : Int32))), .unset, .unset, .unset, .unset, .unset, .unset, .unset] [(.int (cc &&& (3 : Int32)))])) _
        refine XS.iconst X1.here hx rfl (hb hby at_27) ?_
        exact k
      by_cases hk7 : (cc &&& (3 : Int32)) = (1 : Int32)
      · have pre8 : ∀ t, Steps p.tables e below (T1.setTop (mkF m 34 #[.val (.int aa), .val (.int bb), .val (.int cc), .val (.int (r1_v (1 : Int32) (aa &&& (2147483647 : Int32)))), .val (.int (cc &&& (3 : Int32))), .unset, .unset, .unset, .unset, .unset, .unset, .unset] [(.int (2147483647 : Int32)), (.int (r1_v (1 : Int32) (aa &&& (2147483647 : Int32))))])) t → Steps p.tables e below (s₁.setTop (entryFrame m #[(.int aa), (.int bb), (.int cc)] maxLocals)) t := by
          intro t k
          refine pre6 _ ?_
          show Steps p.tables e below (T1.setTop (mkF m 28 #[.val (.int aa), .val (.int bb), .val (.int cc), .val (.int (r1_v (1 : Int32) (aa &&& (2147483647 : Int32)))), .val (.int (cc &&& (3 : Int32))), .unset, .unset, .unset, .unset, .unset, .unset, .unset] [(.int (1 : Int32)), (.int (cc &&& (3 : Int32)))])) _
          refine XS.icmpNo X1.here hx rfl (hb hby at_28) rfl (teq hk7).2 ?_
          show Steps p.tables e below (T1.setTop (mkF m 31 #[.val (.int aa), .val (.int bb), .val (.int cc), .val (.int (r1_v (1 : Int32) (aa &&& (2147483647 : Int32)))), .val (.int (cc &&& (3 : Int32))), .unset, .unset, .unset, .unset, .unset, .unset, .unset] [])) _
          refine XS.iloadN X1.here hx rfl (hb hby at_31) rfl ?_
          show Steps p.tables e below (T1.setTop (mkF m 32 #[.val (.int aa), .val (.int bb), .val (.int cc), .val (.int (r1_v (1 : Int32) (aa &&& (2147483647 : Int32)))), .val (.int (cc &&& (3 : Int32))), .unset, .unset, .unset, .unset, .unset, .unset, .unset] [(.int (r1_v (1 : Int32) (aa &&& (2147483647 : Int32))))])) _
          refine X1.ldcInt hx hown (mvT hZ (hw _ (List.mem_of_getElem? (i := 0) rfl))) (g := (mkF m 32 #[.val (.int aa), .val (.int bb), .val (.int cc), .val (.int (r1_v (1 : Int32) (aa &&& (2147483647 : Int32)))), .val (.int (cc &&& (3 : Int32))), .unset, .unset, .unset, .unset, .unset, .unset, .unset] [(.int (r1_v (1 : Int32) (aa &&& (2147483647 : Int32))))])) rfl (hb hby at_32) _ ?_
          exact k
        by_cases hk9 : (r1_v (1 : Int32) (aa &&& (2147483647 : Int32))) < (2147483647 : Int32)
        · have pre10 : ∀ t, Steps p.tables e below (T1.setTop (mkF m 61 #[.val (.int aa), .val (.int bb), .val (.int cc), .val (.int (r1_v (1 : Int32) (aa &&& (2147483647 : Int32)))), .val (.int (cc &&& (3 : Int32))), .val (.int ((r1_v (1 : Int32) (aa &&& (2147483647 : Int32))) + (1 : Int32))), .unset, .unset, .unset, .unset, .unset, .unset] [])) t → Steps p.tables e below (s₁.setTop (entryFrame m #[(.int aa), (.int bb), (.int cc)] maxLocals)) t := by
            intro t k
            refine pre8 _ ?_
            show Steps p.tables e below (T1.setTop (mkF m 34 #[.val (.int aa), .val (.int bb), .val (.int cc), .val (.int (r1_v (1 : Int32) (aa &&& (2147483647 : Int32)))), .val (.int (cc &&& (3 : Int32))), .unset, .unset, .unset, .unset, .unset, .unset, .unset] [(.int (2147483647 : Int32)), (.int (r1_v (1 : Int32) (aa &&& (2147483647 : Int32))))])) _
            refine XS.icmpNo X1.here hx rfl (hb hby at_34) rfl (tlt hk9).2.1 ?_
            show Steps p.tables e below (T1.setTop (mkF m 37 #[.val (.int aa), .val (.int bb), .val (.int cc), .val (.int (r1_v (1 : Int32) (aa &&& (2147483647 : Int32)))), .val (.int (cc &&& (3 : Int32))), .unset, .unset, .unset, .unset, .unset, .unset, .unset] [])) _
            refine XS.iloadN X1.here hx rfl (hb hby at_37) rfl ?_
            show Steps p.tables e below (T1.setTop (mkF m 38 #[.val (.int aa), .val (.int bb), .val (.int cc), .val (.int (r1_v (1 : Int32) (aa &&& (2147483647 : Int32)))), .val (.int (cc &&& (3 : Int32))), .unset, .unset, .unset, .unset, .unset, .unset, .unset] [(.int (r1_v (1 : Int32) (aa &&& (2147483647 : Int32))))])) _
            refine XS.iconst X1.here hx rfl (hb hby at_38) ?_
            show Steps p.tables e below (T1.setTop (mkF m 39 #[.val (.int aa), .val (.int bb), .val (.int cc), .val (.int (r1_v (1 : Int32) (aa &&& (2147483647 : Int32)))), .val (.int (cc &&& (3 : Int32))), .unset, .unset, .unset, .unset, .unset, .unset, .unset] [(.int (1 : Int32)), (.int (r1_v (1 : Int32) (aa &&& (2147483647 : Int32))))])) _
            refine XS.iadd X1.here hx rfl (hb hby at_39) rfl ?_
            show Steps p.tables e below (T1.setTop (mkF m 40 #[.val (.int aa), .val (.int bb), .val (.int cc), .val (.int (r1_v (1 : Int32) (aa &&& (2147483647 : Int32)))), .val (.int (cc &&& (3 : Int32))), .unset, .unset, .unset, .unset, .unset, .unset, .unset] [(.int ((r1_v (1 : Int32) (aa &&& (2147483647 : Int32))) + (1 : Int32)))])) _
            refine XS.goto X1.here hx rfl (pc0 := 40) (pc' := 46) rfl (hb hby at_40) (by decide) (by decide) ?_
            show Steps p.tables e below (T1.setTop (mkF m 46 #[.val (.int aa), .val (.int bb), .val (.int cc), .val (.int (r1_v (1 : Int32) (aa &&& (2147483647 : Int32)))), .val (.int (cc &&& (3 : Int32))), .unset, .unset, .unset, .unset, .unset, .unset, .unset] [(.int ((r1_v (1 : Int32) (aa &&& (2147483647 : Int32))) + (1 : Int32)))])) _
            refine XS.istore X1.here hx rfl (hb hby at_46) rfl (l' := #[.val (.int aa), .val (.int bb), .val (.int cc), .val (.int (r1_v (1 : Int32) (aa &&& (2147483647 : Int32)))), .val (.int (cc &&& (3 : Int32))), .val (.int ((r1_v (1 : Int32) (aa &&& (2147483647 : Int32))) + (1 : Int32))), .unset, .unset, .unset, .unset, .unset, .unset]) rfl ?_
            show Steps p.tables e below (T1.setTop (mkF m 48 #[.val (.int aa), .val (.int bb), .val (.int cc), .val (.int (r1_v (1 : Int32) (aa &&& (2147483647 : Int32)))), .val (.int (cc &&& (3 : Int32))), .val (.int ((r1_v (1 : Int32) (aa &&& (2147483647 : Int32))) + (1 : Int32))), .unset, .unset, .unset, .unset, .unset, .unset] [])) _
            refine XS.goto X1.here hx rfl (pc0 := 48) (pc' := 61) rfl (hb hby at_48) (by decide) (by decide) ?_
            exact k
          have ev15 : (j0_14_l5 aa bb cc) = ((r1_v (1 : Int32) (aa &&& (2147483647 : Int32))) + (1 : Int32)) := by unfold j0_14_l5; rw [if_neg hk4, if_pos hk7, if_pos hk9]
          exact ⟨_, _, X1, e1, N1, fun t k => pre10 _ (by rw [ev15] at k; exact k)⟩
        · have pre11 : ∀ t, Steps p.tables e below (T1.setTop (mkF m 61 #[.val (.int aa), .val (.int bb), .val (.int cc), .val (.int (r1_v (1 : Int32) (aa &&& (2147483647 : Int32)))), .val (.int (cc &&& (3 : Int32))), .val (.int ((r1_v (1 : Int32) (aa &&& (2147483647 : Int32))) - (1 : Int32))), .unset, .unset, .unset, .unset, .unset, .unset] [])) t → Steps p.tables e below (s₁.setTop (entryFrame m #[(.int aa), (.int bb), (.int cc)] maxLocals)) t := by
            intro t k
            refine pre8 _ ?_
            show Steps p.tables e below (T1.setTop (mkF m 34 #[.val (.int aa), .val (.int bb), .val (.int cc), .val (.int (r1_v (1 : Int32) (aa &&& (2147483647 : Int32)))), .val (.int (cc &&& (3 : Int32))), .unset, .unset, .unset, .unset, .unset, .unset, .unset] [(.int (2147483647 : Int32)), (.int (r1_v (1 : Int32) (aa &&& (2147483647 : Int32))))])) _
            refine XS.icmpYes X1.here hx rfl (pc0 := 34) (pc' := 43) rfl (hb hby at_34) rfl (flt hk9).2.1 (by decide) (by decide) ?_
            show Steps p.tables e below (T1.setTop (mkF m 43 #[.val (.int aa), .val (.int bb), .val (.int cc), .val (.int (r1_v (1 : Int32) (aa &&& (2147483647 : Int32)))), .val (.int (cc &&& (3 : Int32))), .unset, .unset, .unset, .unset, .unset, .unset, .unset] [])) _
            refine XS.iloadN X1.here hx rfl (hb hby at_43) rfl ?_
            show Steps p.tables e below (T1.setTop (mkF m 44 #[.val (.int aa), .val (.int bb), .val (.int cc), .val (.int (r1_v (1 : Int32) (aa &&& (2147483647 : Int32)))), .val (.int (cc &&& (3 : Int32))), .unset, .unset, .unset, .unset, .unset, .unset, .unset] [(.int (r1_v (1 : Int32) (aa &&& (2147483647 : Int32))))])) _
            refine XS.iconst X1.here hx rfl (hb hby at_44) ?_
            show Steps p.tables e below (T1.setTop (mkF m 45 #[.val (.int aa), .val (.int bb), .val (.int cc), .val (.int (r1_v (1 : Int32) (aa &&& (2147483647 : Int32)))), .val (.int (cc &&& (3 : Int32))), .unset, .unset, .unset, .unset, .unset, .unset, .unset] [(.int (1 : Int32)), (.int (r1_v (1 : Int32) (aa &&& (2147483647 : Int32))))])) _
            refine XS.isub X1.here hx rfl (hb hby at_45) rfl ?_
            show Steps p.tables e below (T1.setTop (mkF m 46 #[.val (.int aa), .val (.int bb), .val (.int cc), .val (.int (r1_v (1 : Int32) (aa &&& (2147483647 : Int32)))), .val (.int (cc &&& (3 : Int32))), .unset, .unset, .unset, .unset, .unset, .unset, .unset] [(.int ((r1_v (1 : Int32) (aa &&& (2147483647 : Int32))) - (1 : Int32)))])) _
            refine XS.istore X1.here hx rfl (hb hby at_46) rfl (l' := #[.val (.int aa), .val (.int bb), .val (.int cc), .val (.int (r1_v (1 : Int32) (aa &&& (2147483647 : Int32)))), .val (.int (cc &&& (3 : Int32))), .val (.int ((r1_v (1 : Int32) (aa &&& (2147483647 : Int32))) - (1 : Int32))), .unset, .unset, .unset, .unset, .unset, .unset]) rfl ?_
            show Steps p.tables e below (T1.setTop (mkF m 48 #[.val (.int aa), .val (.int bb), .val (.int cc), .val (.int (r1_v (1 : Int32) (aa &&& (2147483647 : Int32)))), .val (.int (cc &&& (3 : Int32))), .val (.int ((r1_v (1 : Int32) (aa &&& (2147483647 : Int32))) - (1 : Int32))), .unset, .unset, .unset, .unset, .unset, .unset] [])) _
            refine XS.goto X1.here hx rfl (pc0 := 48) (pc' := 61) rfl (hb hby at_48) (by decide) (by decide) ?_
            exact k
          have ev16 : (j0_14_l5 aa bb cc) = ((r1_v (1 : Int32) (aa &&& (2147483647 : Int32))) - (1 : Int32)) := by unfold j0_14_l5; rw [if_neg hk4, if_pos hk7, if_neg hk9]
          exact ⟨_, _, X1, e1, N1, fun t k => pre11 _ (by rw [ev16] at k; exact k)⟩
      · obtain ⟨_, _, ⟨T12, L12, k12, n12⟩, -, X12, ⟨Lc12, hQ12, l12, y12, z12⟩, st12⟩ := Jvm.LawKit.callS X1 hx (y := (⟨"java/lang/Math", "max", "(II)I"⟩ : MethodName)) hown (mvT hZ (hw _ (List.mem_of_getElem? (i := 1) rfl))) (mvT hZ (hw _ (List.mem_of_getElem? (i := 2) rfl))) (mvT hZ (hw _ (List.mem_of_getElem? (i := 3) rfl))) (mvT hZ (hw _ (List.mem_of_getElem? (i := 4) rfl))) (by decide) (backOf (W := 0) (rm1 l Z a0 hw [] (1 : Int32) (bb &&& (2147483647 : Int32)) h0 n0 Z0 ) hZ (hw _ (List.mem_of_getElem? (i := 4) rfl)) (hw _ (List.mem_of_getElem? (i := 3) rfl)) (by decide) (by decide)) (g := (mkF m 56 #[.val (.int aa), .val (.int bb), .val (.int cc), .val (.int (r1_v (1 : Int32) (aa &&& (2147483647 : Int32)))), .val (.int (cc &&& (3 : Int32))), .unset, .unset, .unset, .unset, .unset, .unset, .unset] [(.int (bb &&& (2147483647 : Int32))), (.int (1 : Int32))])) rfl (by rw [hml]; rfl) (argsL := [(.int (1 : Int32)), (.int (bb &&& (2147483647 : Int32)))]) (rest := []) (lenOf pd_2 rfl) rfl (by show 2 * 0 + _ ≤ _; exact Nat.le_of_eq rfl) (hb hby at_56) (fun _ _ => ⟨rfl, e1, (by decide : 0 + 0 ≤ _), (by decide : 0 + 0 ≤ _)⟩)
        dsimp only [Pt.U, Pt.locs, Pt.cells, Pt.slots] at X12 l12 y12 z12 st12 hQ12
        subst l12 y12 z12
        obtain ⟨rfl, N12q, e12⟩ := hQ12
        have N12 := Fr.app N1 N12q
        have pre13 : ∀ t, Steps p.tables e below (T12.setTop (mkF m 61 #[.val (.int aa), .val (.int bb), .val (.int cc), .val (.int (r1_v (1 : Int32) (aa &&& (2147483647 : Int32)))), .val (.int (cc &&& (3 : Int32))), .val (.int (r1_v (1 : Int32) (bb &&& (2147483647 : Int32)))), .unset, .unset, .unset, .unset, .unset, .unset] [])) t → Steps p.tables e below (s₁.setTop (entryFrame m #[(.int aa), (.int bb), (.int cc)] maxLocals)) t := by
          intro t k
          refine pre6 _ ?_
          show Steps p.tables e below (T1.setTop (mkF m 28 #[.val (.int aa), .val (.int bb), .val (.int cc), .val (.int (r1_v (1 : Int32) (aa &&& (2147483647 : Int32)))), .val (.int (cc &&& (3 : Int32))), .unset, .unset, .unset, .unset, .unset, .unset, .unset] [(.int (1 : Int32)), (.int (cc &&& (3 : Int32)))])) _
          refine XS.icmpYes X1.here hx rfl (pc0 := 28) (pc' := 51) rfl (hb hby at_28) rfl (feq hk7).2 (by decide) (by decide) ?_
          show Steps p.tables e below (T1.setTop (mkF m 51 #[.val (.int aa), .val (.int bb), .val (.int cc), .val (.int (r1_v (1 : Int32) (aa &&& (2147483647 : Int32)))), .val (.int (cc &&& (3 : Int32))), .unset, .unset, .unset, .unset, .unset, .unset, .unset] [])) _
          refine XS.iconst X1.here hx rfl (hb hby at_51) ?_
          show Steps p.tables e below (T1.setTop (mkF m 52 #[.val (.int aa), .val (.int bb), .val (.int cc), .val (.int (r1_v (1 : Int32) (aa &&& (2147483647 : Int32)))), .val (.int (cc &&& (3 : Int32))), .unset, .unset, .unset, .unset, .unset, .unset, .unset] [(.int (1 : Int32))])) _
          refine XS.iloadN X1.here hx rfl (hb hby at_52) rfl ?_
          show Steps p.tables e below (T1.setTop (mkF m 53 #[.val (.int aa), .val (.int bb), .val (.int cc), .val (.int (r1_v (1 : Int32) (aa &&& (2147483647 : Int32)))), .val (.int (cc &&& (3 : Int32))), .unset, .unset, .unset, .unset, .unset, .unset, .unset] [(.int bb), (.int (1 : Int32))])) _
          refine X1.ldcInt hx hown (mvT hZ (hw _ (List.mem_of_getElem? (i := 0) rfl))) (g := (mkF m 53 #[.val (.int aa), .val (.int bb), .val (.int cc), .val (.int (r1_v (1 : Int32) (aa &&& (2147483647 : Int32)))), .val (.int (cc &&& (3 : Int32))), .unset, .unset, .unset, .unset, .unset, .unset, .unset] [(.int bb), (.int (1 : Int32))])) rfl (hb hby at_53) _ ?_
          show Steps p.tables e below (T1.setTop (mkF m 55 #[.val (.int aa), .val (.int bb), .val (.int cc), .val (.int (r1_v (1 : Int32) (aa &&& (2147483647 : Int32)))), .val (.int (cc &&& (3 : Int32))), .unset, .unset, .unset, .unset, .unset, .unset, .unset] [(.int (2147483647 : Int32)), (.int bb), (.int (1 : Int32))])) _
          refine XS.iand X1.here hx rfl (hb hby at_55) rfl ?_
          show Steps p.tables e below (T1.setTop (mkF m 56 #[.val (.int aa), .val (.int bb), .val (.int cc), .val (.int (r1_v (1 : Int32) (aa &&& (2147483647 : Int32)))), .val (.int (cc &&& (3 : Int32))), .unset, .unset, .unset, .unset, .unset, .unset, .unset] [(.int (bb &&& (2147483647 : Int32))), (.int (1 : Int32))])) _
          refine st12 _ ?_
          show Steps p.tables e below (T12.setTop (mkF m 59 #[.val (.int aa), .val (.int bb), .val (.int cc), .val (.int (r1_v (1 : Int32) (aa &&& (2147483647 : Int32)))), .val (.int (cc &&& (3 : Int32))), .unset, .unset, .unset, .unset, .unset, .unset, .unset] [(.int (r1_v (1 : Int32) (bb &&& (2147483647 : Int32))))])) _
          refine XS.istore X12.here hx rfl (hb hby at_59) rfl (l' := #[.val (.int aa), .val (.int bb), .val (.int cc), .val (.int (r1_v (1 : Int32) (aa &&& (2147483647 : Int32)))), .val (.int (cc &&& (3 : Int32))), .val (.int (r1_v (1 : Int32) (bb &&& (2147483647 : Int32)))), .unset, .unset, .unset, .unset, .unset, .unset]) rfl ?_
          exact k
        have ev17 : (j0_14_l5 aa bb cc) = (r1_v (1 : Int32) (bb &&& (2147483647 : Int32))) := by unfold j0_14_l5; rw [if_neg hk4, if_neg hk7]
        exact ⟨_, _, X12, e12, N12, fun t k => pre13 _ (by rw [ev17] at k; exact k)⟩
  obtain ⟨T19, h19, X19, e19, E19, A19, D19, -, st19⟩ := newO X18 hx hZ hown (hw _ (List.mem_of_getElem? (i := 5) rfl)) (hw _ (List.mem_of_getElem? (i := 6) rfl)) (hw _ (List.mem_of_getElem? (i := 7) rfl)) e18 (g := (mkF m 61 #[.val (.int aa), .val (.int bb), .val (.int cc), .val (.int (r1_v (1 : Int32) (aa &&& (2147483647 : Int32)))), .val (.int (cc &&& (3 : Int32))), .val (.int (j0_14_l5 aa bb cc)), .unset, .unset, .unset, .unset, .unset, .unset] [])) rfl (hb hby at_61) (by decide) (by decide)
  obtain ⟨b19, g19⟩ : ∃ z, z = h0.size := ⟨_, rfl⟩
  rw [← g19] at A19 D19 st19
  have ne20 : rc ≠ b19 := Nat.ne_of_lt (Nat.lt_of_lt_of_le A_rc.lt (Nat.le_of_eq g19.symm))
  have ne21 : rx ≠ b19 := Nat.ne_of_lt (Nat.lt_of_lt_of_le E_rx.lt (Nat.le_of_eq g19.symm))
  have gg19 : n0 ≤ b19 := Nat.le_trans Z0 (Nat.le_of_eq g19.symm)
  have f22 : Sta Z h19 "java/lang/Integer$IntegerCache" "high" "I" (.int (127 : Int32)) := S_high.ext E19
  have f23 : Sta Z h19 "java/lang/Integer$IntegerCache" "cache" "[Ljava/lang/Integer;" (.ref rc) := S_cache.ext E19
  have f24 : AF Z h19 rc (.object "java/lang/Integer") 256 gv := A_rc.ext E19
  have f25 : Exa Z h19 rx "java/lang/Integer" := E_rx.ext E19
  have Z19 : n0 ≤ h19.size := Nat.le_trans Z0 E19.1
  have f26 : Fld Z h19 b19 "com/example/partlint/partlint/model/ApiLevel" "value" "I" (.int (0 : Int32)) := D19 (Or.inr (hw _ (List.mem_of_getElem? (i := 20) rfl))) (ty := .int) (by decide)
  obtain ⟨_, _, ⟨T27, L27, k27, n27⟩, -, X27, ⟨Lc27, hQ27, l27, y27, z27⟩, st27⟩ := X19.specialBack hx (y := (⟨"com/example/partlint/partlint/model/ApiLevel", "<init>", "(I)V"⟩ : MethodName)) rfl hown (mvT hZ (hw _ (List.mem_of_getElem? (i := 8) rfl))) (mvT hZ (hw _ (List.mem_of_getElem? (i := 9) rfl))) (mvT hZ (hw _ (List.mem_of_getElem? (i := 10) rfl))) (by decide) (backOf (W := 1) (rm2 l Z a0 hw [] b19 (r1_v (1 : Int32) (aa &&& (2147483647 : Int32))) (0 : Int32) h19 n0 Z19 (own_va aa) A19 f26 gg19) hZ (hw _ (List.mem_of_getElem? (i := 10) rfl)) (hw _ (List.mem_of_getElem? (i := 7) rfl)) (by decide) (by decide)) (g := (mkF m 66 #[.val (.int aa), .val (.int bb), .val (.int cc), .val (.int (r1_v (1 : Int32) (aa &&& (2147483647 : Int32)))), .val (.int (cc &&& (3 : Int32))), .val (.int (j0_14_l5 aa bb cc)), .unset, .unset, .unset, .unset, .unset, .unset] [(.int (r1_v (1 : Int32) (aa &&& (2147483647 : Int32)))), (.ref b19), (.ref b19)])) rfl (by rw [hml]; rfl) (Steps.refl _) (a := b19) (argsL := [(.int (r1_v (1 : Int32) (aa &&& (2147483647 : Int32))))]) (rest := [(.ref b19)]) (lenOf pd_1 rfl) rfl (by show 2 * 0 + _ ≤ _; exact Nat.le_of_eq rfl) (hb hby at_66) (fun _ _ => ⟨rfl, e19, (by decide : 1 + 0 ≤ _), (by decide : 1 + 0 ≤ _)⟩)
  dsimp only [Pt.U, Pt.locs, Pt.cells, Pt.slots] at X27 l27 y27 z27 st27 hQ27
  subst l27 y27 z27
  obtain ⟨rfl, N27q, K27c, f28⟩ := hQ27
  have N27 := Fr.app N18 N27q
  have f29 : Sta Z T27.heap "java/lang/Integer$IntegerCache" "high" "I" (.int (127 : Int32)) := own_sta f22 K27c (allS (own_exaP A19) all0)
  have f30 : Sta Z T27.heap "java/lang/Integer$IntegerCache" "cache" "[Ljava/lang/Integer;" (.ref rc) := own_sta f23 K27c (allS (own_exaP A19) all0)
  have f31 : AF Z T27.heap rc (.object "java/lang/Integer") 256 gv := f24.keep K27c (ninS ne20 nin0)
  have f32 : Exa Z T27.heap rx "java/lang/Integer" := f25.keep K27c
  have f33 : Exa Z T27.heap b19 "com/example/partlint/partlint/model/ApiLevel" := A19.keep K27c
  have Z27 : n0 ≤ T27.heap.size := Nat.le_trans Z19 K27c.1
  obtain ⟨T34, h34, X34, e34, E34, A34, D34, -, st34⟩ := newO X27 hx hZ hown (hw _ (List.mem_of_getElem? (i := 5) rfl)) (hw _ (List.mem_of_getElem? (i := 6) rfl)) (hw _ (List.mem_of_getElem? (i := 7) rfl)) rfl (g := (mkF m 71 #[.val (.int aa), .val (.int bb), .val (.int cc), .val (.int (r1_v (1 : Int32) (aa &&& (2147483647 : Int32)))), .val (.int (cc &&& (3 : Int32))), .val (.int (j0_14_l5 aa bb cc)), .val (.ref b19), .unset, .unset, .unset, .unset, .unset] [])) rfl (hb hby at_71) (by decide) (by decide)
  obtain ⟨b34, g34⟩ : ∃ z, z = T27.heap.size := ⟨_, rfl⟩
  rw [← g34] at A34 D34 st34
  have ne35 : b19 ≠ b34 := Nat.ne_of_lt (Nat.lt_of_lt_of_le f33.lt (Nat.le_of_eq g34.symm))
  have ne36 : rc ≠ b34 := Nat.ne_of_lt (Nat.lt_of_lt_of_le f31.lt (Nat.le_of_eq g34.symm))
  have ne37 : rx ≠ b34 := Nat.ne_of_lt (Nat.lt_of_lt_of_le f32.lt (Nat.le_of_eq g34.symm))
  have gg34 : n0 ≤ b34 := Nat.le_trans Z27 (Nat.le_of_eq g34.symm)
  have f38 : Sta Z h34 "java/lang/Integer$IntegerCache" "high" "I" (.int (127 : Int32)) := f29.ext E34
  have f39 : Sta Z h34 "java/lang/Integer$IntegerCache" "cache" "[Ljava/lang/Integer;" (.ref rc) := f30.ext E34
  have f40 : AF Z h34 rc (.object "java/lang/Integer") 256 gv := f31.ext E34
  have f41 : Exa Z h34 rx "java/lang/Integer" := f32.ext E34
  have f42 : Exa Z h34 b19 "com/example/partlint/partlint/model/ApiLevel" := f33.ext E34
  have f43 : Fld Z h34 b19 "com/example/partlint/partlint/model/ApiLevel" "value" "I" (.int (r1_v (1 : Int32) (aa &&& (2147483647 : Int32)))) := f28.ext E34
  have Z34 : n0 ≤ h34.size := Nat.le_trans Z27 E34.1
  have f44 : Fld Z h34 b34 "com/example/partlint/partlint/model/ApiLevel" "value" "I" (.int (0 : Int32)) := D34 (Or.inr (hw _ (List.mem_of_getElem? (i := 20) rfl))) (ty := .int) (by decide)
  obtain ⟨_, _, ⟨T45, L45, k45, n45⟩, -, X45, ⟨Lc45, hQ45, l45, y45, z45⟩, st45⟩ := X34.specialBack hx (y := (⟨"com/example/partlint/partlint/model/ApiLevel", "<init>", "(I)V"⟩ : MethodName)) rfl hown (mvT hZ (hw _ (List.mem_of_getElem? (i := 8) rfl))) (mvT hZ (hw _ (List.mem_of_getElem? (i := 9) rfl))) (mvT hZ (hw _ (List.mem_of_getElem? (i := 10) rfl))) (by decide) (backOf (W := 1) (rm2 l Z a0 hw [] b34 (j0_14_l5 aa bb cc) (0 : Int32) h34 n0 Z34 (own_vb aa bb cc) A34 f44 gg34) hZ (hw _ (List.mem_of_getElem? (i := 10) rfl)) (hw _ (List.mem_of_getElem? (i := 7) rfl)) (by decide) (by decide)) (g := (mkF m 77 #[.val (.int aa), .val (.int bb), .val (.int cc), .val (.int (r1_v (1 : Int32) (aa &&& (2147483647 : Int32)))), .val (.int (cc &&& (3 : Int32))), .val (.int (j0_14_l5 aa bb cc)), .val (.ref b19), .unset, .unset, .unset, .unset, .unset] [(.int (j0_14_l5 aa bb cc)), (.ref b34), (.ref b34)])) rfl (by rw [hml]; rfl) (Steps.refl _) (a := b34) (argsL := [(.int (j0_14_l5 aa bb cc))]) (rest := [(.ref b34)]) (lenOf pd_1 rfl) rfl (by show 2 * 0 + _ ≤ _; exact Nat.le_of_eq rfl) (hb hby at_77) (fun _ _ => ⟨rfl, e34, (by decide : 2 + 0 ≤ _), (by decide : 2 + 0 ≤ _)⟩)
  dsimp only [Pt.U, Pt.locs, Pt.cells, Pt.slots] at X45 l45 y45 z45 st45 hQ45
  subst l45 y45 z45
  obtain ⟨rfl, N45q, K45c, f46⟩ := hQ45
  have N45 := Fr.app N27 N45q
  have f47 : Sta Z T45.heap "java/lang/Integer$IntegerCache" "high" "I" (.int (127 : Int32)) := own_sta f38 K45c (allS (own_exaP A34) all0)
  have f48 : Sta Z T45.heap "java/lang/Integer$IntegerCache" "cache" "[Ljava/lang/Integer;" (.ref rc) := own_sta f39 K45c (allS (own_exaP A34) all0)
  have f49 : AF Z T45.heap rc (.object "java/lang/Integer") 256 gv := f40.keep K45c (ninS ne36 nin0)
  have f50 : Exa Z T45.heap rx "java/lang/Integer" := f41.keep K45c
  have f51 : Exa Z T45.heap b19 "com/example/partlint/partlint/model/ApiLevel" := f42.keep K45c
  have f52 : Fld Z T45.heap b19 "com/example/partlint/partlint/model/ApiLevel" "value" "I" (.int (r1_v (1 : Int32) (aa &&& (2147483647 : Int32)))) := f43.keep K45c (ninS ne35 nin0)
  have f53 : Exa Z T45.heap b34 "com/example/partlint/partlint/model/ApiLevel" := A34.keep K45c
  have Z45 : n0 ≤ T45.heap.size := Nat.le_trans Z34 K45c.1
  obtain ⟨T54, h54, X54, e54, E54, A54, D54, -, st54⟩ := newO X45 hx hZ hown (hw _ (List.mem_of_getElem? (i := 5) rfl)) (hw _ (List.mem_of_getElem? (i := 6) rfl)) (hw _ (List.mem_of_getElem? (i := 7) rfl)) rfl (g := (mkF m 82 #[.val (.int aa), .val (.int bb), .val (.int cc), .val (.int (r1_v (1 : Int32) (aa &&& (2147483647 : Int32)))), .val (.int (cc &&& (3 : Int32))), .val (.int (j0_14_l5 aa bb cc)), .val (.ref b19), .val (.ref b34), .unset, .unset, .unset, .unset] [])) rfl (hb hby at_82) (by decide) (by decide)
  obtain ⟨b54, g54⟩ : ∃ z, z = T45.heap.size := ⟨_, rfl⟩
  rw [← g54] at A54 D54 st54
  have ne55 : b19 ≠ b54 := Nat.ne_of_lt (Nat.lt_of_lt_of_le f51.lt (Nat.le_of_eq g54.symm))
  have ne56 : b34 ≠ b54 := Nat.ne_of_lt (Nat.lt_of_lt_of_le f53.lt (Nat.le_of_eq g54.symm))
  have ne57 : rc ≠ b54 := Nat.ne_of_lt (Nat.lt_of_lt_of_le f49.lt (Nat.le_of_eq g54.symm))
  have ne58 : rx ≠ b54 := Nat.ne_of_lt (Nat.lt_of_lt_of_le f50.lt (Nat.le_of_eq g54.symm))
  have gg54 : n0 ≤ b54 := Nat.le_trans Z45 (Nat.le_of_eq g54.symm)
  have f59 : Sta Z h54 "java/lang/Integer$IntegerCache" "high" "I" (.int (127 : Int32)) := f47.ext E54
  have f60 : Sta Z h54 "java/lang/Integer$IntegerCache" "cache" "[Ljava/lang/Integer;" (.ref rc) := f48.ext E54
  have f61 : AF Z h54 rc (.object "java/lang/Integer") 256 gv := f49.ext E54
  have f62 : Exa Z h54 rx "java/lang/Integer" := f50.ext E54
  have f63 : Exa Z h54 b19 "com/example/partlint/partlint/model/ApiLevel" := f51.ext E54
  have f64 : Fld Z h54 b19 "com/example/partlint/partlint/model/ApiLevel" "value" "I" (.int (r1_v (1 : Int32) (aa &&& (2147483647 : Int32)))) := f52.ext E54
  have f65 : Exa Z h54 b34 "com/example/partlint/partlint/model/ApiLevel" := f53.ext E54
  have f66 : Fld Z h54 b34 "com/example/partlint/partlint/model/ApiLevel" "value" "I" (.int (j0_14_l5 aa bb cc)) := f46.ext E54
  have Z54 : n0 ≤ h54.size := Nat.le_trans Z45 E54.1
  have f67 : Fld Z h54 b54 "com/example/partlint/partlint/model/ApiLevel" "value" "I" (.int (0 : Int32)) := D54 (Or.inr (hw _ (List.mem_of_getElem? (i := 20) rfl))) (ty := .int) (by decide)
  obtain ⟨_, _, ⟨T68, L68, k68, n68⟩, -, X68, ⟨Lc68, hQ68, l68, y68, z68⟩, st68⟩ := X54.specialBack hx (y := (⟨"com/example/partlint/partlint/model/ApiLevel", "<init>", "(I)V"⟩ : MethodName)) rfl hown (mvT hZ (hw _ (List.mem_of_getElem? (i := 8) rfl))) (mvT hZ (hw _ (List.mem_of_getElem? (i := 9) rfl))) (mvT hZ (hw _ (List.mem_of_getElem? (i := 10) rfl))) (by decide) (backOf (W := 1) (rm2 l Z a0 hw [] b54 (r1_v (1 : Int32) (aa &&& (2147483647 : Int32))) (0 : Int32) h54 n0 Z54 (own_va aa) A54 f67 gg54) hZ (hw _ (List.mem_of_getElem? (i := 10) rfl)) (hw _ (List.mem_of_getElem? (i := 7) rfl)) (by decide) (by decide)) (g := (mkF m 87 #[.val (.int aa), .val (.int bb), .val (.int cc), .val (.int (r1_v (1 : Int32) (aa &&& (2147483647 : Int32)))), .val (.int (cc &&& (3 : Int32))), .val (.int (j0_14_l5 aa bb cc)), .val (.ref b19), .val (.ref b34), .unset, .unset, .unset, .unset] [(.int (r1_v (1 : Int32) (aa &&& (2147483647 : Int32)))), (.ref b54), (.ref b54)])) rfl (by rw [hml]; rfl) (Steps.refl _) (a := b54) (argsL := [(.int (r1_v (1 : Int32) (aa &&& (2147483647 : Int32))))]) (rest := [(.ref b54)]) (lenOf pd_1 rfl) rfl (by show 2 * 0 + _ ≤ _; exact Nat.le_of_eq rfl) (hb hby at_87) (fun _ _ => ⟨rfl, e54, (by decide : 3 + 0 ≤ _), (by decide : 3 + 0 ≤ _)⟩)
  dsimp only [Pt.U, Pt.locs, Pt.cells, Pt.slots] at X68 l68 y68 z68 st68 hQ68
  subst l68 y68 z68
  obtain ⟨rfl, N68q, K68c, f69⟩ := hQ68
  have N68 := Fr.app N45 N68q
  have f70 : Sta Z T68.heap "java/lang/Integer$IntegerCache" "high" "I" (.int (127 : Int32)) := own_sta f59 K68c (allS (own_exaP A54) all0)
  have f71 : Sta Z T68.heap "java/lang/Integer$IntegerCache" "cache" "[Ljava/lang/Integer;" (.ref rc) := own_sta f60 K68c (allS (own_exaP A54) all0)
  have f72 : AF Z T68.heap rc (.object "java/lang/Integer") 256 gv := f61.keep K68c (ninS ne57 nin0)
  have f73 : Exa Z T68.heap rx "java/lang/Integer" := f62.keep K68c
  have f74 : Exa Z T68.heap b19 "com/example/partlint/partlint/model/ApiLevel" := f63.keep K68c
  have f75 : Fld Z T68.heap b19 "com/example/partlint/partlint/model/ApiLevel" "value" "I" (.int (r1_v (1 : Int32) (aa &&& (2147483647 : Int32)))) := f64.keep K68c (ninS ne55 nin0)
  have f76 : Exa Z T68.heap b34 "com/example/partlint/partlint/model/ApiLevel" := f65.keep K68c
  have f77 : Fld Z T68.heap b34 "com/example/partlint/partlint/model/ApiLevel" "value" "I" (.int (j0_14_l5 aa bb cc)) := f66.keep K68c (ninS ne56 nin0)
  have f78 : Exa Z T68.heap b54 "com/example/partlint/partlint/model/ApiLevel" := A54.keep K68c
  have Z68 : n0 ≤ T68.heap.size := Nat.le_trans Z54 K68c.1
  have pre79 : ∀ t, Steps p.tables e below (T68.setTop (mkF m 96 #[.val (.int aa), .val (.int bb), .val (.int cc), .val (.int (r1_v (1 : Int32) (aa &&& (2147483647 : Int32)))), .val (.int (cc &&& (3 : Int32))), .val (.int (j0_14_l5 aa bb cc)), .val (.ref b19), .val (.ref b34), .val (.ref b54), .val .null, .unset, .unset] [(.int (r1_v (1 : Int32) (aa &&& (2147483647 : Int32))))])) t → Steps p.tables e below (s₁.setTop (entryFrame m #[(.int aa), (.int bb), (.int cc)] maxLocals)) t := by
    intro t k
    refine pre18 _ ?_
    show Steps p.tables e below (T18.setTop (mkF m 61 #[.val (.int aa), .val (.int bb), .val (.int cc), .val (.int (r1_v (1 : Int32) (aa &&& (2147483647 : Int32)))), .val (.int (cc &&& (3 : Int32))), .val (.int (j0_14_l5 aa bb cc)), .unset, .unset, .unset, .unset, .unset, .unset] [])) _
    refine st19 _ ?_
    show Steps p.tables e below (T19.setTop (mkF m 64 #[.val (.int aa), .val (.int bb), .val (.int cc), .val (.int (r1_v (1 : Int32) (aa &&& (2147483647 : Int32)))), .val (.int (cc &&& (3 : Int32))), .val (.int (j0_14_l5 aa bb cc)), .unset, .unset, .unset, .unset, .unset, .unset] [(.ref b19)])) _
    refine XS.dup X19.here hx rfl (hb hby at_64) rfl rfl ?_
    show Steps p.tables e below (T19.setTop (mkF m 65 #[.val (.int aa), .val (.int bb), .val (.int cc), .val (.int (r1_v (1 : Int32) (aa &&& (2147483647 : Int32)))), .val (.int (cc &&& (3 : Int32))), .val (.int (j0_14_l5 aa bb cc)), .unset, .unset, .unset, .unset, .unset, .unset] [(.ref b19), (.ref b19)])) _
    refine XS.iloadN X19.here hx rfl (hb hby at_65) rfl ?_
    show Steps p.tables e below (T19.setTop (mkF m 66 #[.val (.int aa), .val (.int bb), .val (.int cc), .val (.int (r1_v (1 : Int32) (aa &&& (2147483647 : Int32)))), .val (.int (cc &&& (3 : Int32))), .val (.int (j0_14_l5 aa bb cc)), .unset, .unset, .unset, .unset, .unset, .unset] [(.int (r1_v (1 : Int32) (aa &&& (2147483647 : Int32)))), (.ref b19), (.ref b19)])) _
    refine st27.trans ?_
    show Steps p.tables e below (T27.setTop (mkF m 69 #[.val (.int aa), .val (.int bb), .val (.int cc), .val (.int (r1_v (1 : Int32) (aa &&& (2147483647 : Int32)))), .val (.int (cc &&& (3 : Int32))), .val (.int (j0_14_l5 aa bb cc)), .unset, .unset, .unset, .unset, .unset, .unset] [(.ref b19)])) _
    refine XS.astore X27.here hx rfl (hb hby at_69) rfl rfl (l' := #[.val (.int aa), .val (.int bb), .val (.int cc), .val (.int (r1_v (1 : Int32) (aa &&& (2147483647 : Int32)))), .val (.int (cc &&& (3 : Int32))), .val (.int (j0_14_l5 aa bb cc)), .val (.ref b19), .unset, .unset, .unset, .unset, .unset]) rfl ?_
    show Steps p.tables e below (T27.setTop (mkF m 71 #[.val (.int aa), .val (.int bb), .val (.int cc), .val (.int (r1_v (1 : Int32) (aa &&& (2147483647 : Int32)))), .val (.int (cc &&& (3 : Int32))), .val (.int (j0_14_l5 aa bb cc)), .val (.ref b19), .unset, .unset, .unset, .unset, .unset] [])) _
    refine st34 _ ?_
    show Steps p.tables e below (T34.setTop (mkF m 74 #[.val (.int aa), .val (.int bb), .val (.int cc), .val (.int (r1_v (1 : Int32) (aa &&& (2147483647 : Int32)))), .val (.int (cc &&& (3 : Int32))), .val (.int (j0_14_l5 aa bb cc)), .val (.ref b19), .unset, .unset, .unset, .unset, .unset] [(.ref b34)])) _
    refine XS.dup X34.here hx rfl (hb hby at_74) rfl rfl ?_
    show Steps p.tables e below (T34.setTop (mkF m 75 #[.val (.int aa), .val (.int bb), .val (.int cc), .val (.int (r1_v (1 : Int32) (aa &&& (2147483647 : Int32)))), .val (.int (cc &&& (3 : Int32))), .val (.int (j0_14_l5 aa bb cc)), .val (.ref b19), .unset, .unset, .unset, .unset, .unset] [(.ref b34), (.ref b34)])) _
    refine XS.iload X34.here hx rfl (hb hby at_75) rfl ?_
    show Steps p.tables e below (T34.setTop (mkF m 77 #[.val (.int aa), .val (.int bb), .val (.int cc), .val (.int (r1_v (1 : Int32) (aa &&& (2147483647 : Int32)))), .val (.int (cc &&& (3 : Int32))), .val (.int (j0_14_l5 aa bb cc)), .val (.ref b19), .unset, .unset, .unset, .unset, .unset] [(.int (j0_14_l5 aa bb cc)), (.ref b34), (.ref b34)])) _
    refine st45.trans ?_
    show Steps p.tables e below (T45.setTop (mkF m 80 #[.val (.int aa), .val (.int bb), .val (.int cc), .val (.int (r1_v (1 : Int32) (aa &&& (2147483647 : Int32)))), .val (.int (cc &&& (3 : Int32))), .val (.int (j0_14_l5 aa bb cc)), .val (.ref b19), .unset, .unset, .unset, .unset, .unset] [(.ref b34)])) _
    refine XS.astore X45.here hx rfl (hb hby at_80) rfl rfl (l' := #[.val (.int aa), .val (.int bb), .val (.int cc), .val (.int (r1_v (1 : Int32) (aa &&& (2147483647 : Int32)))), .val (.int (cc &&& (3 : Int32))), .val (.int (j0_14_l5 aa bb cc)), .val (.ref b19), .val (.ref b34), .unset, .unset, .unset, .unset]) rfl ?_
    show Steps p.tables e below (T45.setTop (mkF m 82 #[.val (.int aa), .val (.int bb), .val (.int cc), .val (.int (r1_v (1 : Int32) (aa &&& (2147483647 : Int32)))), .val (.int (cc &&& (3 : Int32))), .val (.int (j0_14_l5 aa bb cc)), .val (.ref b19), .val (.ref b34), .unset, .unset, .unset, .unset] [])) _
    refine st54 _ ?_
    show Steps p.tables e below (T54.setTop (mkF m 85 #[.val (.int aa), .val (.int bb), .val (.int cc), .val (.int (r1_v (1 : Int32) (aa &&& (2147483647 : Int32)))), .val (.int (cc &&& (3 : Int32))), .val (.int (j0_14_l5 aa bb cc)), .val (.ref b19), .val (.ref b34), .unset, .unset, .unset, .unset] [(.ref b54)])) _
    refine XS.dup X54.here hx rfl (hb hby at_85) rfl rfl ?_
    show Steps p.tables e below (T54.setTop (mkF m 86 #[.val (.int aa), .val (.int bb), .val (.int cc), .val (.int (r1_v (1 : Int32) (aa &&& (2147483647 : Int32)))), .val (.int (cc &&& (3 : Int32))), .val (.int (j0_14_l5 aa bb cc)), .val (.ref b19), .val (.ref b34), .unset, .unset, .unset, .unset] [(.ref b54), (.ref b54)])) _
    refine XS.iloadN X54.here hx rfl (hb hby at_86) rfl ?_
    show Steps p.tables e below (T54.setTop (mkF m 87 #[.val (.int aa), .val (.int bb), .val (.int cc), .val (.int (r1_v (1 : Int32) (aa &&& (2147483647 : Int32)))), .val (.int (cc &&& (3 : Int32))), .val (.int (j0_14_l5 aa bb cc)), .val (.ref b19), .val (.ref b34), .unset, .unset, .unset, .unset] [(.int (r1_v (1 : Int32) (aa &&& (2147483647 : Int32)))), (.ref b54), (.ref b54)])) _
    refine st68.trans ?_
    show Steps p.tables e below (T68.setTop (mkF m 90 #[.val (.int aa), .val (.int bb), .val (.int cc), .val (.int (r1_v (1 : Int32) (aa &&& (2147483647 : Int32)))), .val (.int (cc &&& (3 : Int32))), .val (.int (j0_14_l5 aa bb cc)), .val (.ref b19), .val (.ref b34), .unset, .unset, .unset, .unset] [(.ref b54)])) _
    refine XS.astore X68.here hx rfl (hb hby at_90) rfl rfl (l' := #[.val (.int aa), .val (.int bb), .val (.int cc), .val (.int (r1_v (1 : Int32) (aa &&& (2147483647 : Int32)))), .val (.int (cc &&& (3 : Int32))), .val (.int (j0_14_l5 aa bb cc)), .val (.ref b19), .val (.ref b34), .val (.ref b54), .unset, .unset, .unset]) rfl ?_
    show Steps p.tables e below (T68.setTop (mkF m 92 #[.val (.int aa), .val (.int bb), .val (.int cc), .val (.int (r1_v (1 : Int32) (aa &&& (2147483647 : Int32)))), .val (.int (cc &&& (3 : Int32))), .val (.int (j0_14_l5 aa bb cc)), .val (.ref b19), .val (.ref b34), .val (.ref b54), .unset, .unset, .unset] [])) _
    refine XS.aconstNull X68.here hx rfl (hb hby at_92) ?_
    show Steps p.tables e below (T68.setTop (mkF m 93 #[.val (.int aa), .val (.int bb), .val (.int cc), .val (.int (r1_v (1 : Int32) (aa &&& (2147483647 : Int32)))), .val (.int (cc &&& (3 : Int32))), .val (.int (j0_14_l5 aa bb cc)), .val (.ref b19), .val (.ref b34), .val (.ref b54), .unset, .unset, .unset] [.null])) _
    refine XS.astore X68.here hx rfl (hb hby at_93) rfl rfl (l' := #[.val (.int aa), .val (.int bb), .val (.int cc), .val (.int (r1_v (1 : Int32) (aa &&& (2147483647 : Int32)))), .val (.int (cc &&& (3 : Int32))), .val (.int (j0_14_l5 aa bb cc)), .val (.ref b19), .val (.ref b34), .val (.ref b54), .val .null, .unset, .unset]) rfl ?_
    show Steps p.tables e below (T68.setTop (mkF m 95 #[.val (.int aa), .val (.int bb), .val (.int cc), .val (.int (r1_v (1 : Int32) (aa &&& (2147483647 : Int32)))), .val (.int (cc &&& (3 : Int32))), .val (.int (j0_14_l5 aa bb cc)), .val (.ref b19), .val (.ref b34), .val (.ref b54), .val .null, .unset, .unset] [])) _
    refine XS.iloadN X68.here hx rfl (hb hby at_95) rfl ?_
    exact k
  by_cases hk80 : (127 : Int32) < (r1_v (1 : Int32) (aa &&& (2147483647 : Int32)))
  · obtain ⟨_, _, ⟨T81, L81, k81, n81⟩, -, X81, ⟨Lc81, hQ81, l81, y81, z81⟩, st81⟩ := Jvm.LawKit.callS X68 hx (y := (⟨"java/lang/Integer", "valueOf", "(I)Ljava/lang/Integer;"⟩ : MethodName)) hown (mvT hZ (hw _ (List.mem_of_getElem? (i := 21) rfl))) (mvT hZ (hw _ (List.mem_of_getElem? (i := 22) rfl))) (mvT hZ (hw _ (List.mem_of_getElem? (i := 23) rfl))) (mvT hZ (hw _ (List.mem_of_getElem? (i := 24) rfl))) (by decide) (backOf (W := 0) (rm5n l Z a0 hw [] (r1_v (1 : Int32) (aa &&& (2147483647 : Int32))) T68.heap n0 Z68 f70 (own_m128 aa) (hk80)) hZ (hw _ (List.mem_of_getElem? (i := 24) rfl)) (hw _ (List.mem_of_getElem? (i := 23) rfl)) (by decide) (by decide)) (g := (mkF m 96 #[.val (.int aa), .val (.int bb), .val (.int cc), .val (.int (r1_v (1 : Int32) (aa &&& (2147483647 : Int32)))), .val (.int (cc &&& (3 : Int32))), .val (.int (j0_14_l5 aa bb cc)), .val (.ref b19), .val (.ref b34), .val (.ref b54), .val .null, .unset, .unset] [(.int (r1_v (1 : Int32) (aa &&& (2147483647 : Int32))))])) rfl (by rw [hml]; rfl) (argsL := [(.int (r1_v (1 : Int32) (aa &&& (2147483647 : Int32))))]) (rest := []) (lenOf pd_3 rfl) rfl (by show 2 * 0 + _ ≤ _; exact Nat.le_of_eq rfl) (hb hby at_96) (fun _ _ => ⟨rfl, rfl, (by decide : 3 + 1 ≤ _), (by decide : 3 + 1 ≤ _)⟩)
    dsimp only [Pt.U, Pt.locs, Pt.cells, Pt.slots] at X81 l81 y81 z81 st81 hQ81
    subst l81 y81 z81
    obtain ⟨b82, ggb82, szb82, rfl, N81q, K81c, f83, f84⟩ := hQ81
    have N81 := Fr.app N68 N81q
    have ne85 : b19 ≠ b82 := Nat.ne_of_lt (Nat.lt_of_lt_of_le f74.lt szb82)
    have ne86 : b34 ≠ b82 := Nat.ne_of_lt (Nat.lt_of_lt_of_le f76.lt szb82)
    have ne87 : b54 ≠ b82 := Nat.ne_of_lt (Nat.lt_of_lt_of_le f78.lt szb82)
    have ne88 : rc ≠ b82 := Nat.ne_of_lt (Nat.lt_of_lt_of_le f72.lt szb82)
    have ne89 : rx ≠ b82 := Nat.ne_of_lt (Nat.lt_of_lt_of_le f73.lt szb82)
    have f90 : Sta Z T81.heap "java/lang/Integer$IntegerCache" "high" "I" (.int (127 : Int32)) := own_sta f70 K81c all0
    have f91 : Sta Z T81.heap "java/lang/Integer$IntegerCache" "cache" "[Ljava/lang/Integer;" (.ref rc) := own_sta f71 K81c all0
    have f92 : AF Z T81.heap rc (.object "java/lang/Integer") 256 gv := f72.keep K81c nin0
    have f93 : Exa Z T81.heap rx "java/lang/Integer" := f73.keep K81c
    have f94 : Exa Z T81.heap b19 "com/example/partlint/partlint/model/ApiLevel" := f74.keep K81c
    have f95 : Fld Z T81.heap b19 "com/example/partlint/partlint/model/ApiLevel" "value" "I" (.int (r1_v (1 : Int32) (aa &&& (2147483647 : Int32)))) := f75.keep K81c nin0
    have f96 : Exa Z T81.heap b34 "com/example/partlint/partlint/model/ApiLevel" := f76.keep K81c
    have f97 : Fld Z T81.heap b34 "com/example/partlint/partlint/model/ApiLevel" "value" "I" (.int (j0_14_l5 aa bb cc)) := f77.keep K81c nin0
    have f98 : Exa Z T81.heap b54 "com/example/partlint/partlint/model/ApiLevel" := f78.keep K81c
    have f99 : Fld Z T81.heap b54 "com/example/partlint/partlint/model/ApiLevel" "value" "I" (.int (r1_v (1 : Int32) (aa &&& (2147483647 : Int32)))) := f69.keep K81c nin0
    have Z81 : n0 ≤ T81.heap.size := Nat.le_trans Z68 K81c.1
    have pre103 : ∀ t, Steps p.tables e below (T81.setTop (mkF m 101 #[.val (.int aa), .val (.int bb), .val (.int cc), .val (.int (r1_v (1 : Int32) (aa &&& (2147483647 : Int32)))), .val (.int (cc &&& (3 : Int32))), .val (.int (j0_14_l5 aa bb cc)), .val (.ref b19), .val (.ref b34), .val (.ref b54), .val .null, .val (.ref b82), .unset] [])) t → Steps p.tables e below (s₁.setTop (entryFrame m #[(.int aa), (.int bb), (.int cc)] maxLocals)) t := by
      intro t k
      refine pre79 _ ?_
      show Steps p.tables e below (T68.setTop (mkF m 96 #[.val (.int aa), .val (.int bb), .val (.int cc), .val (.int (r1_v (1 : Int32) (aa &&& (2147483647 : Int32)))), .val (.int (cc &&& (3 : Int32))), .val (.int (j0_14_l5 aa bb cc)), .val (.ref b19), .val (.ref b34), .val (.ref b54), .val .null, .unset, .unset] [(.int (r1_v (1 : Int32) (aa &&& (2147483647 : Int32))))])) _
      refine st81 _ ?_
      show Steps p.tables e below (T81.setTop (mkF m 99 #[.val (.int aa), .val (.int bb), .val (.int cc), .val (.int (r1_v (1 : Int32) (aa &&& (2147483647 : Int32)))), .val (.int (cc &&& (3 : Int32))), .val (.int (j0_14_l5 aa bb cc)), .val (.ref b19), .val (.ref b34), .val (.ref b54), .val .null, .unset, .unset] [(.ref b82)])) _
      refine XS.astore X81.here hx rfl (hb hby at_99) rfl rfl (l' := #[.val (.int aa), .val (.int bb), .val (.int cc), .val (.int (r1_v (1 : Int32) (aa &&& (2147483647 : Int32)))), .val (.int (cc &&& (3 : Int32))), .val (.int (j0_14_l5 aa bb cc)), .val (.ref b19), .val (.ref b34), .val (.ref b54), .val .null, .val (.ref b82), .unset]) rfl ?_
      exact k
    have pre104 : ∀ t, Steps p.tables e below (T81.setTop (mkF m 114 #[.val (.int aa), .val (.int bb), .val (.int cc), .val (.int (r1_v (1 : Int32) (aa &&& (2147483647 : Int32)))), .val (.int (cc &&& (3 : Int32))), .val (.int (j0_14_l5 aa bb cc)), .val (.ref b19), .val (.ref b34), .val (.ref b54), .val .null, .val (.ref b82), .val (.int (j0_101_l11 aa bb cc))] [])) t → Steps p.tables e below (s₁.setTop (entryFrame m #[(.int aa), (.int bb), (.int cc)] maxLocals)) t := by
      intro t k
      refine pre103 _ ?_
      show Steps p.tables e below (T81.setTop (mkF m 101 #[.val (.int aa), .val (.int bb), .val (.int cc), .val (.int (r1_v (1 : Int32) (aa &&& (2147483647 : Int32)))), .val (.int (cc &&& (3 : Int32))), .val (.int (j0_14_l5 aa bb cc)), .val (.ref b19), .val (.ref b34), .val (.ref b54), .val .null, .val (.ref b82), .unset] [])) _
      refine XS.iloadN X81.here hx rfl (hb hby at_101) rfl ?_
      show Steps p.tables e below (T81.setTop (mkF m 102 #[.val (.int aa), .val (.int bb), .val (.int cc), .val (.int (r1_v (1 : Int32) (aa &&& (2147483647 : Int32)))), .val (.int (cc &&& (3 : Int32))), .val (.int (j0_14_l5 aa bb cc)), .val (.ref b19), .val (.ref b34), .val (.ref b54), .val .null, .val (.ref b82), .unset] [(.int (r1_v (1 : Int32) (aa &&& (2147483647 : Int32))))])) _
      refine XS.iload X81.here hx rfl (hb hby at_102) rfl ?_
      by_cases hk100 : (r1_v (1 : Int32) (aa &&& (2147483647 : Int32))) = (j0_14_l5 aa bb cc)
      · show Steps p.tables e below (T81.setTop (mkF m 104 #[.val (.int aa), .val (.int bb), .val (.int cc), .val (.int (r1_v (1 : Int32) (aa &&& (2147483647 : Int32)))), .val (.int (cc &&& (3 : Int32))), .val (.int (j0_14_l5 aa bb cc)), .val (.ref b19), .val (.ref b34), .val (.ref b54), .val .null, .val (.ref b82), .unset] [(.int (j0_14_l5 aa bb cc)), (.int (r1_v (1 : Int32) (aa &&& (2147483647 : Int32))))])) _
        refine XS.icmpNo X81.here hx rfl (hb hby at_104) rfl (teq hk100).2 ?_
        show Steps p.tables e below (T81.setTop (mkF m 107 #[.val (.int aa), .val (.int bb), .val (.int cc), .val (.int (r1_v (1 : Int32) (aa &&& (2147483647 : Int32)))), .val (.int (cc &&& (3 : Int32))), .val (.int (j0_14_l5 aa bb cc)), .val (.ref b19), .val (.ref b34), .val (.ref b54), .val .null, .val (.ref b82), .unset] [])) _
        refine XS.iconst X81.here hx rfl (hb hby at_107) ?_
        show Steps p.tables e below (T81.setTop (mkF m 108 #[.val (.int aa), .val (.int bb), .val (.int cc), .val (.int (r1_v (1 : Int32) (aa &&& (2147483647 : Int32)))), .val (.int (cc &&& (3 : Int32))), .val (.int (j0_14_l5 aa bb cc)), .val (.ref b19), .val (.ref b34), .val (.ref b54), .val .null, .val (.ref b82), .unset] [(.int (1 : Int32))])) _
        refine XS.goto X81.here hx rfl (pc0 := 108) (pc' := 112) rfl (hb hby at_108) (by decide) (by decide) ?_
        show Steps p.tables e below (T81.setTop (mkF m 112 #[.val (.int aa), .val (.int bb), .val (.int cc), .val (.int (r1_v (1 : Int32) (aa &&& (2147483647 : Int32)))), .val (.int (cc &&& (3 : Int32))), .val (.int (j0_14_l5 aa bb cc)), .val (.ref b19), .val (.ref b34), .val (.ref b54), .val .null, .val (.ref b82), .unset] [(.int (1 : Int32))])) _
        refine XS.istore X81.here hx rfl (hb hby at_112) rfl (l' := #[.val (.int aa), .val (.int bb), .val (.int cc), .val (.int (r1_v (1 : Int32) (aa &&& (2147483647 : Int32)))), .val (.int (cc &&& (3 : Int32))), .val (.int (j0_14_l5 aa bb cc)), .val (.ref b19), .val (.ref b34), .val (.ref b54), .val .null, .val (.ref b82), .val (.int (1 : Int32))]) rfl ?_
        have ev101 : (j0_101_l11 aa bb cc) = (1 : Int32) := by unfold j0_101_l11; rw [if_pos hk100]
        rw [ev101] at k
        exact k
      · show Steps p.tables e below (T81.setTop (mkF m 104 #[.val (.int aa), .val (.int bb), .val (.int cc), .val (.int (r1_v (1 : Int32) (aa &&& (2147483647 : Int32)))), .val (.int (cc &&& (3 : Int32))), .val (.int (j0_14_l5 aa bb cc)), .val (.ref b19), .val (.ref b34), .val (.ref b54), .val .null, .val (.ref b82), .unset] [(.int (j0_14_l5 aa bb cc)), (.int (r1_v (1 : Int32) (aa &&& (2147483647 : Int32))))])) _
        refine XS.icmpYes X81.here hx rfl (pc0 := 104) (pc' := 111) rfl (hb hby at_104) rfl (feq hk100).2 (by decide) (by decide) ?_
        show Steps p.tables e below (T81.setTop (mkF m 111 #[.val (.int aa), .val (.int bb), .val (.int cc), .val (.int (r1_v (1 : Int32) (aa &&& (2147483647 : Int32)))), .val (.int (cc &&& (3 : Int32))), .val (.int (j0_14_l5 aa bb cc)), .val (.ref b19), .val (.ref b34), .val (.ref b54), .val .null, .val (.ref b82), .unset] [])) _
        refine XS.iconst X81.here hx rfl (hb hby at_111) ?_
        show Steps p.tables e below (T81.setTop (mkF m 112 #[.val (.int aa), .val (.int bb), .val (.int cc), .val (.int (r1_v (1 : Int32) (aa &&& (2147483647 : Int32)))), .val (.int (cc &&& (3 : Int32))), .val (.int (j0_14_l5 aa bb cc)), .val (.ref b19), .val (.ref b34), .val (.ref b54), .val .null, .val (.ref b82), .unset] [(.int (0 : Int32))])) _
        refine XS.istore X81.here hx rfl (hb hby at_112) rfl (l' := #[.val (.int aa), .val (.int bb), .val (.int cc), .val (.int (r1_v (1 : Int32) (aa &&& (2147483647 : Int32)))), .val (.int (cc &&& (3 : Int32))), .val (.int (j0_14_l5 aa bb cc)), .val (.ref b19), .val (.ref b34), .val (.ref b54), .val .null, .val (.ref b82), .val (.int (0 : Int32))]) rfl ?_
        have ev102 : (j0_101_l11 aa bb cc) = (0 : Int32) := by unfold j0_101_l11; rw [if_neg hk100]
        rw [ev102] at k
        exact k
    obtain ⟨cq105, kq105, q105a, q105b, q105c⟩ := isOf hZ rfl f94
    obtain ⟨_, _, ⟨T105, L105, k105, n105⟩, -, X105, ⟨Lc105, hQ105, l105, y105, z105⟩, st105⟩ := X81.virtualBack hx (y := (⟨"com/example/partlint/partlint/model/ApiLevel", "equals", "(Ljava/lang/Object;)Z"⟩ : MethodName)) (z := (⟨"com/example/partlint/partlint/model/ApiLevel", "equals", "(Ljava/lang/Object;)Z"⟩ : MethodName)) hown (mvT hZ (hw _ (List.mem_of_getElem? (i := 28) rfl))) (mvT hZ (hw _ (List.mem_of_getElem? (i := 29) rfl))) (notFace_of_selects (args := #[]) (mvT hZ (hw _ (List.mem_of_getElem? (i := 31) rfl)))) (mvT hZ (hw _ (List.mem_of_getElem? (i := 31) rfl))) (mvT hZ (hw _ (List.mem_of_getElem? (i := 30) rfl))) (by decide) (backOf (W := 0) (rm6 l Z a0 hw [] b19 b34 (j0_14_l5 aa bb cc) (r1_v (1 : Int32) (aa &&& (2147483647 : Int32))) T81.heap n0 Z81 f96 f97 f95) hZ (hw _ (List.mem_of_getElem? (i := 32) rfl)) (hw _ (List.mem_of_getElem? (i := 7) rfl)) (by decide) (by decide)) q105a q105c (g := (mkF m 118 #[.val (.int aa), .val (.int bb), .val (.int cc), .val (.int (r1_v (1 : Int32) (aa &&& (2147483647 : Int32)))), .val (.int (cc &&& (3 : Int32))), .val (.int (j0_14_l5 aa bb cc)), .val (.ref b19), .val (.ref b34), .val (.ref b54), .val .null, .val (.ref b82), .val (.int (j0_101_l11 aa bb cc))] [(.ref b34), (.ref b19)])) rfl (by rw [hml]; rfl) (Steps.refl _) (argsL := [(.ref b34)]) (rest := []) (lenOf pd_4 rfl) rfl (by show 2 * 0 + _ ≤ _; exact Nat.le_of_eq rfl) (hb hby at_118) (fun _ _ => ⟨rfl, rfl, (by decide : 4 + 0 ≤ _), (by decide : 4 + 0 ≤ _)⟩)
    dsimp only [Pt.U, Pt.locs, Pt.cells, Pt.slots] at X105 l105 y105 z105 st105 hQ105
    subst l105 y105 z105
    obtain ⟨rfl, N105q, e105⟩ := hQ105
    have N105 := Fr.app N81 N105q
    obtain ⟨cq106, kq106, q106a, q106b, q106c⟩ := isOf hZ e105 f96
    obtain ⟨_, _, ⟨T106, L106, k106, n106⟩, -, X106, ⟨Lc106, hQ106, l106, y106, z106⟩, st106⟩ := X105.virtualBack hx (y := (⟨"com/example/partlint/partlint/model/ApiLevel", "equals", "(Ljava/lang/Object;)Z"⟩ : MethodName)) (z := (⟨"com/example/partlint/partlint/model/ApiLevel", "equals", "(Ljava/lang/Object;)Z"⟩ : MethodName)) hown (mvT hZ (hw _ (List.mem_of_getElem? (i := 28) rfl))) (mvT hZ (hw _ (List.mem_of_getElem? (i := 29) rfl))) (notFace_of_selects (args := #[]) (mvT hZ (hw _ (List.mem_of_getElem? (i := 31) rfl)))) (mvT hZ (hw _ (List.mem_of_getElem? (i := 31) rfl))) (mvT hZ (hw _ (List.mem_of_getElem? (i := 30) rfl))) (by decide) (backOf (W := 0) (rm6 l Z a0 hw [] b34 b19 (r1_v (1 : Int32) (aa &&& (2147483647 : Int32))) (j0_14_l5 aa bb cc) T81.heap n0 Z81 f94 f95 f97) hZ (hw _ (List.mem_of_getElem? (i := 32) rfl)) (hw _ (List.mem_of_getElem? (i := 7) rfl)) (by decide) (by decide)) q106a q106c (g := (mkF m 130 #[.val (.int aa), .val (.int bb), .val (.int cc), .val (.int (r1_v (1 : Int32) (aa &&& (2147483647 : Int32)))), .val (.int (cc &&& (3 : Int32))), .val (.int (j0_14_l5 aa bb cc)), .val (.ref b19), .val (.ref b34), .val (.ref b54), .val .null, .val (.ref b82), .val (.int (j0_101_l11 aa bb cc))] [(.ref b19), (.ref b34)])) rfl (by rw [hml]; rfl) (Steps.refl _) (argsL := [(.ref b19)]) (rest := []) (lenOf pd_4 rfl) rfl (by show 2 * 0 + _ ≤ _; exact Nat.le_of_eq rfl) (hb hby at_130) (fun _ _ => ⟨rfl, e105, (by decide : 4 + 0 ≤ _), (by decide : 4 + 0 ≤ _)⟩)
    dsimp only [Pt.U, Pt.locs, Pt.cells, Pt.slots] at X106 l106 y106 z106 st106 hQ106
    subst l106 y106 z106
    obtain ⟨rfl, N106q, e106⟩ := hQ106
    have N106 := Fr.app N105 N106q
    obtain ⟨cq107, kq107, q107a, q107b, q107c⟩ := isOf hZ e106 f94
    obtain ⟨_, _, ⟨T107, L107, k107, n107⟩, -, X107, ⟨Lc107, hQ107, l107, y107, z107⟩, st107⟩ := X106.virtualBack hx (y := (⟨"com/example/partlint/partlint/model/ApiLevel", "equals", "(Ljava/lang/Object;)Z"⟩ : MethodName)) (z := (⟨"com/example/partlint/partlint/model/ApiLevel", "equals", "(Ljava/lang/Object;)Z"⟩ : MethodName)) hown (mvT hZ (hw _ (List.mem_of_getElem? (i := 28) rfl))) (mvT hZ (hw _ (List.mem_of_getElem? (i := 29) rfl))) (notFace_of_selects (args := #[]) (mvT hZ (hw _ (List.mem_of_getElem? (i := 31) rfl)))) (mvT hZ (hw _ (List.mem_of_getElem? (i := 31) rfl))) (mvT hZ (hw _ (List.mem_of_getElem? (i := 30) rfl))) (by decide) (backOf (W := 0) (rm6 l Z a0 hw [] b19 b19 (r1_v (1 : Int32) (aa &&& (2147483647 : Int32))) (r1_v (1 : Int32) (aa &&& (2147483647 : Int32))) T81.heap n0 Z81 f94 f95 f95) hZ (hw _ (List.mem_of_getElem? (i := 32) rfl)) (hw _ (List.mem_of_getElem? (i := 7) rfl)) (by decide) (by decide)) q107a q107c (g := (mkF m 142 #[.val (.int aa), .val (.int bb), .val (.int cc), .val (.int (r1_v (1 : Int32) (aa &&& (2147483647 : Int32)))), .val (.int (cc &&& (3 : Int32))), .val (.int (j0_14_l5 aa bb cc)), .val (.ref b19), .val (.ref b34), .val (.ref b54), .val .null, .val (.ref b82), .val (.int (j0_101_l11 aa bb cc))] [(.ref b19), (.ref b19)])) rfl (by rw [hml]; rfl) (Steps.refl _) (argsL := [(.ref b19)]) (rest := []) (lenOf pd_4 rfl) rfl (by show 2 * 0 + _ ≤ _; exact Nat.le_of_eq rfl) (hb hby at_142) (fun _ _ => ⟨rfl, e106, (by decide : 4 + 0 ≤ _), (by decide : 4 + 0 ≤ _)⟩)
    dsimp only [Pt.U, Pt.locs, Pt.cells, Pt.slots] at X107 l107 y107 z107 st107 hQ107
    subst l107 y107 z107
    obtain ⟨rfl, N107q, e107⟩ := hQ107
    have N107 := Fr.app N106 N107q
    obtain ⟨cq108, kq108, q108a, q108b, q108c⟩ := isOf hZ e107 f94
    obtain ⟨_, _, ⟨T108, L108, k108, n108⟩, -, X108, ⟨Lc108, hQ108, l108, y108, z108⟩, st108⟩ := X107.virtualBack hx (y := (⟨"com/example/partlint/partlint/model/ApiLevel", "equals", "(Ljava/lang/Object;)Z"⟩ : MethodName)) (z := (⟨"com/example/partlint/partlint/model/ApiLevel", "equals", "(Ljava/lang/Object;)Z"⟩ : MethodName)) hown (mvT hZ (hw _ (List.mem_of_getElem? (i := 28) rfl))) (mvT hZ (hw _ (List.mem_of_getElem? (i := 29) rfl))) (notFace_of_selects (args := #[]) (mvT hZ (hw _ (List.mem_of_getElem? (i := 31) rfl)))) (mvT hZ (hw _ (List.mem_of_getElem? (i := 31) rfl))) (mvT hZ (hw _ (List.mem_of_getElem? (i := 30) rfl))) (by decide) (backOf (W := 0) (rm6 l Z a0 hw [] b19 b54 (r1_v (1 : Int32) (aa &&& (2147483647 : Int32))) (r1_v (1 : Int32) (aa &&& (2147483647 : Int32))) T81.heap n0 Z81 f98 f99 f95) hZ (hw _ (List.mem_of_getElem? (i := 32) rfl)) (hw _ (List.mem_of_getElem? (i := 7) rfl)) (by decide) (by decide)) q108a q108c (g := (mkF m 152 #[.val (.int aa), .val (.int bb), .val (.int cc), .val (.int (r1_v (1 : Int32) (aa &&& (2147483647 : Int32)))), .val (.int (cc &&& (3 : Int32))), .val (.int (j0_14_l5 aa bb cc)), .val (.ref b19), .val (.ref b34), .val (.ref b54), .val .null, .val (.ref b82), .val (.int (j0_101_l11 aa bb cc))] [(.ref b54), (.ref b19)])) rfl (by rw [hml]; rfl) (Steps.refl _) (argsL := [(.ref b54)]) (rest := []) (lenOf pd_4 rfl) rfl (by show 2 * 0 + _ ≤ _; exact Nat.le_of_eq rfl) (hb hby at_152) (fun _ _ => ⟨rfl, e107, (by decide : 4 + 0 ≤ _), (by decide : 4 + 0 ≤ _)⟩)
    dsimp only [Pt.U, Pt.locs, Pt.cells, Pt.slots] at X108 l108 y108 z108 st108 hQ108
    subst l108 y108 z108
    obtain ⟨rfl, N108q, e108⟩ := hQ108
    have N108 := Fr.app N107 N108q
    obtain ⟨cq109, kq109, q109a, q109b, q109c⟩ := isOf hZ e108 f94
    obtain ⟨_, _, ⟨T109, L109, k109, n109⟩, -, X109, ⟨Lc109, hQ109, l109, y109, z109⟩, st109⟩ := X108.virtualBack hx (y := (⟨"com/example/partlint/partlint/model/ApiLevel", "equals", "(Ljava/lang/Object;)Z"⟩ : MethodName)) (z := (⟨"com/example/partlint/partlint/model/ApiLevel", "equals", "(Ljava/lang/Object;)Z"⟩ : MethodName)) hown (mvT hZ (hw _ (List.mem_of_getElem? (i := 28) rfl))) (mvT hZ (hw _ (List.mem_of_getElem? (i := 29) rfl))) (notFace_of_selects (args := #[]) (mvT hZ (hw _ (List.mem_of_getElem? (i := 31) rfl)))) (mvT hZ (hw _ (List.mem_of_getElem? (i := 31) rfl))) (mvT hZ (hw _ (List.mem_of_getElem? (i := 30) rfl))) (by decide) (backOf (W := 0) (rm6n l Z a0 hw [] b19 T81.heap n0 Z81 ) hZ (hw _ (List.mem_of_getElem? (i := 32) rfl)) (hw _ (List.mem_of_getElem? (i := 7) rfl)) (by decide) (by decide)) q109a q109c (g := (mkF m 162 #[.val (.int aa), .val (.int bb), .val (.int cc), .val (.int (r1_v (1 : Int32) (aa &&& (2147483647 : Int32)))), .val (.int (cc &&& (3 : Int32))), .val (.int (j0_14_l5 aa bb cc)), .val (.ref b19), .val (.ref b34), .val (.ref b54), .val .null, .val (.ref b82), .val (.int (j0_101_l11 aa bb cc))] [.null, (.ref b19)])) rfl (by rw [hml]; rfl) (Steps.refl _) (argsL := [.null]) (rest := []) (lenOf pd_4 rfl) rfl (by show 2 * 0 + _ ≤ _; exact Nat.le_of_eq rfl) (hb hby at_162) (fun _ _ => ⟨rfl, e108, (by decide : 4 + 0 ≤ _), (by decide : 4 + 0 ≤ _)⟩)
    dsimp only [Pt.U, Pt.locs, Pt.cells, Pt.slots] at X109 l109 y109 z109 st109 hQ109
    subst l109 y109 z109
    obtain ⟨rfl, N109q, e109⟩ := hQ109
    have N109 := Fr.app N108 N109q
    obtain ⟨cq110, kq110, q110a, q110b, q110c⟩ := isOf hZ e109 f94
    obtain ⟨_, _, ⟨T110, L110, k110, n110⟩, -, X110, ⟨Lc110, hQ110, l110, y110, z110⟩, st110⟩ := X109.virtualBack hx (y := (⟨"com/example/partlint/partlint/model/ApiLevel", "equals", "(Ljava/lang/Object;)Z"⟩ : MethodName)) (z := (⟨"com/example/partlint/partlint/model/ApiLevel", "equals", "(Ljava/lang/Object;)Z"⟩ : MethodName)) hown (mvT hZ (hw _ (List.mem_of_getElem? (i := 28) rfl))) (mvT hZ (hw _ (List.mem_of_getElem? (i := 29) rfl))) (notFace_of_selects (args := #[]) (mvT hZ (hw _ (List.mem_of_getElem? (i := 31) rfl)))) (mvT hZ (hw _ (List.mem_of_getElem? (i := 31) rfl))) (mvT hZ (hw _ (List.mem_of_getElem? (i := 30) rfl))) (by decide) (backOf (W := 0) (rm6i l Z a0 hw [] b19 b82 T81.heap n0 Z81 f83) hZ (hw _ (List.mem_of_getElem? (i := 32) rfl)) (hw _ (List.mem_of_getElem? (i := 7) rfl)) (by decide) (by decide)) q110a q110c (g := (mkF m 172 #[.val (.int aa), .val (.int bb), .val (.int cc), .val (.int (r1_v (1 : Int32) (aa &&& (2147483647 : Int32)))), .val (.int (cc &&& (3 : Int32))), .val (.int (j0_14_l5 aa bb cc)), .val (.ref b19), .val (.ref b34), .val (.ref b54), .val .null, .val (.ref b82), .val (.int (j0_101_l11 aa bb cc))] [(.ref b82), (.ref b19)])) rfl (by rw [hml]; rfl) (Steps.refl _) (argsL := [(.ref b82)]) (rest := []) (lenOf pd_4 rfl) rfl (by show 2 * 0 + _ ≤ _; exact Nat.le_of_eq rfl) (hb hby at_172) (fun _ _ => ⟨rfl, e109, (by decide : 4 + 0 ≤ _), (by decide : 4 + 0 ≤ _)⟩)
    dsimp only [Pt.U, Pt.locs, Pt.cells, Pt.slots] at X110 l110 y110 z110 st110 hQ110
    subst l110 y110 z110
    obtain ⟨rfl, N110q, e110⟩ := hQ110
    have N110 := Fr.app N109 N110q
    obtain ⟨fs, hr, hrun, hended, hW, hsame⟩ := X110.leave (v := some (.int (1 : Int32))) (fun h => by rw [Bd.returns] at h; cases h)
    refine ⟨_, _, pre104 _ ?_, hrun, hended, _, _, rfl, ?_, ⟨_, rfl⟩, hW, hsame.mono (by decide) (by decide)⟩
    · show Steps p.tables e below (T81.setTop (mkF m 114 #[.val (.int aa), .val (.int bb), .val (.int cc), .val (.int (r1_v (1 : Int32) (aa &&& (2147483647 : Int32)))), .val (.int (cc &&& (3 : Int32))), .val (.int (j0_14_l5 aa bb cc)), .val (.ref b19), .val (.ref b34), .val (.ref b54), .val .null, .val (.ref b82), .val (.int (j0_101_l11 aa bb cc))] [])) _
      refine XS.aload X81.here hx rfl (hb hby at_114) rfl rfl ?_
      show Steps p.tables e below (T81.setTop (mkF m 116 #[.val (.int aa), .val (.int bb), .val (.int cc), .val (.int (r1_v (1 : Int32) (aa &&& (2147483647 : Int32)))), .val (.int (cc &&& (3 : Int32))), .val (.int (j0_14_l5 aa bb cc)), .val (.ref b19), .val (.ref b34), .val (.ref b54), .val .null, .val (.ref b82), .val (.int (j0_101_l11 aa bb cc))] [(.ref b19)])) _
      refine XS.aload X81.here hx rfl (hb hby at_116) rfl rfl ?_
      show Steps p.tables e below (T81.setTop (mkF m 118 #[.val (.int aa), .val (.int bb), .val (.int cc), .val (.int (r1_v (1 : Int32) (aa &&& (2147483647 : Int32)))), .val (.int (cc &&& (3 : Int32))), .val (.int (j0_14_l5 aa bb cc)), .val (.ref b19), .val (.ref b34), .val (.ref b54), .val .null, .val (.ref b82), .val (.int (j0_101_l11 aa bb cc))] [(.ref b34), (.ref b19)])) _
      refine st105.trans ?_
      show Steps p.tables e below (T105.setTop (mkF m 121 #[.val (.int aa), .val (.int bb), .val (.int cc), .val (.int (r1_v (1 : Int32) (aa &&& (2147483647 : Int32)))), .val (.int (cc &&& (3 : Int32))), .val (.int (j0_14_l5 aa bb cc)), .val (.ref b19), .val (.ref b34), .val (.ref b54), .val .null, .val (.ref b82), .val (.int (j0_101_l11 aa bb cc))] [(.int (r6_v (j0_14_l5 aa bb cc) (r1_v (1 : Int32) (aa &&& (2147483647 : Int32)))))])) _
      refine XS.iload X105.here hx rfl (hb hby at_121) rfl ?_
      show Steps p.tables e below (T105.setTop (mkF m 123 #[.val (.int aa), .val (.int bb), .val (.int cc), .val (.int (r1_v (1 : Int32) (aa &&& (2147483647 : Int32)))), .val (.int (cc &&& (3 : Int32))), .val (.int (j0_14_l5 aa bb cc)), .val (.ref b19), .val (.ref b34), .val (.ref b54), .val .null, .val (.ref b82), .val (.int (j0_101_l11 aa bb cc))] [(.int (j0_101_l11 aa bb cc)), (.int (r6_v (j0_14_l5 aa bb cc) (r1_v (1 : Int32) (aa &&& (2147483647 : Int32)))))])) _
      refine XS.icmpNo X105.here hx rfl (hb hby at_123) rfl (teq (own_e1 aa bb cc : ((r6_v (j0_14_l5 aa bb cc) (r1_v (1 : Int32) (aa &&& (2147483647 : Int32)))) = (j0_101_l11 aa bb cc)))).2 ?_
      show Steps p.tables e below (T105.setTop (mkF m 126 #[.val (.int aa), .val (.int bb), .val (.int cc), .val (.int (r1_v (1 : Int32) (aa &&& (2147483647 : Int32)))), .val (.int (cc &&& (3 : Int32))), .val (.int (j0_14_l5 aa bb cc)), .val (.ref b19), .val (.ref b34), .val (.ref b54), .val .null, .val (.ref b82), .val (.int (j0_101_l11 aa bb cc))] [])) _
      refine XS.aload X105.here hx rfl (hb hby at_126) rfl rfl ?_
      show Steps p.tables e below (T105.setTop (mkF m 128 #[.val (.int aa), .val (.int bb), .val (.int cc), .val (.int (r1_v (1 : Int32) (aa &&& (2147483647 : Int32)))), .val (.int (cc &&& (3 : Int32))), .val (.int (j0_14_l5 aa bb cc)), .val (.ref b19), .val (.ref b34), .val (.ref b54), .val .null, .val (.ref b82), .val (.int (j0_101_l11 aa bb cc))] [(.ref b34)])) _
      refine XS.aload X105.here hx rfl (hb hby at_128) rfl rfl ?_
      show Steps p.tables e below (T105.setTop (mkF m 130 #[.val (.int aa), .val (.int bb), .val (.int cc), .val (.int (r1_v (1 : Int32) (aa &&& (2147483647 : Int32)))), .val (.int (cc &&& (3 : Int32))), .val (.int (j0_14_l5 aa bb cc)), .val (.ref b19), .val (.ref b34), .val (.ref b54), .val .null, .val (.ref b82), .val (.int (j0_101_l11 aa bb cc))] [(.ref b19), (.ref b34)])) _
      refine st106.trans ?_
      show Steps p.tables e below (T106.setTop (mkF m 133 #[.val (.int aa), .val (.int bb), .val (.int cc), .val (.int (r1_v (1 : Int32) (aa &&& (2147483647 : Int32)))), .val (.int (cc &&& (3 : Int32))), .val (.int (j0_14_l5 aa bb cc)), .val (.ref b19), .val (.ref b34), .val (.ref b54), .val .null, .val (.ref b82), .val (.int (j0_101_l11 aa bb cc))] [(.int (r6_v (r1_v (1 : Int32) (aa &&& (2147483647 : Int32))) (j0_14_l5 aa bb cc)))])) _
      refine XS.iload X106.here hx rfl (hb hby at_133) rfl ?_
      show Steps p.tables e below (T106.setTop (mkF m 135 #[.val (.int aa), .val (.int bb), .val (.int cc), .val (.int (r1_v (1 : Int32) (aa &&& (2147483647 : Int32)))), .val (.int (cc &&& (3 : Int32))), .val (.int (j0_14_l5 aa bb cc)), .val (.ref b19), .val (.ref b34), .val (.ref b54), .val .null, .val (.ref b82), .val (.int (j0_101_l11 aa bb cc))] [(.int (j0_101_l11 aa bb cc)), (.int (r6_v (r1_v (1 : Int32) (aa &&& (2147483647 : Int32))) (j0_14_l5 aa bb cc)))])) _
      refine XS.icmpNo X106.here hx rfl (hb hby at_135) rfl (teq (own_e2 aa bb cc : ((r6_v (r1_v (1 : Int32) (aa &&& (2147483647 : Int32))) (j0_14_l5 aa bb cc)) = (j0_101_l11 aa bb cc)))).2 ?_
      show Steps p.tables e below (T106.setTop (mkF m 138 #[.val (.int aa), .val (.int bb), .val (.int cc), .val (.int (r1_v (1 : Int32) (aa &&& (2147483647 : Int32)))), .val (.int (cc &&& (3 : Int32))), .val (.int (j0_14_l5 aa bb cc)), .val (.ref b19), .val (.ref b34), .val (.ref b54), .val .null, .val (.ref b82), .val (.int (j0_101_l11 aa bb cc))] [])) _
      refine XS.aload X106.here hx rfl (hb hby at_138) rfl rfl ?_
      show Steps p.tables e below (T106.setTop (mkF m 140 #[.val (.int aa), .val (.int bb), .val (.int cc), .val (.int (r1_v (1 : Int32) (aa &&& (2147483647 : Int32)))), .val (.int (cc &&& (3 : Int32))), .val (.int (j0_14_l5 aa bb cc)), .val (.ref b19), .val (.ref b34), .val (.ref b54), .val .null, .val (.ref b82), .val (.int (j0_101_l11 aa bb cc))] [(.ref b19)])) _
      refine XS.aload X106.here hx rfl (hb hby at_140) rfl rfl ?_
      show Steps p.tables e below (T106.setTop (mkF m 142 #[.val (.int aa), .val (.int bb), .val (.int cc), .val (.int (r1_v (1 : Int32) (aa &&& (2147483647 : Int32)))), .val (.int (cc &&& (3 : Int32))), .val (.int (j0_14_l5 aa bb cc)), .val (.ref b19), .val (.ref b34), .val (.ref b54), .val .null, .val (.ref b82), .val (.int (j0_101_l11 aa bb cc))] [(.ref b19), (.ref b19)])) _
      refine st107.trans ?_
      show Steps p.tables e below (T107.setTop (mkF m 145 #[.val (.int aa), .val (.int bb), .val (.int cc), .val (.int (r1_v (1 : Int32) (aa &&& (2147483647 : Int32)))), .val (.int (cc &&& (3 : Int32))), .val (.int (j0_14_l5 aa bb cc)), .val (.ref b19), .val (.ref b34), .val (.ref b54), .val .null, .val (.ref b82), .val (.int (j0_101_l11 aa bb cc))] [(.int (r6_v (r1_v (1 : Int32) (aa &&& (2147483647 : Int32))) (r1_v (1 : Int32) (aa &&& (2147483647 : Int32)))))])) _
      refine XS.ifNo X107.here hx rfl (hb hby at_145) rfl ((if0 _ _).trans (feq (own_e3 aa bb cc : ¬ ((r6_v (r1_v (1 : Int32) (aa &&& (2147483647 : Int32))) (r1_v (1 : Int32) (aa &&& (2147483647 : Int32)))) = (0 : Int32)))).1) ?_
      show Steps p.tables e below (T107.setTop (mkF m 148 #[.val (.int aa), .val (.int bb), .val (.int cc), .val (.int (r1_v (1 : Int32) (aa &&& (2147483647 : Int32)))), .val (.int (cc &&& (3 : Int32))), .val (.int (j0_14_l5 aa bb cc)), .val (.ref b19), .val (.ref b34), .val (.ref b54), .val .null, .val (.ref b82), .val (.int (j0_101_l11 aa bb cc))] [])) _
      refine XS.aload X107.here hx rfl (hb hby at_148) rfl rfl ?_
      show Steps p.tables e below (T107.setTop (mkF m 150 #[.val (.int aa), .val (.int bb), .val (.int cc), .val (.int (r1_v (1 : Int32) (aa &&& (2147483647 : Int32)))), .val (.int (cc &&& (3 : Int32))), .val (.int (j0_14_l5 aa bb cc)), .val (.ref b19), .val (.ref b34), .val (.ref b54), .val .null, .val (.ref b82), .val (.int (j0_101_l11 aa bb cc))] [(.ref b19)])) _
      refine XS.aload X107.here hx rfl (hb hby at_150) rfl rfl ?_
      show Steps p.tables e below (T107.setTop (mkF m 152 #[.val (.int aa), .val (.int bb), .val (.int cc), .val (.int (r1_v (1 : Int32) (aa &&& (2147483647 : Int32)))), .val (.int (cc &&& (3 : Int32))), .val (.int (j0_14_l5 aa bb cc)), .val (.ref b19), .val (.ref b34), .val (.ref b54), .val .null, .val (.ref b82), .val (.int (j0_101_l11 aa bb cc))] [(.ref b54), (.ref b19)])) _
      refine st108.trans ?_
      show Steps p.tables e below (T108.setTop (mkF m 155 #[.val (.int aa), .val (.int bb), .val (.int cc), .val (.int (r1_v (1 : Int32) (aa &&& (2147483647 : Int32)))), .val (.int (cc &&& (3 : Int32))), .val (.int (j0_14_l5 aa bb cc)), .val (.ref b19), .val (.ref b34), .val (.ref b54), .val .null, .val (.ref b82), .val (.int (j0_101_l11 aa bb cc))] [(.int (r6_v (r1_v (1 : Int32) (aa &&& (2147483647 : Int32))) (r1_v (1 : Int32) (aa &&& (2147483647 : Int32)))))])) _
      refine XS.ifNo X108.here hx rfl (hb hby at_155) rfl ((if0 _ _).trans (feq (own_e4 aa bb cc : ¬ ((r6_v (r1_v (1 : Int32) (aa &&& (2147483647 : Int32))) (r1_v (1 : Int32) (aa &&& (2147483647 : Int32)))) = (0 : Int32)))).1) ?_
      show Steps p.tables e below (T108.setTop (mkF m 158 #[.val (.int aa), .val (.int bb), .val (.int cc), .val (.int (r1_v (1 : Int32) (aa &&& (2147483647 : Int32)))), .val (.int (cc &&& (3 : Int32))), .val (.int (j0_14_l5 aa bb cc)), .val (.ref b19), .val (.ref b34), .val (.ref b54), .val .null, .val (.ref b82), .val (.int (j0_101_l11 aa bb cc))] [])) _
      refine XS.aload X108.here hx rfl (hb hby at_158) rfl rfl ?_
      show Steps p.tables e below (T108.setTop (mkF m 160 #[.val (.int aa), .val (.int bb), .val (.int cc), .val (.int (r1_v (1 : Int32) (aa &&& (2147483647 : Int32)))), .val (.int (cc &&& (3 : Int32))), .val (.int (j0_14_l5 aa bb cc)), .val (.ref b19), .val (.ref b34), .val (.ref b54), .val .null, .val (.ref b82), .val (.int (j0_101_l11 aa bb cc))] [(.ref b19)])) _
      refine XS.aload X108.here hx rfl (hb hby at_160) rfl rfl ?_
      show Steps p.tables e below (T108.setTop (mkF m 162 #[.val (.int aa), .val (.int bb), .val (.int cc), .val (.int (r1_v (1 : Int32) (aa &&& (2147483647 : Int32)))), .val (.int (cc &&& (3 : Int32))), .val (.int (j0_14_l5 aa bb cc)), .val (.ref b19), .val (.ref b34), .val (.ref b54), .val .null, .val (.ref b82), .val (.int (j0_101_l11 aa bb cc))] [.null, (.ref b19)])) _
      refine st109.trans ?_
      show Steps p.tables e below (T109.setTop (mkF m 165 #[.val (.int aa), .val (.int bb), .val (.int cc), .val (.int (r1_v (1 : Int32) (aa &&& (2147483647 : Int32)))), .val (.int (cc &&& (3 : Int32))), .val (.int (j0_14_l5 aa bb cc)), .val (.ref b19), .val (.ref b34), .val (.ref b54), .val .null, .val (.ref b82), .val (.int (j0_101_l11 aa bb cc))] [(.int (0 : Int32))])) _
      refine XS.ifNo X109.here hx rfl (hb hby at_165) rfl ((if0 _ _).trans (teq (by decide : ((0 : Int32) = (0 : Int32)))).2) ?_
      show Steps p.tables e below (T109.setTop (mkF m 168 #[.val (.int aa), .val (.int bb), .val (.int cc), .val (.int (r1_v (1 : Int32) (aa &&& (2147483647 : Int32)))), .val (.int (cc &&& (3 : Int32))), .val (.int (j0_14_l5 aa bb cc)), .val (.ref b19), .val (.ref b34), .val (.ref b54), .val .null, .val (.ref b82), .val (.int (j0_101_l11 aa bb cc))] [])) _
      refine XS.aload X109.here hx rfl (hb hby at_168) rfl rfl ?_
      show Steps p.tables e below (T109.setTop (mkF m 170 #[.val (.int aa), .val (.int bb), .val (.int cc), .val (.int (r1_v (1 : Int32) (aa &&& (2147483647 : Int32)))), .val (.int (cc &&& (3 : Int32))), .val (.int (j0_14_l5 aa bb cc)), .val (.ref b19), .val (.ref b34), .val (.ref b54), .val .null, .val (.ref b82), .val (.int (j0_101_l11 aa bb cc))] [(.ref b19)])) _
      refine XS.aload X109.here hx rfl (hb hby at_170) rfl rfl ?_
      show Steps p.tables e below (T109.setTop (mkF m 172 #[.val (.int aa), .val (.int bb), .val (.int cc), .val (.int (r1_v (1 : Int32) (aa &&& (2147483647 : Int32)))), .val (.int (cc &&& (3 : Int32))), .val (.int (j0_14_l5 aa bb cc)), .val (.ref b19), .val (.ref b34), .val (.ref b54), .val .null, .val (.ref b82), .val (.int (j0_101_l11 aa bb cc))] [(.ref b82), (.ref b19)])) _
      refine st110.trans ?_
      show Steps p.tables e below (T110.setTop (mkF m 175 #[.val (.int aa), .val (.int bb), .val (.int cc), .val (.int (r1_v (1 : Int32) (aa &&& (2147483647 : Int32)))), .val (.int (cc &&& (3 : Int32))), .val (.int (j0_14_l5 aa bb cc)), .val (.ref b19), .val (.ref b34), .val (.ref b54), .val .null, .val (.ref b82), .val (.int (j0_101_l11 aa bb cc))] [(.int (0 : Int32))])) _
      refine XS.ifNo X110.here hx rfl (hb hby at_175) rfl ((if0 _ _).trans (teq (by decide : ((0 : Int32) = (0 : Int32)))).2) ?_
      show Steps p.tables e below (T110.setTop (mkF m 178 #[.val (.int aa), .val (.int bb), .val (.int cc), .val (.int (r1_v (1 : Int32) (aa &&& (2147483647 : Int32)))), .val (.int (cc &&& (3 : Int32))), .val (.int (j0_14_l5 aa bb cc)), .val (.ref b19), .val (.ref b34), .val (.ref b54), .val .null, .val (.ref b82), .val (.int (j0_101_l11 aa bb cc))] [])) _
      refine XS.iconst X110.here hx rfl (hb hby at_178) ?_
      show Steps p.tables e below (T110.setTop (mkF m 179 #[.val (.int aa), .val (.int bb), .val (.int cc), .val (.int (r1_v (1 : Int32) (aa &&& (2147483647 : Int32)))), .val (.int (cc &&& (3 : Int32))), .val (.int (j0_14_l5 aa bb cc)), .val (.ref b19), .val (.ref b34), .val (.ref b54), .val .null, .val (.ref b82), .val (.int (j0_101_l11 aa bb cc))] [(.int (1 : Int32))])) _
      refine XS.goto X110.here hx rfl (pc0 := 179) (pc' := 183) rfl (hb hby at_179) (by decide) (by decide) ?_
      show Steps p.tables e below (T110.setTop (mkF m 183 #[.val (.int aa), .val (.int bb), .val (.int cc), .val (.int (r1_v (1 : Int32) (aa &&& (2147483647 : Int32)))), .val (.int (cc &&& (3 : Int32))), .val (.int (j0_14_l5 aa bb cc)), .val (.ref b19), .val (.ref b34), .val (.ref b54), .val .null, .val (.ref b82), .val (.int (j0_101_l11 aa bb cc))] [(.int (1 : Int32))])) _
      exact retN X110 hx (t := .boolean) Bd.returns (by simp) (hb hby at_183) hr
    · show Q0 Z aa bb cc rc gv rx h0 n0 _ T110.heap _
      rw [e110]
      exact ⟨rfl, N110⟩
  · obtain ⟨jn, hjn, hjl⟩ := own_jn aa hk80
    obtain ⟨_, _, ⟨T111, L111, k111, n111⟩, -, X111, ⟨Lc111, hQ111, l111, y111, z111⟩, st111⟩ := Jvm.LawKit.callS X68 hx (y := (⟨"java/lang/Integer", "valueOf", "(I)Ljava/lang/Integer;"⟩ : MethodName)) hown (mvT hZ (hw _ (List.mem_of_getElem? (i := 21) rfl))) (mvT hZ (hw _ (List.mem_of_getElem? (i := 22) rfl))) (mvT hZ (hw _ (List.mem_of_getElem? (i := 23) rfl))) (mvT hZ (hw _ (List.mem_of_getElem? (i := 24) rfl))) (by decide) (backOf (W := 0) (rm5c l Z a0 hw [] (r1_v (1 : Int32) (aa &&& (2147483647 : Int32))) rc gv rx jn T68.heap n0 Z68 f70 f71 f72 (hjn) (hjl) (hgx jn hjn hjl) (own_m128 aa) (hk80)) hZ (hw _ (List.mem_of_getElem? (i := 24) rfl)) (hw _ (List.mem_of_getElem? (i := 23) rfl)) (by decide) (by decide)) (g := (mkF m 96 #[.val (.int aa), .val (.int bb), .val (.int cc), .val (.int (r1_v (1 : Int32) (aa &&& (2147483647 : Int32)))), .val (.int (cc &&& (3 : Int32))), .val (.int (j0_14_l5 aa bb cc)), .val (.ref b19), .val (.ref b34), .val (.ref b54), .val .null, .unset, .unset] [(.int (r1_v (1 : Int32) (aa &&& (2147483647 : Int32))))])) rfl (by rw [hml]; rfl) (argsL := [(.int (r1_v (1 : Int32) (aa &&& (2147483647 : Int32))))]) (rest := []) (lenOf pd_3 rfl) rfl (by show 2 * 0 + _ ≤ _; exact Nat.le_of_eq rfl) (hb hby at_96) (fun _ _ => ⟨rfl, rfl, (by decide : 3 + 0 ≤ _), (by decide : 3 + 0 ≤ _)⟩)
    dsimp only [Pt.U, Pt.locs, Pt.cells, Pt.slots] at X111 l111 y111 z111 st111 hQ111
    subst l111 y111 z111
    obtain ⟨rfl, N111q, e111⟩ := hQ111
    have N111 := Fr.app N68 N111q
    have pre115 : ∀ t, Steps p.tables e below (T111.setTop (mkF m 101 #[.val (.int aa), .val (.int bb), .val (.int cc), .val (.int (r1_v (1 : Int32) (aa &&& (2147483647 : Int32)))), .val (.int (cc &&& (3 : Int32))), .val (.int (j0_14_l5 aa bb cc)), .val (.ref b19), .val (.ref b34), .val (.ref b54), .val .null, .val (.ref rx), .unset] [])) t → Steps p.tables e below (s₁.setTop (entryFrame m #[(.int aa), (.int bb), (.int cc)] maxLocals)) t := by
      intro t k
      refine pre79 _ ?_
      show Steps p.tables e below (T68.setTop (mkF m 96 #[.val (.int aa), .val (.int bb), .val (.int cc), .val (.int (r1_v (1 : Int32) (aa &&& (2147483647 : Int32)))), .val (.int (cc &&& (3 : Int32))), .val (.int (j0_14_l5 aa bb cc)), .val (.ref b19), .val (.ref b34), .val (.ref b54), .val .null, .unset, .unset] [(.int (r1_v (1 : Int32) (aa &&& (2147483647 : Int32))))])) _
      refine st111 _ ?_
      show Steps p.tables e below (T111.setTop (mkF m 99 #[.val (.int aa), .val (.int bb), .val (.int cc), .val (.int (r1_v (1 : Int32) (aa &&& (2147483647 : Int32)))), .val (.int (cc &&& (3 : Int32))), .val (.int (j0_14_l5 aa bb cc)), .val (.ref b19), .val (.ref b34), .val (.ref b54), .val .null, .unset, .unset] [(.ref rx)])) _
      refine XS.astore X111.here hx rfl (hb hby at_99) rfl rfl (l' := #[.val (.int aa), .val (.int bb), .val (.int cc), .val (.int (r1_v (1 : Int32) (aa &&& (2147483647 : Int32)))), .val (.int (cc &&& (3 : Int32))), .val (.int (j0_14_l5 aa bb cc)), .val (.ref b19), .val (.ref b34), .val (.ref b54), .val .null, .val (.ref rx), .unset]) rfl ?_
      exact k
    have pre116 : ∀ t, Steps p.tables e below (T111.setTop (mkF m 114 #[.val (.int aa), .val (.int bb), .val (.int cc), .val (.int (r1_v (1 : Int32) (aa &&& (2147483647 : Int32)))), .val (.int (cc &&& (3 : Int32))), .val (.int (j0_14_l5 aa bb cc)), .val (.ref b19), .val (.ref b34), .val (.ref b54), .val .null, .val (.ref rx), .val (.int (j0_101_l11 aa bb cc))] [])) t → Steps p.tables e below (s₁.setTop (entryFrame m #[(.int aa), (.int bb), (.int cc)] maxLocals)) t := by
      intro t k
      refine pre115 _ ?_
      show Steps p.tables e below (T111.setTop (mkF m 101 #[.val (.int aa), .val (.int bb), .val (.int cc), .val (.int (r1_v (1 : Int32) (aa &&& (2147483647 : Int32)))), .val (.int (cc &&& (3 : Int32))), .val (.int (j0_14_l5 aa bb cc)), .val (.ref b19), .val (.ref b34), .val (.ref b54), .val .null, .val (.ref rx), .unset] [])) _
      refine XS.iloadN X111.here hx rfl (hb hby at_101) rfl ?_
      show Steps p.tables e below (T111.setTop (mkF m 102 #[.val (.int aa), .val (.int bb), .val (.int cc), .val (.int (r1_v (1 : Int32) (aa &&& (2147483647 : Int32)))), .val (.int (cc &&& (3 : Int32))), .val (.int (j0_14_l5 aa bb cc)), .val (.ref b19), .val (.ref b34), .val (.ref b54), .val .null, .val (.ref rx), .unset] [(.int (r1_v (1 : Int32) (aa &&& (2147483647 : Int32))))])) _
      refine XS.iload X111.here hx rfl (hb hby at_102) rfl ?_
      by_cases hk112 : (r1_v (1 : Int32) (aa &&& (2147483647 : Int32))) = (j0_14_l5 aa bb cc)
      · show Steps p.tables e below (T111.setTop (mkF m 104 #[.val (.int aa), .val (.int bb), .val (.int cc), .val (.int (r1_v (1 : Int32) (aa &&& (2147483647 : Int32)))), .val (.int (cc &&& (3 : Int32))), .val (.int (j0_14_l5 aa bb cc)), .val (.ref b19), .val (.ref b34), .val (.ref b54), .val .null, .val (.ref rx), .unset] [(.int (j0_14_l5 aa bb cc)), (.int (r1_v (1 : Int32) (aa &&& (2147483647 : Int32))))])) _
        refine XS.icmpNo X111.here hx rfl (hb hby at_104) rfl (teq hk112).2 ?_
        show Steps p.tables e below (T111.setTop (mkF m 107 #[.val (.int aa), .val (.int bb), .val (.int cc), .val (.int (r1_v (1 : Int32) (aa &&& (2147483647 : Int32)))), .val (.int (cc &&& (3 : Int32))), .val (.int (j0_14_l5 aa bb cc)), .val (.ref b19), .val (.ref b34), .val (.ref b54), .val .null, .val (.ref rx), .unset] [])) _
        refine XS.iconst X111.here hx rfl (hb hby at_107) ?_
        show Steps p.tables e below (T111.setTop (mkF m 108 #[.val (.int aa), .val (.int bb), .val (.int cc), .val (.int (r1_v (1 : Int32) (aa &&& (2147483647 : Int32)))), .val (.int (cc &&& (3 : Int32))), .val (.int (j0_14_l5 aa bb cc)), .val (.ref b19), .val (.ref b34), .val (.ref b54), .val .null, .val (.ref rx), .unset] [(.int (1 : Int32))])) _
        refine XS.goto X111.here hx rfl (pc0 := 108) (pc' := 112) rfl (hb hby at_108) (by decide) (by decide) ?_
        show Steps p.tables e below (T111.setTop (mkF m 112 #[.val (.int aa), .val (.int bb), .val (.int cc), .val (.int (r1_v (1 : Int32) (aa &&& (2147483647 : Int32)))), .val (.int (cc &&& (3 : Int32))), .val (.int (j0_14_l5 aa bb cc)), .val (.ref b19), .val (.ref b34), .val (.ref b54), .val .null, .val (.ref rx), .unset] [(.int (1 : Int32))])) _
        refine XS.istore X111.here hx rfl (hb hby at_112) rfl (l' := #[.val (.int aa), .val (.int bb), .val (.int cc), .val (.int (r1_v (1 : Int32) (aa &&& (2147483647 : Int32)))), .val (.int (cc &&& (3 : Int32))), .val (.int (j0_14_l5 aa bb cc)), .val (.ref b19), .val (.ref b34), .val (.ref b54), .val .null, .val (.ref rx), .val (.int (1 : Int32))]) rfl ?_
        have ev113 : (j0_101_l11 aa bb cc) = (1 : Int32) := by unfold j0_101_l11; rw [if_pos hk112]
        rw [ev113] at k
        exact k
      · show Steps p.tables e below (T111.setTop (mkF m 104 #[.val (.int aa), .val (.int bb), .val (.int cc), .val (.int (r1_v (1 : Int32) (aa &&& (2147483647 : Int32)))), .val (.int (cc &&& (3 : Int32))), .val (.int (j0_14_l5 aa bb cc)), .val (.ref b19), .val (.ref b34), .val (.ref b54), .val .null, .val (.ref rx), .unset] [(.int (j0_14_l5 aa bb cc)), (.int (r1_v (1 : Int32) (aa &&& (2147483647 : Int32))))])) _
        refine XS.icmpYes X111.here hx rfl (pc0 := 104) (pc' := 111) rfl (hb hby at_104) rfl (feq hk112).2 (by decide) (by decide) ?_
        show Steps p.tables e below (T111.setTop (mkF m 111 #[.val (.int aa), .val (.int bb), .val (.int cc), .val (.int (r1_v (1 : Int32) (aa &&& (2147483647 : Int32)))), .val (.int (cc &&& (3 : Int32))), .val (.int (j0_14_l5 aa bb cc)), .val (.ref b19), .val (.ref b34), .val (.ref b54), .val .null, .val (.ref rx), .unset] [])) _
        refine XS.iconst X111.here hx rfl (hb hby at_111) ?_
        show Steps p.tables e below (T111.setTop (mkF m 112 #[.val (.int aa), .val (.int bb), .val (.int cc), .val (.int (r1_v (1 : Int32) (aa &&& (2147483647 : Int32)))), .val (.int (cc &&& (3 : Int32))), .val (.int (j0_14_l5 aa bb cc)), .val (.ref b19), .val (.ref b34), .val (.ref b54), .val .null, .val (.ref rx), .unset] [(.int (0 : Int32))])) _
        refine XS.istore X111.here hx rfl (hb hby at_112) rfl (l' := #[.val (.int aa), .val (.int bb), .val (.int cc), .val (.int (r1_v (1 : Int32) (aa &&& (2147483647 : Int32)))), .val (.int (cc &&& (3 : Int32))), .val (.int (j0_14_l5 aa bb cc)), .val (.ref b19), .val (.ref b34), .val (.ref b54), .val .null, .val (.ref rx), .val (.int (0 : Int32))]) rfl ?_
        have ev114 : (j0_101_l11 aa bb cc) = (0 : Int32) := by unfold j0_101_l11; rw [if_neg hk112]
        rw [ev114] at k
        exact k
    obtain ⟨cq117, kq117, q117a, q117b, q117c⟩ := isOf hZ e111 f74
    obtain ⟨_, _, ⟨T117, L117, k117, n117⟩, -, X117, ⟨Lc117, hQ117, l117, y117, z117⟩, st117⟩ := X111.virtualBack hx (y := (⟨"com/example/partlint/partlint/model/ApiLevel", "equals", "(Ljava/lang/Object;)Z"⟩ : MethodName)) (z := (⟨"com/example/partlint/partlint/model/ApiLevel", "equals", "(Ljava/lang/Object;)Z"⟩ : MethodName)) hown (mvT hZ (hw _ (List.mem_of_getElem? (i := 28) rfl))) (mvT hZ (hw _ (List.mem_of_getElem? (i := 29) rfl))) (notFace_of_selects (args := #[]) (mvT hZ (hw _ (List.mem_of_getElem? (i := 31) rfl)))) (mvT hZ (hw _ (List.mem_of_getElem? (i := 31) rfl))) (mvT hZ (hw _ (List.mem_of_getElem? (i := 30) rfl))) (by decide) (backOf (W := 0) (rm6 l Z a0 hw [] b19 b34 (j0_14_l5 aa bb cc) (r1_v (1 : Int32) (aa &&& (2147483647 : Int32))) T68.heap n0 Z68 f76 f77 f75) hZ (hw _ (List.mem_of_getElem? (i := 32) rfl)) (hw _ (List.mem_of_getElem? (i := 7) rfl)) (by decide) (by decide)) q117a q117c (g := (mkF m 118 #[.val (.int aa), .val (.int bb), .val (.int cc), .val (.int (r1_v (1 : Int32) (aa &&& (2147483647 : Int32)))), .val (.int (cc &&& (3 : Int32))), .val (.int (j0_14_l5 aa bb cc)), .val (.ref b19), .val (.ref b34), .val (.ref b54), .val .null, .val (.ref rx), .val (.int (j0_101_l11 aa bb cc))] [(.ref b34), (.ref b19)])) rfl (by rw [hml]; rfl) (Steps.refl _) (argsL := [(.ref b34)]) (rest := []) (lenOf pd_4 rfl) rfl (by show 2 * 0 + _ ≤ _; exact Nat.le_of_eq rfl) (hb hby at_118) (fun _ _ => ⟨rfl, e111, (by decide : 3 + 0 ≤ _), (by decide : 3 + 0 ≤ _)⟩)
    dsimp only [Pt.U, Pt.locs, Pt.cells, Pt.slots] at X117 l117 y117 z117 st117 hQ117
    subst l117 y117 z117
    obtain ⟨rfl, N117q, e117⟩ := hQ117
    have N117 := Fr.app N111 N117q
    obtain ⟨cq118, kq118, q118a, q118b, q118c⟩ := isOf hZ e117 f76
    obtain ⟨_, _, ⟨T118, L118, k118, n118⟩, -, X118, ⟨Lc118, hQ118, l118, y118, z118⟩, st118⟩ := X117.virtualBack hx (y := (⟨"com/example/partlint/partlint/model/ApiLevel", "equals", "(Ljava/lang/Object;)Z"⟩ : MethodName)) (z := (⟨"com/example/partlint/partlint/model/ApiLevel", "equals", "(Ljava/lang/Object;)Z"⟩ : MethodName)) hown (mvT hZ (hw _ (List.mem_of_getElem? (i := 28) rfl))) (mvT hZ (hw _ (List.mem_of_getElem? (i := 29) rfl))) (notFace_of_selects (args := #[]) (mvT hZ (hw _ (List.mem_of_getElem? (i := 31) rfl)))) (mvT hZ (hw _ (List.mem_of_getElem? (i := 31) rfl))) (mvT hZ (hw _ (List.mem_of_getElem? (i := 30) rfl))) (by decide) (backOf (W := 0) (rm6 l Z a0 hw [] b34 b19 (r1_v (1 : Int32) (aa &&& (2147483647 : Int32))) (j0_14_l5 aa bb cc) T68.heap n0 Z68 f74 f75 f77) hZ (hw _ (List.mem_of_getElem? (i := 32) rfl)) (hw _ (List.mem_of_getElem? (i := 7) rfl)) (by decide) (by decide)) q118a q118c (g := (mkF m 130 #[.val (.int aa), .val (.int bb), .val (.int cc), .val (.int (r1_v (1 : Int32) (aa &&& (2147483647 : Int32)))), .val (.int (cc &&& (3 : Int32))), .val (.int (j0_14_l5 aa bb cc)), .val (.ref b19), .val (.ref b34), .val (.ref b54), .val .null, .val (.ref rx), .val (.int (j0_101_l11 aa bb cc))] [(.ref b19), (.ref b34)])) rfl (by rw [hml]; rfl) (Steps.refl _) (argsL := [(.ref b19)]) (rest := []) (lenOf pd_4 rfl) rfl (by show 2 * 0 + _ ≤ _; exact Nat.le_of_eq rfl) (hb hby at_130) (fun _ _ => ⟨rfl, e117, (by decide : 3 + 0 ≤ _), (by decide : 3 + 0 ≤ _)⟩)
    dsimp only [Pt.U, Pt.locs, Pt.cells, Pt.slots] at X118 l118 y118 z118 st118 hQ118
    subst l118 y118 z118
    obtain ⟨rfl, N118q, e118⟩ := hQ118
    have N118 := Fr.app N117 N118q
    obtain ⟨cq119, kq119, q119a, q119b, q119c⟩ := isOf hZ e118 f74
    obtain ⟨_, _, ⟨T119, L119, k119, n119⟩, -, X119, ⟨Lc119, hQ119, l119, y119, z119⟩, st119⟩ := X118.virtualBack hx (y := (⟨"com/example/partlint/partlint/model/ApiLevel", "equals", "(Ljava/lang/Object;)Z"⟩ : MethodName)) (z := (⟨"com/example/partlint/partlint/model/ApiLevel", "equals", "(Ljava/lang/Object;)Z"⟩ : MethodName)) hown (mvT hZ (hw _ (List.mem_of_getElem? (i := 28) rfl))) (mvT hZ (hw _ (List.mem_of_getElem? (i := 29) rfl))) (notFace_of_selects (args := #[]) (mvT hZ (hw _ (List.mem_of_getElem? (i := 31) rfl)))) (mvT hZ (hw _ (List.mem_of_getElem? (i := 31) rfl))) (mvT hZ (hw _ (List.mem_of_getElem? (i := 30) rfl))) (by decide) (backOf (W := 0) (rm6 l Z a0 hw [] b19 b19 (r1_v (1 : Int32) (aa &&& (2147483647 : Int32))) (r1_v (1 : Int32) (aa &&& (2147483647 : Int32))) T68.heap n0 Z68 f74 f75 f75) hZ (hw _ (List.mem_of_getElem? (i := 32) rfl)) (hw _ (List.mem_of_getElem? (i := 7) rfl)) (by decide) (by decide)) q119a q119c (g := (mkF m 142 #[.val (.int aa), .val (.int bb), .val (.int cc), .val (.int (r1_v (1 : Int32) (aa &&& (2147483647 : Int32)))), .val (.int (cc &&& (3 : Int32))), .val (.int (j0_14_l5 aa bb cc)), .val (.ref b19), .val (.ref b34), .val (.ref b54), .val .null, .val (.ref rx), .val (.int (j0_101_l11 aa bb cc))] [(.ref b19), (.ref b19)])) rfl (by rw [hml]; rfl) (Steps.refl _) (argsL := [(.ref b19)]) (rest := []) (lenOf pd_4 rfl) rfl (by show 2 * 0 + _ ≤ _; exact Nat.le_of_eq rfl) (hb hby at_142) (fun _ _ => ⟨rfl, e118, (by decide : 3 + 0 ≤ _), (by decide : 3 + 0 ≤ _)⟩)
    dsimp only [Pt.U, Pt.locs, Pt.cells, Pt.slots] at X119 l119 y119 z119 st119 hQ119
    subst l119 y119 z119
    obtain ⟨rfl, N119q, e119⟩ := hQ119
    have N119 := Fr.app N118 N119q
    obtain ⟨cq120, kq120, q120a, q120b, q120c⟩ := isOf hZ e119 f74
    obtain ⟨_, _, ⟨T120, L120, k120, n120⟩, -, X120, ⟨Lc120, hQ120, l120, y120, z120⟩, st120⟩ := X119.virtualBack hx (y := (⟨"com/example/partlint/partlint/model/ApiLevel", "equals", "(Ljava/lang/Object;)Z"⟩ : MethodName)) (z := (⟨"com/example/partlint/partlint/model/ApiLevel", "equals", "(Ljava/lang/Object;)Z"⟩ : MethodName)) hown (mvT hZ (hw _ (List.mem_of_getElem? (i := 28) rfl))) (mvT hZ (hw _ (List.mem_of_getElem? (i := 29) rfl))) (notFace_of_selects (args := #[]) (mvT hZ (hw _ (List.mem_of_getElem? (i := 31) rfl)))) (mvT hZ (hw _ (List.mem_of_getElem? (i := 31) rfl))) (mvT hZ (hw _ (List.mem_of_getElem? (i := 30) rfl))) (by decide) (backOf (W := 0) (rm6 l Z a0 hw [] b19 b54 (r1_v (1 : Int32) (aa &&& (2147483647 : Int32))) (r1_v (1 : Int32) (aa &&& (2147483647 : Int32))) T68.heap n0 Z68 f78 f69 f75) hZ (hw _ (List.mem_of_getElem? (i := 32) rfl)) (hw _ (List.mem_of_getElem? (i := 7) rfl)) (by decide) (by decide)) q120a q120c (g := (mkF m 152 #[.val (.int aa), .val (.int bb), .val (.int cc), .val (.int (r1_v (1 : Int32) (aa &&& (2147483647 : Int32)))), .val (.int (cc &&& (3 : Int32))), .val (.int (j0_14_l5 aa bb cc)), .val (.ref b19), .val (.ref b34), .val (.ref b54), .val .null, .val (.ref rx), .val (.int (j0_101_l11 aa bb cc))] [(.ref b54), (.ref b19)])) rfl (by rw [hml]; rfl) (Steps.refl _) (argsL := [(.ref b54)]) (rest := []) (lenOf pd_4 rfl) rfl (by show 2 * 0 + _ ≤ _; exact Nat.le_of_eq rfl) (hb hby at_152) (fun _ _ => ⟨rfl, e119, (by decide : 3 + 0 ≤ _), (by decide : 3 + 0 ≤ _)⟩)
    dsimp only [Pt.U, Pt.locs, Pt.cells, Pt.slots] at X120 l120 y120 z120 st120 hQ120
    subst l120 y120 z120
    obtain ⟨rfl, N120q, e120⟩ := hQ120
    have N120 := Fr.app N119 N120q
    obtain ⟨cq121, kq121, q121a, q121b, q121c⟩ := isOf hZ e120 f74
    obtain ⟨_, _, ⟨T121, L121, k121, n121⟩, -, X121, ⟨Lc121, hQ121, l121, y121, z121⟩, st121⟩ := X120.virtualBack hx (y := (⟨"com/example/partlint/partlint/model/ApiLevel", "equals", "(Ljava/lang/Object;)Z"⟩ : MethodName)) (z := (⟨"com/example/partlint/partlint/model/ApiLevel", "equals", "(Ljava/lang/Object;)Z"⟩ : MethodName)) hown (mvT hZ (hw _ (List.mem_of_getElem? (i := 28) rfl))) (mvT hZ (hw _ (List.mem_of_getElem? (i := 29) rfl))) (notFace_of_selects (args := #[]) (mvT hZ (hw _ (List.mem_of_getElem? (i := 31) rfl)))) (mvT hZ (hw _ (List.mem_of_getElem? (i := 31) rfl))) (mvT hZ (hw _ (List.mem_of_getElem? (i := 30) rfl))) (by decide) (backOf (W := 0) (rm6n l Z a0 hw [] b19 T68.heap n0 Z68 ) hZ (hw _ (List.mem_of_getElem? (i := 32) rfl)) (hw _ (List.mem_of_getElem? (i := 7) rfl)) (by decide) (by decide)) q121a q121c (g := (mkF m 162 #[.val (.int aa), .val (.int bb), .val (.int cc), .val (.int (r1_v (1 : Int32) (aa &&& (2147483647 : Int32)))), .val (.int (cc &&& (3 : Int32))), .val (.int (j0_14_l5 aa bb cc)), .val (.ref b19), .val (.ref b34), .val (.ref b54), .val .null, .val (.ref rx), .val (.int (j0_101_l11 aa bb cc))] [.null, (.ref b19)])) rfl (by rw [hml]; rfl) (Steps.refl _) (argsL := [.null]) (rest := []) (lenOf pd_4 rfl) rfl (by show 2 * 0 + _ ≤ _; exact Nat.le_of_eq rfl) (hb hby at_162) (fun _ _ => ⟨rfl, e120, (by decide : 3 + 0 ≤ _), (by decide : 3 + 0 ≤ _)⟩)
    dsimp only [Pt.U, Pt.locs, Pt.cells, Pt.slots] at X121 l121 y121 z121 st121 hQ121
    subst l121 y121 z121
    obtain ⟨rfl, N121q, e121⟩ := hQ121
    have N121 := Fr.app N120 N121q
    obtain ⟨cq122, kq122, q122a, q122b, q122c⟩ := isOf hZ e121 f74
    obtain ⟨_, _, ⟨T122, L122, k122, n122⟩, -, X122, ⟨Lc122, hQ122, l122, y122, z122⟩, st122⟩ := X121.virtualBack hx (y := (⟨"com/example/partlint/partlint/model/ApiLevel", "equals", "(Ljava/lang/Object;)Z"⟩ : MethodName)) (z := (⟨"com/example/partlint/partlint/model/ApiLevel", "equals", "(Ljava/lang/Object;)Z"⟩ : MethodName)) hown (mvT hZ (hw _ (List.mem_of_getElem? (i := 28) rfl))) (mvT hZ (hw _ (List.mem_of_getElem? (i := 29) rfl))) (notFace_of_selects (args := #[]) (mvT hZ (hw _ (List.mem_of_getElem? (i := 31) rfl)))) (mvT hZ (hw _ (List.mem_of_getElem? (i := 31) rfl))) (mvT hZ (hw _ (List.mem_of_getElem? (i := 30) rfl))) (by decide) (backOf (W := 0) (rm6i l Z a0 hw [] b19 rx T68.heap n0 Z68 f73) hZ (hw _ (List.mem_of_getElem? (i := 32) rfl)) (hw _ (List.mem_of_getElem? (i := 7) rfl)) (by decide) (by decide)) q122a q122c (g := (mkF m 172 #[.val (.int aa), .val (.int bb), .val (.int cc), .val (.int (r1_v (1 : Int32) (aa &&& (2147483647 : Int32)))), .val (.int (cc &&& (3 : Int32))), .val (.int (j0_14_l5 aa bb cc)), .val (.ref b19), .val (.ref b34), .val (.ref b54), .val .null, .val (.ref rx), .val (.int (j0_101_l11 aa bb cc))] [(.ref rx), (.ref b19)])) rfl (by rw [hml]; rfl) (Steps.refl _) (argsL := [(.ref rx)]) (rest := []) (lenOf pd_4 rfl) rfl (by show 2 * 0 + _ ≤ _; exact Nat.le_of_eq rfl) (hb hby at_172) (fun _ _ => ⟨rfl, e121, (by decide : 3 + 0 ≤ _), (by decide : 3 + 0 ≤ _)⟩)
    dsimp only [Pt.U, Pt.locs, Pt.cells, Pt.slots] at X122 l122 y122 z122 st122 hQ122
    subst l122 y122 z122
    obtain ⟨rfl, N122q, e122⟩ := hQ122
    have N122 := Fr.app N121 N122q
    obtain ⟨fs, hr, hrun, hended, hW, hsame⟩ := X122.leave (v := some (.int (1 : Int32))) (fun h => by rw [Bd.returns] at h; cases h)
    refine ⟨_, _, pre116 _ ?_, hrun, hended, _, _, rfl, ?_, ⟨_, rfl⟩, hW, hsame.mono (by decide) (by decide)⟩
    · show Steps p.tables e below (T111.setTop (mkF m 114 #[.val (.int aa), .val (.int bb), .val (.int cc), .val (.int (r1_v (1 : Int32) (aa &&& (2147483647 : Int32)))), .val (.int (cc &&& (3 : Int32))), .val (.int (j0_14_l5 aa bb cc)), .val (.ref b19), .val (.ref b34), .val (.ref b54), .val .null, .val (.ref rx), .val (.int (j0_101_l11 aa bb cc))] [])) _
      refine XS.aload X111.here hx rfl (hb hby at_114) rfl rfl ?_
      show Steps p.tables e below (T111.setTop (mkF m 116 #[.val (.int aa), .val (.int bb), .val (.int cc), .val (.int (r1_v (1 : Int32) (aa &&& (2147483647 : Int32)))), .val (.int (cc &&& (3 : Int32))), .val (.int (j0_14_l5 aa bb cc)), .val (.ref b19), .val (.ref b34), .val (.ref b54), .val .null, .val (.ref rx), .val (.int (j0_101_l11 aa bb cc))] [(.ref b19)])) _
      refine XS.aload X111.here hx rfl (hb hby at_116) rfl rfl ?_
      show Steps p.tables e below (T111.setTop (mkF m 118 #[.val (.int aa), .val (.int bb), .val (.int cc), .val (.int (r1_v (1 : Int32) (aa &&& (2147483647 : Int32)))), .val (.int (cc &&& (3 : Int32))), .val (.int (j0_14_l5 aa bb cc)), .val (.ref b19), .val (.ref b34), .val (.ref b54), .val .null, .val (.ref rx), .val (.int (j0_101_l11 aa bb cc))] [(.ref b34), (.ref b19)])) _
      refine st117.trans ?_
      show Steps p.tables e below (T117.setTop (mkF m 121 #[.val (.int aa), .val (.int bb), .val (.int cc), .val (.int (r1_v (1 : Int32) (aa &&& (2147483647 : Int32)))), .val (.int (cc &&& (3 : Int32))), .val (.int (j0_14_l5 aa bb cc)), .val (.ref b19), .val (.ref b34), .val (.ref b54), .val .null, .val (.ref rx), .val (.int (j0_101_l11 aa bb cc))] [(.int (r6_v (j0_14_l5 aa bb cc) (r1_v (1 : Int32) (aa &&& (2147483647 : Int32)))))])) _
      refine XS.iload X117.here hx rfl (hb hby at_121) rfl ?_
      show Steps p.tables e below (T117.setTop (mkF m 123 #[.val (.int aa), .val (.int bb), .val (.int cc), .val (.int (r1_v (1 : Int32) (aa &&& (2147483647 : Int32)))), .val (.int (cc &&& (3 : Int32))), .val (.int (j0_14_l5 aa bb cc)), .val (.ref b19), .val (.ref b34), .val (.ref b54), .val .null, .val (.ref rx), .val (.int (j0_101_l11 aa bb cc))] [(.int (j0_101_l11 aa bb cc)), (.int (r6_v (j0_14_l5 aa bb cc) (r1_v (1 : Int32) (aa &&& (2147483647 : Int32)))))])) _
      refine XS.icmpNo X117.here hx rfl (hb hby at_123) rfl (teq (own_e1 aa bb cc : ((r6_v (j0_14_l5 aa bb cc) (r1_v (1 : Int32) (aa &&& (2147483647 : Int32)))) = (j0_101_l11 aa bb cc)))).2 ?_
      show Steps p.tables e below (T117.setTop (mkF m 126 #[.val (.int aa), .val (.int bb), .val (.int cc), .val (.int (r1_v (1 : Int32) (aa &&& (2147483647 : Int32)))), .val (.int (cc &&& (3 : Int32))), .val (.int (j0_14_l5 aa bb cc)), .val (.ref b19), .val (.ref b34), .val (.ref b54), .val .null, .val (.ref rx), .val (.int (j0_101_l11 aa bb cc))] [])) _
      refine XS.aload X117.here hx rfl (hb hby at_126) rfl rfl ?_
      show Steps p.tables e below (T117.setTop (mkF m 128 #[.val (.int aa), .val (.int bb), .val (.int cc), .val (.int (r1_v (1 : Int32) (aa &&& (2147483647 : Int32)))), .val (.int (cc &&& (3 : Int32))), .val (.int (j0_14_l5 aa bb cc)), .val (.ref b19), .val (.ref b34), .val (.ref b54), .val .null, .val (.ref rx), .val (.int (j0_101_l11 aa bb cc))] [(.ref b34)])) _
      refine XS.aload X117.here hx rfl (hb hby at_128) rfl rfl ?_
      show Steps p.tables e below (T117.setTop (mkF m 130 #[.val (.int aa), .val (.int bb), .val (.int cc), .val (.int (r1_v (1 : Int32) (aa &&& (2147483647 : Int32)))), .val (.int (cc &&& (3 : Int32))), .val (.int (j0_14_l5 aa bb cc)), .val (.ref b19), .val (.ref b34), .val (.ref b54), .val .null, .val (.ref rx), .val (.int (j0_101_l11 aa bb cc))] [(.ref b19), (.ref b34)])) _
      refine st118.trans ?_
      show Steps p.tables e below (T118.setTop (mkF m 133 #[.val (.int aa), .val (.int bb), .val (.int cc), .val (.int (r1_v (1 : Int32) (aa &&& (2147483647 : Int32)))), .val (.int (cc &&& (3 : Int32))), .val (.int (j0_14_l5 aa bb cc)), .val (.ref b19), .val (.ref b34), .val (.ref b54), .val .null, .val (.ref rx), .val (.int (j0_101_l11 aa bb cc))] [(.int (r6_v (r1_v (1 : Int32) (aa &&& (2147483647 : Int32))) (j0_14_l5 aa bb cc)))])) _
      refine XS.iload X118.here hx rfl (hb hby at_133) rfl ?_
      show Steps p.tables e below (T118.setTop (mkF m 135 #[.val (.int aa), .val (.int bb), .val (.int cc), .val (.int (r1_v (1 : Int32) (aa &&& (2147483647 : Int32)))), .val (.int (cc &&& (3 : Int32))), .val (.int (j0_14_l5 aa bb cc)), .val (.ref b19), .val (.ref b34), .val (.ref b54), .val .null, .val (.ref rx), .val (.int (j0_101_l11 aa bb cc))] [(.int (j0_101_l11 aa bb cc)), (.int (r6_v (r1_v (1 : Int32) (aa &&& (2147483647 : Int32))) (j0_14_l5 aa bb cc)))])) _
      refine XS.icmpNo X118.here hx rfl (hb hby at_135) rfl (teq (own_e2 aa bb cc : ((r6_v (r1_v (1 : Int32) (aa &&& (2147483647 : Int32))) (j0_14_l5 aa bb cc)) = (j0_101_l11 aa bb cc)))).2 ?_
      show Steps p.tables e below (T118.setTop (mkF m 138 #[.val (.int aa), .val (.int bb), .val (.int cc), .val (.int (r1_v (1 : Int32) (aa &&& (2147483647 : Int32)))), .val (.int (cc &&& (3 : Int32))), .val (.int (j0_14_l5 aa bb cc)), .val (.ref b19), .val (.ref b34), .val (.ref b54), .val .null, .val (.ref rx), .val (.int (j0_101_l11 aa bb cc))] [])) _
      refine XS.aload X118.here hx rfl (hb hby at_138) rfl rfl ?_
      show Steps p.tables e below (T118.setTop (mkF m 140 #[.val (.int aa), .val (.int bb), .val (.int cc), .val (.int (r1_v (1 : Int32) (aa &&& (2147483647 : Int32)))), .val (.int (cc &&& (3 : Int32))), .val (.int (j0_14_l5 aa bb cc)), .val (.ref b19), .val (.ref b34), .val (.ref b54), .val .null, .val (.ref rx), .val (.int (j0_101_l11 aa bb cc))] [(.ref b19)])) _
      refine XS.aload X118.here hx rfl (hb hby at_140) rfl rfl ?_
      show Steps p.tables e below (T118.setTop (mkF m 142 #[.val (.int aa), .val (.int bb), .val (.int cc), .val (.int (r1_v (1 : Int32) (aa &&& (2147483647 : Int32)))), .val (.int (cc &&& (3 : Int32))), .val (.int (j0_14_l5 aa bb cc)), .val (.ref b19), .val (.ref b34), .val (.ref b54), .val .null, .val (.ref rx), .val (.int (j0_101_l11 aa bb cc))] [(.ref b19), (.ref b19)])) _
      refine st119.trans ?_
      show Steps p.tables e below (T119.setTop (mkF m 145 #[.val (.int aa), .val (.int bb), .val (.int cc), .val (.int (r1_v (1 : Int32) (aa &&& (2147483647 : Int32)))), .val (.int (cc &&& (3 : Int32))), .val (.int (j0_14_l5 aa bb cc)), .val (.ref b19), .val (.ref b34), .val (.ref b54), .val .null, .val (.ref rx), .val (.int (j0_101_l11 aa bb cc))] [(.int (r6_v (r1_v (1 : Int32) (aa &&& (2147483647 : Int32))) (r1_v (1 : Int32) (aa &&& (2147483647 : Int32)))))])) _
      refine XS.ifNo X119.here hx rfl (hb hby at_145) rfl ((if0 _ _).trans (feq (own_e3 aa bb cc : ¬ ((r6_v (r1_v (1 : Int32) (aa &&& (2147483647 : Int32))) (r1_v (1 : Int32) (aa &&& (2147483647 : Int32)))) = (0 : Int32)))).1) ?_
      show Steps p.tables e below (T119.setTop (mkF m 148 #[.val (.int aa), .val (.int bb), .val (.int cc), .val (.int (r1_v (1 : Int32) (aa &&& (2147483647 : Int32)))), .val (.int (cc &&& (3 : Int32))), .val (.int (j0_14_l5 aa bb cc)), .val (.ref b19), .val (.ref b34), .val (.ref b54), .val .null, .val (.ref rx), .val (.int (j0_101_l11 aa bb cc))] [])) _
      refine XS.aload X119.here hx rfl (hb hby at_148) rfl rfl ?_
      show Steps p.tables e below (T119.setTop (mkF m 150 #[.val (.int aa), .val (.int bb), .val (.int cc), .val (.int (r1_v (1 : Int32) (aa &&& (2147483647 : Int32)))), .val (.int (cc &&& (3 : Int32))), .val (.int (j0_14_l5 aa bb cc)), .val (.ref b19), .val (.ref b34), .val (.ref b54), .val .null, .val (.ref rx), .val (.int (j0_101_l11 aa bb cc))] [(.ref b19)])) _
      refine XS.aload X119.here hx rfl (hb hby at_150) rfl rfl ?_
      show Steps p.tables e below (T119.setTop (mkF m 152 #[.val (.int aa), .val (.int bb), .val (.int cc), .val (.int (r1_v (1 : Int32) (aa &&& (2147483647 : Int32)))), .val (.int (cc &&& (3 : Int32))), .val (.int (j0_14_l5 aa bb cc)), .val (.ref b19), .val (.ref b34), .val (.ref b54), .val .null, .val (.ref rx), .val (.int (j0_101_l11 aa bb cc))] [(.ref b54), (.ref b19)])) _
      refine st120.trans ?_
      show Steps p.tables e below (T120.setTop (mkF m 155 #[.val (.int aa), .val (.int bb), .val (.int cc), .val (.int (r1_v (1 : Int32) (aa &&& (2147483647 : Int32)))), .val (.int (cc &&& (3 : Int32))), .val (.int (j0_14_l5 aa bb cc)), .val (.ref b19), .val (.ref b34), .val (.ref b54), .val .null, .val (.ref rx), .val (.int (j0_101_l11 aa bb cc))] [(.int (r6_v (r1_v (1 : Int32) (aa &&& (2147483647 : Int32))) (r1_v (1 : Int32) (aa &&& (2147483647 : Int32)))))])) _
      refine XS.ifNo X120.here hx rfl (hb hby at_155) rfl ((if0 _ _).trans (feq (own_e4 aa bb cc : ¬ ((r6_v (r1_v (1 : Int32) (aa &&& (2147483647 : Int32))) (r1_v (1 : Int32) (aa &&& (2147483647 : Int32)))) = (0 : Int32)))).1) ?_
      show Steps p.tables e below (T120.setTop (mkF m 158 #[.val (.int aa), .val (.int bb), .val (.int cc), .val (.int (r1_v (1 : Int32) (aa &&& (2147483647 : Int32)))), .val (.int (cc &&& (3 : Int32))), .val (.int (j0_14_l5 aa bb cc)), .val (.ref b19), .val (.ref b34), .val (.ref b54), .val .null, .val (.ref rx), .val (.int (j0_101_l11 aa bb cc))] [])) _
      refine XS.aload X120.here hx rfl (hb hby at_158) rfl rfl ?_
      show Steps p.tables e below (T120.setTop (mkF m 160 #[.val (.int aa), .val (.int bb), .val (.int cc), .val (.int (r1_v (1 : Int32) (aa &&& (2147483647 : Int32)))), .val (.int (cc &&& (3 : Int32))), .val (.int (j0_14_l5 aa bb cc)), .val (.ref b19), .val (.ref b34), .val (.ref b54), .val .null, .val (.ref rx), .val (.int (j0_101_l11 aa bb cc))] [(.ref b19)])) _
      refine XS.aload X120.here hx rfl (hb hby at_160) rfl rfl ?_
      show Steps p.tables e below (T120.setTop (mkF m 162 #[.val (.int aa), .val (.int bb), .val (.int cc), .val (.int (r1_v (1 : Int32) (aa &&& (2147483647 : Int32)))), .val (.int (cc &&& (3 : Int32))), .val (.int (j0_14_l5 aa bb cc)), .val (.ref b19), .val (.ref b34), .val (.ref b54), .val .null, .val (.ref rx), .val (.int (j0_101_l11 aa bb cc))] [.null, (.ref b19)])) _
      refine st121.trans ?_
      show Steps p.tables e below (T121.setTop (mkF m 165 #[.val (.int aa), .val (.int bb), .val (.int cc), .val (.int (r1_v (1 : Int32) (aa &&& (2147483647 : Int32)))), .val (.int (cc &&& (3 : Int32))), .val (.int (j0_14_l5 aa bb cc)), .val (.ref b19), .val (.ref b34), .val (.ref b54), .val .null, .val (.ref rx), .val (.int (j0_101_l11 aa bb cc))] [(.int (0 : Int32))])) _
      refine XS.ifNo X121.here hx rfl (hb hby at_165) rfl ((if0 _ _).trans (teq (by decide : ((0 : Int32) = (0 : Int32)))).2) ?_
      show Steps p.tables e below (T121.setTop (mkF m 168 #[.val (.int aa), .val (.int bb), .val (.int cc), .val (.int (r1_v (1 : Int32) (aa &&& (2147483647 : Int32)))), .val (.int (cc &&& (3 : Int32))), .val (.int (j0_14_l5 aa bb cc)), .val (.ref b19), .val (.ref b34), .val (.ref b54), .val .null, .val (.ref rx), .val (.int (j0_101_l11 aa bb cc))] [])) _
      refine XS.aload X121.here hx rfl (hb hby at_168) rfl rfl ?_
      show Steps p.tables e below (T121.setTop (mkF m 170 #[.val (.int aa), .val (.int bb), .val (.int cc), .val (.int (r1_v (1 : Int32) (aa &&& (2147483647 : Int32)))), .val (.int (cc &&& (3 : Int32))), .val (.int (j0_14_l5 aa bb cc)), .val (.ref b19), .val (.ref b34), .val (.ref b54), .val .null, .val (.ref rx), .val (.int (j0_101_l11 aa bb cc))] [(.ref b19)])) _
      refine XS.aload X121.here hx rfl (hb hby at_170) rfl rfl ?_
      show Steps p.tables e below (T121.setTop (mkF m 172 #[.val (.int aa), .val (.int bb), .val (.int cc), .val (.int (r1_v (1 : Int32) (aa &&& (2147483647 : Int32)))), .val (.int (cc &&& (3 : Int32))), .val (.int (j0_14_l5 aa bb cc)), .val (.ref b19), .val (.ref b34), .val (.ref b54), .val .null, .val (.ref rx), .val (.int (j0_101_l11 aa bb cc))] [(.ref rx), (.ref b19)])) _
      refine st122.trans ?_
      show Steps p.tables e below (T122.setTop (mkF m 175 #[.val (.int aa), .val (.int bb), .val (.int cc), .val (.int (r1_v (1 : Int32) (aa &&& (2147483647 : Int32)))), .val (.int (cc &&& (3 : Int32))), .val (.int (j0_14_l5 aa bb cc)), .val (.ref b19), .val (.ref b34), .val (.ref b54), .val .null, .val (.ref rx), .val (.int (j0_101_l11 aa bb cc))] [(.int (0 : Int32))])) _
      refine XS.ifNo X122.here hx rfl (hb hby at_175) rfl ((if0 _ _).trans (teq (by decide : ((0 : Int32) = (0 : Int32)))).2) ?_
      show Steps p.tables e below (T122.setTop (mkF m 178 #[.val (.int aa), .val (.int bb), .val (.int cc), .val (.int (r1_v (1 : Int32) (aa &&& (2147483647 : Int32)))), .val (.int (cc &&& (3 : Int32))), .val (.int (j0_14_l5 aa bb cc)), .val (.ref b19), .val (.ref b34), .val (.ref b54), .val .null, .val (.ref rx), .val (.int (j0_101_l11 aa bb cc))] [])) _
      refine XS.iconst X122.here hx rfl (hb hby at_178) ?_
      show Steps p.tables e below (T122.setTop (mkF m 179 #[.val (.int aa), .val (.int bb), .val (.int cc), .val (.int (r1_v (1 : Int32) (aa &&& (2147483647 : Int32)))), .val (.int (cc &&& (3 : Int32))), .val (.int (j0_14_l5 aa bb cc)), .val (.ref b19), .val (.ref b34), .val (.ref b54), .val .null, .val (.ref rx), .val (.int (j0_101_l11 aa bb cc))] [(.int (1 : Int32))])) _
      refine XS.goto X122.here hx rfl (pc0 := 179) (pc' := 183) rfl (hb hby at_179) (by decide) (by decide) ?_
      show Steps p.tables e below (T122.setTop (mkF m 183 #[.val (.int aa), .val (.int bb), .val (.int cc), .val (.int (r1_v (1 : Int32) (aa &&& (2147483647 : Int32)))), .val (.int (cc &&& (3 : Int32))), .val (.int (j0_14_l5 aa bb cc)), .val (.ref b19), .val (.ref b34), .val (.ref b54), .val .null, .val (.ref rx), .val (.int (j0_101_l11 aa bb cc))] [(.int (1 : Int32))])) _
      exact retN X122 hx (t := .boolean) Bd.returns (by simp) (hb hby at_183) hr
    · show Q0 Z aa bb cc rc gv rx h0 n0 _ T122.heap _
      rw [e122]
      exact ⟨rfl, N122⟩
theorem own_int {args : Array Value} {s : State} {t : Term} {k : Int32} (h : (Jvm.Cond.eq t (.int k)).value args s none s [] = some true) : t.eval args s none [] s = some (.int k) := by
  cases hf : t.eval args s none [] s with
  | none => simp [Cond.value, hf] at h
  | some x =>
    have e : (Term.int k).eval args s none [] s = some (.int k) := rfl
    cases x <;> simp [Cond.value, hf, e] at h ⊢; exact h
theorem own_cache {args : Array Value} {s : State} (hs : ∀ d ∈ jdkStatics_1, d.before args s = true) : ∃ (rc : Addr) (gv : Nat → Value), (Term.static "java/lang/Integer$IntegerCache" "cache" "[Ljava/lang/Integer;").eval args s none [] s = some (.ref rc) ∧ AF s s.heap rc (.object "java/lang/Integer") 256 gv ∧ ∀ j, j < 256 → ∃ rx, gv j = .ref rx ∧ Exa s s.heap rx "java/lang/Integer" := by
  have a4 := Cond.before_iff.mp (hs _ (List.mem_of_getElem? (i := 4) rfl))
  obtain ⟨rc, ev⟩ := arr_v a4
  obtain ⟨c, A⟩ := Arr.start ev a4
  obtain ⟨l1, l2⟩ := Jvm.Free.IntBox.length_fwd (hs _ (List.mem_of_getElem? (i := 6) rfl)) ev A.1 A.2.1 A.2.2
  have hsz : c.slots.size = 256 := by
    have e := len_toInt l1
    rw [l2] at e
    have : (256 : Int32).toInt = 256 := rfl
    omega
  have hat := Jvm.Free.IntBox.arrayAt_of A.1 A.2.1 A.2.2
  have a7 := Cond.before_iff.mp (hs _ (List.mem_of_getElem? (i := 7) rfl))
  have hall := Cond.all_elim ev hat a7
  refine ⟨rc, fun j => (c.slots[j]?).getD .null, ev, ⟨c, A, hsz, fun j hj => ?_⟩, fun j hj => ?_⟩
  · have : j < c.slots.size := by rw [hsz]; exact hj
    simp [this]
  · have hj' : j < c.slots.size := by rw [hsz]; exact hj
    obtain ⟨q1, -⟩ := and_e (hall j hj')
    obtain ⟨rx, e1⟩ := exa_v q1
    have E := exa_at e1 q1
    obtain ⟨n1, n2⟩ := Jvm.Free.IntBox.place_nonneg j hj
    have evi : (Term.static "java/lang/Integer$IntegerCache" "cache" "[Ljava/lang/Integer;").eval args s none [j] s = some (.ref rc) := ev
    have e2 : (Term.elem (.static "java/lang/Integer$IntegerCache" "cache" "[Ljava/lang/Integer;") (.index 0)).eval args s none [j] s = c.slots[j]? := by
      have ei : (Term.index 0).eval args s none [j] s = some (.int j.toInt32) := rfl
      simp [Term.eval, hat, n1, n2] at evi ⊢
      simp [evi, hat, n1, n2]
    rw [e2] at e1
    exact ⟨rx, by simp [e1], E⟩
set_option maxRecDepth 65536 in
set_option maxHeartbeats 40000000 in
theorem comes_1 {Post : Tables → Env → Array Value → State → Outcome → State → Prop} (hpost : ∀ tb e args s v u, (limb_1_1.after args s (.returned v) u = true ∧ limb_1_2.after args s (.returned v) u = true ∧ True) → FrameEnd s (.returned v) u (Jvm.fieldLocs frame_1_writes args s ++ Jvm.arrayLocs frame_1_arrays args s ++ Jvm.staticLocs frame_1_statics s) 16 128 → Post tb e args s (.returned v) u) :
    ArmFor flags0 classFile x code maxLocals ret World_1 tables_1 room_1 Calls_1 rest_1 Pre_1 Post := by
  intro l hfl _ _ p e ha hc hk s m args below hf hA hF happ hP
  obtain ⟨hcalls, hrest, hpre⟩ := hP
  obtain ⟨-, -, -, hnamed, -, -, -, hat⟩ := (Spec.applies_iff hf).mp happ
  obtain ⟨hg, hn⟩ := and_e (Cond.before_iff.mp (show (Jvm.Cond.and given_1 narrow_1).before args s = true from hpre))
  obtain ⟨gv1, gv2⟩ := and_e hg
  obtain ⟨gv3, gv4⟩ := and_e gv2
  obtain ⟨gv5, gv6⟩ := and_e gv4
  obtain ⟨w0, w1, w2, rfl⟩ : ∃ w0 w1 w2 : Value, args = #[w0, w1, w2] := by
    have hs : args.size = 3 := by simpa [Cond.value, given_1] using gv1
    obtain ⟨L⟩ := args
    match L, hs with
    | [w0, w1, w2], _ => exact ⟨w0, w1, w2, rfl⟩
  have hw := fun d (hd : d ∈ tables_1) => atoms_spec (ws := Jvm.Cond.code x code maxLocals ret :: tables_1) hat d (List.mem_cons_of_mem _ hd)
  have hfit : Fit s := fun {y c} hc i hi => by
    obtain ⟨ha, rfl⟩ := Array.getElem?_eq_some_iff.mp hc
    have q := List.all_eq_true.mp ((Array.all_eq_true_iff_forall_mem.mp hF) _ (Array.getElem_mem ha)) i (List.mem_range.mpr hi)
    simpa [Array.getElem?_eq_getElem hi] using q
  obtain ⟨hsets, hown0⟩ := atoms_of _ (rest_1_c_eq ▸ (show rest_1_c.before _ s = true from hrest))
  have hr0 := Cond.before_iff.mp hown0
  obtain ⟨i0, ei0⟩ := is_v gv3
  obtain rfl : w0 = (.int i0) := Option.some.inj ei0
  obtain ⟨i1, ei1⟩ := is_v gv5
  obtain rfl : w1 = (.int i1) := Option.some.inj ei1
  obtain ⟨i2, ei2⟩ := is_v gv6
  obtain rfl : w2 = (.int i2) := Option.some.inj ei2
  obtain ⟨rc, gv, erc, Arc, hel⟩ := own_cache hsets
  have ehi := own_int (Cond.before_iff.mp (hsets _ (List.mem_of_getElem? (i := 3) rfl)))
  obtain ⟨rx, Erx, hgx⟩ : ∃ rx, Exa s s.heap rx "java/lang/Integer" ∧ ∀ jn : Nat, ((r1_v (1 : Int32) (i0 &&& (2147483647 : Int32))) + (128 : Int32)).toInt = jn → jn < 256 → gv jn = .ref rx := by
    by_cases q : ((r1_v (1 : Int32) (i0 &&& (2147483647 : Int32))) + (128 : Int32)).toInt.toNat < 256
    · obtain ⟨rx, h1, h2⟩ := hel _ q
      exact ⟨rx, h2, fun jn e hj => by rw [← h1]; congr 1; omega⟩
    · obtain ⟨rx, h1, h2⟩ := hel 0 (by decide)
      exact ⟨rx, h2, fun jn e hj => absurd hj (by omega)⟩
  obtain ⟨n, o, h1, h2, h3, _, L, rfl, ⟨rfl, N⟩, hq⟩ := rm0 l s _ hw tables_1 i0 i1 i2 _ _ _ s.heap s.heap.size (Nat.le_refl _) (Sta.start ehi (Or.inr ⟨(hw _ (List.mem_of_getElem? (i := 26) rfl)), hsets _ (List.mem_of_getElem? (i := 0) rfl)⟩)) (Sta.start erc (Or.inr ⟨(hw _ (List.mem_of_getElem? (i := 26) rfl)), hsets _ (List.mem_of_getElem? (i := 2) rfl)⟩)) Arc Erx hgx p e ha hc hk s m _ below hf ((Spec.applies_iff_loose hf).mp happ).1 ⟨rfl, State.Warmed39.refl s, rfl⟩ trivial
  refine ⟨n, _, h1, h2, h3, hpost _ _ _ _ _ _ ⟨Cond.after_iff.mpr rfl, Cond.after_iff.mpr (eq_i res_at (Term.int_eval (1)) rfl), trivial⟩ ⟨hq.1, hq.2.1, (hq.2.2.sift fun y hy => Or.inr (N y hy)).mono (by decide) (by decide)⟩⟩
theorem main_1_1 : Claimed_1_1 := comes_1 fun _ _ _ _ _ _ h hF => ⟨h.1, hF⟩
theorem main_1_2 : Claimed_1_2 := comes_1 fun _ _ _ _ _ _ h hF => ⟨h.2.1, hF⟩
end Jvm.Pilot.@@N@@
namespace Jvm.Pilot.@@N@@
open Jvm Jvm.ClassFile Sem Op Lib Jvm.Free Jvm.Stand Jvm.Pilot.@@N@@.Jvm.D
/-! MADE BY PROGRAM (witnessworld.py) out of the Statement's table words and the real class files: 18 classes; the members and pool entries that the words name. The judged class is class 1, her method 1. -/
namespace start1
open Jvm.ClassFile
def u (s : String) : CpInfo := .utf8 (stringToUtf16 s)
/-- a pool by its gaps: so many unusable entries, then the entry; so many at the end -/
def gap : Nat → List CpInfo → List CpInfo
  | 0, r => r
  | n + 1, r => .unusable :: gap n r
def poolList (es : List (Nat × CpInfo)) (last : Nat) : List CpInfo := es.foldr (fun e r => gap e.1 (e.2 :: r)) (gap last [])
def pool (es : List (Nat × CpInfo)) (last : Nat) : Array CpInfo := ⟨poolList es last⟩
def fileOf (pool : Array CpInfo) (this : Nat) (attrs : Array Attribute := #[]) (ms : Array MethodInfo := #[]) (fl : Nat := 33) (sup : Nat := 0) (ifs : Array Nat := #[]) (fds : Array FieldInfo := #[]) : ClassFile where
  minorVersion := 0
  majorVersion := 65
  constantPool := pool
  accessFlags := fl
  thisClass := this
  superClass := sup
  interfaces := ifs
  fields := fds
  methods := ms
  attributes := attrs
def plain (name : String) (sup : Option ClassId) : Class where
  name := name
  kind := .ordinary
  loader := none
  accessFlags := 33
  super := sup
  interfaces := #[]
  cf := none
  fields := #[]
  methods := #[]
  instanceTypes := #[]
  staticTypes := #[]
  resolved := #[]
  callSites := []
  init := .initialized
  statics := none
  mirror := none

def pool0 : Array CpInfo := pool [(5, u "<init>"), (0, u "()V"), (1, .class_ 10), (1, u "java/lang/Object")] 113

def k0c0 : Code := { maxStack := 0, maxLocals := 1, code := object_method_1_code, exceptionTable := #[], attributes := #[] }
def k0m0 : Method := { name := "<init>", desc := "()V", sig := { parameters := [], returnType := none }, accessFlags := 1, code := some k0c0 }
/-- java/lang/Object -/
def k0 : Class := { plain "java/lang/Object" none with
  accessFlags := 33
  interfaces := #[]
  cf := some (fileOf pool0 8 #[] #[{ accessFlags := 1, nameIndex := 5, descriptorIndex := 6, attributes := #[] }] 33 0 #[] #[])
  fields := #[]
  methods := #[k0m0]
  instanceTypes := #[]
  staticTypes := #[]
  resolved := Array.replicate 124 none
  statics := none }

def pool1 : Array CpInfo := pool [(2, .class_ 4), (1, u "java/lang/Object"), (0, u "<init>"), (0, u "()V"), (0, .integer 2147483647), (0, .methodref 9 10), (0, .class_ 11), (0, .nameAndType 12 13), (0, u "java/lang/Math"), (0, u "max"), (0, u "(II)I"), (0, .class_ 15), (0, u "java/lang/Integer"), (0, .class_ 17), (0, u "com/example/partlint/partlint/model/ApiLevel"), (0, .methodref 16 19), (0, .nameAndType 5 20), (0, u "(I)V"), (0, .methodref 14 22), (0, .nameAndType 23 24), (0, u "valueOf"), (0, u "(I)Ljava/lang/Integer;"), (0, .methodref 16 26), (0, .nameAndType 27 28), (0, u "equals"), (0, u "(Ljava/lang/Object;)Z"), (0, .class_ 30), (0, u "com/example/partlint/partlint/model/ApiLevelEqualsPinLaw"), (2, u "law"), (0, u "(III)Z")] 3

def k1m0 : Method := { name := "<init>", desc := "()V", sig := { parameters := [], returnType := none }, accessFlags := 1, code := none }
def k1c1 : Code := { maxStack := 3, maxLocals := 12, code := code, exceptionTable := #[], attributes := #[] }
def k1m1 : Method := { name := "law", desc := "(III)Z", sig := { parameters := [.int, .int, .int], returnType := some .boolean }, accessFlags := 9, code := some k1c1 }
/-- com/example/partlint/partlint/model/ApiLevelEqualsPinLaw -/
def k1 : Class := { plain "com/example/partlint/partlint/model/ApiLevelEqualsPinLaw" (some 0) with
  accessFlags := 49
  interfaces := #[]
  cf := some (fileOf pool1 29 #[] #[{ accessFlags := 1, nameIndex := 5, descriptorIndex := 6, attributes := #[] }, { accessFlags := 9, nameIndex := 33, descriptorIndex := 34, attributes := #[] }] 49 2 #[] #[])
  fields := #[]
  methods := #[k1m0, k1m1]
  instanceTypes := #[]
  staticTypes := #[]
  resolved := Array.replicate 38 none
  statics := none }

def pool2 : Array CpInfo := pool [(1, .class_ 2), (0, u "java/lang/Math"), (1, .class_ 6), (1, u "java/lang/Object"), (0, u "<init>"), (0, u "()V"), (89, .class_ 100), (1, u "java/lang/Math$RandomNumberGeneratorHolder"), (71, u "negativeZeroFloatBits"), (0, u "J"), (2, u "negativeZeroDoubleBits"), (21, u "max"), (46, u "$assertionsDisabled"), (0, u "Z"), (88, u "(II)I"), (2, u "twoToTheDoubleScaleDown"), (0, u "D"), (4, u "twoToTheDoubleScaleUp"), (9, u "E"), (3, u "PI"), (2, u "TAU"), (2, u "DEGREES_TO_RADIANS"), (0, u "RADIANS_TO_DEGREES")] 94

def k2m0 : Method := { name := "<init>", desc := "()V", sig := { parameters := [], returnType := none }, accessFlags := 2, code := none }
def k2c1 : Code := { maxStack := 2, maxLocals := 2, code := jdk_29_method_65_code, exceptionTable := #[], attributes := #[] }
def k2m1 : Method := { name := "max", desc := "(II)I", sig := { parameters := [.int, .int], returnType := some .int }, accessFlags := 9, code := some k2c1 }
/-- java/lang/Math -/
def k2 : Class := { plain "java/lang/Math" (some 0) with
  accessFlags := 49
  interfaces := #[]
  cf := some (fileOf pool2 1 #[.nestMembers #[98]] #[{ accessFlags := 2, nameIndex := 7, descriptorIndex := 8, attributes := #[] }, { accessFlags := 9, nameIndex := 198, descriptorIndex := 335, attributes := #[] }] 49 4 #[] #[{ accessFlags := 25, nameIndex := 354, descriptorIndex := 339, attributes := #[] }, { accessFlags := 25, nameIndex := 358, descriptorIndex := 339, attributes := #[] }, { accessFlags := 25, nameIndex := 361, descriptorIndex := 339, attributes := #[] }, { accessFlags := 26, nameIndex := 364, descriptorIndex := 339, attributes := #[] }, { accessFlags := 26, nameIndex := 365, descriptorIndex := 339, attributes := #[] }, { accessFlags := 26, nameIndex := 172, descriptorIndex := 173, attributes := #[] }, { accessFlags := 26, nameIndex := 176, descriptorIndex := 173, attributes := #[] }, { accessFlags := 8, nameIndex := 344, descriptorIndex := 339, attributes := #[] }, { accessFlags := 8, nameIndex := 338, descriptorIndex := 339, attributes := #[] }, { accessFlags := 4120, nameIndex := 245, descriptorIndex := 246, attributes := #[] }])
  fields := #[{ name := "E", type := .double, accessFlags := 25, slot := 0, constantValue := 0 }, { name := "PI", type := .double, accessFlags := 25, slot := 1, constantValue := 0 }, { name := "TAU", type := .double, accessFlags := 25, slot := 2, constantValue := 0 }, { name := "DEGREES_TO_RADIANS", type := .double, accessFlags := 26, slot := 3, constantValue := 0 }, { name := "RADIANS_TO_DEGREES", type := .double, accessFlags := 26, slot := 4, constantValue := 0 }, { name := "negativeZeroFloatBits", type := .long, accessFlags := 26, slot := 5, constantValue := 0 }, { name := "negativeZeroDoubleBits", type := .long, accessFlags := 26, slot := 6, constantValue := 0 }, { name := "twoToTheDoubleScaleUp", type := .double, accessFlags := 8, slot := 7, constantValue := 0 }, { name := "twoToTheDoubleScaleDown", type := .double, accessFlags := 8, slot := 8, constantValue := 0 }, { name := "$assertionsDisabled", type := .boolean, accessFlags := 4120, slot := 9, constantValue := 0 }]
  methods := #[k2m0, k2m1]
  instanceTypes := #[]
  staticTypes := #[.double, .double, .double, .double, .double, .long, .long, .double, .double, .boolean]
  resolved := Array.replicate 460 none
  statics := none }

def pool3 : Array CpInfo := pool [(1, .methodref 2 3), (0, .class_ 4), (0, .nameAndType 5 6), (0, u "java/lang/Object"), (0, u "<init>"), (0, u "()V"), (0, .class_ 8), (0, u "java/lang/Record")] 13

def k3c0 : Code := { maxStack := 1, maxLocals := 1, code := jdk_30_method_1_code, exceptionTable := #[], attributes := #[] }
def k3m0 : Method := { name := "<init>", desc := "()V", sig := { parameters := [], returnType := none }, accessFlags := 4, code := some k3c0 }
/-- java/lang/Record -/
def k3 : Class := { plain "java/lang/Record" (some 0) with
  accessFlags := 1057
  interfaces := #[]
  cf := some (fileOf pool3 7 #[] #[{ accessFlags := 4, nameIndex := 5, descriptorIndex := 6, attributes := #[] }] 1057 2 #[] #[])
  fields := #[]
  methods := #[k3m0]
  instanceTypes := #[]
  staticTypes := #[]
  resolved := Array.replicate 22 none
  statics := none }

def pool4 : Array CpInfo := pool [(1, .class_ 2), (0, u "java/lang/Comparable"), (0, .class_ 4), (0, u "java/lang/Object")] 7

/-- java/lang/Comparable -/
def k4 : Class := { plain "java/lang/Comparable" (some 0) with
  accessFlags := 1537
  interfaces := #[]
  cf := some (fileOf pool4 1 #[] #[] 1537 3 #[] #[])
  fields := #[]
  methods := #[]
  instanceTypes := #[]
  staticTypes := #[]
  resolved := Array.replicate 12 none
  statics := none }

def pool5 : Array CpInfo := pool [(1, .class_ 2), (0, u "com/example/partlint/partlint/model/ApiLevel"), (0, .methodref 4 5), (0, .class_ 6), (0, .nameAndType 7 8), (0, u "java/lang/Record"), (0, u "<init>"), (0, u "()V"), (9, .fieldref 1 19), (0, .nameAndType 20 21), (0, u "value"), (0, u "I"), (22, u "(I)V"), (58, .class_ 104), (0, u "java/lang/Comparable"), (0, u "LAST_SDK_FORM"), (2, u "FIRST_SDK_IN_VENDOR_FORM"), (1, u "FIRST_VENDOR_FORM"), (0, u "LAST_VENDOR_FORM"), (0, u "ONE_YEAR"), (1, u "MAX_DIGITS"), (1, u "SDK_FORM_WORDS"), (0, u "Ljava/lang/String;"), (2, u "VENDOR_FORM_WORDS"), (11, u "equals"), (0, u "(Ljava/lang/Object;)Z")] 32

def k5c0 : Code := { maxStack := 3, maxLocals := 2, code := prog_16_method_1_code, exceptionTable := #[], attributes := #[] }
def k5m0 : Method := { name := "<init>", desc := "(I)V", sig := { parameters := [.int], returnType := none }, accessFlags := 1, code := some k5c0 }
def k5c1 : Code := { maxStack := 2, maxLocals := 3, code := prog_16_method_8_code, exceptionTable := #[], attributes := #[] }
def k5m1 : Method := { name := "equals", desc := "(Ljava/lang/Object;)Z", sig := { parameters := [(.object "java/lang/Object")], returnType := some .boolean }, accessFlags := 1, code := some k5c1 }
/-- com/example/partlint/partlint/model/ApiLevel -/
def k5 : Class := { plain "com/example/partlint/partlint/model/ApiLevel" (some 3) with
  accessFlags := 49
  interfaces := #[4]
  cf := some (fileOf pool5 1 #[] #[{ accessFlags := 1, nameIndex := 7, descriptorIndex := 44, attributes := #[] }, { accessFlags := 1, nameIndex := 132, descriptorIndex := 133, attributes := #[] }] 49 4 #[103] #[{ accessFlags := 18, nameIndex := 20, descriptorIndex := 21, attributes := #[] }, { accessFlags := 26, nameIndex := 105, descriptorIndex := 21, attributes := #[] }, { accessFlags := 26, nameIndex := 108, descriptorIndex := 21, attributes := #[] }, { accessFlags := 26, nameIndex := 110, descriptorIndex := 21, attributes := #[] }, { accessFlags := 26, nameIndex := 111, descriptorIndex := 21, attributes := #[] }, { accessFlags := 26, nameIndex := 112, descriptorIndex := 21, attributes := #[] }, { accessFlags := 26, nameIndex := 114, descriptorIndex := 21, attributes := #[] }, { accessFlags := 25, nameIndex := 116, descriptorIndex := 117, attributes := #[] }, { accessFlags := 25, nameIndex := 120, descriptorIndex := 117, attributes := #[] }])
  fields := #[{ name := "value", type := .int, accessFlags := 18, slot := 0, constantValue := 0 }, { name := "LAST_SDK_FORM", type := .int, accessFlags := 26, slot := 0, constantValue := 0 }, { name := "FIRST_SDK_IN_VENDOR_FORM", type := .int, accessFlags := 26, slot := 1, constantValue := 0 }, { name := "FIRST_VENDOR_FORM", type := .int, accessFlags := 26, slot := 2, constantValue := 0 }, { name := "LAST_VENDOR_FORM", type := .int, accessFlags := 26, slot := 3, constantValue := 0 }, { name := "ONE_YEAR", type := .int, accessFlags := 26, slot := 4, constantValue := 0 }, { name := "MAX_DIGITS", type := .int, accessFlags := 26, slot := 5, constantValue := 0 }, { name := "SDK_FORM_WORDS", type := (.object "java/lang/String"), accessFlags := 25, slot := 6, constantValue := 0 }, { name := "VENDOR_FORM_WORDS", type := (.object "java/lang/String"), accessFlags := 25, slot := 7, constantValue := 0 }]
  methods := #[k5m0, k5m1]
  instanceTypes := #[.int]
  staticTypes := #[.int, .int, .int, .int, .int, .int, (.object "java/lang/String"), (.object "java/lang/String")]
  resolved := Array.replicate 166 none
  statics := none }

def pool6 : Array CpInfo := pool [(1, .class_ 2), (0, u "java/io/Serializable"), (0, .class_ 4), (0, u "java/lang/Object")] 2

/-- java/io/Serializable -/
def k6 : Class := { plain "java/io/Serializable" (some 0) with
  accessFlags := 1537
  interfaces := #[]
  cf := some (fileOf pool6 1 #[] #[] 1537 3 #[] #[])
  fields := #[]
  methods := #[]
  instanceTypes := #[]
  staticTypes := #[]
  resolved := Array.replicate 7 none
  statics := none }

def pool7 : Array CpInfo := pool [(1, .methodref 2 3), (0, .class_ 4), (0, .nameAndType 5 6), (0, u "java/lang/Object"), (0, u "<init>"), (0, u "()V"), (1, .class_ 10), (1, u "java/lang/Number"), (2, .class_ 14), (0, u "java/io/Serializable"), (0, u "serialVersionUID"), (0, u "J")] 20

def k7c0 : Code := { maxStack := 1, maxLocals := 1, code := jdk_18_method_1_code, exceptionTable := #[], attributes := #[] }
def k7m0 : Method := { name := "<init>", desc := "()V", sig := { parameters := [], returnType := none }, accessFlags := 1, code := some k7c0 }
/-- java/lang/Number -/
def k7 : Class := { plain "java/lang/Number" (some 0) with
  accessFlags := 1057
  interfaces := #[6]
  cf := some (fileOf pool7 8 #[] #[{ accessFlags := 1, nameIndex := 5, descriptorIndex := 6, attributes := #[] }] 1057 2 #[13] #[{ accessFlags := 26, nameIndex := 15, descriptorIndex := 16, attributes := #[] }])
  fields := #[{ name := "serialVersionUID", type := .long, accessFlags := 26, slot := 0, constantValue := 0 }]
  methods := #[k7m0]
  instanceTypes := #[]
  staticTypes := #[.long]
  resolved := Array.replicate 37 none
  statics := none }

def pool8 : Array CpInfo := pool [(1, .class_ 2), (0, u "java/lang/constant/Constable"), (0, .class_ 4), (0, u "java/lang/Object")] 6

/-- java/lang/constant/Constable -/
def k8 : Class := { plain "java/lang/constant/Constable" (some 0) with
  accessFlags := 1537
  interfaces := #[]
  cf := some (fileOf pool8 1 #[] #[] 1537 3 #[] #[])
  fields := #[]
  methods := #[]
  instanceTypes := #[]
  staticTypes := #[]
  resolved := Array.replicate 11 none
  statics := none }

def pool9 : Array CpInfo := pool [(1, .class_ 2), (0, u "java/lang/constant/ConstantDesc"), (0, .class_ 4), (0, u "java/lang/Object")] 32

/-- java/lang/constant/ConstantDesc -/
def k9 : Class := { plain "java/lang/constant/ConstantDesc" (some 0) with
  accessFlags := 1537
  interfaces := #[]
  cf := some (fileOf pool9 1 #[] #[] 1537 3 #[] #[])
  fields := #[]
  methods := #[]
  instanceTypes := #[]
  staticTypes := #[]
  resolved := Array.replicate 37 none
  statics := none }

def pool10 : Array CpInfo := pool [(1, .class_ 2), (0, u "java/lang/Integer"), (16, u "digits"), (0, u "[C"), (46, u "<init>"), (17, u "DigitOnes"), (0, u "[B"), (2, u "DigitTens"), (10, .nameAndType 67 101), (0, u "()V"), (85, u "valueOf"), (0, u "(I)Ljava/lang/Integer;"), (0, .class_ 190), (0, u "java/lang/Integer$IntegerCache"), (0, .fieldref 189 192), (0, .nameAndType 193 194), (0, u "high"), (0, u "I"), (0, .fieldref 189 196), (0, .nameAndType 197 198), (0, u "cache"), (0, u "[Ljava/lang/Integer;"), (0, .methodref 1 200), (0, .nameAndType 67 201), (0, u "(I)V"), (0, .methodref 203 100), (0, .class_ 204), (0, u "java/lang/Number"), (0, .fieldref 1 206), (0, .nameAndType 207 194), (0, u "value"), (94, u "TYPE"), (0, u "Ljava/lang/Class;"), (0, .class_ 305), (0, u "java/lang/Comparable"), (0, .class_ 307), (0, u "java/lang/constant/Constable"), (0, .class_ 309), (0, u "java/lang/constant/ConstantDesc"), (0, u "MIN_VALUE"), (1, u "MAX_VALUE"), (3, u "SIZE"), (1, u "BYTES"), (1, u "serialVersionUID"), (0, u "J")] 131

def k10c0 : Code := { maxStack := 3, maxLocals := 1, code := jdk_33_method_22_code, exceptionTable := #[], attributes := #[] }
def k10m0 : Method := { name := "valueOf", desc := "(I)Ljava/lang/Integer;", sig := { parameters := [.int], returnType := some (.object "java/lang/Integer") }, accessFlags := 9, code := some k10c0 }
def k10c1 : Code := { maxStack := 2, maxLocals := 2, code := jdk_33_method_23_code, exceptionTable := #[], attributes := #[] }
def k10m1 : Method := { name := "<init>", desc := "(I)V", sig := { parameters := [.int], returnType := none }, accessFlags := 1, code := some k10c1 }
/-- java/lang/Integer -/
def k10 : Class := { plain "java/lang/Integer" (some 7) with
  accessFlags := 49
  interfaces := #[4, 8, 9]
  cf := some (fileOf pool10 1 #[.nestMembers #[189]] #[{ accessFlags := 9, nameIndex := 187, descriptorIndex := 188, attributes := #[] }, { accessFlags := 1, nameIndex := 67, descriptorIndex := 201, attributes := #[] }] 49 203 #[304, 306, 308] #[{ accessFlags := 25, nameIndex := 310, descriptorIndex := 194, attributes := #[] }, { accessFlags := 25, nameIndex := 312, descriptorIndex := 194, attributes := #[] }, { accessFlags := 25, nameIndex := 302, descriptorIndex := 303, attributes := #[] }, { accessFlags := 24, nameIndex := 19, descriptorIndex := 20, attributes := #[] }, { accessFlags := 24, nameIndex := 89, descriptorIndex := 86, attributes := #[] }, { accessFlags := 24, nameIndex := 85, descriptorIndex := 86, attributes := #[] }, { accessFlags := 18, nameIndex := 207, descriptorIndex := 194, attributes := #[] }, { accessFlags := 25, nameIndex := 316, descriptorIndex := 194, attributes := #[] }, { accessFlags := 25, nameIndex := 318, descriptorIndex := 194, attributes := #[] }, { accessFlags := 26, nameIndex := 320, descriptorIndex := 321, attributes := #[] }])
  fields := #[{ name := "MIN_VALUE", type := .int, accessFlags := 25, slot := 0, constantValue := 0 }, { name := "MAX_VALUE", type := .int, accessFlags := 25, slot := 1, constantValue := 0 }, { name := "TYPE", type := (.object "java/lang/Class"), accessFlags := 25, slot := 2, constantValue := 0 }, { name := "digits", type := (.array .char), accessFlags := 24, slot := 3, constantValue := 0 }, { name := "DigitTens", type := (.array .byte), accessFlags := 24, slot := 4, constantValue := 0 }, { name := "DigitOnes", type := (.array .byte), accessFlags := 24, slot := 5, constantValue := 0 }, { name := "value", type := .int, accessFlags := 18, slot := 0, constantValue := 0 }, { name := "SIZE", type := .int, accessFlags := 25, slot := 6, constantValue := 0 }, { name := "BYTES", type := .int, accessFlags := 25, slot := 7, constantValue := 0 }, { name := "serialVersionUID", type := .long, accessFlags := 26, slot := 8, constantValue := 0 }]
  methods := #[k10m0, k10m1]
  instanceTypes := #[.int]
  staticTypes := #[.int, .int, (.object "java/lang/Class"), (.array .char), (.array .byte), (.array .byte), .int, .int, .long]
  resolved := Array.replicate 453 none
  statics := none }

def pool11 : Array CpInfo := pool [(2, .class_ 4), (1, u "java/lang/Object"), (0, u "<init>"), (0, u "()V"), (0, .class_ 8), (0, u "java/lang/Integer"), (7, .class_ 18), (1, u "java/lang/Integer$IntegerCache"), (0, u "$assertionsDisabled"), (0, u "Z"), (26, u "high"), (0, u "I"), (8, u "archivedCache"), (0, u "[Ljava/lang/Integer;"), (12, u "cache"), (0, u "low")] 27

def k11m0 : Method := { name := "<init>", desc := "()V", sig := { parameters := [], returnType := none }, accessFlags := 2, code := none }
/-- java/lang/Integer$IntegerCache -/
def k11 : Class := { plain "java/lang/Integer$IntegerCache" (some 0) with
  accessFlags := 48
  interfaces := #[]
  cf := some (fileOf pool11 16 #[.nestHost 7] #[{ accessFlags := 2, nameIndex := 5, descriptorIndex := 6, attributes := #[] }] 48 2 #[] #[{ accessFlags := 24, nameIndex := 72, descriptorIndex := 48, attributes := #[] }, { accessFlags := 24, nameIndex := 47, descriptorIndex := 48, attributes := #[] }, { accessFlags := 24, nameIndex := 71, descriptorIndex := 58, attributes := #[] }, { accessFlags := 8, nameIndex := 57, descriptorIndex := 58, attributes := #[] }, { accessFlags := 4120, nameIndex := 19, descriptorIndex := 20, attributes := #[] }])
  fields := #[{ name := "low", type := .int, accessFlags := 24, slot := 0, constantValue := 0 }, { name := "high", type := .int, accessFlags := 24, slot := 1, constantValue := 0 }, { name := "cache", type := (.array (.object "java/lang/Integer")), accessFlags := 24, slot := 2, constantValue := 0 }, { name := "archivedCache", type := (.array (.object "java/lang/Integer")), accessFlags := 8, slot := 3, constantValue := 0 }, { name := "$assertionsDisabled", type := .boolean, accessFlags := 4120, slot := 4, constantValue := 0 }]
  methods := #[k11m0]
  instanceTypes := #[]
  staticTypes := #[.int, .int, (.array (.object "java/lang/Integer")), (.array (.object "java/lang/Integer")), .boolean]
  resolved := Array.replicate 100 none
  statics := some 0 }

def pool12 : Array CpInfo := pool [(1, u "java/lang/Cloneable"), (0, .class_ 1), (0, u "java/lang/Object"), (0, .class_ 3)] 3

/-- java/lang/Cloneable -/
def k12 : Class := { plain "java/lang/Cloneable" (some 0) with
  accessFlags := 1537
  interfaces := #[]
  cf := some (fileOf pool12 2 #[] #[] 1537 4 #[] #[])
  fields := #[]
  methods := #[]
  instanceTypes := #[]
  staticTypes := #[]
  resolved := Array.replicate 8 none
  statics := none }

/-- the primitive byte -/
def k13 : Class := { plain "byte" none with kind := .primitive 'B', accessFlags := 0x411 }
/-- [B -/
def k14 : Class := { plain "[B" (some 0) with kind := .array 13 .byte, interfaces := #[12, 6], accessFlags := 1041 }

/-- the primitive int -/
def k15 : Class := { plain "int" none with kind := .primitive 'I', accessFlags := 0x411 }
/-- [I -/
def k16 : Class := { plain "[I" (some 0) with kind := .array 15 .int, interfaces := #[12, 6], accessFlags := 1041 }

/-- [Ljava/lang/Integer; -/
def k17 : Class := { plain "[Ljava/lang/Integer;" (some 0) with kind := .array 10 (.object "java/lang/Integer"), interfaces := #[12, 6], accessFlags := 1041 }

def heap : Heap := #[{ cls := 11, slots := #[.int 0, .int 127, .ref 1, .null, .int 0], vm := .statics 11 },
  { cls := 17, slots := #[.ref 2, .ref 3, .ref 4, .ref 5, .ref 6, .ref 7, .ref 8, .ref 9, .ref 10, .ref 11, .ref 12, .ref 13, .ref 14, .ref 15, .ref 16, .ref 17, .ref 18, .ref 19, .ref 20, .ref 21, .ref 22, .ref 23, .ref 24, .ref 25, .ref 26, .ref 27, .ref 28, .ref 29, .ref 30, .ref 31, .ref 32, .ref 33, .ref 34, .ref 35, .ref 36, .ref 37, .ref 38, .ref 39, .ref 40, .ref 41, .ref 42, .ref 43, .ref 44, .ref 45, .ref 46, .ref 47, .ref 48, .ref 49, .ref 50, .ref 51, .ref 52, .ref 53, .ref 54, .ref 55, .ref 56, .ref 57, .ref 58, .ref 59, .ref 60, .ref 61, .ref 62, .ref 63, .ref 64, .ref 65, .ref 66, .ref 67, .ref 68, .ref 69, .ref 70, .ref 71, .ref 72, .ref 73, .ref 74, .ref 75, .ref 76, .ref 77, .ref 78, .ref 79, .ref 80, .ref 81, .ref 82, .ref 83, .ref 84, .ref 85, .ref 86, .ref 87, .ref 88, .ref 89, .ref 90, .ref 91, .ref 92, .ref 93, .ref 94, .ref 95, .ref 96, .ref 97, .ref 98, .ref 99, .ref 100, .ref 101, .ref 102, .ref 103, .ref 104, .ref 105, .ref 106, .ref 107, .ref 108, .ref 109, .ref 110, .ref 111, .ref 112, .ref 113, .ref 114, .ref 115, .ref 116, .ref 117, .ref 118, .ref 119, .ref 120, .ref 121, .ref 122, .ref 123, .ref 124, .ref 125, .ref 126, .ref 127, .ref 128, .ref 129, .ref 130, .ref 131, .ref 132, .ref 133, .ref 134, .ref 135, .ref 136, .ref 137, .ref 138, .ref 139, .ref 140, .ref 141, .ref 142, .ref 143, .ref 144, .ref 145, .ref 146, .ref 147, .ref 148, .ref 149, .ref 150, .ref 151, .ref 152, .ref 153, .ref 154, .ref 155, .ref 156, .ref 157, .ref 158, .ref 159, .ref 160, .ref 161, .ref 162, .ref 163, .ref 164, .ref 165, .ref 166, .ref 167, .ref 168, .ref 169, .ref 170, .ref 171, .ref 172, .ref 173, .ref 174, .ref 175, .ref 176, .ref 177, .ref 178, .ref 179, .ref 180, .ref 181, .ref 182, .ref 183, .ref 184, .ref 185, .ref 186, .ref 187, .ref 188, .ref 189, .ref 190, .ref 191, .ref 192, .ref 193, .ref 194, .ref 195, .ref 196, .ref 197, .ref 198, .ref 199, .ref 200, .ref 201, .ref 202, .ref 203, .ref 204, .ref 205, .ref 206, .ref 207, .ref 208, .ref 209, .ref 210, .ref 211, .ref 212, .ref 213, .ref 214, .ref 215, .ref 216, .ref 217, .ref 218, .ref 219, .ref 220, .ref 221, .ref 222, .ref 223, .ref 224, .ref 225, .ref 226, .ref 227, .ref 228, .ref 229, .ref 230, .ref 231, .ref 232, .ref 233, .ref 234, .ref 235, .ref 236, .ref 237, .ref 238, .ref 239, .ref 240, .ref 241, .ref 242, .ref 243, .ref 244, .ref 245, .ref 246, .ref 247, .ref 248, .ref 249, .ref 250, .ref 251, .ref 252, .ref 253, .ref 254, .ref 255, .ref 256, .ref 257], vm := .none },
  { cls := 10, slots := #[.int (-128)], vm := .none },
  { cls := 10, slots := #[.int (-127)], vm := .none },
  { cls := 10, slots := #[.int (-126)], vm := .none },
  { cls := 10, slots := #[.int (-125)], vm := .none },
  { cls := 10, slots := #[.int (-124)], vm := .none },
  { cls := 10, slots := #[.int (-123)], vm := .none },
  { cls := 10, slots := #[.int (-122)], vm := .none },
  { cls := 10, slots := #[.int (-121)], vm := .none },
  { cls := 10, slots := #[.int (-120)], vm := .none },
  { cls := 10, slots := #[.int (-119)], vm := .none },
  { cls := 10, slots := #[.int (-118)], vm := .none },
  { cls := 10, slots := #[.int (-117)], vm := .none },
  { cls := 10, slots := #[.int (-116)], vm := .none },
  { cls := 10, slots := #[.int (-115)], vm := .none },
  { cls := 10, slots := #[.int (-114)], vm := .none },
  { cls := 10, slots := #[.int (-113)], vm := .none },
  { cls := 10, slots := #[.int (-112)], vm := .none },
  { cls := 10, slots := #[.int (-111)], vm := .none },
  { cls := 10, slots := #[.int (-110)], vm := .none },
  { cls := 10, slots := #[.int (-109)], vm := .none },
  { cls := 10, slots := #[.int (-108)], vm := .none },
  { cls := 10, slots := #[.int (-107)], vm := .none },
  { cls := 10, slots := #[.int (-106)], vm := .none },
  { cls := 10, slots := #[.int (-105)], vm := .none },
  { cls := 10, slots := #[.int (-104)], vm := .none },
  { cls := 10, slots := #[.int (-103)], vm := .none },
  { cls := 10, slots := #[.int (-102)], vm := .none },
  { cls := 10, slots := #[.int (-101)], vm := .none },
  { cls := 10, slots := #[.int (-100)], vm := .none },
  { cls := 10, slots := #[.int (-99)], vm := .none },
  { cls := 10, slots := #[.int (-98)], vm := .none },
  { cls := 10, slots := #[.int (-97)], vm := .none },
  { cls := 10, slots := #[.int (-96)], vm := .none },
  { cls := 10, slots := #[.int (-95)], vm := .none },
  { cls := 10, slots := #[.int (-94)], vm := .none },
  { cls := 10, slots := #[.int (-93)], vm := .none },
  { cls := 10, slots := #[.int (-92)], vm := .none },
  { cls := 10, slots := #[.int (-91)], vm := .none },
  { cls := 10, slots := #[.int (-90)], vm := .none },
  { cls := 10, slots := #[.int (-89)], vm := .none },
  { cls := 10, slots := #[.int (-88)], vm := .none },
  { cls := 10, slots := #[.int (-87)], vm := .none },
  { cls := 10, slots := #[.int (-86)], vm := .none },
  { cls := 10, slots := #[.int (-85)], vm := .none },
  { cls := 10, slots := #[.int (-84)], vm := .none },
  { cls := 10, slots := #[.int (-83)], vm := .none },
  { cls := 10, slots := #[.int (-82)], vm := .none },
  { cls := 10, slots := #[.int (-81)], vm := .none },
  { cls := 10, slots := #[.int (-80)], vm := .none },
  { cls := 10, slots := #[.int (-79)], vm := .none },
  { cls := 10, slots := #[.int (-78)], vm := .none },
  { cls := 10, slots := #[.int (-77)], vm := .none },
  { cls := 10, slots := #[.int (-76)], vm := .none },
  { cls := 10, slots := #[.int (-75)], vm := .none },
  { cls := 10, slots := #[.int (-74)], vm := .none },
  { cls := 10, slots := #[.int (-73)], vm := .none },
  { cls := 10, slots := #[.int (-72)], vm := .none },
  { cls := 10, slots := #[.int (-71)], vm := .none },
  { cls := 10, slots := #[.int (-70)], vm := .none },
  { cls := 10, slots := #[.int (-69)], vm := .none },
  { cls := 10, slots := #[.int (-68)], vm := .none },
  { cls := 10, slots := #[.int (-67)], vm := .none },
  { cls := 10, slots := #[.int (-66)], vm := .none },
  { cls := 10, slots := #[.int (-65)], vm := .none },
  { cls := 10, slots := #[.int (-64)], vm := .none },
  { cls := 10, slots := #[.int (-63)], vm := .none },
  { cls := 10, slots := #[.int (-62)], vm := .none },
  { cls := 10, slots := #[.int (-61)], vm := .none },
  { cls := 10, slots := #[.int (-60)], vm := .none },
  { cls := 10, slots := #[.int (-59)], vm := .none },
  { cls := 10, slots := #[.int (-58)], vm := .none },
  { cls := 10, slots := #[.int (-57)], vm := .none },
  { cls := 10, slots := #[.int (-56)], vm := .none },
  { cls := 10, slots := #[.int (-55)], vm := .none },
  { cls := 10, slots := #[.int (-54)], vm := .none },
  { cls := 10, slots := #[.int (-53)], vm := .none },
  { cls := 10, slots := #[.int (-52)], vm := .none },
  { cls := 10, slots := #[.int (-51)], vm := .none },
  { cls := 10, slots := #[.int (-50)], vm := .none },
  { cls := 10, slots := #[.int (-49)], vm := .none },
  { cls := 10, slots := #[.int (-48)], vm := .none },
  { cls := 10, slots := #[.int (-47)], vm := .none },
  { cls := 10, slots := #[.int (-46)], vm := .none },
  { cls := 10, slots := #[.int (-45)], vm := .none },
  { cls := 10, slots := #[.int (-44)], vm := .none },
  { cls := 10, slots := #[.int (-43)], vm := .none },
  { cls := 10, slots := #[.int (-42)], vm := .none },
  { cls := 10, slots := #[.int (-41)], vm := .none },
  { cls := 10, slots := #[.int (-40)], vm := .none },
  { cls := 10, slots := #[.int (-39)], vm := .none },
  { cls := 10, slots := #[.int (-38)], vm := .none },
  { cls := 10, slots := #[.int (-37)], vm := .none },
  { cls := 10, slots := #[.int (-36)], vm := .none },
  { cls := 10, slots := #[.int (-35)], vm := .none },
  { cls := 10, slots := #[.int (-34)], vm := .none },
  { cls := 10, slots := #[.int (-33)], vm := .none },
  { cls := 10, slots := #[.int (-32)], vm := .none },
  { cls := 10, slots := #[.int (-31)], vm := .none },
  { cls := 10, slots := #[.int (-30)], vm := .none },
  { cls := 10, slots := #[.int (-29)], vm := .none },
  { cls := 10, slots := #[.int (-28)], vm := .none },
  { cls := 10, slots := #[.int (-27)], vm := .none },
  { cls := 10, slots := #[.int (-26)], vm := .none },
  { cls := 10, slots := #[.int (-25)], vm := .none },
  { cls := 10, slots := #[.int (-24)], vm := .none },
  { cls := 10, slots := #[.int (-23)], vm := .none },
  { cls := 10, slots := #[.int (-22)], vm := .none },
  { cls := 10, slots := #[.int (-21)], vm := .none },
  { cls := 10, slots := #[.int (-20)], vm := .none },
  { cls := 10, slots := #[.int (-19)], vm := .none },
  { cls := 10, slots := #[.int (-18)], vm := .none },
  { cls := 10, slots := #[.int (-17)], vm := .none },
  { cls := 10, slots := #[.int (-16)], vm := .none },
  { cls := 10, slots := #[.int (-15)], vm := .none },
  { cls := 10, slots := #[.int (-14)], vm := .none },
  { cls := 10, slots := #[.int (-13)], vm := .none },
  { cls := 10, slots := #[.int (-12)], vm := .none },
  { cls := 10, slots := #[.int (-11)], vm := .none },
  { cls := 10, slots := #[.int (-10)], vm := .none },
  { cls := 10, slots := #[.int (-9)], vm := .none },
  { cls := 10, slots := #[.int (-8)], vm := .none },
  { cls := 10, slots := #[.int (-7)], vm := .none },
  { cls := 10, slots := #[.int (-6)], vm := .none },
  { cls := 10, slots := #[.int (-5)], vm := .none },
  { cls := 10, slots := #[.int (-4)], vm := .none },
  { cls := 10, slots := #[.int (-3)], vm := .none },
  { cls := 10, slots := #[.int (-2)], vm := .none },
  { cls := 10, slots := #[.int (-1)], vm := .none },
  { cls := 10, slots := #[.int 0], vm := .none },
  { cls := 10, slots := #[.int 1], vm := .none },
  { cls := 10, slots := #[.int 2], vm := .none },
  { cls := 10, slots := #[.int 3], vm := .none },
  { cls := 10, slots := #[.int 4], vm := .none },
  { cls := 10, slots := #[.int 5], vm := .none },
  { cls := 10, slots := #[.int 6], vm := .none },
  { cls := 10, slots := #[.int 7], vm := .none },
  { cls := 10, slots := #[.int 8], vm := .none },
  { cls := 10, slots := #[.int 9], vm := .none },
  { cls := 10, slots := #[.int 10], vm := .none },
  { cls := 10, slots := #[.int 11], vm := .none },
  { cls := 10, slots := #[.int 12], vm := .none },
  { cls := 10, slots := #[.int 13], vm := .none },
  { cls := 10, slots := #[.int 14], vm := .none },
  { cls := 10, slots := #[.int 15], vm := .none },
  { cls := 10, slots := #[.int 16], vm := .none },
  { cls := 10, slots := #[.int 17], vm := .none },
  { cls := 10, slots := #[.int 18], vm := .none },
  { cls := 10, slots := #[.int 19], vm := .none },
  { cls := 10, slots := #[.int 20], vm := .none },
  { cls := 10, slots := #[.int 21], vm := .none },
  { cls := 10, slots := #[.int 22], vm := .none },
  { cls := 10, slots := #[.int 23], vm := .none },
  { cls := 10, slots := #[.int 24], vm := .none },
  { cls := 10, slots := #[.int 25], vm := .none },
  { cls := 10, slots := #[.int 26], vm := .none },
  { cls := 10, slots := #[.int 27], vm := .none },
  { cls := 10, slots := #[.int 28], vm := .none },
  { cls := 10, slots := #[.int 29], vm := .none },
  { cls := 10, slots := #[.int 30], vm := .none },
  { cls := 10, slots := #[.int 31], vm := .none },
  { cls := 10, slots := #[.int 32], vm := .none },
  { cls := 10, slots := #[.int 33], vm := .none },
  { cls := 10, slots := #[.int 34], vm := .none },
  { cls := 10, slots := #[.int 35], vm := .none },
  { cls := 10, slots := #[.int 36], vm := .none },
  { cls := 10, slots := #[.int 37], vm := .none },
  { cls := 10, slots := #[.int 38], vm := .none },
  { cls := 10, slots := #[.int 39], vm := .none },
  { cls := 10, slots := #[.int 40], vm := .none },
  { cls := 10, slots := #[.int 41], vm := .none },
  { cls := 10, slots := #[.int 42], vm := .none },
  { cls := 10, slots := #[.int 43], vm := .none },
  { cls := 10, slots := #[.int 44], vm := .none },
  { cls := 10, slots := #[.int 45], vm := .none },
  { cls := 10, slots := #[.int 46], vm := .none },
  { cls := 10, slots := #[.int 47], vm := .none },
  { cls := 10, slots := #[.int 48], vm := .none },
  { cls := 10, slots := #[.int 49], vm := .none },
  { cls := 10, slots := #[.int 50], vm := .none },
  { cls := 10, slots := #[.int 51], vm := .none },
  { cls := 10, slots := #[.int 52], vm := .none },
  { cls := 10, slots := #[.int 53], vm := .none },
  { cls := 10, slots := #[.int 54], vm := .none },
  { cls := 10, slots := #[.int 55], vm := .none },
  { cls := 10, slots := #[.int 56], vm := .none },
  { cls := 10, slots := #[.int 57], vm := .none },
  { cls := 10, slots := #[.int 58], vm := .none },
  { cls := 10, slots := #[.int 59], vm := .none },
  { cls := 10, slots := #[.int 60], vm := .none },
  { cls := 10, slots := #[.int 61], vm := .none },
  { cls := 10, slots := #[.int 62], vm := .none },
  { cls := 10, slots := #[.int 63], vm := .none },
  { cls := 10, slots := #[.int 64], vm := .none },
  { cls := 10, slots := #[.int 65], vm := .none },
  { cls := 10, slots := #[.int 66], vm := .none },
  { cls := 10, slots := #[.int 67], vm := .none },
  { cls := 10, slots := #[.int 68], vm := .none },
  { cls := 10, slots := #[.int 69], vm := .none },
  { cls := 10, slots := #[.int 70], vm := .none },
  { cls := 10, slots := #[.int 71], vm := .none },
  { cls := 10, slots := #[.int 72], vm := .none },
  { cls := 10, slots := #[.int 73], vm := .none },
  { cls := 10, slots := #[.int 74], vm := .none },
  { cls := 10, slots := #[.int 75], vm := .none },
  { cls := 10, slots := #[.int 76], vm := .none },
  { cls := 10, slots := #[.int 77], vm := .none },
  { cls := 10, slots := #[.int 78], vm := .none },
  { cls := 10, slots := #[.int 79], vm := .none },
  { cls := 10, slots := #[.int 80], vm := .none },
  { cls := 10, slots := #[.int 81], vm := .none },
  { cls := 10, slots := #[.int 82], vm := .none },
  { cls := 10, slots := #[.int 83], vm := .none },
  { cls := 10, slots := #[.int 84], vm := .none },
  { cls := 10, slots := #[.int 85], vm := .none },
  { cls := 10, slots := #[.int 86], vm := .none },
  { cls := 10, slots := #[.int 87], vm := .none },
  { cls := 10, slots := #[.int 88], vm := .none },
  { cls := 10, slots := #[.int 89], vm := .none },
  { cls := 10, slots := #[.int 90], vm := .none },
  { cls := 10, slots := #[.int 91], vm := .none },
  { cls := 10, slots := #[.int 92], vm := .none },
  { cls := 10, slots := #[.int 93], vm := .none },
  { cls := 10, slots := #[.int 94], vm := .none },
  { cls := 10, slots := #[.int 95], vm := .none },
  { cls := 10, slots := #[.int 96], vm := .none },
  { cls := 10, slots := #[.int 97], vm := .none },
  { cls := 10, slots := #[.int 98], vm := .none },
  { cls := 10, slots := #[.int 99], vm := .none },
  { cls := 10, slots := #[.int 100], vm := .none },
  { cls := 10, slots := #[.int 101], vm := .none },
  { cls := 10, slots := #[.int 102], vm := .none },
  { cls := 10, slots := #[.int 103], vm := .none },
  { cls := 10, slots := #[.int 104], vm := .none },
  { cls := 10, slots := #[.int 105], vm := .none },
  { cls := 10, slots := #[.int 106], vm := .none },
  { cls := 10, slots := #[.int 107], vm := .none },
  { cls := 10, slots := #[.int 108], vm := .none },
  { cls := 10, slots := #[.int 109], vm := .none },
  { cls := 10, slots := #[.int 110], vm := .none },
  { cls := 10, slots := #[.int 111], vm := .none },
  { cls := 10, slots := #[.int 112], vm := .none },
  { cls := 10, slots := #[.int 113], vm := .none },
  { cls := 10, slots := #[.int 114], vm := .none },
  { cls := 10, slots := #[.int 115], vm := .none },
  { cls := 10, slots := #[.int 116], vm := .none },
  { cls := 10, slots := #[.int 117], vm := .none },
  { cls := 10, slots := #[.int 118], vm := .none },
  { cls := 10, slots := #[.int 119], vm := .none },
  { cls := 10, slots := #[.int 120], vm := .none },
  { cls := 10, slots := #[.int 121], vm := .none },
  { cls := 10, slots := #[.int 122], vm := .none },
  { cls := 10, slots := #[.int 123], vm := .none },
  { cls := 10, slots := #[.int 124], vm := .none },
  { cls := 10, slots := #[.int 125], vm := .none },
  { cls := 10, slots := #[.int 126], vm := .none },
  { cls := 10, slots := #[.int 127], vm := .none }]
def classes : Array Class := #[k0, k1, k2, k3, k4, k5, k6, k7, k8, k9, k10, k11, k12, k13, k14, k15, k16, k17]
def interned : List (Array UInt16 × Addr) := []
def slotsUsed : Nat := 517
def theMethod : MethodId := ⟨1, 1⟩
def args0 : Array Value := #[.int 5, .int 9, .int 0]
def aboutOver (below : List Frame) : State where
  vm := { classes := classes, interned := interned.toArray }
  heap := heap
  slotsUsed := slotsUsed
  threads := #[{ frames := .invoking theMethod args0 :: below }]
def below0 : List Frame := [.native { method := ⟨0, 0⟩, args := #[] }]
def about1 : State := aboutOver below0
def p0 : Program := .bare "" "" ""
def e0 : Env := launch0.env 0 0 0
theorem w_frames : about1.frames = Frame.invoking theMethod args0 :: below0 := rfl
set_option maxRecDepth 65536 in
theorem w_args : argsFit about1.vm theMethod args0 = true := by decide +kernel
set_option maxRecDepth 65536 in
theorem w_heap : heapFits about1 = true := by decide +kernel
set_option maxRecDepth 65536 in
theorem w_runnable : about1.curStatus? = some .runnable := by decide +kernel
set_option maxRecDepth 65536 in
theorem w_alone : about1.alone = true := by decide +kernel
set_option maxRecDepth 65536 in
theorem w_named : about1.methodNamed? x = some theMethod := by decide +kernel
set_option maxRecDepth 65536 in
theorem w_hears : about1.hears theMethod below0 = true := by decide +kernel
set_option maxRecDepth 65536 in
theorem w_ripe : about1.ripe theMethod args0 below0 = true := by decide +kernel
theorem w_running : about1.status = .running := rfl
set_option maxRecDepth 65536 in
theorem w_room : about1.hasRoom e0.platform room_1 = true :=
  launch0.hasRoom_least _ room_1 (by decide +kernel) (by decide +kernel) (by decide +kernel) (by decide +kernel) (by decide +kernel) (by decide +kernel)
theorem allAtoms_all (ts : List Jvm.Cond) (a : Array Jvm.Value) (st : Jvm.State) : (allAtoms ts).before a st = ts.all (fun c => c.before a st) := by
  induction ts with
  | nil => rfl
  | cons c t ih =>
    show (Jvm.Cond.and c (allAtoms t)).before a st = _
    rw [Jvm.Cond.before_and, ih, List.all_cons]
def words1 : List Jvm.Cond := Jvm.Cond.code x code maxLocals ret :: tables_1
/-- a 'code' word, met by the world's own term for the bytes: nothing is compared byte by byte -/
theorem code_word {y : MethodName} {bytes : ByteArray} {mx : Nat} {rt : Option FieldType} {a : Array Value} {s : State} {m : MethodId} {meth : Method} {c : Code} (h1 : s.methodNamed? y = some m) (h2 : s.vm.method? m = some meth) (h3 : meth.code = some c) (h4 : c.code = bytes)
    (h5 : (c.maxLocals == mx && c.exceptionTable.isEmpty && decide (c.maxStack ≤ mostOperands) && decide (meth.sig.returnType = rt) && !meth.locks && decide (parseMethodDescriptor y.desc = some meth.sig)) = true) : (Jvm.Cond.code y bytes mx rt).before a s = true := by
  simp only [Bool.and_eq_true, beq_iff_eq, Bool.not_eq_true', decide_eq_true_eq] at h5
  obtain ⟨⟨⟨⟨⟨g1, g2⟩, g3⟩, g4⟩, g5⟩, g6⟩ := h5
  simp [Cond.before, Cond.holds, Cond.value, h1, h2, h3, h4, g1, g2, g3, g4, g5, g6]
def isCode : Jvm.Cond → Bool
  | .code _ _ _ _ => true
  | _ => false
theorem all_split {L : List Jvm.Cond} {P : Jvm.Cond → Bool} (h1 : L.all (fun c => isCode c || P c) = true) (h2 : ∀ c ∈ L.filter isCode, P c = true) : L.all P = true := by
  refine List.all_eq_true.mpr fun c hc => ?_
  have h := List.all_eq_true.mp h1 c hc
  rcases Bool.eq_false_or_eq_true (isCode c) with hi | hi
  · exact h2 c (List.mem_filter.mpr ⟨hc, hi⟩)
  · simpa [hi] using h
set_option maxRecDepth 65536 in
theorem w_c0 : (Jvm.Cond.code x code maxLocals ret).before args0 about1 = true := code_word (m := ⟨1, 1⟩) (meth := k1m1) (c := k1c1) (by decide +kernel) rfl rfl rfl (by decide +kernel)
set_option maxRecDepth 65536 in
theorem w_c1 : (Jvm.Cond.code ({ cls := "java/lang/Math", name := "max", desc := "(II)I" } : Jvm.MethodName) jdk_29_method_65_code (2 : Nat) (Option.some Jvm.ClassFile.FieldType.int)).before args0 about1 = true := code_word (m := ⟨2, 1⟩) (meth := k2m1) (c := k2c1) (by decide +kernel) rfl rfl rfl (by decide +kernel)
set_option maxRecDepth 65536 in
theorem w_c2 : (Jvm.Cond.code ({ cls := "com/example/partlint/partlint/model/ApiLevel", name := "<init>", desc := "(I)V" } : Jvm.MethodName) prog_16_method_1_code (2 : Nat) (Option.none : Option Jvm.ClassFile.FieldType)).before args0 about1 = true := code_word (m := ⟨5, 0⟩) (meth := k5m0) (c := k5c0) (by decide +kernel) rfl rfl rfl (by decide +kernel)
set_option maxRecDepth 65536 in
theorem w_c3 : (Jvm.Cond.code ({ cls := "java/lang/Record", name := "<init>", desc := "()V" } : Jvm.MethodName) jdk_30_method_1_code (1 : Nat) (Option.none : Option Jvm.ClassFile.FieldType)).before args0 about1 = true := code_word (m := ⟨3, 0⟩) (meth := k3m0) (c := k3c0) (by decide +kernel) rfl rfl rfl (by decide +kernel)
set_option maxRecDepth 65536 in
theorem w_c4 : (Jvm.Cond.code ({ cls := "java/lang/Object", name := "<init>", desc := "()V" } : Jvm.MethodName) object_method_1_code (1 : Nat) (Option.none : Option Jvm.ClassFile.FieldType)).before args0 about1 = true := code_word (m := ⟨0, 0⟩) (meth := k0m0) (c := k0c0) (by decide +kernel) rfl rfl rfl (by decide +kernel)
set_option maxRecDepth 65536 in
theorem w_c5 : (Jvm.Cond.code ({ cls := "java/lang/Integer", name := "valueOf", desc := "(I)Ljava/lang/Integer;" } : Jvm.MethodName) jdk_33_method_22_code (1 : Nat) (Option.some (Jvm.ClassFile.FieldType.object "java/lang/Integer"))).before args0 about1 = true := code_word (m := ⟨10, 0⟩) (meth := k10m0) (c := k10c0) (by decide +kernel) rfl rfl rfl (by decide +kernel)
set_option maxRecDepth 65536 in
theorem w_c6 : (Jvm.Cond.code ({ cls := "com/example/partlint/partlint/model/ApiLevel", name := "equals", desc := "(Ljava/lang/Object;)Z" } : Jvm.MethodName) prog_16_method_8_code (3 : Nat) (Option.some Jvm.ClassFile.FieldType.boolean)).before args0 about1 = true := code_word (m := ⟨5, 1⟩) (meth := k5m1) (c := k5c1) (by decide +kernel) rfl rfl rfl (by decide +kernel)
set_option maxRecDepth 65536 in
theorem w_c7 : (Jvm.Cond.code ({ cls := "java/lang/Integer", name := "<init>", desc := "(I)V" } : Jvm.MethodName) jdk_33_method_23_code (2 : Nat) (Option.none : Option Jvm.ClassFile.FieldType)).before args0 about1 = true := code_word (m := ⟨10, 1⟩) (meth := k10m1) (c := k10c1) (by decide +kernel) rfl rfl rfl (by decide +kernel)
set_option maxRecDepth 65536 in
theorem w_c8 : (Jvm.Cond.code ({ cls := "java/lang/Number", name := "<init>", desc := "()V" } : Jvm.MethodName) jdk_18_method_1_code (1 : Nat) (Option.none : Option Jvm.ClassFile.FieldType)).before args0 about1 = true := code_word (m := ⟨7, 0⟩) (meth := k7m0) (c := k7c0) (by decide +kernel) rfl rfl rfl (by decide +kernel)
def codes1 : List Jvm.Cond := [Jvm.Cond.code x code maxLocals ret, Jvm.Cond.code ({ cls := "java/lang/Math", name := "max", desc := "(II)I" } : Jvm.MethodName) jdk_29_method_65_code (2 : Nat) (Option.some Jvm.ClassFile.FieldType.int), Jvm.Cond.code ({ cls := "com/example/partlint/partlint/model/ApiLevel", name := "<init>", desc := "(I)V" } : Jvm.MethodName) prog_16_method_1_code (2 : Nat) (Option.none : Option Jvm.ClassFile.FieldType), Jvm.Cond.code ({ cls := "java/lang/Record", name := "<init>", desc := "()V" } : Jvm.MethodName) jdk_30_method_1_code (1 : Nat) (Option.none : Option Jvm.ClassFile.FieldType), Jvm.Cond.code ({ cls := "java/lang/Object", name := "<init>", desc := "()V" } : Jvm.MethodName) object_method_1_code (1 : Nat) (Option.none : Option Jvm.ClassFile.FieldType), Jvm.Cond.code ({ cls := "java/lang/Integer", name := "valueOf", desc := "(I)Ljava/lang/Integer;" } : Jvm.MethodName) jdk_33_method_22_code (1 : Nat) (Option.some (Jvm.ClassFile.FieldType.object "java/lang/Integer")), Jvm.Cond.code ({ cls := "com/example/partlint/partlint/model/ApiLevel", name := "equals", desc := "(Ljava/lang/Object;)Z" } : Jvm.MethodName) prog_16_method_8_code (3 : Nat) (Option.some Jvm.ClassFile.FieldType.boolean), Jvm.Cond.code ({ cls := "java/lang/Integer", name := "<init>", desc := "(I)V" } : Jvm.MethodName) jdk_33_method_23_code (2 : Nat) (Option.none : Option Jvm.ClassFile.FieldType), Jvm.Cond.code ({ cls := "java/lang/Number", name := "<init>", desc := "()V" } : Jvm.MethodName) jdk_18_method_1_code (1 : Nat) (Option.none : Option Jvm.ClassFile.FieldType)]
set_option maxRecDepth 65536 in
theorem codes_eq : words1.filter isCode = codes1 := rfl
theorem w_codes : ∀ c ∈ words1.filter isCode, c.before args0 about1 = true := by
  rw [codes_eq]
  intro c hc
  simp only [codes1, List.mem_cons, List.not_mem_nil, or_false] at hc
  rcases hc with rfl | rfl | rfl | rfl | rfl | rfl | rfl | rfl | rfl
  · exact w_c0
  · exact w_c1
  · exact w_c2
  · exact w_c3
  · exact w_c4
  · exact w_c5
  · exact w_c6
  · exact w_c7
  · exact w_c8
set_option maxRecDepth 65536 in
theorem w_t1 : (words1.take 24).all (fun c => isCode c || c.before args0 about1) = true := by decide +kernel
set_option maxRecDepth 65536 in
theorem w_t2 : ((words1.drop 24).take 24).all (fun c => isCode c || c.before args0 about1) = true := by decide +kernel
set_option maxRecDepth 65536 in
theorem w_t3 : ((words1.drop 24).drop 24).all (fun c => isCode c || c.before args0 about1) = true := by decide +kernel
theorem w_tables : (allAtoms (Jvm.Cond.code x code maxLocals ret :: tables_1)).before args0 about1 = true := by
  rw [allAtoms_all]
  show words1.all (fun c => c.before args0 about1) = true
  refine all_split ?_ w_codes
  rw [← List.take_append_drop 24 words1, List.all_append, w_t1, ← List.take_append_drop 24 (words1.drop 24), List.all_append, w_t2, w_t3]
  rfl
set_option maxRecDepth 65536 in
theorem w_rest : rest_1_c.before args0 about1 = true := by decide +kernel
set_option maxRecDepth 65536 in
theorem w_case : (Jvm.Cond.and given_1 narrow_1).before args0 about1 = true := by decide +kernel
theorem w_applies : (headSpec (Jvm.Cond.code x code maxLocals ret :: tables_1) room_1).applies x e0.platform about1 = true :=
  (Spec.applies_iff w_frames).mpr ⟨w_running, w_runnable, w_alone, w_named, w_hears, w_ripe, w_room, w_tables⟩
theorem atStart : AtStart classFile x code maxLocals ret World_1 tables_1 room_1 Calls_1 rest_1 Pre_1 launch0 p0 e0 about1 theMethod args0 below0 :=
  ⟨lists_1, trivial, launch0.admits_env _ _ _, launch0.least_env, fairChoices_fair.cas, fairChoices_fair.clock, w_frames, w_args, w_heap, w_applies, trivial, w_rest, w_case⟩
end start1
theorem witness_1 : WitnessClaimed_1 := ⟨start1.p0, start1.e0, start1.about1, start1.theMethod, start1.args0, start1.below0, start1.atStart⟩
end Jvm.Pilot.@@N@@
