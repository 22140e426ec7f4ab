import JvmDerived
import JvmDerived.Pilot.@@N@@Statement
import JvmDerived.Pilot.@@N@@Code
set_option linter.unusedVariables false
set_option linter.unusedSimpArgs false
namespace Jvm.RoadKit
open Sem ClassFile Op Lib Jvm.Stand Jvm.Free Jvm.LawKit
section New
variable {p : Program} {l : Launch} {e : Env} {R : Room} {s : State} {m : MethodId} {args : Array Value} {below : List Frame} {meth : Method} {c : Code} {T : State} {locs : List Loc} {cells slots : Nat}
theorem retI (X : Stand p l e R s m args below meth c T locs cells slots) (hx : p.tables.exec = Jvm.exec) {pc : Nat} {Ls : Array Slot} {z : Int32} {rest : List Value} (hret : meth.sig.returnType = some .int) (hd : decode c.code pc = .ok (.ireturn, 1)) {fs : List Frame}
    (hl : ∀ (f : JFrame) (acts : List Action), f.method = m → f.locked = none → f.entered = [] → (doReturn e (T.setTop f) acts (some (.int z))).1 = T.setFrames fs) : Steps p.tables e below (T.setTop (mkF m pc Ls (.int z :: rest))) (T.setFrames fs) := by
  have hm' : T.vm.method? m = some meth := X.method'
  have hn : narrow .int (.int z) = .int z := rfl
  show Steps p.tables e below (T.setTop { method := m, pc := pc, locals := Ls, stack := _ :: rest, locked := none }) _
  jvm_step X.here [X.here.top, hx, hd, hm', hret, hn]
  first | (intro acts; rw [hl _ acts rfl rfl rfl]) | rw [hl _ _ rfl rfl rfl]
  exact Steps.refl _
theorem own_lremM {g : JFrame} {target : State} (X : Stand p l e R s m args below meth c T locs cells slots) (hx : p.tables.exec = Jvm.exec) (hg : g.method = m) {x y : Int64} {rest : List Value} (hd : decode c.code g.pc = .ok (.lrem, 1)) (hs : g.stack = .long y :: .long x :: rest) (hy : y ≠ 0)
    (hr : Steps p.tables e below (T.setTop { g with pc := g.pc + 1, stack := .long (x % y) :: rest }) target) : Steps p.tables e below (T.setTop g) target := by
  have q : x - (x / y) * y = x % y := lrem_mod x y
  exact XS.lrem X.here hx hg hd hs hy (by rw [q]; exact hr)
end New
/-! own: a long's comparison, an array by a function -/
theorem own_tltL {x y : Int64} (h : x < y) : ifCond.holds .lt (lcmpW x y) = true ∧ ifCond.holds .ge (lcmpW x y) = false ∧ ifCond.holds .gt (lcmpW y x) = true ∧ ifCond.holds .le (lcmpW y x) = false := by
  have h1 := (lc_lt x y).mpr h
  have h2 := (lc_gt y x).mpr h
  rw [← lcW] at h1 h2
  simp only [if0]
  exact ⟨(tlt h1).1, (tlt h1).2.1, (tlt h2).2.2.1, (tlt h2).2.2.2⟩
theorem own_fltL {x y : Int64} (h : ¬ x < y) : ifCond.holds .lt (lcmpW x y) = false ∧ ifCond.holds .ge (lcmpW x y) = true ∧ ifCond.holds .gt (lcmpW y x) = false ∧ ifCond.holds .le (lcmpW y x) = true := by
  have h1 := mt (lc_lt x y).mp h
  have h2 := mt (lc_gt y x).mp h
  rw [← lcW] at h1 h2
  simp only [if0]
  exact ⟨(flt h1).1, (flt h1).2.1, (flt h2).2.2.1, (flt h2).2.2.2⟩
theorem own_teqL {x y : Int64} (h : x = y) : ifCond.holds .eq (lcmpW x y) = true ∧ ifCond.holds .ne (lcmpW x y) = false := by
  have h1 := (lc_eq x y).mpr h
  rw [← lcW] at h1
  simp only [if0]
  exact teq h1
theorem own_feqL {x y : Int64} (h : ¬ x = y) : ifCond.holds .eq (lcmpW x y) = false ∧ ifCond.holds .ne (lcmpW x y) = true := by
  have h1 := mt (lc_eq x y).mp h
  rw [← lcW] at h1
  simp only [if0]
  exact feq h1
theorem own_iadd {x y : Int32} {X Y : Int} (hx : x.toInt = X) (hy : y.toInt = Y) (h1 : -2147483648 ≤ X + Y) (h2 : X + Y < 2147483648) : (x + y).toInt = X + Y := by
  have := c_iadd x y; have := rng32 (x + y); omega
theorem own_isub {x y : Int32} {X Y : Int} (hx : x.toInt = X) (hy : y.toInt = Y) (h1 : -2147483648 ≤ X - Y) (h2 : X - Y < 2147483648) : (x - y).toInt = X - Y := by
  have := c_isub x y; have := rng32 (x - y); omega
theorem own_imul {x y : Int32} {X Y : Int} (hx : x.toInt = X) (hy : y.toInt = Y) (h1 : -2147483648 ≤ X * Y) (h2 : X * Y < 2147483648) : (x * y).toInt = X * Y := by
  have := c_imul x y; have := rng32 (x * y); subst hx hy; omega
theorem own_ladd {x y : Int64} {X Y : Int} (hx : x.toInt = X) (hy : y.toInt = Y) (h1 : -9223372036854775808 ≤ X + Y) (h2 : X + Y < 9223372036854775808) : (x + y).toInt = X + Y := by
  have := c_ladd x y; have := rng64 (x + y); omega
theorem own_lsub {x y : Int64} {X Y : Int} (hx : x.toInt = X) (hy : y.toInt = Y) (h1 : -9223372036854775808 ≤ X - Y) (h2 : X - Y < 9223372036854775808) : (x - y).toInt = X - Y := by
  have := c_lsub x y; have := rng64 (x - y); omega
theorem own_lmul {x y : Int64} {X Y : Int} (hx : x.toInt = X) (hy : y.toInt = Y) (h1 : -9223372036854775808 ≤ X * Y) (h2 : X * Y < 9223372036854775808) : (x * y).toInt = X * Y := by
  have := c_lmul x y; have := rng64 (x * y); subst hx hy; omega
theorem own_maskL (x m : Int64) (k : Nat) (M : Int) (hM : m.toInt = M) (hk : k ≤ 63) (hm : m.toBitVec.toNat = 2 ^ k - 1) : 0 ≤ (x &&& m).toInt ∧ (x &&& m).toInt ≤ M := by
  have h := c_maskL x m k hk hm
  have h2 := c_maskL m m k hk hm
  have e : m &&& m = m := by simp
  rw [e] at h2
  have p : (0 : Int) < ((2 ^ k : Nat) : Int) := by have := Nat.two_pow_pos k; omega
  have a1 := Int.emod_nonneg x.toInt (show ((2 ^ k : Nat) : Int) ≠ 0 by omega)
  have a2 := Int.emod_lt_of_pos x.toInt p
  have hmi : m.toInt = ((2 ^ k - 1 : Nat) : Int) := by
    have h3 : m.toInt = (m.toBitVec.toNat : Int) := by
      show m.toBitVec.toInt = _
      rw [BitVec.toInt_eq_toNat_cond, hm]
      have : 2 ^ k ≤ 2 ^ 63 := Nat.pow_le_pow_right (by decide) hk
      split <;> omega
    rw [h3, hm]
  omega
theorem own_nb (x : Int32) : nar .byte (x.toInt8.toInt32) = x.toInt8.toInt32 := by
  show (x.toInt8.toInt32).toInt8.toInt32 = _
  simp
theorem own_sel {args : Array Value} {s : State} {y z : MethodName} (hi : (Cond.instanceMethod y).before args s = true) (hp : (Cond.privateMethod y).before args s = true) (h2 : (Cond.selects y.cls z z).before args s = true) (hc : z.cls = y.cls)
    (hy : y.cls ≠ "java/lang/invoke/MethodHandle" ∧ y.cls ≠ "java/lang/invoke/VarHandle") : (Cond.selects y.cls y y).before args s = true := by
  obtain ⟨mk, meth, hn, hm, -, -⟩ := Cond.instanceMethod_spec hi
  obtain ⟨c, r, m2, -, -, f3, -, k, f4, f5⟩ := Cond.selects_spec h2
  have e1 := findClass_of_methodNamed hn
  have e2 := findClass_of_methodNamed f3
  rw [hc, e1] at e2
  have e3 : m2.cls = mk.cls := (Option.some.inj e2).symm
  have e4 := State.methodFound?_of_named hn hy
  have e5 := selectMethod_private (p := {}) (c := mk.cls) hm (Cond.privateMethod_at hp mk meth hn hm)
  rw [e3] at f4
  simp [Cond.before, Cond.holds, Cond.value, e1, e4, hn, e5, f4, f5]
def AF (Z : State) (h : Heap) (a : Addr) (ty : FieldType) (n : Nat) (g : Nat → Value) : Prop := ∃ c : Cell, Arr Z h a c ty ∧ c.slots.size = n ∧ ∀ j, j < n → c.slots[j]? = some (g j)
abbrev AI (Z : State) (h : Heap) (a : Addr) (ty : FieldType) (n : Nat) (f : Nat → Int32) : Prop := AF Z h a ty n (fun j => .int (f j))
abbrev AJ (Z : State) (h : Heap) (a : Addr) (ty : FieldType) (n : Nat) (f : Nat → Int64) : Prop := AF Z h a ty n (fun j => .long (f j))
abbrev AD (Z : State) (h : Heap) (a : Addr) (ty : FieldType) (n : Nat) (f : Nat → UInt64) : Prop := AF Z h a ty n (fun j => .double (f j))
theorem own_exaP {Z : State} {h : Heap} {a : Addr} {C : String} (E : Exa Z h a C) : ∃ c : Cell, h[a]? = some c ∧ c.vm.isStatics = false := by
  obtain ⟨c, k, h1, -, -, h4, -⟩ := E; exact ⟨c, h1, h4⟩
theorem own_arrP {Z : State} {h : Heap} {a : Addr} {ty : FieldType} {n : Nat} {g : Nat → Value} (F : AF Z h a ty n g) : ∃ c : Cell, h[a]? = some c ∧ c.vm.isStatics = false := by
  obtain ⟨c, A, -⟩ := F; exact ⟨c, A.1, A.plain⟩
theorem own_sta {Z : State} {h h' : Heap} {ws : List Addr} {C n d : String} {v : Value} (F : Sta Z h C n d v) (K : Keep h h' ws) (q : ∀ x ∈ ws, ∃ c : Cell, h[x]? = some c ∧ c.vm.isStatics = false) : Sta Z h' C n d v := by
  obtain ⟨cf, i, k, f, st, cell, h1, h2, h3, h4, h5, h6, h7⟩ := F
  refine ⟨cf, i, k, f, st, cell, h1, h2, h3, h4, K.2.1 st cell h5 (fun hm => ?_), h6, h7⟩
  obtain ⟨c, g1, g2⟩ := q st hm
  cases g1.symm.trans h5
  rw [h6] at g2; cases g2
def up {α : Type} (f : Nat → α) (i : Nat) (v : α) : Nat → α := fun j => if j = i then v else f j
def zI : Nat → Int32 := fun _ => 0
def zJ : Nat → Int64 := fun _ => 0
section Arrs
variable {Z : State} {h h' : Heap} {a b : Addr} {ty : FieldType} {n : Nat} {g g' : Nat → Value}
theorem AF.lt (F : AF Z h a ty n g) : a < h.size := by obtain ⟨c, A, -⟩ := F; exact A.lt
theorem AF.ext (F : AF Z h a ty n g) (E : Ext h h') : AF Z h' a ty n g := by obtain ⟨c, A, r⟩ := F; exact ⟨c, A.ext E, r⟩
theorem AF.other {sl : Nat} {v : Value} (F : AF Z h b ty n g) (W : Wr h h' a sl v) (q : b ≠ a) : AF Z h' b ty n g := by obtain ⟨c, A, r⟩ := F; exact ⟨c, A.other W q, r⟩
theorem AF.keep {ws : List Addr} (F : AF Z h a ty n g) (K : Keep h h' ws) (q : a ∉ ws) : AF Z h' a ty n g := by obtain ⟨c, A, r⟩ := F; exact ⟨c, ⟨K.2.1 a c A.1 q, A.2⟩, r⟩
theorem AF.re (F : AF Z h a ty n g) (q : ∀ j, j < n → g j = g' j) : AF Z h a ty n g' := by obtain ⟨c, A, S, H⟩ := F; exact ⟨c, A, S, fun j hj => by rw [H j hj, q j hj]⟩
theorem AF.at (F : AF Z h a ty n g) {j : Int32} (i : Nat) (hj : j.toInt = i) (hi : i < n) : ∃ c : Cell, Arr Z h a c ty ∧ ¬ (j < 0 ∨ c.slots.size ≤ j.toNatClampNeg) ∧ c.slots[j.toNatClampNeg]? = some (g i) := by
  obtain ⟨c, A, S, H⟩ := F
  have e : j.toNatClampNeg = i := by simp only [Int32.toNatClampNeg, hj]; omega
  refine ⟨c, A, ?_, by rw [e]; exact H i hi⟩
  rw [e, S, Int32.lt_iff_toInt_lt, hj]
  have : (0 : Int32).toInt = 0 := rfl
  omega
theorem AF.len (F : AF Z h a ty n g) : ∃ c : Cell, Arr Z h a c ty ∧ c.slots.size = n := by obtain ⟨c, A, S, -⟩ := F; exact ⟨c, A, S⟩
theorem AF.set {k : Nat} {v : Value} (F : AF Z h a ty n g) (W : Wr h h' a k v) : AF Z h' a ty n (fun j => if j = k then v else g j) := by
  obtain ⟨c, A, S, H⟩ := F
  refine ⟨_, A.same W, by rw [sz_set]; exact S, fun j hj => ?_⟩
  by_cases q : j = k
  · subst q; simp [Cell.setSlot, S, hj]
  · show _ = some (if j = k then v else g j)
    rw [if_neg q]; have := H j hj; simp only [Cell.setSlot] at this ⊢; rw [Array.getElem?_setIfInBounds_ne (Ne.symm q)]; exact this
theorem own_tn {j : Int32} {i : Nat} (hj : j.toInt = i) : j.toNatClampNeg = i := by simp only [Int32.toNatClampNeg, hj]; omega
theorem AF.setI {f : Nat → Int32} {j : Int32} {v : Int32} (F : AI Z h a ty n f) (W : Wr h h' a j.toNatClampNeg (.int v)) (i : Nat) (hj : j.toInt = i) : AI Z h' a ty n (up f i v) := by
  rw [own_tn hj] at W
  exact (AF.set F W).re fun k _ => by by_cases q : k = i <;> simp [up, q]
theorem AF.setJ {f : Nat → Int64} {j : Int32} {v : Int64} (F : AJ Z h a ty n f) (W : Wr h h' a j.toNatClampNeg (.long v)) (i : Nat) (hj : j.toInt = i) : AJ Z h' a ty n (up f i v) := by
  rw [own_tn hj] at W
  exact (AF.set F W).re fun k _ => by by_cases q : k = i <;> simp [up, q]
theorem AF.setD {f : Nat → UInt64} {j : Int32} {v : UInt64} (F : AD Z h a ty n f) (W : Wr h h' a j.toNatClampNeg (.double v)) (i : Nat) (hj : j.toInt = i) : AD Z h' a ty n (up f i v) := by
  rw [own_tn hj] at W
  exact (AF.set F W).re fun k _ => by by_cases q : k = i <;> simp [up, q]
theorem AF.new {k : ClassId} {z : Int32} (A : Arr Z h a (newA k ty z) ty) (hz : z.toInt = n) : AF Z h a ty n (fun _ => defaultValue ty) :=
  ⟨_, A, by rw [sz_new]; exact own_tn hz, fun j hj => by simp [newA, own_tn hz, hj]⟩
end Arrs
end Jvm.RoadKit
namespace Jvm.Pilot.@@N@@
open Jvm Jvm.ClassFile Sem Op Lib Jvm.Free Jvm.Stand Jvm.LawKit Jvm.RoadKit Bundle Jvm.Pilot.@@N@@.Jvm.D
theorem ef_1 (m : MethodId) (aa : Int32) (bb : Int32) (kk : Int32) : entryFrame m #[(.int aa), (.int bb), (.int kk)] 4 = mkF m 0 #[.val (.int aa), .val (.int bb), .val (.int kk), .unset] [] := by first | (simp [entryFrame, mkF, argsToLocals, Value.category]; done) | rfl
theorem d1_0 : decode method_3_code 0 = .ok (.iload_n 0, 1) := by decide +kernel
theorem d1_1 : decode method_3_code 1 = .ok (.iconst 2, 1) := by decide +kernel
theorem d1_2 : decode method_3_code 2 = .ok (.iload_n 2, 1) := by decide +kernel
theorem d1_3 : decode method_3_code 3 = .ok (.imul, 1) := by decide +kernel
theorem d1_4 : decode method_3_code 4 = .ok (.iushr, 1) := by decide +kernel
theorem d1_5 : decode method_3_code 5 = .ok (.iconst 3, 1) := by decide +kernel
theorem d1_6 : decode method_3_code 6 = .ok (.iand, 1) := by decide +kernel
theorem d1_7 : decode method_3_code 7 = .ok (.istore_n 3, 1) := by decide +kernel
theorem d1_8 : decode method_3_code 8 = .ok (.iload_n 1, 1) := by decide +kernel
theorem d1_9 : decode method_3_code 9 = .ok (.bipush 8, 2) := by decide +kernel
theorem d1_11 : decode method_3_code 11 = .ok (.iload_n 3, 1) := by decide +kernel
theorem d1_12 : decode method_3_code 12 = .ok (.imul, 1) := by decide +kernel
theorem d1_13 : decode method_3_code 13 = .ok (.iushr, 1) := by decide +kernel
theorem d1_14 : decode method_3_code 14 = .ok (.i2b, 1) := by decide +kernel
theorem d1_15 : decode method_3_code 15 = .ok (.ireturn, 1) := by decide +kernel
def r1_v (aa : Int32) (bb : Int32) (kk : Int32) : Int32 := (nar .byte (((bb.toUInt32 >>> (((8 : Int32) * (((aa.toUInt32 >>> (((2 : Int32) * kk) &&& 31).toUInt32).toInt32) &&& (3 : Int32))) &&& 31).toUInt32).toInt32).toInt8.toInt32))
theorem pn_skipstitch_table_PrefixTableOptimisedPinLaw : plainName "skipstitch/table/PrefixTableOptimisedPinLaw" = true := by first | (simp [plainName, overriddenIn]; done) | decide +kernel
def Q1 (Z : State) (aa : Int32) (bb : Int32) (kk : Int32) (h0 : Heap) (n0 : Nat) (v : Option Value) (h : Heap) (L : List Loc) : Prop := v = some (.int (r1_v aa bb kk)) ∧ Fr n0 L ∧ h = h0
set_option maxRecDepth 65536 in
set_option maxHeartbeats 40000000 in
theorem rm1 (l : Launch) (Z : State) (a0 : Array Value) (hw : ∀ d ∈ tables_1, d.before a0 Z = true) (ws : List Jvm.Cond) (aa : Int32) (bb : Int32) (kk : Int32) (h0 : Heap) (n0 : Nat) (Z0 : n0 ≤ h0.size) :
    MetFree l (⟨"skipstitch/table/PrefixTableOptimisedPinLaw", "letter", "(III)B"⟩ : MethodName) (head1 (Jvm.Cond.code (⟨"skipstitch/table/PrefixTableOptimisedPinLaw", "letter", "(III)B"⟩ : MethodName) method_3_code 4 (some .byte) :: ws) ({ frames := 0, cells := 0, slots := 0, locals := 0 } : Room)) (fun a U => a = #[(.int aa), (.int bb), (.int kk)] ∧ Z.Warmed39 U.vm ∧ U.heap = h0) (fun _ _ _ _ _ => True) (fun _ U o U' => ∃ v L, o = .returned v ∧ Q1 Z aa bb kk h0 n0 v U'.heap L ∧ FrameEnd U o U' L ({ frames := 0, cells := 0, slots := 0, locals := 0 } : Room).cells ({ frames := 0, cells := 0, slots := 0, locals := 0 } : Room).slots) := by
  refine MetFree.of_bodySF (plainFor_of_name pn_skipstitch_table_PrefixTableOptimisedPinLaw) hisR ?_
  intro p e s m args below meth c s₁ Bd hml0 hP hK
  obtain ⟨rfl, hZ, hh⟩ := hP
  have hx := Bd.exec
  have hby := Bd.bytes
  have hml : c.maxLocals = 4 := hml0
  have hown : s.vm.findClass "skipstitch/table/PrefixTableOptimisedPinLaw" = some m.cls := findClass_of_methodNamed Bd.named
  have hnm := (name_of_methodNamed Bd.named Bd.method).1
  have X0 : Stand p l e ({ frames := 0, cells := 0, slots := 0, locals := 0 } : Room) s m #[(.int aa), (.int bb), (.int kk)] below meth c s₁ [] 0 0 := Stand.of_body Bd
  have e0 : s₁.heap = h0 := by rw [← hh, Bd.state]; rfl
  have N0 := Fr.nil n0
  have K0 : Keep h0 h0 [] := Keep.refl h0 _
  have pre0 : ∀ t, Steps p.tables e below (s₁.setTop (mkF m 0 #[.val (.int aa), .val (.int bb), .val (.int kk), .unset] [])) t → Steps p.tables e below (s₁.setTop (entryFrame m #[(.int aa), (.int bb), (.int kk)] 4)) t := fun t k => castTop (ef_1 m aa bb kk) k
  obtain ⟨fs, hr, hrun, hended, hW, hsame⟩ := X0.leave (v := some (.int (nar .byte (((bb.toUInt32 >>> (((8 : Int32) * (((aa.toUInt32 >>> (((2 : Int32) * kk) &&& 31).toUInt32).toInt32) &&& (3 : Int32))) &&& 31).toUInt32).toInt32).toInt8.toInt32)))) (fun h => by rw [Bd.returns] at h; cases h) (hlocks := Bd.notSynchronized)
  refine ⟨_, _, pre0 _ ?_, hrun, hended, _, _, rfl, ?_, ⟨_, rfl⟩, hW, hsame.mono (by decide) (by decide)⟩
  · show Steps p.tables e below (s₁.setTop (mkF m 0 #[.val (.int aa), .val (.int bb), .val (.int kk), .unset] [])) _
    refine XS.iloadN X0.here hx rfl (hb hby d1_0) rfl ?_
    refine XS.iconst X0.here hx rfl (hb hby d1_1) ?_
    refine XS.iloadN X0.here hx rfl (hb hby d1_2) rfl ?_
    refine XS.imul X0.here hx rfl (hb hby d1_3) rfl ?_
    refine XS.iushr X0.here hx rfl (hb hby d1_4) rfl ?_
    refine XS.iconst X0.here hx rfl (hb hby d1_5) ?_
    refine XS.iand X0.here hx rfl (hb hby d1_6) rfl ?_
    refine XS.istoreN X0.here hx rfl (hb hby d1_7) rfl (l' := #[.val (.int aa), .val (.int bb), .val (.int kk), .val (.int (((aa.toUInt32 >>> (((2 : Int32) * kk) &&& 31).toUInt32).toInt32) &&& (3 : Int32)))]) rfl ?_
    refine XS.iloadN X0.here hx rfl (hb hby d1_8) rfl ?_
    refine XS.bipush X0.here hx rfl (hb hby d1_9) ?_
    refine XS.iloadN X0.here hx rfl (hb hby d1_11) rfl ?_
    refine XS.imul X0.here hx rfl (hb hby d1_12) rfl ?_
    refine XS.iushr X0.here hx rfl (hb hby d1_13) rfl ?_
    refine XS.i2b X0.here hx rfl (hb hby d1_14) rfl ?_
    exact retN X0 hx (t := .byte) Bd.returns (by simp) (hb hby d1_15) hr
  · show Q1 Z aa bb kk h0 n0 _ s₁.heap _
    rw [e0]
    have ev1 : (r1_v aa bb kk) = (nar .byte (((bb.toUInt32 >>> (((8 : Int32) * (((aa.toUInt32 >>> (((2 : Int32) * kk) &&& 31).toUInt32).toInt32) &&& (3 : Int32))) &&& 31).toUInt32).toInt32).toInt8.toInt32)) := rfl
    exact ⟨(congrArg (fun z => some (Value.int z)) ev1.symm), N0, rfl⟩
theorem ef_3i1l1 (m : MethodId) (rq : Addr) : entryFrame m #[(.ref rq), (.int (1 : Int32)), (.int (1 : Int32))] 3 = mkF m 0 #[.val (.ref rq), .val (.int (1 : Int32)), .val (.int (1 : Int32))] [] := by first | (simp [entryFrame, mkF, argsToLocals, Value.category]; done) | rfl
theorem d3_0 : decode method_4_code 0 = .ok (.iload_n 2, 1) := by decide +kernel
theorem d3_1 : decode method_4_code 1 = .ok (.iconst 1, 1) := by decide +kernel
theorem d3_2 : decode method_4_code 2 = .ok (.if_icmp .lt 16, 3) := by decide +kernel
theorem d3_5 : decode method_4_code 5 = .ok (.aload_n 0, 1) := by decide +kernel
theorem d3_6 : decode method_4_code 6 = .ok (.iconst 0, 1) := by decide +kernel
theorem d3_7 : decode method_4_code 7 = .ok (.baload, 1) := by decide +kernel
theorem d3_8 : decode method_4_code 8 = .ok (.aload_n 0, 1) := by decide +kernel
theorem d3_9 : decode method_4_code 9 = .ok (.iload_n 1, 1) := by decide +kernel
theorem d3_10 : decode method_4_code 10 = .ok (.iload_n 2, 1) := by decide +kernel
theorem d3_11 : decode method_4_code 11 = .ok (.isub, 1) := by decide +kernel
theorem d3_12 : decode method_4_code 12 = .ok (.iconst 1, 1) := by decide +kernel
theorem d3_13 : decode method_4_code 13 = .ok (.iadd, 1) := by decide +kernel
theorem d3_14 : decode method_4_code 14 = .ok (.baload, 1) := by decide +kernel
theorem d3_15 : decode method_4_code 15 = .ok (.if_icmp .ne 61, 3) := by decide +kernel
theorem d3_18 : decode method_4_code 18 = .ok (.iload_n 2, 1) := by decide +kernel
theorem d3_19 : decode method_4_code 19 = .ok (.iconst 2, 1) := by decide +kernel
theorem d3_20 : decode method_4_code 20 = .ok (.if_icmp .lt 16, 3) := by decide +kernel
theorem d3_36 : decode method_4_code 36 = .ok (.iload_n 2, 1) := by decide +kernel
theorem d3_37 : decode method_4_code 37 = .ok (.iconst 3, 1) := by decide +kernel
theorem d3_38 : decode method_4_code 38 = .ok (.if_icmp .lt 16, 3) := by decide +kernel
theorem d3_54 : decode method_4_code 54 = .ok (.iload_n 2, 1) := by decide +kernel
theorem d3_55 : decode method_4_code 55 = .ok (.iconst 4, 1) := by decide +kernel
theorem d3_56 : decode method_4_code 56 = .ok (.if_icmp .lt 16, 3) := by decide +kernel
theorem d3_72 : decode method_4_code 72 = .ok (.iconst 1, 1) := by decide +kernel
theorem d3_73 : decode method_4_code 73 = .ok (.goto 4, 3) := by decide +kernel
theorem d3_77 : decode method_4_code 77 = .ok (.ireturn, 1) := by decide +kernel
theorem d3_76 : decode method_4_code 76 = .ok (.iconst 0, 1) := by decide +kernel
def r3i1l1_v (fq : Nat → Int32) : Int32 := (if (fq 0) = (fq 1) then (1 : Int32) else (0 : Int32))
def Q3i1l1 (Z : State) (rq : Addr) (fq : Nat → Int32) (h0 : Heap) (n0 : Nat) (v : Option Value) (h : Heap) (L : List Loc) : Prop := v = some (.int (r3i1l1_v fq)) ∧ Fr n0 L ∧ h = h0
set_option maxRecDepth 65536 in
set_option maxHeartbeats 40000000 in
theorem rm3i1l1 (l : Launch) (Z : State) (a0 : Array Value) (hw : ∀ d ∈ tables_1, d.before a0 Z = true) (ws : List Jvm.Cond) (rq : Addr) (fq : Nat → Int32) (h0 : Heap) (n0 : Nat) (Z0 : n0 ≤ h0.size) (A_rq : AI Z h0 rq .byte 5 fq) :
    MetFree l (⟨"skipstitch/table/PrefixTableOptimisedPinLaw", "isB", "([BII)Z"⟩ : MethodName) (head1 (Jvm.Cond.code (⟨"skipstitch/table/PrefixTableOptimisedPinLaw", "isB", "([BII)Z"⟩ : MethodName) method_4_code 3 (some .boolean) :: ws) ({ frames := 0, cells := 0, slots := 0, locals := 0 } : Room)) (fun a U => a = #[(.ref rq), (.int (1 : Int32)), (.int (1 : Int32))] ∧ Z.Warmed39 U.vm ∧ U.heap = h0) (fun _ _ _ _ _ => True) (fun _ U o U' => ∃ v L, o = .returned v ∧ Q3i1l1 Z rq fq h0 n0 v U'.heap L ∧ FrameEnd U o U' L ({ frames := 0, cells := 0, slots := 0, locals := 0 } : Room).cells ({ frames := 0, cells := 0, slots := 0, locals := 0 } : Room).slots) := by
  refine MetFree.of_bodySF (plainFor_of_name pn_skipstitch_table_PrefixTableOptimisedPinLaw) hisR ?_
  intro p e s m args below meth c s₁ Bd hml0 hP hK
  obtain ⟨rfl, hZ, hh⟩ := hP
  have hx := Bd.exec
  have hby := Bd.bytes
  have hml : c.maxLocals = 3 := hml0
  have hown : s.vm.findClass "skipstitch/table/PrefixTableOptimisedPinLaw" = some m.cls := findClass_of_methodNamed Bd.named
  have hnm := (name_of_methodNamed Bd.named Bd.method).1
  have X0 : Stand p l e ({ frames := 0, cells := 0, slots := 0, locals := 0 } : Room) s m #[(.ref rq), (.int (1 : Int32)), (.int (1 : Int32))] below meth c s₁ [] 0 0 := Stand.of_body Bd
  have e0 : s₁.heap = h0 := by rw [← hh, Bd.state]; rfl
  have N0 := Fr.nil n0
  have K0 : Keep h0 h0 [] := Keep.refl h0 _
  have pre0 : ∀ t, Steps p.tables e below (s₁.setTop (mkF m 0 #[.val (.ref rq), .val (.int (1 : Int32)), .val (.int (1 : Int32))] [])) t → Steps p.tables e below (s₁.setTop (entryFrame m #[(.ref rq), (.int (1 : Int32)), (.int (1 : Int32))] 3)) t := fun t k => castTop (ef_3i1l1 m rq) k
  obtain ⟨cl1, Arcl1, hincl1, hatcl1⟩ := AF.at A_rq (j := (0 : Int32)) 0 (by decide) (by decide)
  obtain ⟨cl2, Arcl2, hincl2, hatcl2⟩ := AF.at A_rq (j := (1 : Int32)) 1 (by decide) (by decide)
  have pre3 : ∀ t, Steps p.tables e below (s₁.setTop (mkF m 15 #[.val (.ref rq), .val (.int (1 : Int32)), .val (.int (1 : Int32))] [(.int (fq 1)), (.int (fq 0))])) t → Steps p.tables e below (s₁.setTop (entryFrame m #[(.ref rq), (.int (1 : Int32)), (.int (1 : Int32))] 3)) t := by
    intro t k
    refine pre0 _ ?_
    refine XS.iloadN X0.here hx rfl (hb hby d3_0) rfl ?_
    refine XS.iconst X0.here hx rfl (hb hby d3_1) ?_
    refine XS.icmpNo X0.here hx rfl (hb hby d3_2) rfl (flt (by decide : ¬ ((1 : Int32) < (1 : Int32)))).1 ?_
    refine XS.aloadN X0.here hx rfl (hb hby d3_5) rfl rfl ?_
    refine XS.iconst X0.here hx rfl (hb hby d3_6) ?_
    refine X0.baloadBytes hx (j := (0 : Int32)) (v := (.int (fq 0))) (by rw [e0]; exact Arcl1.1) (State.isArrayOf_alike hZ.alike Arcl1.2.1) Arcl1.2.2 hincl1 hatcl1 (g := (mkF m 7 #[.val (.ref rq), .val (.int (1 : Int32)), .val (.int (1 : Int32))] [(.int (0 : Int32)), (.ref rq)])) rfl rfl (hb hby d3_7) _ ?_
    refine XS.aloadN X0.here hx rfl (hb hby d3_8) rfl rfl ?_
    refine XS.iloadN X0.here hx rfl (hb hby d3_9) rfl ?_
    refine XS.iloadN X0.here hx rfl (hb hby d3_10) rfl ?_
    refine XS.isub X0.here hx rfl (hb hby d3_11) rfl ?_
    refine XS.iconst X0.here hx rfl (hb hby d3_12) ?_
    refine XS.iadd X0.here hx rfl (hb hby d3_13) rfl ?_
    refine X0.baloadBytes hx (j := (1 : Int32)) (v := (.int (fq 1))) (by rw [e0]; exact Arcl2.1) (State.isArrayOf_alike hZ.alike Arcl2.2.1) Arcl2.2.2 hincl2 hatcl2 (g := (mkF m 14 #[.val (.ref rq), .val (.int (1 : Int32)), .val (.int (1 : Int32))] [(.int (1 : Int32)), (.ref rq), (.int (fq 0))])) rfl rfl (hb hby d3_14) _ ?_
    exact k
  by_cases hk4 : (fq 0) = (fq 1)
  · obtain ⟨fs, hr, hrun, hended, hW, hsame⟩ := X0.leave (v := some (.int (1 : Int32))) (fun h => by rw [Bd.returns] at h; cases h) (hlocks := Bd.notSynchronized)
    refine ⟨_, _, pre3 _ ?_, hrun, hended, _, _, rfl, ?_, ⟨_, rfl⟩, hW, hsame.mono (by decide) (by decide)⟩
    · show Steps p.tables e below (s₁.setTop (mkF m 15 #[.val (.ref rq), .val (.int (1 : Int32)), .val (.int (1 : Int32))] [(.int (fq 1)), (.int (fq 0))])) _
      refine XS.icmpNo X0.here hx rfl (hb hby d3_15) rfl (teq hk4).2 ?_
      refine XS.iloadN X0.here hx rfl (hb hby d3_18) rfl ?_
      refine XS.iconst X0.here hx rfl (hb hby d3_19) ?_
      refine XS.icmpYes X0.here hx rfl (pc0 := 20) (pc' := 36) rfl (hb hby d3_20) rfl (tlt (by decide : ((1 : Int32) < (2 : Int32)))).1 (by decide) (by decide) ?_
      refine XS.iloadN X0.here hx rfl (hb hby d3_36) rfl ?_
      refine XS.iconst X0.here hx rfl (hb hby d3_37) ?_
      refine XS.icmpYes X0.here hx rfl (pc0 := 38) (pc' := 54) rfl (hb hby d3_38) rfl (tlt (by decide : ((1 : Int32) < (3 : Int32)))).1 (by decide) (by decide) ?_
      refine XS.iloadN X0.here hx rfl (hb hby d3_54) rfl ?_
      refine XS.iconst X0.here hx rfl (hb hby d3_55) ?_
      refine XS.icmpYes X0.here hx rfl (pc0 := 56) (pc' := 72) rfl (hb hby d3_56) rfl (tlt (by decide : ((1 : Int32) < (4 : Int32)))).1 (by decide) (by decide) ?_
      refine XS.iconst X0.here hx rfl (hb hby d3_72) ?_
      refine XS.goto X0.here hx rfl (pc0 := 73) (pc' := 77) rfl (hb hby d3_73) (by decide) (by decide) ?_
      exact retN X0 hx (t := .boolean) Bd.returns (by simp) (hb hby d3_77) hr
    · show Q3i1l1 Z rq fq h0 n0 _ s₁.heap _
      rw [e0]
      have ev5 : (r3i1l1_v fq) = (1 : Int32) := by unfold r3i1l1_v; rw [if_pos hk4]
      exact ⟨(congrArg (fun z => some (Value.int z)) ev5.symm), N0, rfl⟩
  · obtain ⟨fs, hr, hrun, hended, hW, hsame⟩ := X0.leave (v := some (.int (0 : Int32))) (fun h => by rw [Bd.returns] at h; cases h) (hlocks := Bd.notSynchronized)
    refine ⟨_, _, pre3 _ ?_, hrun, hended, _, _, rfl, ?_, ⟨_, rfl⟩, hW, hsame.mono (by decide) (by decide)⟩
    · show Steps p.tables e below (s₁.setTop (mkF m 15 #[.val (.ref rq), .val (.int (1 : Int32)), .val (.int (1 : Int32))] [(.int (fq 1)), (.int (fq 0))])) _
      refine XS.icmpYes X0.here hx rfl (pc0 := 15) (pc' := 76) rfl (hb hby d3_15) rfl (feq hk4).2 (by decide) (by decide) ?_
      refine XS.iconst X0.here hx rfl (hb hby d3_76) ?_
      exact retN X0 hx (t := .boolean) Bd.returns (by simp) (hb hby d3_77) hr
    · show Q3i1l1 Z rq fq h0 n0 _ s₁.heap _
      rw [e0]
      have ev6 : (r3i1l1_v fq) = (0 : Int32) := by unfold r3i1l1_v; rw [if_neg hk4]
      exact ⟨(congrArg (fun z => some (Value.int z)) ev6.symm), N0, rfl⟩
theorem ef_3i2l1 (m : MethodId) (rq : Addr) : entryFrame m #[(.ref rq), (.int (2 : Int32)), (.int (1 : Int32))] 3 = mkF m 0 #[.val (.ref rq), .val (.int (2 : Int32)), .val (.int (1 : Int32))] [] := by first | (simp [entryFrame, mkF, argsToLocals, Value.category]; done) | rfl
def r3i2l1_v (fq : Nat → Int32) : Int32 := (if (fq 0) = (fq 2) then (1 : Int32) else (0 : Int32))
def Q3i2l1 (Z : State) (rq : Addr) (fq : Nat → Int32) (h0 : Heap) (n0 : Nat) (v : Option Value) (h : Heap) (L : List Loc) : Prop := v = some (.int (r3i2l1_v fq)) ∧ Fr n0 L ∧ h = h0
set_option maxRecDepth 65536 in
set_option maxHeartbeats 40000000 in
theorem rm3i2l1 (l : Launch) (Z : State) (a0 : Array Value) (hw : ∀ d ∈ tables_1, d.before a0 Z = true) (ws : List Jvm.Cond) (rq : Addr) (fq : Nat → Int32) (h0 : Heap) (n0 : Nat) (Z0 : n0 ≤ h0.size) (A_rq : AI Z h0 rq .byte 5 fq) :
    MetFree l (⟨"skipstitch/table/PrefixTableOptimisedPinLaw", "isB", "([BII)Z"⟩ : MethodName) (head1 (Jvm.Cond.code (⟨"skipstitch/table/PrefixTableOptimisedPinLaw", "isB", "([BII)Z"⟩ : MethodName) method_4_code 3 (some .boolean) :: ws) ({ frames := 0, cells := 0, slots := 0, locals := 0 } : Room)) (fun a U => a = #[(.ref rq), (.int (2 : Int32)), (.int (1 : Int32))] ∧ Z.Warmed39 U.vm ∧ U.heap = h0) (fun _ _ _ _ _ => True) (fun _ U o U' => ∃ v L, o = .returned v ∧ Q3i2l1 Z rq fq h0 n0 v U'.heap L ∧ FrameEnd U o U' L ({ frames := 0, cells := 0, slots := 0, locals := 0 } : Room).cells ({ frames := 0, cells := 0, slots := 0, locals := 0 } : Room).slots) := by
  refine MetFree.of_bodySF (plainFor_of_name pn_skipstitch_table_PrefixTableOptimisedPinLaw) hisR ?_
  intro p e s m args below meth c s₁ Bd hml0 hP hK
  obtain ⟨rfl, hZ, hh⟩ := hP
  have hx := Bd.exec
  have hby := Bd.bytes
  have hml : c.maxLocals = 3 := hml0
  have hown : s.vm.findClass "skipstitch/table/PrefixTableOptimisedPinLaw" = some m.cls := findClass_of_methodNamed Bd.named
  have hnm := (name_of_methodNamed Bd.named Bd.method).1
  have X0 : Stand p l e ({ frames := 0, cells := 0, slots := 0, locals := 0 } : Room) s m #[(.ref rq), (.int (2 : Int32)), (.int (1 : Int32))] below meth c s₁ [] 0 0 := Stand.of_body Bd
  have e0 : s₁.heap = h0 := by rw [← hh, Bd.state]; rfl
  have N0 := Fr.nil n0
  have K0 : Keep h0 h0 [] := Keep.refl h0 _
  have pre0 : ∀ t, Steps p.tables e below (s₁.setTop (mkF m 0 #[.val (.ref rq), .val (.int (2 : Int32)), .val (.int (1 : Int32))] [])) t → Steps p.tables e below (s₁.setTop (entryFrame m #[(.ref rq), (.int (2 : Int32)), (.int (1 : Int32))] 3)) t := fun t k => castTop (ef_3i2l1 m rq) k
  obtain ⟨cl1, Arcl1, hincl1, hatcl1⟩ := AF.at A_rq (j := (0 : Int32)) 0 (by decide) (by decide)
  obtain ⟨cl2, Arcl2, hincl2, hatcl2⟩ := AF.at A_rq (j := (2 : Int32)) 2 (by decide) (by decide)
  have pre3 : ∀ t, Steps p.tables e below (s₁.setTop (mkF m 15 #[.val (.ref rq), .val (.int (2 : Int32)), .val (.int (1 : Int32))] [(.int (fq 2)), (.int (fq 0))])) t → Steps p.tables e below (s₁.setTop (entryFrame m #[(.ref rq), (.int (2 : Int32)), (.int (1 : Int32))] 3)) t := by
    intro t k
    refine pre0 _ ?_
    refine XS.iloadN X0.here hx rfl (hb hby d3_0) rfl ?_
    refine XS.iconst X0.here hx rfl (hb hby d3_1) ?_
    refine XS.icmpNo X0.here hx rfl (hb hby d3_2) rfl (flt (by decide : ¬ ((1 : Int32) < (1 : Int32)))).1 ?_
    refine XS.aloadN X0.here hx rfl (hb hby d3_5) rfl rfl ?_
    refine XS.iconst X0.here hx rfl (hb hby d3_6) ?_
    refine X0.baloadBytes hx (j := (0 : Int32)) (v := (.int (fq 0))) (by rw [e0]; exact Arcl1.1) (State.isArrayOf_alike hZ.alike Arcl1.2.1) Arcl1.2.2 hincl1 hatcl1 (g := (mkF m 7 #[.val (.ref rq), .val (.int (2 : Int32)), .val (.int (1 : Int32))] [(.int (0 : Int32)), (.ref rq)])) rfl rfl (hb hby d3_7) _ ?_
    refine XS.aloadN X0.here hx rfl (hb hby d3_8) rfl rfl ?_
    refine XS.iloadN X0.here hx rfl (hb hby d3_9) rfl ?_
    refine XS.iloadN X0.here hx rfl (hb hby d3_10) rfl ?_
    refine XS.isub X0.here hx rfl (hb hby d3_11) rfl ?_
    refine XS.iconst X0.here hx rfl (hb hby d3_12) ?_
    refine XS.iadd X0.here hx rfl (hb hby d3_13) rfl ?_
    refine X0.baloadBytes hx (j := (2 : Int32)) (v := (.int (fq 2))) (by rw [e0]; exact Arcl2.1) (State.isArrayOf_alike hZ.alike Arcl2.2.1) Arcl2.2.2 hincl2 hatcl2 (g := (mkF m 14 #[.val (.ref rq), .val (.int (2 : Int32)), .val (.int (1 : Int32))] [(.int (2 : Int32)), (.ref rq), (.int (fq 0))])) rfl rfl (hb hby d3_14) _ ?_
    exact k
  by_cases hk4 : (fq 0) = (fq 2)
  · obtain ⟨fs, hr, hrun, hended, hW, hsame⟩ := X0.leave (v := some (.int (1 : Int32))) (fun h => by rw [Bd.returns] at h; cases h) (hlocks := Bd.notSynchronized)
    refine ⟨_, _, pre3 _ ?_, hrun, hended, _, _, rfl, ?_, ⟨_, rfl⟩, hW, hsame.mono (by decide) (by decide)⟩
    · show Steps p.tables e below (s₁.setTop (mkF m 15 #[.val (.ref rq), .val (.int (2 : Int32)), .val (.int (1 : Int32))] [(.int (fq 2)), (.int (fq 0))])) _
      refine XS.icmpNo X0.here hx rfl (hb hby d3_15) rfl (teq hk4).2 ?_
      refine XS.iloadN X0.here hx rfl (hb hby d3_18) rfl ?_
      refine XS.iconst X0.here hx rfl (hb hby d3_19) ?_
      refine XS.icmpYes X0.here hx rfl (pc0 := 20) (pc' := 36) rfl (hb hby d3_20) rfl (tlt (by decide : ((1 : Int32) < (2 : Int32)))).1 (by decide) (by decide) ?_
      refine XS.iloadN X0.here hx rfl (hb hby d3_36) rfl ?_
      refine XS.iconst X0.here hx rfl (hb hby d3_37) ?_
      refine XS.icmpYes X0.here hx rfl (pc0 := 38) (pc' := 54) rfl (hb hby d3_38) rfl (tlt (by decide : ((1 : Int32) < (3 : Int32)))).1 (by decide) (by decide) ?_
      refine XS.iloadN X0.here hx rfl (hb hby d3_54) rfl ?_
      refine XS.iconst X0.here hx rfl (hb hby d3_55) ?_
      refine XS.icmpYes X0.here hx rfl (pc0 := 56) (pc' := 72) rfl (hb hby d3_56) rfl (tlt (by decide : ((1 : Int32) < (4 : Int32)))).1 (by decide) (by decide) ?_
      refine XS.iconst X0.here hx rfl (hb hby d3_72) ?_
      refine XS.goto X0.here hx rfl (pc0 := 73) (pc' := 77) rfl (hb hby d3_73) (by decide) (by decide) ?_
      exact retN X0 hx (t := .boolean) Bd.returns (by simp) (hb hby d3_77) hr
    · show Q3i2l1 Z rq fq h0 n0 _ s₁.heap _
      rw [e0]
      have ev5 : (r3i2l1_v fq) = (1 : Int32) := by unfold r3i2l1_v; rw [if_pos hk4]
      exact ⟨(congrArg (fun z => some (Value.int z)) ev5.symm), N0, rfl⟩
  · obtain ⟨fs, hr, hrun, hended, hW, hsame⟩ := X0.leave (v := some (.int (0 : Int32))) (fun h => by rw [Bd.returns] at h; cases h) (hlocks := Bd.notSynchronized)
    refine ⟨_, _, pre3 _ ?_, hrun, hended, _, _, rfl, ?_, ⟨_, rfl⟩, hW, hsame.mono (by decide) (by decide)⟩
    · show Steps p.tables e below (s₁.setTop (mkF m 15 #[.val (.ref rq), .val (.int (2 : Int32)), .val (.int (1 : Int32))] [(.int (fq 2)), (.int (fq 0))])) _
      refine XS.icmpYes X0.here hx rfl (pc0 := 15) (pc' := 76) rfl (hb hby d3_15) rfl (feq hk4).2 (by decide) (by decide) ?_
      refine XS.iconst X0.here hx rfl (hb hby d3_76) ?_
      exact retN X0 hx (t := .boolean) Bd.returns (by simp) (hb hby d3_77) hr
    · show Q3i2l1 Z rq fq h0 n0 _ s₁.heap _
      rw [e0]
      have ev6 : (r3i2l1_v fq) = (0 : Int32) := by unfold r3i2l1_v; rw [if_neg hk4]
      exact ⟨(congrArg (fun z => some (Value.int z)) ev6.symm), N0, rfl⟩
theorem ef_3i2l2 (m : MethodId) (rq : Addr) : entryFrame m #[(.ref rq), (.int (2 : Int32)), (.int (2 : Int32))] 3 = mkF m 0 #[.val (.ref rq), .val (.int (2 : Int32)), .val (.int (2 : Int32))] [] := by first | (simp [entryFrame, mkF, argsToLocals, Value.category]; done) | rfl
theorem d3_23 : decode method_4_code 23 = .ok (.aload_n 0, 1) := by decide +kernel
theorem d3_24 : decode method_4_code 24 = .ok (.iconst 1, 1) := by decide +kernel
theorem d3_25 : decode method_4_code 25 = .ok (.baload, 1) := by decide +kernel
theorem d3_26 : decode method_4_code 26 = .ok (.aload_n 0, 1) := by decide +kernel
theorem d3_27 : decode method_4_code 27 = .ok (.iload_n 1, 1) := by decide +kernel
theorem d3_28 : decode method_4_code 28 = .ok (.iload_n 2, 1) := by decide +kernel
theorem d3_29 : decode method_4_code 29 = .ok (.isub, 1) := by decide +kernel
theorem d3_30 : decode method_4_code 30 = .ok (.iconst 2, 1) := by decide +kernel
theorem d3_31 : decode method_4_code 31 = .ok (.iadd, 1) := by decide +kernel
theorem d3_32 : decode method_4_code 32 = .ok (.baload, 1) := by decide +kernel
theorem d3_33 : decode method_4_code 33 = .ok (.if_icmp .ne 43, 3) := by decide +kernel
def r3i2l2_v (fq : Nat → Int32) : Int32 := (if (fq 0) = (fq 1) then (if (fq 1) = (fq 2) then (1 : Int32) else (0 : Int32)) else (0 : Int32))
def Q3i2l2 (Z : State) (rq : Addr) (fq : Nat → Int32) (h0 : Heap) (n0 : Nat) (v : Option Value) (h : Heap) (L : List Loc) : Prop := v = some (.int (r3i2l2_v fq)) ∧ Fr n0 L ∧ h = h0
set_option maxRecDepth 65536 in
set_option maxHeartbeats 40000000 in
theorem rm3i2l2 (l : Launch) (Z : State) (a0 : Array Value) (hw : ∀ d ∈ tables_1, d.before a0 Z = true) (ws : List Jvm.Cond) (rq : Addr) (fq : Nat → Int32) (h0 : Heap) (n0 : Nat) (Z0 : n0 ≤ h0.size) (A_rq : AI Z h0 rq .byte 5 fq) :
    MetFree l (⟨"skipstitch/table/PrefixTableOptimisedPinLaw", "isB", "([BII)Z"⟩ : MethodName) (head1 (Jvm.Cond.code (⟨"skipstitch/table/PrefixTableOptimisedPinLaw", "isB", "([BII)Z"⟩ : MethodName) method_4_code 3 (some .boolean) :: ws) ({ frames := 0, cells := 0, slots := 0, locals := 0 } : Room)) (fun a U => a = #[(.ref rq), (.int (2 : Int32)), (.int (2 : Int32))] ∧ Z.Warmed39 U.vm ∧ U.heap = h0) (fun _ _ _ _ _ => True) (fun _ U o U' => ∃ v L, o = .returned v ∧ Q3i2l2 Z rq fq h0 n0 v U'.heap L ∧ FrameEnd U o U' L ({ frames := 0, cells := 0, slots := 0, locals := 0 } : Room).cells ({ frames := 0, cells := 0, slots := 0, locals := 0 } : Room).slots) := by
  refine MetFree.of_bodySF (plainFor_of_name pn_skipstitch_table_PrefixTableOptimisedPinLaw) hisR ?_
  intro p e s m args below meth c s₁ Bd hml0 hP hK
  obtain ⟨rfl, hZ, hh⟩ := hP
  have hx := Bd.exec
  have hby := Bd.bytes
  have hml : c.maxLocals = 3 := hml0
  have hown : s.vm.findClass "skipstitch/table/PrefixTableOptimisedPinLaw" = some m.cls := findClass_of_methodNamed Bd.named
  have hnm := (name_of_methodNamed Bd.named Bd.method).1
  have X0 : Stand p l e ({ frames := 0, cells := 0, slots := 0, locals := 0 } : Room) s m #[(.ref rq), (.int (2 : Int32)), (.int (2 : Int32))] below meth c s₁ [] 0 0 := Stand.of_body Bd
  have e0 : s₁.heap = h0 := by rw [← hh, Bd.state]; rfl
  have N0 := Fr.nil n0
  have K0 : Keep h0 h0 [] := Keep.refl h0 _
  have pre0 : ∀ t, Steps p.tables e below (s₁.setTop (mkF m 0 #[.val (.ref rq), .val (.int (2 : Int32)), .val (.int (2 : Int32))] [])) t → Steps p.tables e below (s₁.setTop (entryFrame m #[(.ref rq), (.int (2 : Int32)), (.int (2 : Int32))] 3)) t := fun t k => castTop (ef_3i2l2 m rq) k
  obtain ⟨cl1, Arcl1, hincl1, hatcl1⟩ := AF.at A_rq (j := (0 : Int32)) 0 (by decide) (by decide)
  obtain ⟨cl2, Arcl2, hincl2, hatcl2⟩ := AF.at A_rq (j := (1 : Int32)) 1 (by decide) (by decide)
  have pre3 : ∀ t, Steps p.tables e below (s₁.setTop (mkF m 15 #[.val (.ref rq), .val (.int (2 : Int32)), .val (.int (2 : Int32))] [(.int (fq 1)), (.int (fq 0))])) t → Steps p.tables e below (s₁.setTop (entryFrame m #[(.ref rq), (.int (2 : Int32)), (.int (2 : Int32))] 3)) t := by
    intro t k
    refine pre0 _ ?_
    refine XS.iloadN X0.here hx rfl (hb hby d3_0) rfl ?_
    refine XS.iconst X0.here hx rfl (hb hby d3_1) ?_
    refine XS.icmpNo X0.here hx rfl (hb hby d3_2) rfl (flt (by decide : ¬ ((2 : Int32) < (1 : Int32)))).1 ?_
    refine XS.aloadN X0.here hx rfl (hb hby d3_5) rfl rfl ?_
    refine XS.iconst X0.here hx rfl (hb hby d3_6) ?_
    refine X0.baloadBytes hx (j := (0 : Int32)) (v := (.int (fq 0))) (by rw [e0]; exact Arcl1.1) (State.isArrayOf_alike hZ.alike Arcl1.2.1) Arcl1.2.2 hincl1 hatcl1 (g := (mkF m 7 #[.val (.ref rq), .val (.int (2 : Int32)), .val (.int (2 : Int32))] [(.int (0 : Int32)), (.ref rq)])) rfl rfl (hb hby d3_7) _ ?_
    refine XS.aloadN X0.here hx rfl (hb hby d3_8) rfl rfl ?_
    refine XS.iloadN X0.here hx rfl (hb hby d3_9) rfl ?_
    refine XS.iloadN X0.here hx rfl (hb hby d3_10) rfl ?_
    refine XS.isub X0.here hx rfl (hb hby d3_11) rfl ?_
    refine XS.iconst X0.here hx rfl (hb hby d3_12) ?_
    refine XS.iadd X0.here hx rfl (hb hby d3_13) rfl ?_
    refine X0.baloadBytes hx (j := (1 : Int32)) (v := (.int (fq 1))) (by rw [e0]; exact Arcl2.1) (State.isArrayOf_alike hZ.alike Arcl2.2.1) Arcl2.2.2 hincl2 hatcl2 (g := (mkF m 14 #[.val (.ref rq), .val (.int (2 : Int32)), .val (.int (2 : Int32))] [(.int (1 : Int32)), (.ref rq), (.int (fq 0))])) rfl rfl (hb hby d3_14) _ ?_
    exact k
  by_cases hk4 : (fq 0) = (fq 1)
  · obtain ⟨cl5, Arcl5, hincl5, hatcl5⟩ := AF.at A_rq (j := (1 : Int32)) 1 (by decide) (by decide)
    obtain ⟨cl6, Arcl6, hincl6, hatcl6⟩ := AF.at A_rq (j := (2 : Int32)) 2 (by decide) (by decide)
    have pre7 : ∀ t, Steps p.tables e below (s₁.setTop (mkF m 33 #[.val (.ref rq), .val (.int (2 : Int32)), .val (.int (2 : Int32))] [(.int (fq 2)), (.int (fq 1))])) t → Steps p.tables e below (s₁.setTop (entryFrame m #[(.ref rq), (.int (2 : Int32)), (.int (2 : Int32))] 3)) t := by
      intro t k
      refine pre3 _ ?_
      refine XS.icmpNo X0.here hx rfl (hb hby d3_15) rfl (teq hk4).2 ?_
      refine XS.iloadN X0.here hx rfl (hb hby d3_18) rfl ?_
      refine XS.iconst X0.here hx rfl (hb hby d3_19) ?_
      refine XS.icmpNo X0.here hx rfl (hb hby d3_20) rfl (flt (by decide : ¬ ((2 : Int32) < (2 : Int32)))).1 ?_
      refine XS.aloadN X0.here hx rfl (hb hby d3_23) rfl rfl ?_
      refine XS.iconst X0.here hx rfl (hb hby d3_24) ?_
      refine X0.baloadBytes hx (j := (1 : Int32)) (v := (.int (fq 1))) (by rw [e0]; exact Arcl5.1) (State.isArrayOf_alike hZ.alike Arcl5.2.1) Arcl5.2.2 hincl5 hatcl5 (g := (mkF m 25 #[.val (.ref rq), .val (.int (2 : Int32)), .val (.int (2 : Int32))] [(.int (1 : Int32)), (.ref rq)])) rfl rfl (hb hby d3_25) _ ?_
      refine XS.aloadN X0.here hx rfl (hb hby d3_26) rfl rfl ?_
      refine XS.iloadN X0.here hx rfl (hb hby d3_27) rfl ?_
      refine XS.iloadN X0.here hx rfl (hb hby d3_28) rfl ?_
      refine XS.isub X0.here hx rfl (hb hby d3_29) rfl ?_
      refine XS.iconst X0.here hx rfl (hb hby d3_30) ?_
      refine XS.iadd X0.here hx rfl (hb hby d3_31) rfl ?_
      refine X0.baloadBytes hx (j := (2 : Int32)) (v := (.int (fq 2))) (by rw [e0]; exact Arcl6.1) (State.isArrayOf_alike hZ.alike Arcl6.2.1) Arcl6.2.2 hincl6 hatcl6 (g := (mkF m 32 #[.val (.ref rq), .val (.int (2 : Int32)), .val (.int (2 : Int32))] [(.int (2 : Int32)), (.ref rq), (.int (fq 1))])) rfl rfl (hb hby d3_32) _ ?_
      exact k
    by_cases hk8 : (fq 1) = (fq 2)
    · obtain ⟨fs, hr, hrun, hended, hW, hsame⟩ := X0.leave (v := some (.int (1 : Int32))) (fun h => by rw [Bd.returns] at h; cases h) (hlocks := Bd.notSynchronized)
      refine ⟨_, _, pre7 _ ?_, hrun, hended, _, _, rfl, ?_, ⟨_, rfl⟩, hW, hsame.mono (by decide) (by decide)⟩
      · show Steps p.tables e below (s₁.setTop (mkF m 33 #[.val (.ref rq), .val (.int (2 : Int32)), .val (.int (2 : Int32))] [(.int (fq 2)), (.int (fq 1))])) _
        refine XS.icmpNo X0.here hx rfl (hb hby d3_33) rfl (teq hk8).2 ?_
        refine XS.iloadN X0.here hx rfl (hb hby d3_36) rfl ?_
        refine XS.iconst X0.here hx rfl (hb hby d3_37) ?_
        refine XS.icmpYes X0.here hx rfl (pc0 := 38) (pc' := 54) rfl (hb hby d3_38) rfl (tlt (by decide : ((2 : Int32) < (3 : Int32)))).1 (by decide) (by decide) ?_
        refine XS.iloadN X0.here hx rfl (hb hby d3_54) rfl ?_
        refine XS.iconst X0.here hx rfl (hb hby d3_55) ?_
        refine XS.icmpYes X0.here hx rfl (pc0 := 56) (pc' := 72) rfl (hb hby d3_56) rfl (tlt (by decide : ((2 : Int32) < (4 : Int32)))).1 (by decide) (by decide) ?_
        refine XS.iconst X0.here hx rfl (hb hby d3_72) ?_
        refine XS.goto X0.here hx rfl (pc0 := 73) (pc' := 77) rfl (hb hby d3_73) (by decide) (by decide) ?_
        exact retN X0 hx (t := .boolean) Bd.returns (by simp) (hb hby d3_77) hr
      · show Q3i2l2 Z rq fq h0 n0 _ s₁.heap _
        rw [e0]
        have ev9 : (r3i2l2_v fq) = (1 : Int32) := by unfold r3i2l2_v; rw [if_pos hk4, if_pos hk8]
        exact ⟨(congrArg (fun z => some (Value.int z)) ev9.symm), N0, rfl⟩
    · obtain ⟨fs, hr, hrun, hended, hW, hsame⟩ := X0.leave (v := some (.int (0 : Int32))) (fun h => by rw [Bd.returns] at h; cases h) (hlocks := Bd.notSynchronized)
      refine ⟨_, _, pre7 _ ?_, hrun, hended, _, _, rfl, ?_, ⟨_, rfl⟩, hW, hsame.mono (by decide) (by decide)⟩
      · show Steps p.tables e below (s₁.setTop (mkF m 33 #[.val (.ref rq), .val (.int (2 : Int32)), .val (.int (2 : Int32))] [(.int (fq 2)), (.int (fq 1))])) _
        refine XS.icmpYes X0.here hx rfl (pc0 := 33) (pc' := 76) rfl (hb hby d3_33) rfl (feq hk8).2 (by decide) (by decide) ?_
        refine XS.iconst X0.here hx rfl (hb hby d3_76) ?_
        exact retN X0 hx (t := .boolean) Bd.returns (by simp) (hb hby d3_77) hr
      · show Q3i2l2 Z rq fq h0 n0 _ s₁.heap _
        rw [e0]
        have ev10 : (r3i2l2_v fq) = (0 : Int32) := by unfold r3i2l2_v; rw [if_pos hk4, if_neg hk8]
        exact ⟨(congrArg (fun z => some (Value.int z)) ev10.symm), N0, rfl⟩
  · obtain ⟨fs, hr, hrun, hended, hW, hsame⟩ := X0.leave (v := some (.int (0 : Int32))) (fun h => by rw [Bd.returns] at h; cases h) (hlocks := Bd.notSynchronized)
    refine ⟨_, _, pre3 _ ?_, hrun, hended, _, _, rfl, ?_, ⟨_, rfl⟩, hW, hsame.mono (by decide) (by decide)⟩
    · show Steps p.tables e below (s₁.setTop (mkF m 15 #[.val (.ref rq), .val (.int (2 : Int32)), .val (.int (2 : Int32))] [(.int (fq 1)), (.int (fq 0))])) _
      refine XS.icmpYes X0.here hx rfl (pc0 := 15) (pc' := 76) rfl (hb hby d3_15) rfl (feq hk4).2 (by decide) (by decide) ?_
      refine XS.iconst X0.here hx rfl (hb hby d3_76) ?_
      exact retN X0 hx (t := .boolean) Bd.returns (by simp) (hb hby d3_77) hr
    · show Q3i2l2 Z rq fq h0 n0 _ s₁.heap _
      rw [e0]
      have ev11 : (r3i2l2_v fq) = (0 : Int32) := by unfold r3i2l2_v; rw [if_neg hk4]
      exact ⟨(congrArg (fun z => some (Value.int z)) ev11.symm), N0, rfl⟩
theorem ef_3i3l1 (m : MethodId) (rq : Addr) : entryFrame m #[(.ref rq), (.int (3 : Int32)), (.int (1 : Int32))] 3 = mkF m 0 #[.val (.ref rq), .val (.int (3 : Int32)), .val (.int (1 : Int32))] [] := by first | (simp [entryFrame, mkF, argsToLocals, Value.category]; done) | rfl
def r3i3l1_v (fq : Nat → Int32) : Int32 := (if (fq 0) = (fq 3) then (1 : Int32) else (0 : Int32))
def Q3i3l1 (Z : State) (rq : Addr) (fq : Nat → Int32) (h0 : Heap) (n0 : Nat) (v : Option Value) (h : Heap) (L : List Loc) : Prop := v = some (.int (r3i3l1_v fq)) ∧ Fr n0 L ∧ h = h0
set_option maxRecDepth 65536 in
set_option maxHeartbeats 40000000 in
theorem rm3i3l1 (l : Launch) (Z : State) (a0 : Array Value) (hw : ∀ d ∈ tables_1, d.before a0 Z = true) (ws : List Jvm.Cond) (rq : Addr) (fq : Nat → Int32) (h0 : Heap) (n0 : Nat) (Z0 : n0 ≤ h0.size) (A_rq : AI Z h0 rq .byte 5 fq) :
    MetFree l (⟨"skipstitch/table/PrefixTableOptimisedPinLaw", "isB", "([BII)Z"⟩ : MethodName) (head1 (Jvm.Cond.code (⟨"skipstitch/table/PrefixTableOptimisedPinLaw", "isB", "([BII)Z"⟩ : MethodName) method_4_code 3 (some .boolean) :: ws) ({ frames := 0, cells := 0, slots := 0, locals := 0 } : Room)) (fun a U => a = #[(.ref rq), (.int (3 : Int32)), (.int (1 : Int32))] ∧ Z.Warmed39 U.vm ∧ U.heap = h0) (fun _ _ _ _ _ => True) (fun _ U o U' => ∃ v L, o = .returned v ∧ Q3i3l1 Z rq fq h0 n0 v U'.heap L ∧ FrameEnd U o U' L ({ frames := 0, cells := 0, slots := 0, locals := 0 } : Room).cells ({ frames := 0, cells := 0, slots := 0, locals := 0 } : Room).slots) := by
  refine MetFree.of_bodySF (plainFor_of_name pn_skipstitch_table_PrefixTableOptimisedPinLaw) hisR ?_
  intro p e s m args below meth c s₁ Bd hml0 hP hK
  obtain ⟨rfl, hZ, hh⟩ := hP
  have hx := Bd.exec
  have hby := Bd.bytes
  have hml : c.maxLocals = 3 := hml0
  have hown : s.vm.findClass "skipstitch/table/PrefixTableOptimisedPinLaw" = some m.cls := findClass_of_methodNamed Bd.named
  have hnm := (name_of_methodNamed Bd.named Bd.method).1
  have X0 : Stand p l e ({ frames := 0, cells := 0, slots := 0, locals := 0 } : Room) s m #[(.ref rq), (.int (3 : Int32)), (.int (1 : Int32))] below meth c s₁ [] 0 0 := Stand.of_body Bd
  have e0 : s₁.heap = h0 := by rw [← hh, Bd.state]; rfl
  have N0 := Fr.nil n0
  have K0 : Keep h0 h0 [] := Keep.refl h0 _
  have pre0 : ∀ t, Steps p.tables e below (s₁.setTop (mkF m 0 #[.val (.ref rq), .val (.int (3 : Int32)), .val (.int (1 : Int32))] [])) t → Steps p.tables e below (s₁.setTop (entryFrame m #[(.ref rq), (.int (3 : Int32)), (.int (1 : Int32))] 3)) t := fun t k => castTop (ef_3i3l1 m rq) k
  obtain ⟨cl1, Arcl1, hincl1, hatcl1⟩ := AF.at A_rq (j := (0 : Int32)) 0 (by decide) (by decide)
  obtain ⟨cl2, Arcl2, hincl2, hatcl2⟩ := AF.at A_rq (j := (3 : Int32)) 3 (by decide) (by decide)
  have pre3 : ∀ t, Steps p.tables e below (s₁.setTop (mkF m 15 #[.val (.ref rq), .val (.int (3 : Int32)), .val (.int (1 : Int32))] [(.int (fq 3)), (.int (fq 0))])) t → Steps p.tables e below (s₁.setTop (entryFrame m #[(.ref rq), (.int (3 : Int32)), (.int (1 : Int32))] 3)) t := by
    intro t k
    refine pre0 _ ?_
    refine XS.iloadN X0.here hx rfl (hb hby d3_0) rfl ?_
    refine XS.iconst X0.here hx rfl (hb hby d3_1) ?_
    refine XS.icmpNo X0.here hx rfl (hb hby d3_2) rfl (flt (by decide : ¬ ((1 : Int32) < (1 : Int32)))).1 ?_
    refine XS.aloadN X0.here hx rfl (hb hby d3_5) rfl rfl ?_
    refine XS.iconst X0.here hx rfl (hb hby d3_6) ?_
    refine X0.baloadBytes hx (j := (0 : Int32)) (v := (.int (fq 0))) (by rw [e0]; exact Arcl1.1) (State.isArrayOf_alike hZ.alike Arcl1.2.1) Arcl1.2.2 hincl1 hatcl1 (g := (mkF m 7 #[.val (.ref rq), .val (.int (3 : Int32)), .val (.int (1 : Int32))] [(.int (0 : Int32)), (.ref rq)])) rfl rfl (hb hby d3_7) _ ?_
    refine XS.aloadN X0.here hx rfl (hb hby d3_8) rfl rfl ?_
    refine XS.iloadN X0.here hx rfl (hb hby d3_9) rfl ?_
    refine XS.iloadN X0.here hx rfl (hb hby d3_10) rfl ?_
    refine XS.isub X0.here hx rfl (hb hby d3_11) rfl ?_
    refine XS.iconst X0.here hx rfl (hb hby d3_12) ?_
    refine XS.iadd X0.here hx rfl (hb hby d3_13) rfl ?_
    refine X0.baloadBytes hx (j := (3 : Int32)) (v := (.int (fq 3))) (by rw [e0]; exact Arcl2.1) (State.isArrayOf_alike hZ.alike Arcl2.2.1) Arcl2.2.2 hincl2 hatcl2 (g := (mkF m 14 #[.val (.ref rq), .val (.int (3 : Int32)), .val (.int (1 : Int32))] [(.int (3 : Int32)), (.ref rq), (.int (fq 0))])) rfl rfl (hb hby d3_14) _ ?_
    exact k
  by_cases hk4 : (fq 0) = (fq 3)
  · obtain ⟨fs, hr, hrun, hended, hW, hsame⟩ := X0.leave (v := some (.int (1 : Int32))) (fun h => by rw [Bd.returns] at h; cases h) (hlocks := Bd.notSynchronized)
    refine ⟨_, _, pre3 _ ?_, hrun, hended, _, _, rfl, ?_, ⟨_, rfl⟩, hW, hsame.mono (by decide) (by decide)⟩
    · show Steps p.tables e below (s₁.setTop (mkF m 15 #[.val (.ref rq), .val (.int (3 : Int32)), .val (.int (1 : Int32))] [(.int (fq 3)), (.int (fq 0))])) _
      refine XS.icmpNo X0.here hx rfl (hb hby d3_15) rfl (teq hk4).2 ?_
      refine XS.iloadN X0.here hx rfl (hb hby d3_18) rfl ?_
      refine XS.iconst X0.here hx rfl (hb hby d3_19) ?_
      refine XS.icmpYes X0.here hx rfl (pc0 := 20) (pc' := 36) rfl (hb hby d3_20) rfl (tlt (by decide : ((1 : Int32) < (2 : Int32)))).1 (by decide) (by decide) ?_
      refine XS.iloadN X0.here hx rfl (hb hby d3_36) rfl ?_
      refine XS.iconst X0.here hx rfl (hb hby d3_37) ?_
      refine XS.icmpYes X0.here hx rfl (pc0 := 38) (pc' := 54) rfl (hb hby d3_38) rfl (tlt (by decide : ((1 : Int32) < (3 : Int32)))).1 (by decide) (by decide) ?_
      refine XS.iloadN X0.here hx rfl (hb hby d3_54) rfl ?_
      refine XS.iconst X0.here hx rfl (hb hby d3_55) ?_
      refine XS.icmpYes X0.here hx rfl (pc0 := 56) (pc' := 72) rfl (hb hby d3_56) rfl (tlt (by decide : ((1 : Int32) < (4 : Int32)))).1 (by decide) (by decide) ?_
      refine XS.iconst X0.here hx rfl (hb hby d3_72) ?_
      refine XS.goto X0.here hx rfl (pc0 := 73) (pc' := 77) rfl (hb hby d3_73) (by decide) (by decide) ?_
      exact retN X0 hx (t := .boolean) Bd.returns (by simp) (hb hby d3_77) hr
    · show Q3i3l1 Z rq fq h0 n0 _ s₁.heap _
      rw [e0]
      have ev5 : (r3i3l1_v fq) = (1 : Int32) := by unfold r3i3l1_v; rw [if_pos hk4]
      exact ⟨(congrArg (fun z => some (Value.int z)) ev5.symm), N0, rfl⟩
  · obtain ⟨fs, hr, hrun, hended, hW, hsame⟩ := X0.leave (v := some (.int (0 : Int32))) (fun h => by rw [Bd.returns] at h; cases h) (hlocks := Bd.notSynchronized)
    refine ⟨_, _, pre3 _ ?_, hrun, hended, _, _, rfl, ?_, ⟨_, rfl⟩, hW, hsame.mono (by decide) (by decide)⟩
    · show Steps p.tables e below (s₁.setTop (mkF m 15 #[.val (.ref rq), .val (.int (3 : Int32)), .val (.int (1 : Int32))] [(.int (fq 3)), (.int (fq 0))])) _
      refine XS.icmpYes X0.here hx rfl (pc0 := 15) (pc' := 76) rfl (hb hby d3_15) rfl (feq hk4).2 (by decide) (by decide) ?_
      refine XS.iconst X0.here hx rfl (hb hby d3_76) ?_
      exact retN X0 hx (t := .boolean) Bd.returns (by simp) (hb hby d3_77) hr
    · show Q3i3l1 Z rq fq h0 n0 _ s₁.heap _
      rw [e0]
      have ev6 : (r3i3l1_v fq) = (0 : Int32) := by unfold r3i3l1_v; rw [if_neg hk4]
      exact ⟨(congrArg (fun z => some (Value.int z)) ev6.symm), N0, rfl⟩
theorem ef_3i3l2 (m : MethodId) (rq : Addr) : entryFrame m #[(.ref rq), (.int (3 : Int32)), (.int (2 : Int32))] 3 = mkF m 0 #[.val (.ref rq), .val (.int (3 : Int32)), .val (.int (2 : Int32))] [] := by first | (simp [entryFrame, mkF, argsToLocals, Value.category]; done) | rfl
def r3i3l2_v (fq : Nat → Int32) : Int32 := (if (fq 0) = (fq 2) then (if (fq 1) = (fq 3) then (1 : Int32) else (0 : Int32)) else (0 : Int32))
def Q3i3l2 (Z : State) (rq : Addr) (fq : Nat → Int32) (h0 : Heap) (n0 : Nat) (v : Option Value) (h : Heap) (L : List Loc) : Prop := v = some (.int (r3i3l2_v fq)) ∧ Fr n0 L ∧ h = h0
set_option maxRecDepth 65536 in
set_option maxHeartbeats 40000000 in
theorem rm3i3l2 (l : Launch) (Z : State) (a0 : Array Value) (hw : ∀ d ∈ tables_1, d.before a0 Z = true) (ws : List Jvm.Cond) (rq : Addr) (fq : Nat → Int32) (h0 : Heap) (n0 : Nat) (Z0 : n0 ≤ h0.size) (A_rq : AI Z h0 rq .byte 5 fq) :
    MetFree l (⟨"skipstitch/table/PrefixTableOptimisedPinLaw", "isB", "([BII)Z"⟩ : MethodName) (head1 (Jvm.Cond.code (⟨"skipstitch/table/PrefixTableOptimisedPinLaw", "isB", "([BII)Z"⟩ : MethodName) method_4_code 3 (some .boolean) :: ws) ({ frames := 0, cells := 0, slots := 0, locals := 0 } : Room)) (fun a U => a = #[(.ref rq), (.int (3 : Int32)), (.int (2 : Int32))] ∧ Z.Warmed39 U.vm ∧ U.heap = h0) (fun _ _ _ _ _ => True) (fun _ U o U' => ∃ v L, o = .returned v ∧ Q3i3l2 Z rq fq h0 n0 v U'.heap L ∧ FrameEnd U o U' L ({ frames := 0, cells := 0, slots := 0, locals := 0 } : Room).cells ({ frames := 0, cells := 0, slots := 0, locals := 0 } : Room).slots) := by
  refine MetFree.of_bodySF (plainFor_of_name pn_skipstitch_table_PrefixTableOptimisedPinLaw) hisR ?_
  intro p e s m args below meth c s₁ Bd hml0 hP hK
  obtain ⟨rfl, hZ, hh⟩ := hP
  have hx := Bd.exec
  have hby := Bd.bytes
  have hml : c.maxLocals = 3 := hml0
  have hown : s.vm.findClass "skipstitch/table/PrefixTableOptimisedPinLaw" = some m.cls := findClass_of_methodNamed Bd.named
  have hnm := (name_of_methodNamed Bd.named Bd.method).1
  have X0 : Stand p l e ({ frames := 0, cells := 0, slots := 0, locals := 0 } : Room) s m #[(.ref rq), (.int (3 : Int32)), (.int (2 : Int32))] below meth c s₁ [] 0 0 := Stand.of_body Bd
  have e0 : s₁.heap = h0 := by rw [← hh, Bd.state]; rfl
  have N0 := Fr.nil n0
  have K0 : Keep h0 h0 [] := Keep.refl h0 _
  have pre0 : ∀ t, Steps p.tables e below (s₁.setTop (mkF m 0 #[.val (.ref rq), .val (.int (3 : Int32)), .val (.int (2 : Int32))] [])) t → Steps p.tables e below (s₁.setTop (entryFrame m #[(.ref rq), (.int (3 : Int32)), (.int (2 : Int32))] 3)) t := fun t k => castTop (ef_3i3l2 m rq) k
  obtain ⟨cl1, Arcl1, hincl1, hatcl1⟩ := AF.at A_rq (j := (0 : Int32)) 0 (by decide) (by decide)
  obtain ⟨cl2, Arcl2, hincl2, hatcl2⟩ := AF.at A_rq (j := (2 : Int32)) 2 (by decide) (by decide)
  have pre3 : ∀ t, Steps p.tables e below (s₁.setTop (mkF m 15 #[.val (.ref rq), .val (.int (3 : Int32)), .val (.int (2 : Int32))] [(.int (fq 2)), (.int (fq 0))])) t → Steps p.tables e below (s₁.setTop (entryFrame m #[(.ref rq), (.int (3 : Int32)), (.int (2 : Int32))] 3)) t := by
    intro t k
    refine pre0 _ ?_
    refine XS.iloadN X0.here hx rfl (hb hby d3_0) rfl ?_
    refine XS.iconst X0.here hx rfl (hb hby d3_1) ?_
    refine XS.icmpNo X0.here hx rfl (hb hby d3_2) rfl (flt (by decide : ¬ ((2 : Int32) < (1 : Int32)))).1 ?_
    refine XS.aloadN X0.here hx rfl (hb hby d3_5) rfl rfl ?_
    refine XS.iconst X0.here hx rfl (hb hby d3_6) ?_
    refine X0.baloadBytes hx (j := (0 : Int32)) (v := (.int (fq 0))) (by rw [e0]; exact Arcl1.1) (State.isArrayOf_alike hZ.alike Arcl1.2.1) Arcl1.2.2 hincl1 hatcl1 (g := (mkF m 7 #[.val (.ref rq), .val (.int (3 : Int32)), .val (.int (2 : Int32))] [(.int (0 : Int32)), (.ref rq)])) rfl rfl (hb hby d3_7) _ ?_
    refine XS.aloadN X0.here hx rfl (hb hby d3_8) rfl rfl ?_
    refine XS.iloadN X0.here hx rfl (hb hby d3_9) rfl ?_
    refine XS.iloadN X0.here hx rfl (hb hby d3_10) rfl ?_
    refine XS.isub X0.here hx rfl (hb hby d3_11) rfl ?_
    refine XS.iconst X0.here hx rfl (hb hby d3_12) ?_
    refine XS.iadd X0.here hx rfl (hb hby d3_13) rfl ?_
    refine X0.baloadBytes hx (j := (2 : Int32)) (v := (.int (fq 2))) (by rw [e0]; exact Arcl2.1) (State.isArrayOf_alike hZ.alike Arcl2.2.1) Arcl2.2.2 hincl2 hatcl2 (g := (mkF m 14 #[.val (.ref rq), .val (.int (3 : Int32)), .val (.int (2 : Int32))] [(.int (2 : Int32)), (.ref rq), (.int (fq 0))])) rfl rfl (hb hby d3_14) _ ?_
    exact k
  by_cases hk4 : (fq 0) = (fq 2)
  · obtain ⟨cl5, Arcl5, hincl5, hatcl5⟩ := AF.at A_rq (j := (1 : Int32)) 1 (by decide) (by decide)
    obtain ⟨cl6, Arcl6, hincl6, hatcl6⟩ := AF.at A_rq (j := (3 : Int32)) 3 (by decide) (by decide)
    have pre7 : ∀ t, Steps p.tables e below (s₁.setTop (mkF m 33 #[.val (.ref rq), .val (.int (3 : Int32)), .val (.int (2 : Int32))] [(.int (fq 3)), (.int (fq 1))])) t → Steps p.tables e below (s₁.setTop (entryFrame m #[(.ref rq), (.int (3 : Int32)), (.int (2 : Int32))] 3)) t := by
      intro t k
      refine pre3 _ ?_
      refine XS.icmpNo X0.here hx rfl (hb hby d3_15) rfl (teq hk4).2 ?_
      refine XS.iloadN X0.here hx rfl (hb hby d3_18) rfl ?_
      refine XS.iconst X0.here hx rfl (hb hby d3_19) ?_
      refine XS.icmpNo X0.here hx rfl (hb hby d3_20) rfl (flt (by decide : ¬ ((2 : Int32) < (2 : Int32)))).1 ?_
      refine XS.aloadN X0.here hx rfl (hb hby d3_23) rfl rfl ?_
      refine XS.iconst X0.here hx rfl (hb hby d3_24) ?_
      refine X0.baloadBytes hx (j := (1 : Int32)) (v := (.int (fq 1))) (by rw [e0]; exact Arcl5.1) (State.isArrayOf_alike hZ.alike Arcl5.2.1) Arcl5.2.2 hincl5 hatcl5 (g := (mkF m 25 #[.val (.ref rq), .val (.int (3 : Int32)), .val (.int (2 : Int32))] [(.int (1 : Int32)), (.ref rq)])) rfl rfl (hb hby d3_25) _ ?_
      refine XS.aloadN X0.here hx rfl (hb hby d3_26) rfl rfl ?_
      refine XS.iloadN X0.here hx rfl (hb hby d3_27) rfl ?_
      refine XS.iloadN X0.here hx rfl (hb hby d3_28) rfl ?_
      refine XS.isub X0.here hx rfl (hb hby d3_29) rfl ?_
      refine XS.iconst X0.here hx rfl (hb hby d3_30) ?_
      refine XS.iadd X0.here hx rfl (hb hby d3_31) rfl ?_
      refine X0.baloadBytes hx (j := (3 : Int32)) (v := (.int (fq 3))) (by rw [e0]; exact Arcl6.1) (State.isArrayOf_alike hZ.alike Arcl6.2.1) Arcl6.2.2 hincl6 hatcl6 (g := (mkF m 32 #[.val (.ref rq), .val (.int (3 : Int32)), .val (.int (2 : Int32))] [(.int (3 : Int32)), (.ref rq), (.int (fq 1))])) rfl rfl (hb hby d3_32) _ ?_
      exact k
    by_cases hk8 : (fq 1) = (fq 3)
    · obtain ⟨fs, hr, hrun, hended, hW, hsame⟩ := X0.leave (v := some (.int (1 : Int32))) (fun h => by rw [Bd.returns] at h; cases h) (hlocks := Bd.notSynchronized)
      refine ⟨_, _, pre7 _ ?_, hrun, hended, _, _, rfl, ?_, ⟨_, rfl⟩, hW, hsame.mono (by decide) (by decide)⟩
      · show Steps p.tables e below (s₁.setTop (mkF m 33 #[.val (.ref rq), .val (.int (3 : Int32)), .val (.int (2 : Int32))] [(.int (fq 3)), (.int (fq 1))])) _
        refine XS.icmpNo X0.here hx rfl (hb hby d3_33) rfl (teq hk8).2 ?_
        refine XS.iloadN X0.here hx rfl (hb hby d3_36) rfl ?_
        refine XS.iconst X0.here hx rfl (hb hby d3_37) ?_
        refine XS.icmpYes X0.here hx rfl (pc0 := 38) (pc' := 54) rfl (hb hby d3_38) rfl (tlt (by decide : ((2 : Int32) < (3 : Int32)))).1 (by decide) (by decide) ?_
        refine XS.iloadN X0.here hx rfl (hb hby d3_54) rfl ?_
        refine XS.iconst X0.here hx rfl (hb hby d3_55) ?_
        refine XS.icmpYes X0.here hx rfl (pc0 := 56) (pc' := 72) rfl (hb hby d3_56) rfl (tlt (by decide : ((2 : Int32) < (4 : Int32)))).1 (by decide) (by decide) ?_
        refine XS.iconst X0.here hx rfl (hb hby d3_72) ?_
        refine XS.goto X0.here hx rfl (pc0 := 73) (pc' := 77) rfl (hb hby d3_73) (by decide) (by decide) ?_
        exact retN X0 hx (t := .boolean) Bd.returns (by simp) (hb hby d3_77) hr
      · show Q3i3l2 Z rq fq h0 n0 _ s₁.heap _
        rw [e0]
        have ev9 : (r3i3l2_v fq) = (1 : Int32) := by unfold r3i3l2_v; rw [if_pos hk4, if_pos hk8]
        exact ⟨(congrArg (fun z => some (Value.int z)) ev9.symm), N0, rfl⟩
    · obtain ⟨fs, hr, hrun, hended, hW, hsame⟩ := X0.leave (v := some (.int (0 : Int32))) (fun h => by rw [Bd.returns] at h; cases h) (hlocks := Bd.notSynchronized)
      refine ⟨_, _, pre7 _ ?_, hrun, hended, _, _, rfl, ?_, ⟨_, rfl⟩, hW, hsame.mono (by decide) (by decide)⟩
      · show Steps p.tables e below (s₁.setTop (mkF m 33 #[.val (.ref rq), .val (.int (3 : Int32)), .val (.int (2 : Int32))] [(.int (fq 3)), (.int (fq 1))])) _
        refine XS.icmpYes X0.here hx rfl (pc0 := 33) (pc' := 76) rfl (hb hby d3_33) rfl (feq hk8).2 (by decide) (by decide) ?_
        refine XS.iconst X0.here hx rfl (hb hby d3_76) ?_
        exact retN X0 hx (t := .boolean) Bd.returns (by simp) (hb hby d3_77) hr
      · show Q3i3l2 Z rq fq h0 n0 _ s₁.heap _
        rw [e0]
        have ev10 : (r3i3l2_v fq) = (0 : Int32) := by unfold r3i3l2_v; rw [if_pos hk4, if_neg hk8]
        exact ⟨(congrArg (fun z => some (Value.int z)) ev10.symm), N0, rfl⟩
  · obtain ⟨fs, hr, hrun, hended, hW, hsame⟩ := X0.leave (v := some (.int (0 : Int32))) (fun h => by rw [Bd.returns] at h; cases h) (hlocks := Bd.notSynchronized)
    refine ⟨_, _, pre3 _ ?_, hrun, hended, _, _, rfl, ?_, ⟨_, rfl⟩, hW, hsame.mono (by decide) (by decide)⟩
    · show Steps p.tables e below (s₁.setTop (mkF m 15 #[.val (.ref rq), .val (.int (3 : Int32)), .val (.int (2 : Int32))] [(.int (fq 2)), (.int (fq 0))])) _
      refine XS.icmpYes X0.here hx rfl (pc0 := 15) (pc' := 76) rfl (hb hby d3_15) rfl (feq hk4).2 (by decide) (by decide) ?_
      refine XS.iconst X0.here hx rfl (hb hby d3_76) ?_
      exact retN X0 hx (t := .boolean) Bd.returns (by simp) (hb hby d3_77) hr
    · show Q3i3l2 Z rq fq h0 n0 _ s₁.heap _
      rw [e0]
      have ev11 : (r3i3l2_v fq) = (0 : Int32) := by unfold r3i3l2_v; rw [if_neg hk4]
      exact ⟨(congrArg (fun z => some (Value.int z)) ev11.symm), N0, rfl⟩
theorem ef_3i3l3 (m : MethodId) (rq : Addr) : entryFrame m #[(.ref rq), (.int (3 : Int32)), (.int (3 : Int32))] 3 = mkF m 0 #[.val (.ref rq), .val (.int (3 : Int32)), .val (.int (3 : Int32))] [] := by first | (simp [entryFrame, mkF, argsToLocals, Value.category]; done) | rfl
theorem d3_41 : decode method_4_code 41 = .ok (.aload_n 0, 1) := by decide +kernel
theorem d3_42 : decode method_4_code 42 = .ok (.iconst 2, 1) := by decide +kernel
theorem d3_43 : decode method_4_code 43 = .ok (.baload, 1) := by decide +kernel
theorem d3_44 : decode method_4_code 44 = .ok (.aload_n 0, 1) := by decide +kernel
theorem d3_45 : decode method_4_code 45 = .ok (.iload_n 1, 1) := by decide +kernel
theorem d3_46 : decode method_4_code 46 = .ok (.iload_n 2, 1) := by decide +kernel
theorem d3_47 : decode method_4_code 47 = .ok (.isub, 1) := by decide +kernel
theorem d3_48 : decode method_4_code 48 = .ok (.iconst 3, 1) := by decide +kernel
theorem d3_49 : decode method_4_code 49 = .ok (.iadd, 1) := by decide +kernel
theorem d3_50 : decode method_4_code 50 = .ok (.baload, 1) := by decide +kernel
theorem d3_51 : decode method_4_code 51 = .ok (.if_icmp .ne 25, 3) := by decide +kernel
def r3i3l3_v (fq : Nat → Int32) : Int32 := (if (fq 0) = (fq 1) then (if (fq 1) = (fq 2) then (if (fq 2) = (fq 3) then (1 : Int32) else (0 : Int32)) else (0 : Int32)) else (0 : Int32))
def Q3i3l3 (Z : State) (rq : Addr) (fq : Nat → Int32) (h0 : Heap) (n0 : Nat) (v : Option Value) (h : Heap) (L : List Loc) : Prop := v = some (.int (r3i3l3_v fq)) ∧ Fr n0 L ∧ h = h0
set_option maxRecDepth 65536 in
set_option maxHeartbeats 40000000 in
theorem rm3i3l3 (l : Launch) (Z : State) (a0 : Array Value) (hw : ∀ d ∈ tables_1, d.before a0 Z = true) (ws : List Jvm.Cond) (rq : Addr) (fq : Nat → Int32) (h0 : Heap) (n0 : Nat) (Z0 : n0 ≤ h0.size) (A_rq : AI Z h0 rq .byte 5 fq) :
    MetFree l (⟨"skipstitch/table/PrefixTableOptimisedPinLaw", "isB", "([BII)Z"⟩ : MethodName) (head1 (Jvm.Cond.code (⟨"skipstitch/table/PrefixTableOptimisedPinLaw", "isB", "([BII)Z"⟩ : MethodName) method_4_code 3 (some .boolean) :: ws) ({ frames := 0, cells := 0, slots := 0, locals := 0 } : Room)) (fun a U => a = #[(.ref rq), (.int (3 : Int32)), (.int (3 : Int32))] ∧ Z.Warmed39 U.vm ∧ U.heap = h0) (fun _ _ _ _ _ => True) (fun _ U o U' => ∃ v L, o = .returned v ∧ Q3i3l3 Z rq fq h0 n0 v U'.heap L ∧ FrameEnd U o U' L ({ frames := 0, cells := 0, slots := 0, locals := 0 } : Room).cells ({ frames := 0, cells := 0, slots := 0, locals := 0 } : Room).slots) := by
  refine MetFree.of_bodySF (plainFor_of_name pn_skipstitch_table_PrefixTableOptimisedPinLaw) hisR ?_
  intro p e s m args below meth c s₁ Bd hml0 hP hK
  obtain ⟨rfl, hZ, hh⟩ := hP
  have hx := Bd.exec
  have hby := Bd.bytes
  have hml : c.maxLocals = 3 := hml0
  have hown : s.vm.findClass "skipstitch/table/PrefixTableOptimisedPinLaw" = some m.cls := findClass_of_methodNamed Bd.named
  have hnm := (name_of_methodNamed Bd.named Bd.method).1
  have X0 : Stand p l e ({ frames := 0, cells := 0, slots := 0, locals := 0 } : Room) s m #[(.ref rq), (.int (3 : Int32)), (.int (3 : Int32))] below meth c s₁ [] 0 0 := Stand.of_body Bd
  have e0 : s₁.heap = h0 := by rw [← hh, Bd.state]; rfl
  have N0 := Fr.nil n0
  have K0 : Keep h0 h0 [] := Keep.refl h0 _
  have pre0 : ∀ t, Steps p.tables e below (s₁.setTop (mkF m 0 #[.val (.ref rq), .val (.int (3 : Int32)), .val (.int (3 : Int32))] [])) t → Steps p.tables e below (s₁.setTop (entryFrame m #[(.ref rq), (.int (3 : Int32)), (.int (3 : Int32))] 3)) t := fun t k => castTop (ef_3i3l3 m rq) k
  obtain ⟨cl1, Arcl1, hincl1, hatcl1⟩ := AF.at A_rq (j := (0 : Int32)) 0 (by decide) (by decide)
  obtain ⟨cl2, Arcl2, hincl2, hatcl2⟩ := AF.at A_rq (j := (1 : Int32)) 1 (by decide) (by decide)
  have pre3 : ∀ t, Steps p.tables e below (s₁.setTop (mkF m 15 #[.val (.ref rq), .val (.int (3 : Int32)), .val (.int (3 : Int32))] [(.int (fq 1)), (.int (fq 0))])) t → Steps p.tables e below (s₁.setTop (entryFrame m #[(.ref rq), (.int (3 : Int32)), (.int (3 : Int32))] 3)) t := by
    intro t k
    refine pre0 _ ?_
    refine XS.iloadN X0.here hx rfl (hb hby d3_0) rfl ?_
    refine XS.iconst X0.here hx rfl (hb hby d3_1) ?_
    refine XS.icmpNo X0.here hx rfl (hb hby d3_2) rfl (flt (by decide : ¬ ((3 : Int32) < (1 : Int32)))).1 ?_
    refine XS.aloadN X0.here hx rfl (hb hby d3_5) rfl rfl ?_
    refine XS.iconst X0.here hx rfl (hb hby d3_6) ?_
    refine X0.baloadBytes hx (j := (0 : Int32)) (v := (.int (fq 0))) (by rw [e0]; exact Arcl1.1) (State.isArrayOf_alike hZ.alike Arcl1.2.1) Arcl1.2.2 hincl1 hatcl1 (g := (mkF m 7 #[.val (.ref rq), .val (.int (3 : Int32)), .val (.int (3 : Int32))] [(.int (0 : Int32)), (.ref rq)])) rfl rfl (hb hby d3_7) _ ?_
    refine XS.aloadN X0.here hx rfl (hb hby d3_8) rfl rfl ?_
    refine XS.iloadN X0.here hx rfl (hb hby d3_9) rfl ?_
    refine XS.iloadN X0.here hx rfl (hb hby d3_10) rfl ?_
    refine XS.isub X0.here hx rfl (hb hby d3_11) rfl ?_
    refine XS.iconst X0.here hx rfl (hb hby d3_12) ?_
    refine XS.iadd X0.here hx rfl (hb hby d3_13) rfl ?_
    refine X0.baloadBytes hx (j := (1 : Int32)) (v := (.int (fq 1))) (by rw [e0]; exact Arcl2.1) (State.isArrayOf_alike hZ.alike Arcl2.2.1) Arcl2.2.2 hincl2 hatcl2 (g := (mkF m 14 #[.val (.ref rq), .val (.int (3 : Int32)), .val (.int (3 : Int32))] [(.int (1 : Int32)), (.ref rq), (.int (fq 0))])) rfl rfl (hb hby d3_14) _ ?_
    exact k
  by_cases hk4 : (fq 0) = (fq 1)
  · obtain ⟨cl5, Arcl5, hincl5, hatcl5⟩ := AF.at A_rq (j := (1 : Int32)) 1 (by decide) (by decide)
    obtain ⟨cl6, Arcl6, hincl6, hatcl6⟩ := AF.at A_rq (j := (2 : Int32)) 2 (by decide) (by decide)
    have pre7 : ∀ t, Steps p.tables e below (s₁.setTop (mkF m 33 #[.val (.ref rq), .val (.int (3 : Int32)), .val (.int (3 : Int32))] [(.int (fq 2)), (.int (fq 1))])) t → Steps p.tables e below (s₁.setTop (entryFrame m #[(.ref rq), (.int (3 : Int32)), (.int (3 : Int32))] 3)) t := by
      intro t k
      refine pre3 _ ?_
      refine XS.icmpNo X0.here hx rfl (hb hby d3_15) rfl (teq hk4).2 ?_
      refine XS.iloadN X0.here hx rfl (hb hby d3_18) rfl ?_
      refine XS.iconst X0.here hx rfl (hb hby d3_19) ?_
      refine XS.icmpNo X0.here hx rfl (hb hby d3_20) rfl (flt (by decide : ¬ ((3 : Int32) < (2 : Int32)))).1 ?_
      refine XS.aloadN X0.here hx rfl (hb hby d3_23) rfl rfl ?_
      refine XS.iconst X0.here hx rfl (hb hby d3_24) ?_
      refine X0.baloadBytes hx (j := (1 : Int32)) (v := (.int (fq 1))) (by rw [e0]; exact Arcl5.1) (State.isArrayOf_alike hZ.alike Arcl5.2.1) Arcl5.2.2 hincl5 hatcl5 (g := (mkF m 25 #[.val (.ref rq), .val (.int (3 : Int32)), .val (.int (3 : Int32))] [(.int (1 : Int32)), (.ref rq)])) rfl rfl (hb hby d3_25) _ ?_
      refine XS.aloadN X0.here hx rfl (hb hby d3_26) rfl rfl ?_
      refine XS.iloadN X0.here hx rfl (hb hby d3_27) rfl ?_
      refine XS.iloadN X0.here hx rfl (hb hby d3_28) rfl ?_
      refine XS.isub X0.here hx rfl (hb hby d3_29) rfl ?_
      refine XS.iconst X0.here hx rfl (hb hby d3_30) ?_
      refine XS.iadd X0.here hx rfl (hb hby d3_31) rfl ?_
      refine X0.baloadBytes hx (j := (2 : Int32)) (v := (.int (fq 2))) (by rw [e0]; exact Arcl6.1) (State.isArrayOf_alike hZ.alike Arcl6.2.1) Arcl6.2.2 hincl6 hatcl6 (g := (mkF m 32 #[.val (.ref rq), .val (.int (3 : Int32)), .val (.int (3 : Int32))] [(.int (2 : Int32)), (.ref rq), (.int (fq 1))])) rfl rfl (hb hby d3_32) _ ?_
      exact k
    by_cases hk8 : (fq 1) = (fq 2)
    · obtain ⟨cl9, Arcl9, hincl9, hatcl9⟩ := AF.at A_rq (j := (2 : Int32)) 2 (by decide) (by decide)
      obtain ⟨cl10, Arcl10, hincl10, hatcl10⟩ := AF.at A_rq (j := (3 : Int32)) 3 (by decide) (by decide)
      have pre11 : ∀ t, Steps p.tables e below (s₁.setTop (mkF m 51 #[.val (.ref rq), .val (.int (3 : Int32)), .val (.int (3 : Int32))] [(.int (fq 3)), (.int (fq 2))])) t → Steps p.tables e below (s₁.setTop (entryFrame m #[(.ref rq), (.int (3 : Int32)), (.int (3 : Int32))] 3)) t := by
        intro t k
        refine pre7 _ ?_
        refine XS.icmpNo X0.here hx rfl (hb hby d3_33) rfl (teq hk8).2 ?_
        refine XS.iloadN X0.here hx rfl (hb hby d3_36) rfl ?_
        refine XS.iconst X0.here hx rfl (hb hby d3_37) ?_
        refine XS.icmpNo X0.here hx rfl (hb hby d3_38) rfl (flt (by decide : ¬ ((3 : Int32) < (3 : Int32)))).1 ?_
        refine XS.aloadN X0.here hx rfl (hb hby d3_41) rfl rfl ?_
        refine XS.iconst X0.here hx rfl (hb hby d3_42) ?_
        refine X0.baloadBytes hx (j := (2 : Int32)) (v := (.int (fq 2))) (by rw [e0]; exact Arcl9.1) (State.isArrayOf_alike hZ.alike Arcl9.2.1) Arcl9.2.2 hincl9 hatcl9 (g := (mkF m 43 #[.val (.ref rq), .val (.int (3 : Int32)), .val (.int (3 : Int32))] [(.int (2 : Int32)), (.ref rq)])) rfl rfl (hb hby d3_43) _ ?_
        refine XS.aloadN X0.here hx rfl (hb hby d3_44) rfl rfl ?_
        refine XS.iloadN X0.here hx rfl (hb hby d3_45) rfl ?_
        refine XS.iloadN X0.here hx rfl (hb hby d3_46) rfl ?_
        refine XS.isub X0.here hx rfl (hb hby d3_47) rfl ?_
        refine XS.iconst X0.here hx rfl (hb hby d3_48) ?_
        refine XS.iadd X0.here hx rfl (hb hby d3_49) rfl ?_
        refine X0.baloadBytes hx (j := (3 : Int32)) (v := (.int (fq 3))) (by rw [e0]; exact Arcl10.1) (State.isArrayOf_alike hZ.alike Arcl10.2.1) Arcl10.2.2 hincl10 hatcl10 (g := (mkF m 50 #[.val (.ref rq), .val (.int (3 : Int32)), .val (.int (3 : Int32))] [(.int (3 : Int32)), (.ref rq), (.int (fq 2))])) rfl rfl (hb hby d3_50) _ ?_
        exact k
      by_cases hk12 : (fq 2) = (fq 3)
      · obtain ⟨fs, hr, hrun, hended, hW, hsame⟩ := X0.leave (v := some (.int (1 : Int32))) (fun h => by rw [Bd.returns] at h; cases h) (hlocks := Bd.notSynchronized)
        refine ⟨_, _, pre11 _ ?_, hrun, hended, _, _, rfl, ?_, ⟨_, rfl⟩, hW, hsame.mono (by decide) (by decide)⟩
        · show Steps p.tables e below (s₁.setTop (mkF m 51 #[.val (.ref rq), .val (.int (3 : Int32)), .val (.int (3 : Int32))] [(.int (fq 3)), (.int (fq 2))])) _
          refine XS.icmpNo X0.here hx rfl (hb hby d3_51) rfl (teq hk12).2 ?_
          refine XS.iloadN X0.here hx rfl (hb hby d3_54) rfl ?_
          refine XS.iconst X0.here hx rfl (hb hby d3_55) ?_
          refine XS.icmpYes X0.here hx rfl (pc0 := 56) (pc' := 72) rfl (hb hby d3_56) rfl (tlt (by decide : ((3 : Int32) < (4 : Int32)))).1 (by decide) (by decide) ?_
          refine XS.iconst X0.here hx rfl (hb hby d3_72) ?_
          refine XS.goto X0.here hx rfl (pc0 := 73) (pc' := 77) rfl (hb hby d3_73) (by decide) (by decide) ?_
          exact retN X0 hx (t := .boolean) Bd.returns (by simp) (hb hby d3_77) hr
        · show Q3i3l3 Z rq fq h0 n0 _ s₁.heap _
          rw [e0]
          have ev13 : (r3i3l3_v fq) = (1 : Int32) := by unfold r3i3l3_v; rw [if_pos hk4, if_pos hk8, if_pos hk12]
          exact ⟨(congrArg (fun z => some (Value.int z)) ev13.symm), N0, rfl⟩
      · obtain ⟨fs, hr, hrun, hended, hW, hsame⟩ := X0.leave (v := some (.int (0 : Int32))) (fun h => by rw [Bd.returns] at h; cases h) (hlocks := Bd.notSynchronized)
        refine ⟨_, _, pre11 _ ?_, hrun, hended, _, _, rfl, ?_, ⟨_, rfl⟩, hW, hsame.mono (by decide) (by decide)⟩
        · show Steps p.tables e below (s₁.setTop (mkF m 51 #[.val (.ref rq), .val (.int (3 : Int32)), .val (.int (3 : Int32))] [(.int (fq 3)), (.int (fq 2))])) _
          refine XS.icmpYes X0.here hx rfl (pc0 := 51) (pc' := 76) rfl (hb hby d3_51) rfl (feq hk12).2 (by decide) (by decide) ?_
          refine XS.iconst X0.here hx rfl (hb hby d3_76) ?_
          exact retN X0 hx (t := .boolean) Bd.returns (by simp) (hb hby d3_77) hr
        · show Q3i3l3 Z rq fq h0 n0 _ s₁.heap _
          rw [e0]
          have ev14 : (r3i3l3_v fq) = (0 : Int32) := by unfold r3i3l3_v; rw [if_pos hk4, if_pos hk8, if_neg hk12]
          exact ⟨(congrArg (fun z => some (Value.int z)) ev14.symm), N0, rfl⟩
    · obtain ⟨fs, hr, hrun, hended, hW, hsame⟩ := X0.leave (v := some (.int (0 : Int32))) (fun h => by rw [Bd.returns] at h; cases h) (hlocks := Bd.notSynchronized)
      refine ⟨_, _, pre7 _ ?_, hrun, hended, _, _, rfl, ?_, ⟨_, rfl⟩, hW, hsame.mono (by decide) (by decide)⟩
      · show Steps p.tables e below (s₁.setTop (mkF m 33 #[.val (.ref rq), .val (.int (3 : Int32)), .val (.int (3 : Int32))] [(.int (fq 2)), (.int (fq 1))])) _
        refine XS.icmpYes X0.here hx rfl (pc0 := 33) (pc' := 76) rfl (hb hby d3_33) rfl (feq hk8).2 (by decide) (by decide) ?_
        refine XS.iconst X0.here hx rfl (hb hby d3_76) ?_
        exact retN X0 hx (t := .boolean) Bd.returns (by simp) (hb hby d3_77) hr
      · show Q3i3l3 Z rq fq h0 n0 _ s₁.heap _
        rw [e0]
        have ev15 : (r3i3l3_v fq) = (0 : Int32) := by unfold r3i3l3_v; rw [if_pos hk4, if_neg hk8]
        exact ⟨(congrArg (fun z => some (Value.int z)) ev15.symm), N0, rfl⟩
  · obtain ⟨fs, hr, hrun, hended, hW, hsame⟩ := X0.leave (v := some (.int (0 : Int32))) (fun h => by rw [Bd.returns] at h; cases h) (hlocks := Bd.notSynchronized)
    refine ⟨_, _, pre3 _ ?_, hrun, hended, _, _, rfl, ?_, ⟨_, rfl⟩, hW, hsame.mono (by decide) (by decide)⟩
    · show Steps p.tables e below (s₁.setTop (mkF m 15 #[.val (.ref rq), .val (.int (3 : Int32)), .val (.int (3 : Int32))] [(.int (fq 1)), (.int (fq 0))])) _
      refine XS.icmpYes X0.here hx rfl (pc0 := 15) (pc' := 76) rfl (hb hby d3_15) rfl (feq hk4).2 (by decide) (by decide) ?_
      refine XS.iconst X0.here hx rfl (hb hby d3_76) ?_
      exact retN X0 hx (t := .boolean) Bd.returns (by simp) (hb hby d3_77) hr
    · show Q3i3l3 Z rq fq h0 n0 _ s₁.heap _
      rw [e0]
      have ev16 : (r3i3l3_v fq) = (0 : Int32) := by unfold r3i3l3_v; rw [if_neg hk4]
      exact ⟨(congrArg (fun z => some (Value.int z)) ev16.symm), N0, rfl⟩
theorem ef_3i4l1 (m : MethodId) (rq : Addr) : entryFrame m #[(.ref rq), (.int (4 : Int32)), (.int (1 : Int32))] 3 = mkF m 0 #[.val (.ref rq), .val (.int (4 : Int32)), .val (.int (1 : Int32))] [] := by first | (simp [entryFrame, mkF, argsToLocals, Value.category]; done) | rfl
def r3i4l1_v (fq : Nat → Int32) : Int32 := (if (fq 0) = (fq 4) then (1 : Int32) else (0 : Int32))
def Q3i4l1 (Z : State) (rq : Addr) (fq : Nat → Int32) (h0 : Heap) (n0 : Nat) (v : Option Value) (h : Heap) (L : List Loc) : Prop := v = some (.int (r3i4l1_v fq)) ∧ Fr n0 L ∧ h = h0
set_option maxRecDepth 65536 in
set_option maxHeartbeats 40000000 in
theorem rm3i4l1 (l : Launch) (Z : State) (a0 : Array Value) (hw : ∀ d ∈ tables_1, d.before a0 Z = true) (ws : List Jvm.Cond) (rq : Addr) (fq : Nat → Int32) (h0 : Heap) (n0 : Nat) (Z0 : n0 ≤ h0.size) (A_rq : AI Z h0 rq .byte 5 fq) :
    MetFree l (⟨"skipstitch/table/PrefixTableOptimisedPinLaw", "isB", "([BII)Z"⟩ : MethodName) (head1 (Jvm.Cond.code (⟨"skipstitch/table/PrefixTableOptimisedPinLaw", "isB", "([BII)Z"⟩ : MethodName) method_4_code 3 (some .boolean) :: ws) ({ frames := 0, cells := 0, slots := 0, locals := 0 } : Room)) (fun a U => a = #[(.ref rq), (.int (4 : Int32)), (.int (1 : Int32))] ∧ Z.Warmed39 U.vm ∧ U.heap = h0) (fun _ _ _ _ _ => True) (fun _ U o U' => ∃ v L, o = .returned v ∧ Q3i4l1 Z rq fq h0 n0 v U'.heap L ∧ FrameEnd U o U' L ({ frames := 0, cells := 0, slots := 0, locals := 0 } : Room).cells ({ frames := 0, cells := 0, slots := 0, locals := 0 } : Room).slots) := by
  refine MetFree.of_bodySF (plainFor_of_name pn_skipstitch_table_PrefixTableOptimisedPinLaw) hisR ?_
  intro p e s m args below meth c s₁ Bd hml0 hP hK
  obtain ⟨rfl, hZ, hh⟩ := hP
  have hx := Bd.exec
  have hby := Bd.bytes
  have hml : c.maxLocals = 3 := hml0
  have hown : s.vm.findClass "skipstitch/table/PrefixTableOptimisedPinLaw" = some m.cls := findClass_of_methodNamed Bd.named
  have hnm := (name_of_methodNamed Bd.named Bd.method).1
  have X0 : Stand p l e ({ frames := 0, cells := 0, slots := 0, locals := 0 } : Room) s m #[(.ref rq), (.int (4 : Int32)), (.int (1 : Int32))] below meth c s₁ [] 0 0 := Stand.of_body Bd
  have e0 : s₁.heap = h0 := by rw [← hh, Bd.state]; rfl
  have N0 := Fr.nil n0
  have K0 : Keep h0 h0 [] := Keep.refl h0 _
  have pre0 : ∀ t, Steps p.tables e below (s₁.setTop (mkF m 0 #[.val (.ref rq), .val (.int (4 : Int32)), .val (.int (1 : Int32))] [])) t → Steps p.tables e below (s₁.setTop (entryFrame m #[(.ref rq), (.int (4 : Int32)), (.int (1 : Int32))] 3)) t := fun t k => castTop (ef_3i4l1 m rq) k
  obtain ⟨cl1, Arcl1, hincl1, hatcl1⟩ := AF.at A_rq (j := (0 : Int32)) 0 (by decide) (by decide)
  obtain ⟨cl2, Arcl2, hincl2, hatcl2⟩ := AF.at A_rq (j := (4 : Int32)) 4 (by decide) (by decide)
  have pre3 : ∀ t, Steps p.tables e below (s₁.setTop (mkF m 15 #[.val (.ref rq), .val (.int (4 : Int32)), .val (.int (1 : Int32))] [(.int (fq 4)), (.int (fq 0))])) t → Steps p.tables e below (s₁.setTop (entryFrame m #[(.ref rq), (.int (4 : Int32)), (.int (1 : Int32))] 3)) t := by
    intro t k
    refine pre0 _ ?_
    refine XS.iloadN X0.here hx rfl (hb hby d3_0) rfl ?_
    refine XS.iconst X0.here hx rfl (hb hby d3_1) ?_
    refine XS.icmpNo X0.here hx rfl (hb hby d3_2) rfl (flt (by decide : ¬ ((1 : Int32) < (1 : Int32)))).1 ?_
    refine XS.aloadN X0.here hx rfl (hb hby d3_5) rfl rfl ?_
    refine XS.iconst X0.here hx rfl (hb hby d3_6) ?_
    refine X0.baloadBytes hx (j := (0 : Int32)) (v := (.int (fq 0))) (by rw [e0]; exact Arcl1.1) (State.isArrayOf_alike hZ.alike Arcl1.2.1) Arcl1.2.2 hincl1 hatcl1 (g := (mkF m 7 #[.val (.ref rq), .val (.int (4 : Int32)), .val (.int (1 : Int32))] [(.int (0 : Int32)), (.ref rq)])) rfl rfl (hb hby d3_7) _ ?_
    refine XS.aloadN X0.here hx rfl (hb hby d3_8) rfl rfl ?_
    refine XS.iloadN X0.here hx rfl (hb hby d3_9) rfl ?_
    refine XS.iloadN X0.here hx rfl (hb hby d3_10) rfl ?_
    refine XS.isub X0.here hx rfl (hb hby d3_11) rfl ?_
    refine XS.iconst X0.here hx rfl (hb hby d3_12) ?_
    refine XS.iadd X0.here hx rfl (hb hby d3_13) rfl ?_
    refine X0.baloadBytes hx (j := (4 : Int32)) (v := (.int (fq 4))) (by rw [e0]; exact Arcl2.1) (State.isArrayOf_alike hZ.alike Arcl2.2.1) Arcl2.2.2 hincl2 hatcl2 (g := (mkF m 14 #[.val (.ref rq), .val (.int (4 : Int32)), .val (.int (1 : Int32))] [(.int (4 : Int32)), (.ref rq), (.int (fq 0))])) rfl rfl (hb hby d3_14) _ ?_
    exact k
  by_cases hk4 : (fq 0) = (fq 4)
  · obtain ⟨fs, hr, hrun, hended, hW, hsame⟩ := X0.leave (v := some (.int (1 : Int32))) (fun h => by rw [Bd.returns] at h; cases h) (hlocks := Bd.notSynchronized)
    refine ⟨_, _, pre3 _ ?_, hrun, hended, _, _, rfl, ?_, ⟨_, rfl⟩, hW, hsame.mono (by decide) (by decide)⟩
    · show Steps p.tables e below (s₁.setTop (mkF m 15 #[.val (.ref rq), .val (.int (4 : Int32)), .val (.int (1 : Int32))] [(.int (fq 4)), (.int (fq 0))])) _
      refine XS.icmpNo X0.here hx rfl (hb hby d3_15) rfl (teq hk4).2 ?_
      refine XS.iloadN X0.here hx rfl (hb hby d3_18) rfl ?_
      refine XS.iconst X0.here hx rfl (hb hby d3_19) ?_
      refine XS.icmpYes X0.here hx rfl (pc0 := 20) (pc' := 36) rfl (hb hby d3_20) rfl (tlt (by decide : ((1 : Int32) < (2 : Int32)))).1 (by decide) (by decide) ?_
      refine XS.iloadN X0.here hx rfl (hb hby d3_36) rfl ?_
      refine XS.iconst X0.here hx rfl (hb hby d3_37) ?_
      refine XS.icmpYes X0.here hx rfl (pc0 := 38) (pc' := 54) rfl (hb hby d3_38) rfl (tlt (by decide : ((1 : Int32) < (3 : Int32)))).1 (by decide) (by decide) ?_
      refine XS.iloadN X0.here hx rfl (hb hby d3_54) rfl ?_
      refine XS.iconst X0.here hx rfl (hb hby d3_55) ?_
      refine XS.icmpYes X0.here hx rfl (pc0 := 56) (pc' := 72) rfl (hb hby d3_56) rfl (tlt (by decide : ((1 : Int32) < (4 : Int32)))).1 (by decide) (by decide) ?_
      refine XS.iconst X0.here hx rfl (hb hby d3_72) ?_
      refine XS.goto X0.here hx rfl (pc0 := 73) (pc' := 77) rfl (hb hby d3_73) (by decide) (by decide) ?_
      exact retN X0 hx (t := .boolean) Bd.returns (by simp) (hb hby d3_77) hr
    · show Q3i4l1 Z rq fq h0 n0 _ s₁.heap _
      rw [e0]
      have ev5 : (r3i4l1_v fq) = (1 : Int32) := by unfold r3i4l1_v; rw [if_pos hk4]
      exact ⟨(congrArg (fun z => some (Value.int z)) ev5.symm), N0, rfl⟩
  · obtain ⟨fs, hr, hrun, hended, hW, hsame⟩ := X0.leave (v := some (.int (0 : Int32))) (fun h => by rw [Bd.returns] at h; cases h) (hlocks := Bd.notSynchronized)
    refine ⟨_, _, pre3 _ ?_, hrun, hended, _, _, rfl, ?_, ⟨_, rfl⟩, hW, hsame.mono (by decide) (by decide)⟩
    · show Steps p.tables e below (s₁.setTop (mkF m 15 #[.val (.ref rq), .val (.int (4 : Int32)), .val (.int (1 : Int32))] [(.int (fq 4)), (.int (fq 0))])) _
      refine XS.icmpYes X0.here hx rfl (pc0 := 15) (pc' := 76) rfl (hb hby d3_15) rfl (feq hk4).2 (by decide) (by decide) ?_
      refine XS.iconst X0.here hx rfl (hb hby d3_76) ?_
      exact retN X0 hx (t := .boolean) Bd.returns (by simp) (hb hby d3_77) hr
    · show Q3i4l1 Z rq fq h0 n0 _ s₁.heap _
      rw [e0]
      have ev6 : (r3i4l1_v fq) = (0 : Int32) := by unfold r3i4l1_v; rw [if_neg hk4]
      exact ⟨(congrArg (fun z => some (Value.int z)) ev6.symm), N0, rfl⟩
theorem ef_3i4l2 (m : MethodId) (rq : Addr) : entryFrame m #[(.ref rq), (.int (4 : Int32)), (.int (2 : Int32))] 3 = mkF m 0 #[.val (.ref rq), .val (.int (4 : Int32)), .val (.int (2 : Int32))] [] := by first | (simp [entryFrame, mkF, argsToLocals, Value.category]; done) | rfl
def r3i4l2_v (fq : Nat → Int32) : Int32 := (if (fq 0) = (fq 3) then (if (fq 1) = (fq 4) then (1 : Int32) else (0 : Int32)) else (0 : Int32))
def Q3i4l2 (Z : State) (rq : Addr) (fq : Nat → Int32) (h0 : Heap) (n0 : Nat) (v : Option Value) (h : Heap) (L : List Loc) : Prop := v = some (.int (r3i4l2_v fq)) ∧ Fr n0 L ∧ h = h0
set_option maxRecDepth 65536 in
set_option maxHeartbeats 40000000 in
theorem rm3i4l2 (l : Launch) (Z : State) (a0 : Array Value) (hw : ∀ d ∈ tables_1, d.before a0 Z = true) (ws : List Jvm.Cond) (rq : Addr) (fq : Nat → Int32) (h0 : Heap) (n0 : Nat) (Z0 : n0 ≤ h0.size) (A_rq : AI Z h0 rq .byte 5 fq) :
    MetFree l (⟨"skipstitch/table/PrefixTableOptimisedPinLaw", "isB", "([BII)Z"⟩ : MethodName) (head1 (Jvm.Cond.code (⟨"skipstitch/table/PrefixTableOptimisedPinLaw", "isB", "([BII)Z"⟩ : MethodName) method_4_code 3 (some .boolean) :: ws) ({ frames := 0, cells := 0, slots := 0, locals := 0 } : Room)) (fun a U => a = #[(.ref rq), (.int (4 : Int32)), (.int (2 : Int32))] ∧ Z.Warmed39 U.vm ∧ U.heap = h0) (fun _ _ _ _ _ => True) (fun _ U o U' => ∃ v L, o = .returned v ∧ Q3i4l2 Z rq fq h0 n0 v U'.heap L ∧ FrameEnd U o U' L ({ frames := 0, cells := 0, slots := 0, locals := 0 } : Room).cells ({ frames := 0, cells := 0, slots := 0, locals := 0 } : Room).slots) := by
  refine MetFree.of_bodySF (plainFor_of_name pn_skipstitch_table_PrefixTableOptimisedPinLaw) hisR ?_
  intro p e s m args below meth c s₁ Bd hml0 hP hK
  obtain ⟨rfl, hZ, hh⟩ := hP
  have hx := Bd.exec
  have hby := Bd.bytes
  have hml : c.maxLocals = 3 := hml0
  have hown : s.vm.findClass "skipstitch/table/PrefixTableOptimisedPinLaw" = some m.cls := findClass_of_methodNamed Bd.named
  have hnm := (name_of_methodNamed Bd.named Bd.method).1
  have X0 : Stand p l e ({ frames := 0, cells := 0, slots := 0, locals := 0 } : Room) s m #[(.ref rq), (.int (4 : Int32)), (.int (2 : Int32))] below meth c s₁ [] 0 0 := Stand.of_body Bd
  have e0 : s₁.heap = h0 := by rw [← hh, Bd.state]; rfl
  have N0 := Fr.nil n0
  have K0 : Keep h0 h0 [] := Keep.refl h0 _
  have pre0 : ∀ t, Steps p.tables e below (s₁.setTop (mkF m 0 #[.val (.ref rq), .val (.int (4 : Int32)), .val (.int (2 : Int32))] [])) t → Steps p.tables e below (s₁.setTop (entryFrame m #[(.ref rq), (.int (4 : Int32)), (.int (2 : Int32))] 3)) t := fun t k => castTop (ef_3i4l2 m rq) k
  obtain ⟨cl1, Arcl1, hincl1, hatcl1⟩ := AF.at A_rq (j := (0 : Int32)) 0 (by decide) (by decide)
  obtain ⟨cl2, Arcl2, hincl2, hatcl2⟩ := AF.at A_rq (j := (3 : Int32)) 3 (by decide) (by decide)
  have pre3 : ∀ t, Steps p.tables e below (s₁.setTop (mkF m 15 #[.val (.ref rq), .val (.int (4 : Int32)), .val (.int (2 : Int32))] [(.int (fq 3)), (.int (fq 0))])) t → Steps p.tables e below (s₁.setTop (entryFrame m #[(.ref rq), (.int (4 : Int32)), (.int (2 : Int32))] 3)) t := by
    intro t k
    refine pre0 _ ?_
    refine XS.iloadN X0.here hx rfl (hb hby d3_0) rfl ?_
    refine XS.iconst X0.here hx rfl (hb hby d3_1) ?_
    refine XS.icmpNo X0.here hx rfl (hb hby d3_2) rfl (flt (by decide : ¬ ((2 : Int32) < (1 : Int32)))).1 ?_
    refine XS.aloadN X0.here hx rfl (hb hby d3_5) rfl rfl ?_
    refine XS.iconst X0.here hx rfl (hb hby d3_6) ?_
    refine X0.baloadBytes hx (j := (0 : Int32)) (v := (.int (fq 0))) (by rw [e0]; exact Arcl1.1) (State.isArrayOf_alike hZ.alike Arcl1.2.1) Arcl1.2.2 hincl1 hatcl1 (g := (mkF m 7 #[.val (.ref rq), .val (.int (4 : Int32)), .val (.int (2 : Int32))] [(.int (0 : Int32)), (.ref rq)])) rfl rfl (hb hby d3_7) _ ?_
    refine XS.aloadN X0.here hx rfl (hb hby d3_8) rfl rfl ?_
    refine XS.iloadN X0.here hx rfl (hb hby d3_9) rfl ?_
    refine XS.iloadN X0.here hx rfl (hb hby d3_10) rfl ?_
    refine XS.isub X0.here hx rfl (hb hby d3_11) rfl ?_
    refine XS.iconst X0.here hx rfl (hb hby d3_12) ?_
    refine XS.iadd X0.here hx rfl (hb hby d3_13) rfl ?_
    refine X0.baloadBytes hx (j := (3 : Int32)) (v := (.int (fq 3))) (by rw [e0]; exact Arcl2.1) (State.isArrayOf_alike hZ.alike Arcl2.2.1) Arcl2.2.2 hincl2 hatcl2 (g := (mkF m 14 #[.val (.ref rq), .val (.int (4 : Int32)), .val (.int (2 : Int32))] [(.int (3 : Int32)), (.ref rq), (.int (fq 0))])) rfl rfl (hb hby d3_14) _ ?_
    exact k
  by_cases hk4 : (fq 0) = (fq 3)
  · obtain ⟨cl5, Arcl5, hincl5, hatcl5⟩ := AF.at A_rq (j := (1 : Int32)) 1 (by decide) (by decide)
    obtain ⟨cl6, Arcl6, hincl6, hatcl6⟩ := AF.at A_rq (j := (4 : Int32)) 4 (by decide) (by decide)
    have pre7 : ∀ t, Steps p.tables e below (s₁.setTop (mkF m 33 #[.val (.ref rq), .val (.int (4 : Int32)), .val (.int (2 : Int32))] [(.int (fq 4)), (.int (fq 1))])) t → Steps p.tables e below (s₁.setTop (entryFrame m #[(.ref rq), (.int (4 : Int32)), (.int (2 : Int32))] 3)) t := by
      intro t k
      refine pre3 _ ?_
      refine XS.icmpNo X0.here hx rfl (hb hby d3_15) rfl (teq hk4).2 ?_
      refine XS.iloadN X0.here hx rfl (hb hby d3_18) rfl ?_
      refine XS.iconst X0.here hx rfl (hb hby d3_19) ?_
      refine XS.icmpNo X0.here hx rfl (hb hby d3_20) rfl (flt (by decide : ¬ ((2 : Int32) < (2 : Int32)))).1 ?_
      refine XS.aloadN X0.here hx rfl (hb hby d3_23) rfl rfl ?_
      refine XS.iconst X0.here hx rfl (hb hby d3_24) ?_
      refine X0.baloadBytes hx (j := (1 : Int32)) (v := (.int (fq 1))) (by rw [e0]; exact Arcl5.1) (State.isArrayOf_alike hZ.alike Arcl5.2.1) Arcl5.2.2 hincl5 hatcl5 (g := (mkF m 25 #[.val (.ref rq), .val (.int (4 : Int32)), .val (.int (2 : Int32))] [(.int (1 : Int32)), (.ref rq)])) rfl rfl (hb hby d3_25) _ ?_
      refine XS.aloadN X0.here hx rfl (hb hby d3_26) rfl rfl ?_
      refine XS.iloadN X0.here hx rfl (hb hby d3_27) rfl ?_
      refine XS.iloadN X0.here hx rfl (hb hby d3_28) rfl ?_
      refine XS.isub X0.here hx rfl (hb hby d3_29) rfl ?_
      refine XS.iconst X0.here hx rfl (hb hby d3_30) ?_
      refine XS.iadd X0.here hx rfl (hb hby d3_31) rfl ?_
      refine X0.baloadBytes hx (j := (4 : Int32)) (v := (.int (fq 4))) (by rw [e0]; exact Arcl6.1) (State.isArrayOf_alike hZ.alike Arcl6.2.1) Arcl6.2.2 hincl6 hatcl6 (g := (mkF m 32 #[.val (.ref rq), .val (.int (4 : Int32)), .val (.int (2 : Int32))] [(.int (4 : Int32)), (.ref rq), (.int (fq 1))])) rfl rfl (hb hby d3_32) _ ?_
      exact k
    by_cases hk8 : (fq 1) = (fq 4)
    · obtain ⟨fs, hr, hrun, hended, hW, hsame⟩ := X0.leave (v := some (.int (1 : Int32))) (fun h => by rw [Bd.returns] at h; cases h) (hlocks := Bd.notSynchronized)
      refine ⟨_, _, pre7 _ ?_, hrun, hended, _, _, rfl, ?_, ⟨_, rfl⟩, hW, hsame.mono (by decide) (by decide)⟩
      · show Steps p.tables e below (s₁.setTop (mkF m 33 #[.val (.ref rq), .val (.int (4 : Int32)), .val (.int (2 : Int32))] [(.int (fq 4)), (.int (fq 1))])) _
        refine XS.icmpNo X0.here hx rfl (hb hby d3_33) rfl (teq hk8).2 ?_
        refine XS.iloadN X0.here hx rfl (hb hby d3_36) rfl ?_
        refine XS.iconst X0.here hx rfl (hb hby d3_37) ?_
        refine XS.icmpYes X0.here hx rfl (pc0 := 38) (pc' := 54) rfl (hb hby d3_38) rfl (tlt (by decide : ((2 : Int32) < (3 : Int32)))).1 (by decide) (by decide) ?_
        refine XS.iloadN X0.here hx rfl (hb hby d3_54) rfl ?_
        refine XS.iconst X0.here hx rfl (hb hby d3_55) ?_
        refine XS.icmpYes X0.here hx rfl (pc0 := 56) (pc' := 72) rfl (hb hby d3_56) rfl (tlt (by decide : ((2 : Int32) < (4 : Int32)))).1 (by decide) (by decide) ?_
        refine XS.iconst X0.here hx rfl (hb hby d3_72) ?_
        refine XS.goto X0.here hx rfl (pc0 := 73) (pc' := 77) rfl (hb hby d3_73) (by decide) (by decide) ?_
        exact retN X0 hx (t := .boolean) Bd.returns (by simp) (hb hby d3_77) hr
      · show Q3i4l2 Z rq fq h0 n0 _ s₁.heap _
        rw [e0]
        have ev9 : (r3i4l2_v fq) = (1 : Int32) := by unfold r3i4l2_v; rw [if_pos hk4, if_pos hk8]
        exact ⟨(congrArg (fun z => some (Value.int z)) ev9.symm), N0, rfl⟩
    · obtain ⟨fs, hr, hrun, hended, hW, hsame⟩ := X0.leave (v := some (.int (0 : Int32))) (fun h => by rw [Bd.returns] at h; cases h) (hlocks := Bd.notSynchronized)
      refine ⟨_, _, pre7 _ ?_, hrun, hended, _, _, rfl, ?_, ⟨_, rfl⟩, hW, hsame.mono (by decide) (by decide)⟩
      · show Steps p.tables e below (s₁.setTop (mkF m 33 #[.val (.ref rq), .val (.int (4 : Int32)), .val (.int (2 : Int32))] [(.int (fq 4)), (.int (fq 1))])) _
        refine XS.icmpYes X0.here hx rfl (pc0 := 33) (pc' := 76) rfl (hb hby d3_33) rfl (feq hk8).2 (by decide) (by decide) ?_
        refine XS.iconst X0.here hx rfl (hb hby d3_76) ?_
        exact retN X0 hx (t := .boolean) Bd.returns (by simp) (hb hby d3_77) hr
      · show Q3i4l2 Z rq fq h0 n0 _ s₁.heap _
        rw [e0]
        have ev10 : (r3i4l2_v fq) = (0 : Int32) := by unfold r3i4l2_v; rw [if_pos hk4, if_neg hk8]
        exact ⟨(congrArg (fun z => some (Value.int z)) ev10.symm), N0, rfl⟩
  · obtain ⟨fs, hr, hrun, hended, hW, hsame⟩ := X0.leave (v := some (.int (0 : Int32))) (fun h => by rw [Bd.returns] at h; cases h) (hlocks := Bd.notSynchronized)
    refine ⟨_, _, pre3 _ ?_, hrun, hended, _, _, rfl, ?_, ⟨_, rfl⟩, hW, hsame.mono (by decide) (by decide)⟩
    · show Steps p.tables e below (s₁.setTop (mkF m 15 #[.val (.ref rq), .val (.int (4 : Int32)), .val (.int (2 : Int32))] [(.int (fq 3)), (.int (fq 0))])) _
      refine XS.icmpYes X0.here hx rfl (pc0 := 15) (pc' := 76) rfl (hb hby d3_15) rfl (feq hk4).2 (by decide) (by decide) ?_
      refine XS.iconst X0.here hx rfl (hb hby d3_76) ?_
      exact retN X0 hx (t := .boolean) Bd.returns (by simp) (hb hby d3_77) hr
    · show Q3i4l2 Z rq fq h0 n0 _ s₁.heap _
      rw [e0]
      have ev11 : (r3i4l2_v fq) = (0 : Int32) := by unfold r3i4l2_v; rw [if_neg hk4]
      exact ⟨(congrArg (fun z => some (Value.int z)) ev11.symm), N0, rfl⟩
theorem ef_3i4l3 (m : MethodId) (rq : Addr) : entryFrame m #[(.ref rq), (.int (4 : Int32)), (.int (3 : Int32))] 3 = mkF m 0 #[.val (.ref rq), .val (.int (4 : Int32)), .val (.int (3 : Int32))] [] := by first | (simp [entryFrame, mkF, argsToLocals, Value.category]; done) | rfl
def r3i4l3_v (fq : Nat → Int32) : Int32 := (if (fq 0) = (fq 2) then (if (fq 1) = (fq 3) then (if (fq 2) = (fq 4) then (1 : Int32) else (0 : Int32)) else (0 : Int32)) else (0 : Int32))
def Q3i4l3 (Z : State) (rq : Addr) (fq : Nat → Int32) (h0 : Heap) (n0 : Nat) (v : Option Value) (h : Heap) (L : List Loc) : Prop := v = some (.int (r3i4l3_v fq)) ∧ Fr n0 L ∧ h = h0
set_option maxRecDepth 65536 in
set_option maxHeartbeats 40000000 in
theorem rm3i4l3 (l : Launch) (Z : State) (a0 : Array Value) (hw : ∀ d ∈ tables_1, d.before a0 Z = true) (ws : List Jvm.Cond) (rq : Addr) (fq : Nat → Int32) (h0 : Heap) (n0 : Nat) (Z0 : n0 ≤ h0.size) (A_rq : AI Z h0 rq .byte 5 fq) :
    MetFree l (⟨"skipstitch/table/PrefixTableOptimisedPinLaw", "isB", "([BII)Z"⟩ : MethodName) (head1 (Jvm.Cond.code (⟨"skipstitch/table/PrefixTableOptimisedPinLaw", "isB", "([BII)Z"⟩ : MethodName) method_4_code 3 (some .boolean) :: ws) ({ frames := 0, cells := 0, slots := 0, locals := 0 } : Room)) (fun a U => a = #[(.ref rq), (.int (4 : Int32)), (.int (3 : Int32))] ∧ Z.Warmed39 U.vm ∧ U.heap = h0) (fun _ _ _ _ _ => True) (fun _ U o U' => ∃ v L, o = .returned v ∧ Q3i4l3 Z rq fq h0 n0 v U'.heap L ∧ FrameEnd U o U' L ({ frames := 0, cells := 0, slots := 0, locals := 0 } : Room).cells ({ frames := 0, cells := 0, slots := 0, locals := 0 } : Room).slots) := by
  refine MetFree.of_bodySF (plainFor_of_name pn_skipstitch_table_PrefixTableOptimisedPinLaw) hisR ?_
  intro p e s m args below meth c s₁ Bd hml0 hP hK
  obtain ⟨rfl, hZ, hh⟩ := hP
  have hx := Bd.exec
  have hby := Bd.bytes
  have hml : c.maxLocals = 3 := hml0
  have hown : s.vm.findClass "skipstitch/table/PrefixTableOptimisedPinLaw" = some m.cls := findClass_of_methodNamed Bd.named
  have hnm := (name_of_methodNamed Bd.named Bd.method).1
  have X0 : Stand p l e ({ frames := 0, cells := 0, slots := 0, locals := 0 } : Room) s m #[(.ref rq), (.int (4 : Int32)), (.int (3 : Int32))] below meth c s₁ [] 0 0 := Stand.of_body Bd
  have e0 : s₁.heap = h0 := by rw [← hh, Bd.state]; rfl
  have N0 := Fr.nil n0
  have K0 : Keep h0 h0 [] := Keep.refl h0 _
  have pre0 : ∀ t, Steps p.tables e below (s₁.setTop (mkF m 0 #[.val (.ref rq), .val (.int (4 : Int32)), .val (.int (3 : Int32))] [])) t → Steps p.tables e below (s₁.setTop (entryFrame m #[(.ref rq), (.int (4 : Int32)), (.int (3 : Int32))] 3)) t := fun t k => castTop (ef_3i4l3 m rq) k
  obtain ⟨cl1, Arcl1, hincl1, hatcl1⟩ := AF.at A_rq (j := (0 : Int32)) 0 (by decide) (by decide)
  obtain ⟨cl2, Arcl2, hincl2, hatcl2⟩ := AF.at A_rq (j := (2 : Int32)) 2 (by decide) (by decide)
  have pre3 : ∀ t, Steps p.tables e below (s₁.setTop (mkF m 15 #[.val (.ref rq), .val (.int (4 : Int32)), .val (.int (3 : Int32))] [(.int (fq 2)), (.int (fq 0))])) t → Steps p.tables e below (s₁.setTop (entryFrame m #[(.ref rq), (.int (4 : Int32)), (.int (3 : Int32))] 3)) t := by
    intro t k
    refine pre0 _ ?_
    refine XS.iloadN X0.here hx rfl (hb hby d3_0) rfl ?_
    refine XS.iconst X0.here hx rfl (hb hby d3_1) ?_
    refine XS.icmpNo X0.here hx rfl (hb hby d3_2) rfl (flt (by decide : ¬ ((3 : Int32) < (1 : Int32)))).1 ?_
    refine XS.aloadN X0.here hx rfl (hb hby d3_5) rfl rfl ?_
    refine XS.iconst X0.here hx rfl (hb hby d3_6) ?_
    refine X0.baloadBytes hx (j := (0 : Int32)) (v := (.int (fq 0))) (by rw [e0]; exact Arcl1.1) (State.isArrayOf_alike hZ.alike Arcl1.2.1) Arcl1.2.2 hincl1 hatcl1 (g := (mkF m 7 #[.val (.ref rq), .val (.int (4 : Int32)), .val (.int (3 : Int32))] [(.int (0 : Int32)), (.ref rq)])) rfl rfl (hb hby d3_7) _ ?_
    refine XS.aloadN X0.here hx rfl (hb hby d3_8) rfl rfl ?_
    refine XS.iloadN X0.here hx rfl (hb hby d3_9) rfl ?_
    refine XS.iloadN X0.here hx rfl (hb hby d3_10) rfl ?_
    refine XS.isub X0.here hx rfl (hb hby d3_11) rfl ?_
    refine XS.iconst X0.here hx rfl (hb hby d3_12) ?_
    refine XS.iadd X0.here hx rfl (hb hby d3_13) rfl ?_
    refine X0.baloadBytes hx (j := (2 : Int32)) (v := (.int (fq 2))) (by rw [e0]; exact Arcl2.1) (State.isArrayOf_alike hZ.alike Arcl2.2.1) Arcl2.2.2 hincl2 hatcl2 (g := (mkF m 14 #[.val (.ref rq), .val (.int (4 : Int32)), .val (.int (3 : Int32))] [(.int (2 : Int32)), (.ref rq), (.int (fq 0))])) rfl rfl (hb hby d3_14) _ ?_
    exact k
  by_cases hk4 : (fq 0) = (fq 2)
  · obtain ⟨cl5, Arcl5, hincl5, hatcl5⟩ := AF.at A_rq (j := (1 : Int32)) 1 (by decide) (by decide)
    obtain ⟨cl6, Arcl6, hincl6, hatcl6⟩ := AF.at A_rq (j := (3 : Int32)) 3 (by decide) (by decide)
    have pre7 : ∀ t, Steps p.tables e below (s₁.setTop (mkF m 33 #[.val (.ref rq), .val (.int (4 : Int32)), .val (.int (3 : Int32))] [(.int (fq 3)), (.int (fq 1))])) t → Steps p.tables e below (s₁.setTop (entryFrame m #[(.ref rq), (.int (4 : Int32)), (.int (3 : Int32))] 3)) t := by
      intro t k
      refine pre3 _ ?_
      refine XS.icmpNo X0.here hx rfl (hb hby d3_15) rfl (teq hk4).2 ?_
      refine XS.iloadN X0.here hx rfl (hb hby d3_18) rfl ?_
      refine XS.iconst X0.here hx rfl (hb hby d3_19) ?_
      refine XS.icmpNo X0.here hx rfl (hb hby d3_20) rfl (flt (by decide : ¬ ((3 : Int32) < (2 : Int32)))).1 ?_
      refine XS.aloadN X0.here hx rfl (hb hby d3_23) rfl rfl ?_
      refine XS.iconst X0.here hx rfl (hb hby d3_24) ?_
      refine X0.baloadBytes hx (j := (1 : Int32)) (v := (.int (fq 1))) (by rw [e0]; exact Arcl5.1) (State.isArrayOf_alike hZ.alike Arcl5.2.1) Arcl5.2.2 hincl5 hatcl5 (g := (mkF m 25 #[.val (.ref rq), .val (.int (4 : Int32)), .val (.int (3 : Int32))] [(.int (1 : Int32)), (.ref rq)])) rfl rfl (hb hby d3_25) _ ?_
      refine XS.aloadN X0.here hx rfl (hb hby d3_26) rfl rfl ?_
      refine XS.iloadN X0.here hx rfl (hb hby d3_27) rfl ?_
      refine XS.iloadN X0.here hx rfl (hb hby d3_28) rfl ?_
      refine XS.isub X0.here hx rfl (hb hby d3_29) rfl ?_
      refine XS.iconst X0.here hx rfl (hb hby d3_30) ?_
      refine XS.iadd X0.here hx rfl (hb hby d3_31) rfl ?_
      refine X0.baloadBytes hx (j := (3 : Int32)) (v := (.int (fq 3))) (by rw [e0]; exact Arcl6.1) (State.isArrayOf_alike hZ.alike Arcl6.2.1) Arcl6.2.2 hincl6 hatcl6 (g := (mkF m 32 #[.val (.ref rq), .val (.int (4 : Int32)), .val (.int (3 : Int32))] [(.int (3 : Int32)), (.ref rq), (.int (fq 1))])) rfl rfl (hb hby d3_32) _ ?_
      exact k
    by_cases hk8 : (fq 1) = (fq 3)
    · obtain ⟨cl9, Arcl9, hincl9, hatcl9⟩ := AF.at A_rq (j := (2 : Int32)) 2 (by decide) (by decide)
      obtain ⟨cl10, Arcl10, hincl10, hatcl10⟩ := AF.at A_rq (j := (4 : Int32)) 4 (by decide) (by decide)
      have pre11 : ∀ t, Steps p.tables e below (s₁.setTop (mkF m 51 #[.val (.ref rq), .val (.int (4 : Int32)), .val (.int (3 : Int32))] [(.int (fq 4)), (.int (fq 2))])) t → Steps p.tables e below (s₁.setTop (entryFrame m #[(.ref rq), (.int (4 : Int32)), (.int (3 : Int32))] 3)) t := by
        intro t k
        refine pre7 _ ?_
        refine XS.icmpNo X0.here hx rfl (hb hby d3_33) rfl (teq hk8).2 ?_
        refine XS.iloadN X0.here hx rfl (hb hby d3_36) rfl ?_
        refine XS.iconst X0.here hx rfl (hb hby d3_37) ?_
        refine XS.icmpNo X0.here hx rfl (hb hby d3_38) rfl (flt (by decide : ¬ ((3 : Int32) < (3 : Int32)))).1 ?_
        refine XS.aloadN X0.here hx rfl (hb hby d3_41) rfl rfl ?_
        refine XS.iconst X0.here hx rfl (hb hby d3_42) ?_
        refine X0.baloadBytes hx (j := (2 : Int32)) (v := (.int (fq 2))) (by rw [e0]; exact Arcl9.1) (State.isArrayOf_alike hZ.alike Arcl9.2.1) Arcl9.2.2 hincl9 hatcl9 (g := (mkF m 43 #[.val (.ref rq), .val (.int (4 : Int32)), .val (.int (3 : Int32))] [(.int (2 : Int32)), (.ref rq)])) rfl rfl (hb hby d3_43) _ ?_
        refine XS.aloadN X0.here hx rfl (hb hby d3_44) rfl rfl ?_
        refine XS.iloadN X0.here hx rfl (hb hby d3_45) rfl ?_
        refine XS.iloadN X0.here hx rfl (hb hby d3_46) rfl ?_
        refine XS.isub X0.here hx rfl (hb hby d3_47) rfl ?_
        refine XS.iconst X0.here hx rfl (hb hby d3_48) ?_
        refine XS.iadd X0.here hx rfl (hb hby d3_49) rfl ?_
        refine X0.baloadBytes hx (j := (4 : Int32)) (v := (.int (fq 4))) (by rw [e0]; exact Arcl10.1) (State.isArrayOf_alike hZ.alike Arcl10.2.1) Arcl10.2.2 hincl10 hatcl10 (g := (mkF m 50 #[.val (.ref rq), .val (.int (4 : Int32)), .val (.int (3 : Int32))] [(.int (4 : Int32)), (.ref rq), (.int (fq 2))])) rfl rfl (hb hby d3_50) _ ?_
        exact k
      by_cases hk12 : (fq 2) = (fq 4)
      · obtain ⟨fs, hr, hrun, hended, hW, hsame⟩ := X0.leave (v := some (.int (1 : Int32))) (fun h => by rw [Bd.returns] at h; cases h) (hlocks := Bd.notSynchronized)
        refine ⟨_, _, pre11 _ ?_, hrun, hended, _, _, rfl, ?_, ⟨_, rfl⟩, hW, hsame.mono (by decide) (by decide)⟩
        · show Steps p.tables e below (s₁.setTop (mkF m 51 #[.val (.ref rq), .val (.int (4 : Int32)), .val (.int (3 : Int32))] [(.int (fq 4)), (.int (fq 2))])) _
          refine XS.icmpNo X0.here hx rfl (hb hby d3_51) rfl (teq hk12).2 ?_
          refine XS.iloadN X0.here hx rfl (hb hby d3_54) rfl ?_
          refine XS.iconst X0.here hx rfl (hb hby d3_55) ?_
          refine XS.icmpYes X0.here hx rfl (pc0 := 56) (pc' := 72) rfl (hb hby d3_56) rfl (tlt (by decide : ((3 : Int32) < (4 : Int32)))).1 (by decide) (by decide) ?_
          refine XS.iconst X0.here hx rfl (hb hby d3_72) ?_
          refine XS.goto X0.here hx rfl (pc0 := 73) (pc' := 77) rfl (hb hby d3_73) (by decide) (by decide) ?_
          exact retN X0 hx (t := .boolean) Bd.returns (by simp) (hb hby d3_77) hr
        · show Q3i4l3 Z rq fq h0 n0 _ s₁.heap _
          rw [e0]
          have ev13 : (r3i4l3_v fq) = (1 : Int32) := by unfold r3i4l3_v; rw [if_pos hk4, if_pos hk8, if_pos hk12]
          exact ⟨(congrArg (fun z => some (Value.int z)) ev13.symm), N0, rfl⟩
      · obtain ⟨fs, hr, hrun, hended, hW, hsame⟩ := X0.leave (v := some (.int (0 : Int32))) (fun h => by rw [Bd.returns] at h; cases h) (hlocks := Bd.notSynchronized)
        refine ⟨_, _, pre11 _ ?_, hrun, hended, _, _, rfl, ?_, ⟨_, rfl⟩, hW, hsame.mono (by decide) (by decide)⟩
        · show Steps p.tables e below (s₁.setTop (mkF m 51 #[.val (.ref rq), .val (.int (4 : Int32)), .val (.int (3 : Int32))] [(.int (fq 4)), (.int (fq 2))])) _
          refine XS.icmpYes X0.here hx rfl (pc0 := 51) (pc' := 76) rfl (hb hby d3_51) rfl (feq hk12).2 (by decide) (by decide) ?_
          refine XS.iconst X0.here hx rfl (hb hby d3_76) ?_
          exact retN X0 hx (t := .boolean) Bd.returns (by simp) (hb hby d3_77) hr
        · show Q3i4l3 Z rq fq h0 n0 _ s₁.heap _
          rw [e0]
          have ev14 : (r3i4l3_v fq) = (0 : Int32) := by unfold r3i4l3_v; rw [if_pos hk4, if_pos hk8, if_neg hk12]
          exact ⟨(congrArg (fun z => some (Value.int z)) ev14.symm), N0, rfl⟩
    · obtain ⟨fs, hr, hrun, hended, hW, hsame⟩ := X0.leave (v := some (.int (0 : Int32))) (fun h => by rw [Bd.returns] at h; cases h) (hlocks := Bd.notSynchronized)
      refine ⟨_, _, pre7 _ ?_, hrun, hended, _, _, rfl, ?_, ⟨_, rfl⟩, hW, hsame.mono (by decide) (by decide)⟩
      · show Steps p.tables e below (s₁.setTop (mkF m 33 #[.val (.ref rq), .val (.int (4 : Int32)), .val (.int (3 : Int32))] [(.int (fq 3)), (.int (fq 1))])) _
        refine XS.icmpYes X0.here hx rfl (pc0 := 33) (pc' := 76) rfl (hb hby d3_33) rfl (feq hk8).2 (by decide) (by decide) ?_
        refine XS.iconst X0.here hx rfl (hb hby d3_76) ?_
        exact retN X0 hx (t := .boolean) Bd.returns (by simp) (hb hby d3_77) hr
      · show Q3i4l3 Z rq fq h0 n0 _ s₁.heap _
        rw [e0]
        have ev15 : (r3i4l3_v fq) = (0 : Int32) := by unfold r3i4l3_v; rw [if_pos hk4, if_neg hk8]
        exact ⟨(congrArg (fun z => some (Value.int z)) ev15.symm), N0, rfl⟩
  · obtain ⟨fs, hr, hrun, hended, hW, hsame⟩ := X0.leave (v := some (.int (0 : Int32))) (fun h => by rw [Bd.returns] at h; cases h) (hlocks := Bd.notSynchronized)
    refine ⟨_, _, pre3 _ ?_, hrun, hended, _, _, rfl, ?_, ⟨_, rfl⟩, hW, hsame.mono (by decide) (by decide)⟩
    · show Steps p.tables e below (s₁.setTop (mkF m 15 #[.val (.ref rq), .val (.int (4 : Int32)), .val (.int (3 : Int32))] [(.int (fq 2)), (.int (fq 0))])) _
      refine XS.icmpYes X0.here hx rfl (pc0 := 15) (pc' := 76) rfl (hb hby d3_15) rfl (feq hk4).2 (by decide) (by decide) ?_
      refine XS.iconst X0.here hx rfl (hb hby d3_76) ?_
      exact retN X0 hx (t := .boolean) Bd.returns (by simp) (hb hby d3_77) hr
    · show Q3i4l3 Z rq fq h0 n0 _ s₁.heap _
      rw [e0]
      have ev16 : (r3i4l3_v fq) = (0 : Int32) := by unfold r3i4l3_v; rw [if_neg hk4]
      exact ⟨(congrArg (fun z => some (Value.int z)) ev16.symm), N0, rfl⟩
theorem ef_3i4l4 (m : MethodId) (rq : Addr) : entryFrame m #[(.ref rq), (.int (4 : Int32)), (.int (4 : Int32))] 3 = mkF m 0 #[.val (.ref rq), .val (.int (4 : Int32)), .val (.int (4 : Int32))] [] := by first | (simp [entryFrame, mkF, argsToLocals, Value.category]; done) | rfl
theorem d3_59 : decode method_4_code 59 = .ok (.aload_n 0, 1) := by decide +kernel
theorem d3_60 : decode method_4_code 60 = .ok (.iconst 3, 1) := by decide +kernel
theorem d3_61 : decode method_4_code 61 = .ok (.baload, 1) := by decide +kernel
theorem d3_62 : decode method_4_code 62 = .ok (.aload_n 0, 1) := by decide +kernel
theorem d3_63 : decode method_4_code 63 = .ok (.iload_n 1, 1) := by decide +kernel
theorem d3_64 : decode method_4_code 64 = .ok (.iload_n 2, 1) := by decide +kernel
theorem d3_65 : decode method_4_code 65 = .ok (.isub, 1) := by decide +kernel
theorem d3_66 : decode method_4_code 66 = .ok (.iconst 4, 1) := by decide +kernel
theorem d3_67 : decode method_4_code 67 = .ok (.iadd, 1) := by decide +kernel
theorem d3_68 : decode method_4_code 68 = .ok (.baload, 1) := by decide +kernel
theorem d3_69 : decode method_4_code 69 = .ok (.if_icmp .ne 7, 3) := by decide +kernel
def r3i4l4_v (fq : Nat → Int32) : Int32 := (if (fq 0) = (fq 1) then (if (fq 1) = (fq 2) then (if (fq 2) = (fq 3) then (if (fq 3) = (fq 4) then (1 : Int32) else (0 : Int32)) else (0 : Int32)) else (0 : Int32)) else (0 : Int32))
def Q3i4l4 (Z : State) (rq : Addr) (fq : Nat → Int32) (h0 : Heap) (n0 : Nat) (v : Option Value) (h : Heap) (L : List Loc) : Prop := v = some (.int (r3i4l4_v fq)) ∧ Fr n0 L ∧ h = h0
set_option maxRecDepth 65536 in
set_option maxHeartbeats 40000000 in
theorem rm3i4l4 (l : Launch) (Z : State) (a0 : Array Value) (hw : ∀ d ∈ tables_1, d.before a0 Z = true) (ws : List Jvm.Cond) (rq : Addr) (fq : Nat → Int32) (h0 : Heap) (n0 : Nat) (Z0 : n0 ≤ h0.size) (A_rq : AI Z h0 rq .byte 5 fq) :
    MetFree l (⟨"skipstitch/table/PrefixTableOptimisedPinLaw", "isB", "([BII)Z"⟩ : MethodName) (head1 (Jvm.Cond.code (⟨"skipstitch/table/PrefixTableOptimisedPinLaw", "isB", "([BII)Z"⟩ : MethodName) method_4_code 3 (some .boolean) :: ws) ({ frames := 0, cells := 0, slots := 0, locals := 0 } : Room)) (fun a U => a = #[(.ref rq), (.int (4 : Int32)), (.int (4 : Int32))] ∧ Z.Warmed39 U.vm ∧ U.heap = h0) (fun _ _ _ _ _ => True) (fun _ U o U' => ∃ v L, o = .returned v ∧ Q3i4l4 Z rq fq h0 n0 v U'.heap L ∧ FrameEnd U o U' L ({ frames := 0, cells := 0, slots := 0, locals := 0 } : Room).cells ({ frames := 0, cells := 0, slots := 0, locals := 0 } : Room).slots) := by
  refine MetFree.of_bodySF (plainFor_of_name pn_skipstitch_table_PrefixTableOptimisedPinLaw) hisR ?_
  intro p e s m args below meth c s₁ Bd hml0 hP hK
  obtain ⟨rfl, hZ, hh⟩ := hP
  have hx := Bd.exec
  have hby := Bd.bytes
  have hml : c.maxLocals = 3 := hml0
  have hown : s.vm.findClass "skipstitch/table/PrefixTableOptimisedPinLaw" = some m.cls := findClass_of_methodNamed Bd.named
  have hnm := (name_of_methodNamed Bd.named Bd.method).1
  have X0 : Stand p l e ({ frames := 0, cells := 0, slots := 0, locals := 0 } : Room) s m #[(.ref rq), (.int (4 : Int32)), (.int (4 : Int32))] below meth c s₁ [] 0 0 := Stand.of_body Bd
  have e0 : s₁.heap = h0 := by rw [← hh, Bd.state]; rfl
  have N0 := Fr.nil n0
  have K0 : Keep h0 h0 [] := Keep.refl h0 _
  have pre0 : ∀ t, Steps p.tables e below (s₁.setTop (mkF m 0 #[.val (.ref rq), .val (.int (4 : Int32)), .val (.int (4 : Int32))] [])) t → Steps p.tables e below (s₁.setTop (entryFrame m #[(.ref rq), (.int (4 : Int32)), (.int (4 : Int32))] 3)) t := fun t k => castTop (ef_3i4l4 m rq) k
  obtain ⟨cl1, Arcl1, hincl1, hatcl1⟩ := AF.at A_rq (j := (0 : Int32)) 0 (by decide) (by decide)
  obtain ⟨cl2, Arcl2, hincl2, hatcl2⟩ := AF.at A_rq (j := (1 : Int32)) 1 (by decide) (by decide)
  have pre3 : ∀ t, Steps p.tables e below (s₁.setTop (mkF m 15 #[.val (.ref rq), .val (.int (4 : Int32)), .val (.int (4 : Int32))] [(.int (fq 1)), (.int (fq 0))])) t → Steps p.tables e below (s₁.setTop (entryFrame m #[(.ref rq), (.int (4 : Int32)), (.int (4 : Int32))] 3)) t := by
    intro t k
    refine pre0 _ ?_
    refine XS.iloadN X0.here hx rfl (hb hby d3_0) rfl ?_
    refine XS.iconst X0.here hx rfl (hb hby d3_1) ?_
    refine XS.icmpNo X0.here hx rfl (hb hby d3_2) rfl (flt (by decide : ¬ ((4 : Int32) < (1 : Int32)))).1 ?_
    refine XS.aloadN X0.here hx rfl (hb hby d3_5) rfl rfl ?_
    refine XS.iconst X0.here hx rfl (hb hby d3_6) ?_
    refine X0.baloadBytes hx (j := (0 : Int32)) (v := (.int (fq 0))) (by rw [e0]; exact Arcl1.1) (State.isArrayOf_alike hZ.alike Arcl1.2.1) Arcl1.2.2 hincl1 hatcl1 (g := (mkF m 7 #[.val (.ref rq), .val (.int (4 : Int32)), .val (.int (4 : Int32))] [(.int (0 : Int32)), (.ref rq)])) rfl rfl (hb hby d3_7) _ ?_
    refine XS.aloadN X0.here hx rfl (hb hby d3_8) rfl rfl ?_
    refine XS.iloadN X0.here hx rfl (hb hby d3_9) rfl ?_
    refine XS.iloadN X0.here hx rfl (hb hby d3_10) rfl ?_
    refine XS.isub X0.here hx rfl (hb hby d3_11) rfl ?_
    refine XS.iconst X0.here hx rfl (hb hby d3_12) ?_
    refine XS.iadd X0.here hx rfl (hb hby d3_13) rfl ?_
    refine X0.baloadBytes hx (j := (1 : Int32)) (v := (.int (fq 1))) (by rw [e0]; exact Arcl2.1) (State.isArrayOf_alike hZ.alike Arcl2.2.1) Arcl2.2.2 hincl2 hatcl2 (g := (mkF m 14 #[.val (.ref rq), .val (.int (4 : Int32)), .val (.int (4 : Int32))] [(.int (1 : Int32)), (.ref rq), (.int (fq 0))])) rfl rfl (hb hby d3_14) _ ?_
    exact k
  by_cases hk4 : (fq 0) = (fq 1)
  · obtain ⟨cl5, Arcl5, hincl5, hatcl5⟩ := AF.at A_rq (j := (1 : Int32)) 1 (by decide) (by decide)
    obtain ⟨cl6, Arcl6, hincl6, hatcl6⟩ := AF.at A_rq (j := (2 : Int32)) 2 (by decide) (by decide)
    have pre7 : ∀ t, Steps p.tables e below (s₁.setTop (mkF m 33 #[.val (.ref rq), .val (.int (4 : Int32)), .val (.int (4 : Int32))] [(.int (fq 2)), (.int (fq 1))])) t → Steps p.tables e below (s₁.setTop (entryFrame m #[(.ref rq), (.int (4 : Int32)), (.int (4 : Int32))] 3)) t := by
      intro t k
      refine pre3 _ ?_
      refine XS.icmpNo X0.here hx rfl (hb hby d3_15) rfl (teq hk4).2 ?_
      refine XS.iloadN X0.here hx rfl (hb hby d3_18) rfl ?_
      refine XS.iconst X0.here hx rfl (hb hby d3_19) ?_
      refine XS.icmpNo X0.here hx rfl (hb hby d3_20) rfl (flt (by decide : ¬ ((4 : Int32) < (2 : Int32)))).1 ?_
      refine XS.aloadN X0.here hx rfl (hb hby d3_23) rfl rfl ?_
      refine XS.iconst X0.here hx rfl (hb hby d3_24) ?_
      refine X0.baloadBytes hx (j := (1 : Int32)) (v := (.int (fq 1))) (by rw [e0]; exact Arcl5.1) (State.isArrayOf_alike hZ.alike Arcl5.2.1) Arcl5.2.2 hincl5 hatcl5 (g := (mkF m 25 #[.val (.ref rq), .val (.int (4 : Int32)), .val (.int (4 : Int32))] [(.int (1 : Int32)), (.ref rq)])) rfl rfl (hb hby d3_25) _ ?_
      refine XS.aloadN X0.here hx rfl (hb hby d3_26) rfl rfl ?_
      refine XS.iloadN X0.here hx rfl (hb hby d3_27) rfl ?_
      refine XS.iloadN X0.here hx rfl (hb hby d3_28) rfl ?_
      refine XS.isub X0.here hx rfl (hb hby d3_29) rfl ?_
      refine XS.iconst X0.here hx rfl (hb hby d3_30) ?_
      refine XS.iadd X0.here hx rfl (hb hby d3_31) rfl ?_
      refine X0.baloadBytes hx (j := (2 : Int32)) (v := (.int (fq 2))) (by rw [e0]; exact Arcl6.1) (State.isArrayOf_alike hZ.alike Arcl6.2.1) Arcl6.2.2 hincl6 hatcl6 (g := (mkF m 32 #[.val (.ref rq), .val (.int (4 : Int32)), .val (.int (4 : Int32))] [(.int (2 : Int32)), (.ref rq), (.int (fq 1))])) rfl rfl (hb hby d3_32) _ ?_
      exact k
    by_cases hk8 : (fq 1) = (fq 2)
    · obtain ⟨cl9, Arcl9, hincl9, hatcl9⟩ := AF.at A_rq (j := (2 : Int32)) 2 (by decide) (by decide)
      obtain ⟨cl10, Arcl10, hincl10, hatcl10⟩ := AF.at A_rq (j := (3 : Int32)) 3 (by decide) (by decide)
      have pre11 : ∀ t, Steps p.tables e below (s₁.setTop (mkF m 51 #[.val (.ref rq), .val (.int (4 : Int32)), .val (.int (4 : Int32))] [(.int (fq 3)), (.int (fq 2))])) t → Steps p.tables e below (s₁.setTop (entryFrame m #[(.ref rq), (.int (4 : Int32)), (.int (4 : Int32))] 3)) t := by
        intro t k
        refine pre7 _ ?_
        refine XS.icmpNo X0.here hx rfl (hb hby d3_33) rfl (teq hk8).2 ?_
        refine XS.iloadN X0.here hx rfl (hb hby d3_36) rfl ?_
        refine XS.iconst X0.here hx rfl (hb hby d3_37) ?_
        refine XS.icmpNo X0.here hx rfl (hb hby d3_38) rfl (flt (by decide : ¬ ((4 : Int32) < (3 : Int32)))).1 ?_
        refine XS.aloadN X0.here hx rfl (hb hby d3_41) rfl rfl ?_
        refine XS.iconst X0.here hx rfl (hb hby d3_42) ?_
        refine X0.baloadBytes hx (j := (2 : Int32)) (v := (.int (fq 2))) (by rw [e0]; exact Arcl9.1) (State.isArrayOf_alike hZ.alike Arcl9.2.1) Arcl9.2.2 hincl9 hatcl9 (g := (mkF m 43 #[.val (.ref rq), .val (.int (4 : Int32)), .val (.int (4 : Int32))] [(.int (2 : Int32)), (.ref rq)])) rfl rfl (hb hby d3_43) _ ?_
        refine XS.aloadN X0.here hx rfl (hb hby d3_44) rfl rfl ?_
        refine XS.iloadN X0.here hx rfl (hb hby d3_45) rfl ?_
        refine XS.iloadN X0.here hx rfl (hb hby d3_46) rfl ?_
        refine XS.isub X0.here hx rfl (hb hby d3_47) rfl ?_
        refine XS.iconst X0.here hx rfl (hb hby d3_48) ?_
        refine XS.iadd X0.here hx rfl (hb hby d3_49) rfl ?_
        refine X0.baloadBytes hx (j := (3 : Int32)) (v := (.int (fq 3))) (by rw [e0]; exact Arcl10.1) (State.isArrayOf_alike hZ.alike Arcl10.2.1) Arcl10.2.2 hincl10 hatcl10 (g := (mkF m 50 #[.val (.ref rq), .val (.int (4 : Int32)), .val (.int (4 : Int32))] [(.int (3 : Int32)), (.ref rq), (.int (fq 2))])) rfl rfl (hb hby d3_50) _ ?_
        exact k
      by_cases hk12 : (fq 2) = (fq 3)
      · obtain ⟨cl13, Arcl13, hincl13, hatcl13⟩ := AF.at A_rq (j := (3 : Int32)) 3 (by decide) (by decide)
        obtain ⟨cl14, Arcl14, hincl14, hatcl14⟩ := AF.at A_rq (j := (4 : Int32)) 4 (by decide) (by decide)
        have pre15 : ∀ t, Steps p.tables e below (s₁.setTop (mkF m 69 #[.val (.ref rq), .val (.int (4 : Int32)), .val (.int (4 : Int32))] [(.int (fq 4)), (.int (fq 3))])) t → Steps p.tables e below (s₁.setTop (entryFrame m #[(.ref rq), (.int (4 : Int32)), (.int (4 : Int32))] 3)) t := by
          intro t k
          refine pre11 _ ?_
          refine XS.icmpNo X0.here hx rfl (hb hby d3_51) rfl (teq hk12).2 ?_
          refine XS.iloadN X0.here hx rfl (hb hby d3_54) rfl ?_
          refine XS.iconst X0.here hx rfl (hb hby d3_55) ?_
          refine XS.icmpNo X0.here hx rfl (hb hby d3_56) rfl (flt (by decide : ¬ ((4 : Int32) < (4 : Int32)))).1 ?_
          refine XS.aloadN X0.here hx rfl (hb hby d3_59) rfl rfl ?_
          refine XS.iconst X0.here hx rfl (hb hby d3_60) ?_
          refine X0.baloadBytes hx (j := (3 : Int32)) (v := (.int (fq 3))) (by rw [e0]; exact Arcl13.1) (State.isArrayOf_alike hZ.alike Arcl13.2.1) Arcl13.2.2 hincl13 hatcl13 (g := (mkF m 61 #[.val (.ref rq), .val (.int (4 : Int32)), .val (.int (4 : Int32))] [(.int (3 : Int32)), (.ref rq)])) rfl rfl (hb hby d3_61) _ ?_
          refine XS.aloadN X0.here hx rfl (hb hby d3_62) rfl rfl ?_
          refine XS.iloadN X0.here hx rfl (hb hby d3_63) rfl ?_
          refine XS.iloadN X0.here hx rfl (hb hby d3_64) rfl ?_
          refine XS.isub X0.here hx rfl (hb hby d3_65) rfl ?_
          refine XS.iconst X0.here hx rfl (hb hby d3_66) ?_
          refine XS.iadd X0.here hx rfl (hb hby d3_67) rfl ?_
          refine X0.baloadBytes hx (j := (4 : Int32)) (v := (.int (fq 4))) (by rw [e0]; exact Arcl14.1) (State.isArrayOf_alike hZ.alike Arcl14.2.1) Arcl14.2.2 hincl14 hatcl14 (g := (mkF m 68 #[.val (.ref rq), .val (.int (4 : Int32)), .val (.int (4 : Int32))] [(.int (4 : Int32)), (.ref rq), (.int (fq 3))])) rfl rfl (hb hby d3_68) _ ?_
          exact k
        by_cases hk16 : (fq 3) = (fq 4)
        · obtain ⟨fs, hr, hrun, hended, hW, hsame⟩ := X0.leave (v := some (.int (1 : Int32))) (fun h => by rw [Bd.returns] at h; cases h) (hlocks := Bd.notSynchronized)
          refine ⟨_, _, pre15 _ ?_, hrun, hended, _, _, rfl, ?_, ⟨_, rfl⟩, hW, hsame.mono (by decide) (by decide)⟩
          · show Steps p.tables e below (s₁.setTop (mkF m 69 #[.val (.ref rq), .val (.int (4 : Int32)), .val (.int (4 : Int32))] [(.int (fq 4)), (.int (fq 3))])) _
            refine XS.icmpNo X0.here hx rfl (hb hby d3_69) rfl (teq hk16).2 ?_
            refine XS.iconst X0.here hx rfl (hb hby d3_72) ?_
            refine XS.goto X0.here hx rfl (pc0 := 73) (pc' := 77) rfl (hb hby d3_73) (by decide) (by decide) ?_
            exact retN X0 hx (t := .boolean) Bd.returns (by simp) (hb hby d3_77) hr
          · show Q3i4l4 Z rq fq h0 n0 _ s₁.heap _
            rw [e0]
            have ev17 : (r3i4l4_v fq) = (1 : Int32) := by unfold r3i4l4_v; rw [if_pos hk4, if_pos hk8, if_pos hk12, if_pos hk16]
            exact ⟨(congrArg (fun z => some (Value.int z)) ev17.symm), N0, rfl⟩
        · obtain ⟨fs, hr, hrun, hended, hW, hsame⟩ := X0.leave (v := some (.int (0 : Int32))) (fun h => by rw [Bd.returns] at h; cases h) (hlocks := Bd.notSynchronized)
          refine ⟨_, _, pre15 _ ?_, hrun, hended, _, _, rfl, ?_, ⟨_, rfl⟩, hW, hsame.mono (by decide) (by decide)⟩
          · show Steps p.tables e below (s₁.setTop (mkF m 69 #[.val (.ref rq), .val (.int (4 : Int32)), .val (.int (4 : Int32))] [(.int (fq 4)), (.int (fq 3))])) _
            refine XS.icmpYes X0.here hx rfl (pc0 := 69) (pc' := 76) rfl (hb hby d3_69) rfl (feq hk16).2 (by decide) (by decide) ?_
            refine XS.iconst X0.here hx rfl (hb hby d3_76) ?_
            exact retN X0 hx (t := .boolean) Bd.returns (by simp) (hb hby d3_77) hr
          · show Q3i4l4 Z rq fq h0 n0 _ s₁.heap _
            rw [e0]
            have ev18 : (r3i4l4_v fq) = (0 : Int32) := by unfold r3i4l4_v; rw [if_pos hk4, if_pos hk8, if_pos hk12, if_neg hk16]
            exact ⟨(congrArg (fun z => some (Value.int z)) ev18.symm), N0, rfl⟩
      · obtain ⟨fs, hr, hrun, hended, hW, hsame⟩ := X0.leave (v := some (.int (0 : Int32))) (fun h => by rw [Bd.returns] at h; cases h) (hlocks := Bd.notSynchronized)
        refine ⟨_, _, pre11 _ ?_, hrun, hended, _, _, rfl, ?_, ⟨_, rfl⟩, hW, hsame.mono (by decide) (by decide)⟩
        · show Steps p.tables e below (s₁.setTop (mkF m 51 #[.val (.ref rq), .val (.int (4 : Int32)), .val (.int (4 : Int32))] [(.int (fq 3)), (.int (fq 2))])) _
          refine XS.icmpYes X0.here hx rfl (pc0 := 51) (pc' := 76) rfl (hb hby d3_51) rfl (feq hk12).2 (by decide) (by decide) ?_
          refine XS.iconst X0.here hx rfl (hb hby d3_76) ?_
          exact retN X0 hx (t := .boolean) Bd.returns (by simp) (hb hby d3_77) hr
        · show Q3i4l4 Z rq fq h0 n0 _ s₁.heap _
          rw [e0]
          have ev19 : (r3i4l4_v fq) = (0 : Int32) := by unfold r3i4l4_v; rw [if_pos hk4, if_pos hk8, if_neg hk12]
          exact ⟨(congrArg (fun z => some (Value.int z)) ev19.symm), N0, rfl⟩
    · obtain ⟨fs, hr, hrun, hended, hW, hsame⟩ := X0.leave (v := some (.int (0 : Int32))) (fun h => by rw [Bd.returns] at h; cases h) (hlocks := Bd.notSynchronized)
      refine ⟨_, _, pre7 _ ?_, hrun, hended, _, _, rfl, ?_, ⟨_, rfl⟩, hW, hsame.mono (by decide) (by decide)⟩
      · show Steps p.tables e below (s₁.setTop (mkF m 33 #[.val (.ref rq), .val (.int (4 : Int32)), .val (.int (4 : Int32))] [(.int (fq 2)), (.int (fq 1))])) _
        refine XS.icmpYes X0.here hx rfl (pc0 := 33) (pc' := 76) rfl (hb hby d3_33) rfl (feq hk8).2 (by decide) (by decide) ?_
        refine XS.iconst X0.here hx rfl (hb hby d3_76) ?_
        exact retN X0 hx (t := .boolean) Bd.returns (by simp) (hb hby d3_77) hr
      · show Q3i4l4 Z rq fq h0 n0 _ s₁.heap _
        rw [e0]
        have ev20 : (r3i4l4_v fq) = (0 : Int32) := by unfold r3i4l4_v; rw [if_pos hk4, if_neg hk8]
        exact ⟨(congrArg (fun z => some (Value.int z)) ev20.symm), N0, rfl⟩
  · obtain ⟨fs, hr, hrun, hended, hW, hsame⟩ := X0.leave (v := some (.int (0 : Int32))) (fun h => by rw [Bd.returns] at h; cases h) (hlocks := Bd.notSynchronized)
    refine ⟨_, _, pre3 _ ?_, hrun, hended, _, _, rfl, ?_, ⟨_, rfl⟩, hW, hsame.mono (by decide) (by decide)⟩
    · show Steps p.tables e below (s₁.setTop (mkF m 15 #[.val (.ref rq), .val (.int (4 : Int32)), .val (.int (4 : Int32))] [(.int (fq 1)), (.int (fq 0))])) _
      refine XS.icmpYes X0.here hx rfl (pc0 := 15) (pc' := 76) rfl (hb hby d3_15) rfl (feq hk4).2 (by decide) (by decide) ?_
      refine XS.iconst X0.here hx rfl (hb hby d3_76) ?_
      exact retN X0 hx (t := .boolean) Bd.returns (by simp) (hb hby d3_77) hr
    · show Q3i4l4 Z rq fq h0 n0 _ s₁.heap _
      rw [e0]
      have ev21 : (r3i4l4_v fq) = (0 : Int32) := by unfold r3i4l4_v; rw [if_neg hk4]
      exact ⟨(congrArg (fun z => some (Value.int z)) ev21.symm), N0, rfl⟩
theorem ef_2k0 (m : MethodId) (rq : Addr) : entryFrame m #[(.ref rq), (.int (0 : Int32))] 2 = mkF m 0 #[.val (.ref rq), .val (.int (0 : Int32))] [] := by first | (simp [entryFrame, mkF, argsToLocals, Value.category]; done) | rfl
theorem d2_0 : decode method_5_code 0 = .ok (.iload_n 1, 1) := by decide +kernel
theorem d2_1 : decode method_5_code 1 = .ok (.iconst 4, 1) := by decide +kernel
theorem d2_2 : decode method_5_code 2 = .ok (.if_icmp .lt 14, 3) := by decide +kernel
theorem d2_16 : decode method_5_code 16 = .ok (.iload_n 1, 1) := by decide +kernel
theorem d2_17 : decode method_5_code 17 = .ok (.iconst 3, 1) := by decide +kernel
theorem d2_18 : decode method_5_code 18 = .ok (.if_icmp .lt 14, 3) := by decide +kernel
theorem d2_32 : decode method_5_code 32 = .ok (.iload_n 1, 1) := by decide +kernel
theorem d2_33 : decode method_5_code 33 = .ok (.iconst 2, 1) := by decide +kernel
theorem d2_34 : decode method_5_code 34 = .ok (.if_icmp .lt 14, 3) := by decide +kernel
theorem d2_48 : decode method_5_code 48 = .ok (.iload_n 1, 1) := by decide +kernel
theorem d2_49 : decode method_5_code 49 = .ok (.iconst 1, 1) := by decide +kernel
theorem d2_50 : decode method_5_code 50 = .ok (.if_icmp .lt 14, 3) := by decide +kernel
theorem d2_64 : decode method_5_code 64 = .ok (.iconst 0, 1) := by decide +kernel
theorem d2_65 : decode method_5_code 65 = .ok (.ireturn, 1) := by decide +kernel
def Q2k0 (Z : State) (rq : Addr) (fq : Nat → Int32) (h0 : Heap) (n0 : Nat) (v : Option Value) (h : Heap) (L : List Loc) : Prop := v = some (.int (0 : Int32)) ∧ Fr n0 L ∧ h = h0
set_option maxRecDepth 65536 in
set_option maxHeartbeats 40000000 in
theorem rm2k0 (l : Launch) (Z : State) (a0 : Array Value) (hw : ∀ d ∈ tables_1, d.before a0 Z = true) (ws : List Jvm.Cond) (rq : Addr) (fq : Nat → Int32) (h0 : Heap) (n0 : Nat) (Z0 : n0 ≤ h0.size) (A_rq : AI Z h0 rq .byte 5 fq) :
    MetFree l (⟨"skipstitch/table/PrefixTableOptimisedPinLaw", "border", "([BI)I"⟩ : MethodName) (head1 (Jvm.Cond.code (⟨"skipstitch/table/PrefixTableOptimisedPinLaw", "border", "([BI)I"⟩ : MethodName) method_5_code 2 (some .int) :: ws) ({ frames := 0, cells := 0, slots := 0, locals := 0 } : Room)) (fun a U => a = #[(.ref rq), (.int (0 : Int32))] ∧ Z.Warmed39 U.vm ∧ U.heap = h0) (fun _ _ _ _ _ => True) (fun _ U o U' => ∃ v L, o = .returned v ∧ Q2k0 Z rq fq h0 n0 v U'.heap L ∧ FrameEnd U o U' L ({ frames := 0, cells := 0, slots := 0, locals := 0 } : Room).cells ({ frames := 0, cells := 0, slots := 0, locals := 0 } : Room).slots) := by
  refine MetFree.of_bodySF (plainFor_of_name pn_skipstitch_table_PrefixTableOptimisedPinLaw) hisR ?_
  intro p e s m args below meth c s₁ Bd hml0 hP hK
  obtain ⟨rfl, hZ, hh⟩ := hP
  have hx := Bd.exec
  have hby := Bd.bytes
  have hml : c.maxLocals = 2 := hml0
  have hown : s.vm.findClass "skipstitch/table/PrefixTableOptimisedPinLaw" = some m.cls := findClass_of_methodNamed Bd.named
  have hnm := (name_of_methodNamed Bd.named Bd.method).1
  have X0 : Stand p l e ({ frames := 0, cells := 0, slots := 0, locals := 0 } : Room) s m #[(.ref rq), (.int (0 : Int32))] below meth c s₁ [] 0 0 := Stand.of_body Bd
  have e0 : s₁.heap = h0 := by rw [← hh, Bd.state]; rfl
  have N0 := Fr.nil n0
  have K0 : Keep h0 h0 [] := Keep.refl h0 _
  have pre0 : ∀ t, Steps p.tables e below (s₁.setTop (mkF m 0 #[.val (.ref rq), .val (.int (0 : Int32))] [])) t → Steps p.tables e below (s₁.setTop (entryFrame m #[(.ref rq), (.int (0 : Int32))] 2)) t := fun t k => castTop (ef_2k0 m rq) k
  obtain ⟨fs, hr, hrun, hended, hW, hsame⟩ := X0.leave (v := some (.int (0 : Int32))) (fun h => by rw [Bd.returns] at h; cases h) (hlocks := Bd.notSynchronized)
  refine ⟨_, _, pre0 _ ?_, hrun, hended, _, _, rfl, ?_, ⟨_, rfl⟩, hW, hsame.mono (by decide) (by decide)⟩
  · show Steps p.tables e below (s₁.setTop (mkF m 0 #[.val (.ref rq), .val (.int (0 : Int32))] [])) _
    refine XS.iloadN X0.here hx rfl (hb hby d2_0) rfl ?_
    refine XS.iconst X0.here hx rfl (hb hby d2_1) ?_
    refine XS.icmpYes X0.here hx rfl (pc0 := 2) (pc' := 16) rfl (hb hby d2_2) rfl (tlt (by decide : ((0 : Int32) < (4 : Int32)))).1 (by decide) (by decide) ?_
    refine XS.iloadN X0.here hx rfl (hb hby d2_16) rfl ?_
    refine XS.iconst X0.here hx rfl (hb hby d2_17) ?_
    refine XS.icmpYes X0.here hx rfl (pc0 := 18) (pc' := 32) rfl (hb hby d2_18) rfl (tlt (by decide : ((0 : Int32) < (3 : Int32)))).1 (by decide) (by decide) ?_
    refine XS.iloadN X0.here hx rfl (hb hby d2_32) rfl ?_
    refine XS.iconst X0.here hx rfl (hb hby d2_33) ?_
    refine XS.icmpYes X0.here hx rfl (pc0 := 34) (pc' := 48) rfl (hb hby d2_34) rfl (tlt (by decide : ((0 : Int32) < (2 : Int32)))).1 (by decide) (by decide) ?_
    refine XS.iloadN X0.here hx rfl (hb hby d2_48) rfl ?_
    refine XS.iconst X0.here hx rfl (hb hby d2_49) ?_
    refine XS.icmpYes X0.here hx rfl (pc0 := 50) (pc' := 64) rfl (hb hby d2_50) rfl (tlt (by decide : ((0 : Int32) < (1 : Int32)))).1 (by decide) (by decide) ?_
    refine XS.iconst X0.here hx rfl (hb hby d2_64) ?_
    exact retI X0 hx Bd.returns (hb hby d2_65) hr
  · show Q2k0 Z rq fq h0 n0 _ s₁.heap _
    rw [e0]
    exact ⟨rfl, N0, rfl⟩
theorem ef_2k1 (m : MethodId) (rq : Addr) : entryFrame m #[(.ref rq), (.int (1 : Int32))] 2 = mkF m 0 #[.val (.ref rq), .val (.int (1 : Int32))] [] := by first | (simp [entryFrame, mkF, argsToLocals, Value.category]; done) | rfl
theorem d2_53 : decode method_5_code 53 = .ok (.aload_n 0, 1) := by decide +kernel
theorem d2_54 : decode method_5_code 54 = .ok (.iload_n 1, 1) := by decide +kernel
theorem d2_55 : decode method_5_code 55 = .ok (.iconst 1, 1) := by decide +kernel
theorem pd_0 : parseMethodDescriptor "([BII)Z" = some ⟨[(.array .byte), .int, .int], some .boolean⟩ := by decide +kernel
theorem d2_56 : decode method_5_code 56 = .ok (.invokestatic 32, 3) := by decide +kernel
theorem d2_59 : decode method_5_code 59 = .ok (.ifCond .eq 5, 3) := by decide +kernel
theorem d2_62 : decode method_5_code 62 = .ok (.iconst 1, 1) := by decide +kernel
theorem d2_63 : decode method_5_code 63 = .ok (.ireturn, 1) := by decide +kernel
def r2k1_v (fq : Nat → Int32) : Int32 := (if (r3i1l1_v fq) = (0 : Int32) then (0 : Int32) else (1 : Int32))
def Q2k1 (Z : State) (rq : Addr) (fq : Nat → Int32) (h0 : Heap) (n0 : Nat) (v : Option Value) (h : Heap) (L : List Loc) : Prop := v = some (.int (r2k1_v fq)) ∧ Fr n0 L ∧ h = h0
set_option maxRecDepth 65536 in
set_option maxHeartbeats 40000000 in
theorem rm2k1 (l : Launch) (Z : State) (a0 : Array Value) (hw : ∀ d ∈ tables_1, d.before a0 Z = true) (ws : List Jvm.Cond) (rq : Addr) (fq : Nat → Int32) (h0 : Heap) (n0 : Nat) (Z0 : n0 ≤ h0.size) (A_rq : AI Z h0 rq .byte 5 fq) :
    MetFree l (⟨"skipstitch/table/PrefixTableOptimisedPinLaw", "border", "([BI)I"⟩ : MethodName) (head1 (Jvm.Cond.code (⟨"skipstitch/table/PrefixTableOptimisedPinLaw", "border", "([BI)I"⟩ : MethodName) method_5_code 2 (some .int) :: ws) ({ frames := 1, cells := 0, slots := 0, locals := 14 } : Room)) (fun a U => a = #[(.ref rq), (.int (1 : Int32))] ∧ Z.Warmed39 U.vm ∧ U.heap = h0) (fun _ _ _ _ _ => True) (fun _ U o U' => ∃ v L, o = .returned v ∧ Q2k1 Z rq fq h0 n0 v U'.heap L ∧ FrameEnd U o U' L ({ frames := 1, cells := 0, slots := 0, locals := 14 } : Room).cells ({ frames := 1, cells := 0, slots := 0, locals := 14 } : Room).slots) := by
  refine MetFree.of_bodySF (plainFor_of_name pn_skipstitch_table_PrefixTableOptimisedPinLaw) hisR ?_
  intro p e s m args below meth c s₁ Bd hml0 hP hK
  obtain ⟨rfl, hZ, hh⟩ := hP
  have hx := Bd.exec
  have hby := Bd.bytes
  have hml : c.maxLocals = 2 := hml0
  have hown : s.vm.findClass "skipstitch/table/PrefixTableOptimisedPinLaw" = some m.cls := findClass_of_methodNamed Bd.named
  have hnm := (name_of_methodNamed Bd.named Bd.method).1
  have X0 : Stand p l e ({ frames := 1, cells := 0, slots := 0, locals := 14 } : Room) s m #[(.ref rq), (.int (1 : Int32))] below meth c s₁ [] 0 0 := Stand.of_body Bd
  have e0 : s₁.heap = h0 := by rw [← hh, Bd.state]; rfl
  have N0 := Fr.nil n0
  have K0 : Keep h0 h0 [] := Keep.refl h0 _
  have pre0 : ∀ t, Steps p.tables e below (s₁.setTop (mkF m 0 #[.val (.ref rq), .val (.int (1 : Int32))] [])) t → Steps p.tables e below (s₁.setTop (entryFrame m #[(.ref rq), (.int (1 : Int32))] 2)) t := fun t k => castTop (ef_2k1 m rq) k
  obtain ⟨_, _, ⟨T1, L1, k1, n1⟩, -, X1, ⟨Lc1, hQ1, l1, y1, z1⟩, st1⟩ := Jvm.LawKit.callS X0 hx (y := (⟨"skipstitch/table/PrefixTableOptimisedPinLaw", "isB", "([BII)Z"⟩ : MethodName)) hown (mvT hZ (hw _ (List.mem_of_getElem? (i := 10) rfl))) (mvT hZ (hw _ (List.mem_of_getElem? (i := 11) rfl))) (mvT hZ (hw _ (List.mem_of_getElem? (i := 4) rfl))) (mvT hZ (hw _ (List.mem_of_getElem? (i := 12) rfl))) (by decide) (backOf (W := 0) (rm3i1l1 l Z a0 hw [] rq fq h0 n0 Z0 A_rq) hZ (hw _ (List.mem_of_getElem? (i := 12) rfl)) (hw _ (List.mem_of_getElem? (i := 4) rfl)) (by decide) (by decide)) (g := (mkF m 56 #[.val (.ref rq), .val (.int (1 : Int32))] [(.int (1 : Int32)), (.int (1 : Int32)), (.ref rq)])) rfl (by rw [hml]; rfl) (argsL := [(.ref rq), (.int (1 : Int32)), (.int (1 : Int32))]) (rest := []) (lenOf pd_0 rfl) rfl (by show 2 * 0 + _ ≤ _; exact Nat.le_of_eq rfl) (hb hby d2_56) (fun _ _ => ⟨rfl, e0, (by decide : 0 + 0 ≤ _), (by decide : 0 + 0 ≤ _)⟩)
  dsimp only [Pt.U, Pt.locs, Pt.cells, Pt.slots] at X1 l1 y1 z1 st1 hQ1
  subst y1 z1
  obtain ⟨rfl, N1q, e1⟩ := hQ1
  have N1 : Fr n0 L1 := by rw [l1]; exact Fr.app N0 N1q
  have pre2 : ∀ t, Steps p.tables e below (T1.setTop (mkF m 59 #[.val (.ref rq), .val (.int (1 : Int32))] [(.int (r3i1l1_v fq))])) t → Steps p.tables e below (s₁.setTop (entryFrame m #[(.ref rq), (.int (1 : Int32))] 2)) t := by
    intro t k
    refine pre0 _ ?_
    refine XS.iloadN X0.here hx rfl (hb hby d2_0) rfl ?_
    refine XS.iconst X0.here hx rfl (hb hby d2_1) ?_
    refine XS.icmpYes X0.here hx rfl (pc0 := 2) (pc' := 16) rfl (hb hby d2_2) rfl (tlt (by decide : ((1 : Int32) < (4 : Int32)))).1 (by decide) (by decide) ?_
    refine XS.iloadN X0.here hx rfl (hb hby d2_16) rfl ?_
    refine XS.iconst X0.here hx rfl (hb hby d2_17) ?_
    refine XS.icmpYes X0.here hx rfl (pc0 := 18) (pc' := 32) rfl (hb hby d2_18) rfl (tlt (by decide : ((1 : Int32) < (3 : Int32)))).1 (by decide) (by decide) ?_
    refine XS.iloadN X0.here hx rfl (hb hby d2_32) rfl ?_
    refine XS.iconst X0.here hx rfl (hb hby d2_33) ?_
    refine XS.icmpYes X0.here hx rfl (pc0 := 34) (pc' := 48) rfl (hb hby d2_34) rfl (tlt (by decide : ((1 : Int32) < (2 : Int32)))).1 (by decide) (by decide) ?_
    refine XS.iloadN X0.here hx rfl (hb hby d2_48) rfl ?_
    refine XS.iconst X0.here hx rfl (hb hby d2_49) ?_
    refine XS.icmpNo X0.here hx rfl (hb hby d2_50) rfl (flt (by decide : ¬ ((1 : Int32) < (1 : Int32)))).1 ?_
    refine XS.aloadN X0.here hx rfl (hb hby d2_53) rfl rfl ?_
    refine XS.iloadN X0.here hx rfl (hb hby d2_54) rfl ?_
    refine XS.iconst X0.here hx rfl (hb hby d2_55) ?_
    refine st1 _ ?_
    exact k
  by_cases hk3 : (r3i1l1_v fq) = (0 : Int32)
  · obtain ⟨fs, hr, hrun, hended, hW, hsame⟩ := X1.leave (v := some (.int (0 : Int32))) (fun h => by rw [Bd.returns] at h; cases h) (hlocks := Bd.notSynchronized)
    refine ⟨_, _, pre2 _ ?_, hrun, hended, _, _, rfl, ?_, ⟨_, rfl⟩, hW, hsame.mono (by decide) (by decide)⟩
    · show Steps p.tables e below (T1.setTop (mkF m 59 #[.val (.ref rq), .val (.int (1 : Int32))] [(.int (r3i1l1_v fq))])) _
      refine XS.ifYes X1.here hx rfl (pc0 := 59) (pc' := 64) rfl (hb hby d2_59) rfl ((if0 _ _).trans (teq hk3).1) (by decide) (by decide) ?_
      refine XS.iconst X1.here hx rfl (hb hby d2_64) ?_
      exact retI X1 hx Bd.returns (hb hby d2_65) hr
    · show Q2k1 Z rq fq h0 n0 _ T1.heap _
      rw [e1]
      have ev4 : (r2k1_v fq) = (0 : Int32) := by unfold r2k1_v; rw [if_pos hk3]
      exact ⟨(congrArg (fun z => some (Value.int z)) ev4.symm), N1, rfl⟩
  · obtain ⟨fs, hr, hrun, hended, hW, hsame⟩ := X1.leave (v := some (.int (1 : Int32))) (fun h => by rw [Bd.returns] at h; cases h) (hlocks := Bd.notSynchronized)
    refine ⟨_, _, pre2 _ ?_, hrun, hended, _, _, rfl, ?_, ⟨_, rfl⟩, hW, hsame.mono (by decide) (by decide)⟩
    · show Steps p.tables e below (T1.setTop (mkF m 59 #[.val (.ref rq), .val (.int (1 : Int32))] [(.int (r3i1l1_v fq))])) _
      refine XS.ifNo X1.here hx rfl (hb hby d2_59) rfl ((if0 _ _).trans (feq hk3).1) ?_
      refine XS.iconst X1.here hx rfl (hb hby d2_62) ?_
      exact retI X1 hx Bd.returns (hb hby d2_63) hr
    · show Q2k1 Z rq fq h0 n0 _ T1.heap _
      rw [e1]
      have ev5 : (r2k1_v fq) = (1 : Int32) := by unfold r2k1_v; rw [if_neg hk3]
      exact ⟨(congrArg (fun z => some (Value.int z)) ev5.symm), N1, rfl⟩
theorem ef_2k2 (m : MethodId) (rq : Addr) : entryFrame m #[(.ref rq), (.int (2 : Int32))] 2 = mkF m 0 #[.val (.ref rq), .val (.int (2 : Int32))] [] := by first | (simp [entryFrame, mkF, argsToLocals, Value.category]; done) | rfl
theorem d2_37 : decode method_5_code 37 = .ok (.aload_n 0, 1) := by decide +kernel
theorem d2_38 : decode method_5_code 38 = .ok (.iload_n 1, 1) := by decide +kernel
theorem d2_39 : decode method_5_code 39 = .ok (.iconst 2, 1) := by decide +kernel
theorem d2_40 : decode method_5_code 40 = .ok (.invokestatic 32, 3) := by decide +kernel
theorem d2_43 : decode method_5_code 43 = .ok (.ifCond .eq 5, 3) := by decide +kernel
theorem d2_46 : decode method_5_code 46 = .ok (.iconst 2, 1) := by decide +kernel
theorem d2_47 : decode method_5_code 47 = .ok (.ireturn, 1) := by decide +kernel
def r2k2_v (fq : Nat → Int32) : Int32 := (if (r3i2l2_v fq) = (0 : Int32) then (if (r3i2l1_v fq) = (0 : Int32) then (0 : Int32) else (1 : Int32)) else (2 : Int32))
def Q2k2 (Z : State) (rq : Addr) (fq : Nat → Int32) (h0 : Heap) (n0 : Nat) (v : Option Value) (h : Heap) (L : List Loc) : Prop := v = some (.int (r2k2_v fq)) ∧ Fr n0 L ∧ h = h0
set_option maxRecDepth 65536 in
set_option maxHeartbeats 40000000 in
theorem rm2k2 (l : Launch) (Z : State) (a0 : Array Value) (hw : ∀ d ∈ tables_1, d.before a0 Z = true) (ws : List Jvm.Cond) (rq : Addr) (fq : Nat → Int32) (h0 : Heap) (n0 : Nat) (Z0 : n0 ≤ h0.size) (A_rq : AI Z h0 rq .byte 5 fq) :
    MetFree l (⟨"skipstitch/table/PrefixTableOptimisedPinLaw", "border", "([BI)I"⟩ : MethodName) (head1 (Jvm.Cond.code (⟨"skipstitch/table/PrefixTableOptimisedPinLaw", "border", "([BI)I"⟩ : MethodName) method_5_code 2 (some .int) :: ws) ({ frames := 1, cells := 0, slots := 0, locals := 14 } : Room)) (fun a U => a = #[(.ref rq), (.int (2 : Int32))] ∧ Z.Warmed39 U.vm ∧ U.heap = h0) (fun _ _ _ _ _ => True) (fun _ U o U' => ∃ v L, o = .returned v ∧ Q2k2 Z rq fq h0 n0 v U'.heap L ∧ FrameEnd U o U' L ({ frames := 1, cells := 0, slots := 0, locals := 14 } : Room).cells ({ frames := 1, cells := 0, slots := 0, locals := 14 } : Room).slots) := by
  refine MetFree.of_bodySF (plainFor_of_name pn_skipstitch_table_PrefixTableOptimisedPinLaw) hisR ?_
  intro p e s m args below meth c s₁ Bd hml0 hP hK
  obtain ⟨rfl, hZ, hh⟩ := hP
  have hx := Bd.exec
  have hby := Bd.bytes
  have hml : c.maxLocals = 2 := hml0
  have hown : s.vm.findClass "skipstitch/table/PrefixTableOptimisedPinLaw" = some m.cls := findClass_of_methodNamed Bd.named
  have hnm := (name_of_methodNamed Bd.named Bd.method).1
  have X0 : Stand p l e ({ frames := 1, cells := 0, slots := 0, locals := 14 } : Room) s m #[(.ref rq), (.int (2 : Int32))] below meth c s₁ [] 0 0 := Stand.of_body Bd
  have e0 : s₁.heap = h0 := by rw [← hh, Bd.state]; rfl
  have N0 := Fr.nil n0
  have K0 : Keep h0 h0 [] := Keep.refl h0 _
  have pre0 : ∀ t, Steps p.tables e below (s₁.setTop (mkF m 0 #[.val (.ref rq), .val (.int (2 : Int32))] [])) t → Steps p.tables e below (s₁.setTop (entryFrame m #[(.ref rq), (.int (2 : Int32))] 2)) t := fun t k => castTop (ef_2k2 m rq) k
  obtain ⟨_, _, ⟨T1, L1, k1, n1⟩, -, X1, ⟨Lc1, hQ1, l1, y1, z1⟩, st1⟩ := Jvm.LawKit.callS X0 hx (y := (⟨"skipstitch/table/PrefixTableOptimisedPinLaw", "isB", "([BII)Z"⟩ : MethodName)) hown (mvT hZ (hw _ (List.mem_of_getElem? (i := 10) rfl))) (mvT hZ (hw _ (List.mem_of_getElem? (i := 11) rfl))) (mvT hZ (hw _ (List.mem_of_getElem? (i := 4) rfl))) (mvT hZ (hw _ (List.mem_of_getElem? (i := 12) rfl))) (by decide) (backOf (W := 0) (rm3i2l2 l Z a0 hw [] rq fq h0 n0 Z0 A_rq) hZ (hw _ (List.mem_of_getElem? (i := 12) rfl)) (hw _ (List.mem_of_getElem? (i := 4) rfl)) (by decide) (by decide)) (g := (mkF m 40 #[.val (.ref rq), .val (.int (2 : Int32))] [(.int (2 : Int32)), (.int (2 : Int32)), (.ref rq)])) rfl (by rw [hml]; rfl) (argsL := [(.ref rq), (.int (2 : Int32)), (.int (2 : Int32))]) (rest := []) (lenOf pd_0 rfl) rfl (by show 2 * 0 + _ ≤ _; exact Nat.le_of_eq rfl) (hb hby d2_40) (fun _ _ => ⟨rfl, e0, (by decide : 0 + 0 ≤ _), (by decide : 0 + 0 ≤ _)⟩)
  dsimp only [Pt.U, Pt.locs, Pt.cells, Pt.slots] at X1 l1 y1 z1 st1 hQ1
  subst y1 z1
  obtain ⟨rfl, N1q, e1⟩ := hQ1
  have N1 : Fr n0 L1 := by rw [l1]; exact Fr.app N0 N1q
  have pre2 : ∀ t, Steps p.tables e below (T1.setTop (mkF m 43 #[.val (.ref rq), .val (.int (2 : Int32))] [(.int (r3i2l2_v fq))])) t → Steps p.tables e below (s₁.setTop (entryFrame m #[(.ref rq), (.int (2 : Int32))] 2)) t := by
    intro t k
    refine pre0 _ ?_
    refine XS.iloadN X0.here hx rfl (hb hby d2_0) rfl ?_
    refine XS.iconst X0.here hx rfl (hb hby d2_1) ?_
    refine XS.icmpYes X0.here hx rfl (pc0 := 2) (pc' := 16) rfl (hb hby d2_2) rfl (tlt (by decide : ((2 : Int32) < (4 : Int32)))).1 (by decide) (by decide) ?_
    refine XS.iloadN X0.here hx rfl (hb hby d2_16) rfl ?_
    refine XS.iconst X0.here hx rfl (hb hby d2_17) ?_
    refine XS.icmpYes X0.here hx rfl (pc0 := 18) (pc' := 32) rfl (hb hby d2_18) rfl (tlt (by decide : ((2 : Int32) < (3 : Int32)))).1 (by decide) (by decide) ?_
    refine XS.iloadN X0.here hx rfl (hb hby d2_32) rfl ?_
    refine XS.iconst X0.here hx rfl (hb hby d2_33) ?_
    refine XS.icmpNo X0.here hx rfl (hb hby d2_34) rfl (flt (by decide : ¬ ((2 : Int32) < (2 : Int32)))).1 ?_
    refine XS.aloadN X0.here hx rfl (hb hby d2_37) rfl rfl ?_
    refine XS.iloadN X0.here hx rfl (hb hby d2_38) rfl ?_
    refine XS.iconst X0.here hx rfl (hb hby d2_39) ?_
    refine st1 _ ?_
    exact k
  by_cases hk3 : (r3i2l2_v fq) = (0 : Int32)
  · obtain ⟨_, _, ⟨T4, L4, k4, n4⟩, -, X4, ⟨Lc4, hQ4, l4, y4, z4⟩, st4⟩ := Jvm.LawKit.callS X1 hx (y := (⟨"skipstitch/table/PrefixTableOptimisedPinLaw", "isB", "([BII)Z"⟩ : MethodName)) hown (mvT hZ (hw _ (List.mem_of_getElem? (i := 10) rfl))) (mvT hZ (hw _ (List.mem_of_getElem? (i := 11) rfl))) (mvT hZ (hw _ (List.mem_of_getElem? (i := 4) rfl))) (mvT hZ (hw _ (List.mem_of_getElem? (i := 12) rfl))) (by decide) (backOf (W := 0) (rm3i2l1 l Z a0 hw [] rq fq h0 n0 Z0 A_rq) hZ (hw _ (List.mem_of_getElem? (i := 12) rfl)) (hw _ (List.mem_of_getElem? (i := 4) rfl)) (by decide) (by decide)) (g := (mkF m 56 #[.val (.ref rq), .val (.int (2 : Int32))] [(.int (1 : Int32)), (.int (2 : Int32)), (.ref rq)])) rfl (by rw [hml]; rfl) (argsL := [(.ref rq), (.int (2 : Int32)), (.int (1 : Int32))]) (rest := []) (lenOf pd_0 rfl) rfl (by show 2 * 0 + _ ≤ _; exact Nat.le_of_eq rfl) (hb hby d2_56) (fun _ _ => ⟨rfl, e1, (by decide : 0 + 0 ≤ _), (by decide : 0 + 0 ≤ _)⟩)
    dsimp only [Pt.U, Pt.locs, Pt.cells, Pt.slots] at X4 l4 y4 z4 st4 hQ4
    subst y4 z4
    obtain ⟨rfl, N4q, e4⟩ := hQ4
    have N4 : Fr n0 L4 := by rw [l4]; exact Fr.app N1 N4q
    have pre5 : ∀ t, Steps p.tables e below (T4.setTop (mkF m 59 #[.val (.ref rq), .val (.int (2 : Int32))] [(.int (r3i2l1_v fq))])) t → Steps p.tables e below (s₁.setTop (entryFrame m #[(.ref rq), (.int (2 : Int32))] 2)) t := by
      intro t k
      refine pre2 _ ?_
      refine XS.ifYes X1.here hx rfl (pc0 := 43) (pc' := 48) rfl (hb hby d2_43) rfl ((if0 _ _).trans (teq hk3).1) (by decide) (by decide) ?_
      refine XS.iloadN X1.here hx rfl (hb hby d2_48) rfl ?_
      refine XS.iconst X1.here hx rfl (hb hby d2_49) ?_
      refine XS.icmpNo X1.here hx rfl (hb hby d2_50) rfl (flt (by decide : ¬ ((2 : Int32) < (1 : Int32)))).1 ?_
      refine XS.aloadN X1.here hx rfl (hb hby d2_53) rfl rfl ?_
      refine XS.iloadN X1.here hx rfl (hb hby d2_54) rfl ?_
      refine XS.iconst X1.here hx rfl (hb hby d2_55) ?_
      refine st4 _ ?_
      exact k
    by_cases hk6 : (r3i2l1_v fq) = (0 : Int32)
    · obtain ⟨fs, hr, hrun, hended, hW, hsame⟩ := X4.leave (v := some (.int (0 : Int32))) (fun h => by rw [Bd.returns] at h; cases h) (hlocks := Bd.notSynchronized)
      refine ⟨_, _, pre5 _ ?_, hrun, hended, _, _, rfl, ?_, ⟨_, rfl⟩, hW, hsame.mono (by decide) (by decide)⟩
      · show Steps p.tables e below (T4.setTop (mkF m 59 #[.val (.ref rq), .val (.int (2 : Int32))] [(.int (r3i2l1_v fq))])) _
        refine XS.ifYes X4.here hx rfl (pc0 := 59) (pc' := 64) rfl (hb hby d2_59) rfl ((if0 _ _).trans (teq hk6).1) (by decide) (by decide) ?_
        refine XS.iconst X4.here hx rfl (hb hby d2_64) ?_
        exact retI X4 hx Bd.returns (hb hby d2_65) hr
      · show Q2k2 Z rq fq h0 n0 _ T4.heap _
        rw [e4]
        have ev7 : (r2k2_v fq) = (0 : Int32) := by unfold r2k2_v; rw [if_pos hk3, if_pos hk6]
        exact ⟨(congrArg (fun z => some (Value.int z)) ev7.symm), N4, rfl⟩
    · obtain ⟨fs, hr, hrun, hended, hW, hsame⟩ := X4.leave (v := some (.int (1 : Int32))) (fun h => by rw [Bd.returns] at h; cases h) (hlocks := Bd.notSynchronized)
      refine ⟨_, _, pre5 _ ?_, hrun, hended, _, _, rfl, ?_, ⟨_, rfl⟩, hW, hsame.mono (by decide) (by decide)⟩
      · show Steps p.tables e below (T4.setTop (mkF m 59 #[.val (.ref rq), .val (.int (2 : Int32))] [(.int (r3i2l1_v fq))])) _
        refine XS.ifNo X4.here hx rfl (hb hby d2_59) rfl ((if0 _ _).trans (feq hk6).1) ?_
        refine XS.iconst X4.here hx rfl (hb hby d2_62) ?_
        exact retI X4 hx Bd.returns (hb hby d2_63) hr
      · show Q2k2 Z rq fq h0 n0 _ T4.heap _
        rw [e4]
        have ev8 : (r2k2_v fq) = (1 : Int32) := by unfold r2k2_v; rw [if_pos hk3, if_neg hk6]
        exact ⟨(congrArg (fun z => some (Value.int z)) ev8.symm), N4, rfl⟩
  · obtain ⟨fs, hr, hrun, hended, hW, hsame⟩ := X1.leave (v := some (.int (2 : Int32))) (fun h => by rw [Bd.returns] at h; cases h) (hlocks := Bd.notSynchronized)
    refine ⟨_, _, pre2 _ ?_, hrun, hended, _, _, rfl, ?_, ⟨_, rfl⟩, hW, hsame.mono (by decide) (by decide)⟩
    · show Steps p.tables e below (T1.setTop (mkF m 43 #[.val (.ref rq), .val (.int (2 : Int32))] [(.int (r3i2l2_v fq))])) _
      refine XS.ifNo X1.here hx rfl (hb hby d2_43) rfl ((if0 _ _).trans (feq hk3).1) ?_
      refine XS.iconst X1.here hx rfl (hb hby d2_46) ?_
      exact retI X1 hx Bd.returns (hb hby d2_47) hr
    · show Q2k2 Z rq fq h0 n0 _ T1.heap _
      rw [e1]
      have ev9 : (r2k2_v fq) = (2 : Int32) := by unfold r2k2_v; rw [if_neg hk3]
      exact ⟨(congrArg (fun z => some (Value.int z)) ev9.symm), N1, rfl⟩
theorem ef_2k3 (m : MethodId) (rq : Addr) : entryFrame m #[(.ref rq), (.int (3 : Int32))] 2 = mkF m 0 #[.val (.ref rq), .val (.int (3 : Int32))] [] := by first | (simp [entryFrame, mkF, argsToLocals, Value.category]; done) | rfl
theorem d2_21 : decode method_5_code 21 = .ok (.aload_n 0, 1) := by decide +kernel
theorem d2_22 : decode method_5_code 22 = .ok (.iload_n 1, 1) := by decide +kernel
theorem d2_23 : decode method_5_code 23 = .ok (.iconst 3, 1) := by decide +kernel
theorem d2_24 : decode method_5_code 24 = .ok (.invokestatic 32, 3) := by decide +kernel
theorem d2_27 : decode method_5_code 27 = .ok (.ifCond .eq 5, 3) := by decide +kernel
theorem d2_30 : decode method_5_code 30 = .ok (.iconst 3, 1) := by decide +kernel
theorem d2_31 : decode method_5_code 31 = .ok (.ireturn, 1) := by decide +kernel
def r2k3_v (fq : Nat → Int32) : Int32 := (if (r3i3l3_v fq) = (0 : Int32) then (if (r3i3l2_v fq) = (0 : Int32) then (if (r3i3l1_v fq) = (0 : Int32) then (0 : Int32) else (1 : Int32)) else (2 : Int32)) else (3 : Int32))
def Q2k3 (Z : State) (rq : Addr) (fq : Nat → Int32) (h0 : Heap) (n0 : Nat) (v : Option Value) (h : Heap) (L : List Loc) : Prop := v = some (.int (r2k3_v fq)) ∧ Fr n0 L ∧ h = h0
set_option maxRecDepth 65536 in
set_option maxHeartbeats 40000000 in
theorem rm2k3 (l : Launch) (Z : State) (a0 : Array Value) (hw : ∀ d ∈ tables_1, d.before a0 Z = true) (ws : List Jvm.Cond) (rq : Addr) (fq : Nat → Int32) (h0 : Heap) (n0 : Nat) (Z0 : n0 ≤ h0.size) (A_rq : AI Z h0 rq .byte 5 fq) :
    MetFree l (⟨"skipstitch/table/PrefixTableOptimisedPinLaw", "border", "([BI)I"⟩ : MethodName) (head1 (Jvm.Cond.code (⟨"skipstitch/table/PrefixTableOptimisedPinLaw", "border", "([BI)I"⟩ : MethodName) method_5_code 2 (some .int) :: ws) ({ frames := 1, cells := 0, slots := 0, locals := 14 } : Room)) (fun a U => a = #[(.ref rq), (.int (3 : Int32))] ∧ Z.Warmed39 U.vm ∧ U.heap = h0) (fun _ _ _ _ _ => True) (fun _ U o U' => ∃ v L, o = .returned v ∧ Q2k3 Z rq fq h0 n0 v U'.heap L ∧ FrameEnd U o U' L ({ frames := 1, cells := 0, slots := 0, locals := 14 } : Room).cells ({ frames := 1, cells := 0, slots := 0, locals := 14 } : Room).slots) := by
  refine MetFree.of_bodySF (plainFor_of_name pn_skipstitch_table_PrefixTableOptimisedPinLaw) hisR ?_
  intro p e s m args below meth c s₁ Bd hml0 hP hK
  obtain ⟨rfl, hZ, hh⟩ := hP
  have hx := Bd.exec
  have hby := Bd.bytes
  have hml : c.maxLocals = 2 := hml0
  have hown : s.vm.findClass "skipstitch/table/PrefixTableOptimisedPinLaw" = some m.cls := findClass_of_methodNamed Bd.named
  have hnm := (name_of_methodNamed Bd.named Bd.method).1
  have X0 : Stand p l e ({ frames := 1, cells := 0, slots := 0, locals := 14 } : Room) s m #[(.ref rq), (.int (3 : Int32))] below meth c s₁ [] 0 0 := Stand.of_body Bd
  have e0 : s₁.heap = h0 := by rw [← hh, Bd.state]; rfl
  have N0 := Fr.nil n0
  have K0 : Keep h0 h0 [] := Keep.refl h0 _
  have pre0 : ∀ t, Steps p.tables e below (s₁.setTop (mkF m 0 #[.val (.ref rq), .val (.int (3 : Int32))] [])) t → Steps p.tables e below (s₁.setTop (entryFrame m #[(.ref rq), (.int (3 : Int32))] 2)) t := fun t k => castTop (ef_2k3 m rq) k
  obtain ⟨_, _, ⟨T1, L1, k1, n1⟩, -, X1, ⟨Lc1, hQ1, l1, y1, z1⟩, st1⟩ := Jvm.LawKit.callS X0 hx (y := (⟨"skipstitch/table/PrefixTableOptimisedPinLaw", "isB", "([BII)Z"⟩ : MethodName)) hown (mvT hZ (hw _ (List.mem_of_getElem? (i := 10) rfl))) (mvT hZ (hw _ (List.mem_of_getElem? (i := 11) rfl))) (mvT hZ (hw _ (List.mem_of_getElem? (i := 4) rfl))) (mvT hZ (hw _ (List.mem_of_getElem? (i := 12) rfl))) (by decide) (backOf (W := 0) (rm3i3l3 l Z a0 hw [] rq fq h0 n0 Z0 A_rq) hZ (hw _ (List.mem_of_getElem? (i := 12) rfl)) (hw _ (List.mem_of_getElem? (i := 4) rfl)) (by decide) (by decide)) (g := (mkF m 24 #[.val (.ref rq), .val (.int (3 : Int32))] [(.int (3 : Int32)), (.int (3 : Int32)), (.ref rq)])) rfl (by rw [hml]; rfl) (argsL := [(.ref rq), (.int (3 : Int32)), (.int (3 : Int32))]) (rest := []) (lenOf pd_0 rfl) rfl (by show 2 * 0 + _ ≤ _; exact Nat.le_of_eq rfl) (hb hby d2_24) (fun _ _ => ⟨rfl, e0, (by decide : 0 + 0 ≤ _), (by decide : 0 + 0 ≤ _)⟩)
  dsimp only [Pt.U, Pt.locs, Pt.cells, Pt.slots] at X1 l1 y1 z1 st1 hQ1
  subst y1 z1
  obtain ⟨rfl, N1q, e1⟩ := hQ1
  have N1 : Fr n0 L1 := by rw [l1]; exact Fr.app N0 N1q
  have pre2 : ∀ t, Steps p.tables e below (T1.setTop (mkF m 27 #[.val (.ref rq), .val (.int (3 : Int32))] [(.int (r3i3l3_v fq))])) t → Steps p.tables e below (s₁.setTop (entryFrame m #[(.ref rq), (.int (3 : Int32))] 2)) t := by
    intro t k
    refine pre0 _ ?_
    refine XS.iloadN X0.here hx rfl (hb hby d2_0) rfl ?_
    refine XS.iconst X0.here hx rfl (hb hby d2_1) ?_
    refine XS.icmpYes X0.here hx rfl (pc0 := 2) (pc' := 16) rfl (hb hby d2_2) rfl (tlt (by decide : ((3 : Int32) < (4 : Int32)))).1 (by decide) (by decide) ?_
    refine XS.iloadN X0.here hx rfl (hb hby d2_16) rfl ?_
    refine XS.iconst X0.here hx rfl (hb hby d2_17) ?_
    refine XS.icmpNo X0.here hx rfl (hb hby d2_18) rfl (flt (by decide : ¬ ((3 : Int32) < (3 : Int32)))).1 ?_
    refine XS.aloadN X0.here hx rfl (hb hby d2_21) rfl rfl ?_
    refine XS.iloadN X0.here hx rfl (hb hby d2_22) rfl ?_
    refine XS.iconst X0.here hx rfl (hb hby d2_23) ?_
    refine st1 _ ?_
    exact k
  by_cases hk3 : (r3i3l3_v fq) = (0 : Int32)
  · obtain ⟨_, _, ⟨T4, L4, k4, n4⟩, -, X4, ⟨Lc4, hQ4, l4, y4, z4⟩, st4⟩ := Jvm.LawKit.callS X1 hx (y := (⟨"skipstitch/table/PrefixTableOptimisedPinLaw", "isB", "([BII)Z"⟩ : MethodName)) hown (mvT hZ (hw _ (List.mem_of_getElem? (i := 10) rfl))) (mvT hZ (hw _ (List.mem_of_getElem? (i := 11) rfl))) (mvT hZ (hw _ (List.mem_of_getElem? (i := 4) rfl))) (mvT hZ (hw _ (List.mem_of_getElem? (i := 12) rfl))) (by decide) (backOf (W := 0) (rm3i3l2 l Z a0 hw [] rq fq h0 n0 Z0 A_rq) hZ (hw _ (List.mem_of_getElem? (i := 12) rfl)) (hw _ (List.mem_of_getElem? (i := 4) rfl)) (by decide) (by decide)) (g := (mkF m 40 #[.val (.ref rq), .val (.int (3 : Int32))] [(.int (2 : Int32)), (.int (3 : Int32)), (.ref rq)])) rfl (by rw [hml]; rfl) (argsL := [(.ref rq), (.int (3 : Int32)), (.int (2 : Int32))]) (rest := []) (lenOf pd_0 rfl) rfl (by show 2 * 0 + _ ≤ _; exact Nat.le_of_eq rfl) (hb hby d2_40) (fun _ _ => ⟨rfl, e1, (by decide : 0 + 0 ≤ _), (by decide : 0 + 0 ≤ _)⟩)
    dsimp only [Pt.U, Pt.locs, Pt.cells, Pt.slots] at X4 l4 y4 z4 st4 hQ4
    subst y4 z4
    obtain ⟨rfl, N4q, e4⟩ := hQ4
    have N4 : Fr n0 L4 := by rw [l4]; exact Fr.app N1 N4q
    have pre5 : ∀ t, Steps p.tables e below (T4.setTop (mkF m 43 #[.val (.ref rq), .val (.int (3 : Int32))] [(.int (r3i3l2_v fq))])) t → Steps p.tables e below (s₁.setTop (entryFrame m #[(.ref rq), (.int (3 : Int32))] 2)) t := by
      intro t k
      refine pre2 _ ?_
      refine XS.ifYes X1.here hx rfl (pc0 := 27) (pc' := 32) rfl (hb hby d2_27) rfl ((if0 _ _).trans (teq hk3).1) (by decide) (by decide) ?_
      refine XS.iloadN X1.here hx rfl (hb hby d2_32) rfl ?_
      refine XS.iconst X1.here hx rfl (hb hby d2_33) ?_
      refine XS.icmpNo X1.here hx rfl (hb hby d2_34) rfl (flt (by decide : ¬ ((3 : Int32) < (2 : Int32)))).1 ?_
      refine XS.aloadN X1.here hx rfl (hb hby d2_37) rfl rfl ?_
      refine XS.iloadN X1.here hx rfl (hb hby d2_38) rfl ?_
      refine XS.iconst X1.here hx rfl (hb hby d2_39) ?_
      refine st4 _ ?_
      exact k
    by_cases hk6 : (r3i3l2_v fq) = (0 : Int32)
    · obtain ⟨_, _, ⟨T7, L7, k7, n7⟩, -, X7, ⟨Lc7, hQ7, l7, y7, z7⟩, st7⟩ := Jvm.LawKit.callS X4 hx (y := (⟨"skipstitch/table/PrefixTableOptimisedPinLaw", "isB", "([BII)Z"⟩ : MethodName)) hown (mvT hZ (hw _ (List.mem_of_getElem? (i := 10) rfl))) (mvT hZ (hw _ (List.mem_of_getElem? (i := 11) rfl))) (mvT hZ (hw _ (List.mem_of_getElem? (i := 4) rfl))) (mvT hZ (hw _ (List.mem_of_getElem? (i := 12) rfl))) (by decide) (backOf (W := 0) (rm3i3l1 l Z a0 hw [] rq fq h0 n0 Z0 A_rq) hZ (hw _ (List.mem_of_getElem? (i := 12) rfl)) (hw _ (List.mem_of_getElem? (i := 4) rfl)) (by decide) (by decide)) (g := (mkF m 56 #[.val (.ref rq), .val (.int (3 : Int32))] [(.int (1 : Int32)), (.int (3 : Int32)), (.ref rq)])) rfl (by rw [hml]; rfl) (argsL := [(.ref rq), (.int (3 : Int32)), (.int (1 : Int32))]) (rest := []) (lenOf pd_0 rfl) rfl (by show 2 * 0 + _ ≤ _; exact Nat.le_of_eq rfl) (hb hby d2_56) (fun _ _ => ⟨rfl, e4, (by decide : 0 + 0 ≤ _), (by decide : 0 + 0 ≤ _)⟩)
      dsimp only [Pt.U, Pt.locs, Pt.cells, Pt.slots] at X7 l7 y7 z7 st7 hQ7
      subst y7 z7
      obtain ⟨rfl, N7q, e7⟩ := hQ7
      have N7 : Fr n0 L7 := by rw [l7]; exact Fr.app N4 N7q
      have pre8 : ∀ t, Steps p.tables e below (T7.setTop (mkF m 59 #[.val (.ref rq), .val (.int (3 : Int32))] [(.int (r3i3l1_v fq))])) t → Steps p.tables e below (s₁.setTop (entryFrame m #[(.ref rq), (.int (3 : Int32))] 2)) t := by
        intro t k
        refine pre5 _ ?_
        refine XS.ifYes X4.here hx rfl (pc0 := 43) (pc' := 48) rfl (hb hby d2_43) rfl ((if0 _ _).trans (teq hk6).1) (by decide) (by decide) ?_
        refine XS.iloadN X4.here hx rfl (hb hby d2_48) rfl ?_
        refine XS.iconst X4.here hx rfl (hb hby d2_49) ?_
        refine XS.icmpNo X4.here hx rfl (hb hby d2_50) rfl (flt (by decide : ¬ ((3 : Int32) < (1 : Int32)))).1 ?_
        refine XS.aloadN X4.here hx rfl (hb hby d2_53) rfl rfl ?_
        refine XS.iloadN X4.here hx rfl (hb hby d2_54) rfl ?_
        refine XS.iconst X4.here hx rfl (hb hby d2_55) ?_
        refine st7 _ ?_
        exact k
      by_cases hk9 : (r3i3l1_v fq) = (0 : Int32)
      · obtain ⟨fs, hr, hrun, hended, hW, hsame⟩ := X7.leave (v := some (.int (0 : Int32))) (fun h => by rw [Bd.returns] at h; cases h) (hlocks := Bd.notSynchronized)
        refine ⟨_, _, pre8 _ ?_, hrun, hended, _, _, rfl, ?_, ⟨_, rfl⟩, hW, hsame.mono (by decide) (by decide)⟩
        · show Steps p.tables e below (T7.setTop (mkF m 59 #[.val (.ref rq), .val (.int (3 : Int32))] [(.int (r3i3l1_v fq))])) _
          refine XS.ifYes X7.here hx rfl (pc0 := 59) (pc' := 64) rfl (hb hby d2_59) rfl ((if0 _ _).trans (teq hk9).1) (by decide) (by decide) ?_
          refine XS.iconst X7.here hx rfl (hb hby d2_64) ?_
          exact retI X7 hx Bd.returns (hb hby d2_65) hr
        · show Q2k3 Z rq fq h0 n0 _ T7.heap _
          rw [e7]
          have ev10 : (r2k3_v fq) = (0 : Int32) := by unfold r2k3_v; rw [if_pos hk3, if_pos hk6, if_pos hk9]
          exact ⟨(congrArg (fun z => some (Value.int z)) ev10.symm), N7, rfl⟩
      · obtain ⟨fs, hr, hrun, hended, hW, hsame⟩ := X7.leave (v := some (.int (1 : Int32))) (fun h => by rw [Bd.returns] at h; cases h) (hlocks := Bd.notSynchronized)
        refine ⟨_, _, pre8 _ ?_, hrun, hended, _, _, rfl, ?_, ⟨_, rfl⟩, hW, hsame.mono (by decide) (by decide)⟩
        · show Steps p.tables e below (T7.setTop (mkF m 59 #[.val (.ref rq), .val (.int (3 : Int32))] [(.int (r3i3l1_v fq))])) _
          refine XS.ifNo X7.here hx rfl (hb hby d2_59) rfl ((if0 _ _).trans (feq hk9).1) ?_
          refine XS.iconst X7.here hx rfl (hb hby d2_62) ?_
          exact retI X7 hx Bd.returns (hb hby d2_63) hr
        · show Q2k3 Z rq fq h0 n0 _ T7.heap _
          rw [e7]
          have ev11 : (r2k3_v fq) = (1 : Int32) := by unfold r2k3_v; rw [if_pos hk3, if_pos hk6, if_neg hk9]
          exact ⟨(congrArg (fun z => some (Value.int z)) ev11.symm), N7, rfl⟩
    · obtain ⟨fs, hr, hrun, hended, hW, hsame⟩ := X4.leave (v := some (.int (2 : Int32))) (fun h => by rw [Bd.returns] at h; cases h) (hlocks := Bd.notSynchronized)
      refine ⟨_, _, pre5 _ ?_, hrun, hended, _, _, rfl, ?_, ⟨_, rfl⟩, hW, hsame.mono (by decide) (by decide)⟩
      · show Steps p.tables e below (T4.setTop (mkF m 43 #[.val (.ref rq), .val (.int (3 : Int32))] [(.int (r3i3l2_v fq))])) _
        refine XS.ifNo X4.here hx rfl (hb hby d2_43) rfl ((if0 _ _).trans (feq hk6).1) ?_
        refine XS.iconst X4.here hx rfl (hb hby d2_46) ?_
        exact retI X4 hx Bd.returns (hb hby d2_47) hr
      · show Q2k3 Z rq fq h0 n0 _ T4.heap _
        rw [e4]
        have ev12 : (r2k3_v fq) = (2 : Int32) := by unfold r2k3_v; rw [if_pos hk3, if_neg hk6]
        exact ⟨(congrArg (fun z => some (Value.int z)) ev12.symm), N4, rfl⟩
  · obtain ⟨fs, hr, hrun, hended, hW, hsame⟩ := X1.leave (v := some (.int (3 : Int32))) (fun h => by rw [Bd.returns] at h; cases h) (hlocks := Bd.notSynchronized)
    refine ⟨_, _, pre2 _ ?_, hrun, hended, _, _, rfl, ?_, ⟨_, rfl⟩, hW, hsame.mono (by decide) (by decide)⟩
    · show Steps p.tables e below (T1.setTop (mkF m 27 #[.val (.ref rq), .val (.int (3 : Int32))] [(.int (r3i3l3_v fq))])) _
      refine XS.ifNo X1.here hx rfl (hb hby d2_27) rfl ((if0 _ _).trans (feq hk3).1) ?_
      refine XS.iconst X1.here hx rfl (hb hby d2_30) ?_
      exact retI X1 hx Bd.returns (hb hby d2_31) hr
    · show Q2k3 Z rq fq h0 n0 _ T1.heap _
      rw [e1]
      have ev13 : (r2k3_v fq) = (3 : Int32) := by unfold r2k3_v; rw [if_neg hk3]
      exact ⟨(congrArg (fun z => some (Value.int z)) ev13.symm), N1, rfl⟩
theorem ef_2k4 (m : MethodId) (rq : Addr) : entryFrame m #[(.ref rq), (.int (4 : Int32))] 2 = mkF m 0 #[.val (.ref rq), .val (.int (4 : Int32))] [] := by first | (simp [entryFrame, mkF, argsToLocals, Value.category]; done) | rfl
theorem d2_5 : decode method_5_code 5 = .ok (.aload_n 0, 1) := by decide +kernel
theorem d2_6 : decode method_5_code 6 = .ok (.iload_n 1, 1) := by decide +kernel
theorem d2_7 : decode method_5_code 7 = .ok (.iconst 4, 1) := by decide +kernel
theorem d2_8 : decode method_5_code 8 = .ok (.invokestatic 32, 3) := by decide +kernel
theorem d2_11 : decode method_5_code 11 = .ok (.ifCond .eq 5, 3) := by decide +kernel
theorem d2_14 : decode method_5_code 14 = .ok (.iconst 4, 1) := by decide +kernel
theorem d2_15 : decode method_5_code 15 = .ok (.ireturn, 1) := by decide +kernel
def r2k4_v (fq : Nat → Int32) : Int32 := (if (r3i4l4_v fq) = (0 : Int32) then (if (r3i4l3_v fq) = (0 : Int32) then (if (r3i4l2_v fq) = (0 : Int32) then (if (r3i4l1_v fq) = (0 : Int32) then (0 : Int32) else (1 : Int32)) else (2 : Int32)) else (3 : Int32)) else (4 : Int32))
def Q2k4 (Z : State) (rq : Addr) (fq : Nat → Int32) (h0 : Heap) (n0 : Nat) (v : Option Value) (h : Heap) (L : List Loc) : Prop := v = some (.int (r2k4_v fq)) ∧ Fr n0 L ∧ h = h0
set_option maxRecDepth 65536 in
set_option maxHeartbeats 40000000 in
theorem rm2k4 (l : Launch) (Z : State) (a0 : Array Value) (hw : ∀ d ∈ tables_1, d.before a0 Z = true) (ws : List Jvm.Cond) (rq : Addr) (fq : Nat → Int32) (h0 : Heap) (n0 : Nat) (Z0 : n0 ≤ h0.size) (A_rq : AI Z h0 rq .byte 5 fq) :
    MetFree l (⟨"skipstitch/table/PrefixTableOptimisedPinLaw", "border", "([BI)I"⟩ : MethodName) (head1 (Jvm.Cond.code (⟨"skipstitch/table/PrefixTableOptimisedPinLaw", "border", "([BI)I"⟩ : MethodName) method_5_code 2 (some .int) :: ws) ({ frames := 1, cells := 0, slots := 0, locals := 14 } : Room)) (fun a U => a = #[(.ref rq), (.int (4 : Int32))] ∧ Z.Warmed39 U.vm ∧ U.heap = h0) (fun _ _ _ _ _ => True) (fun _ U o U' => ∃ v L, o = .returned v ∧ Q2k4 Z rq fq h0 n0 v U'.heap L ∧ FrameEnd U o U' L ({ frames := 1, cells := 0, slots := 0, locals := 14 } : Room).cells ({ frames := 1, cells := 0, slots := 0, locals := 14 } : Room).slots) := by
  refine MetFree.of_bodySF (plainFor_of_name pn_skipstitch_table_PrefixTableOptimisedPinLaw) hisR ?_
  intro p e s m args below meth c s₁ Bd hml0 hP hK
  obtain ⟨rfl, hZ, hh⟩ := hP
  have hx := Bd.exec
  have hby := Bd.bytes
  have hml : c.maxLocals = 2 := hml0
  have hown : s.vm.findClass "skipstitch/table/PrefixTableOptimisedPinLaw" = some m.cls := findClass_of_methodNamed Bd.named
  have hnm := (name_of_methodNamed Bd.named Bd.method).1
  have X0 : Stand p l e ({ frames := 1, cells := 0, slots := 0, locals := 14 } : Room) s m #[(.ref rq), (.int (4 : Int32))] below meth c s₁ [] 0 0 := Stand.of_body Bd
  have e0 : s₁.heap = h0 := by rw [← hh, Bd.state]; rfl
  have N0 := Fr.nil n0
  have K0 : Keep h0 h0 [] := Keep.refl h0 _
  have pre0 : ∀ t, Steps p.tables e below (s₁.setTop (mkF m 0 #[.val (.ref rq), .val (.int (4 : Int32))] [])) t → Steps p.tables e below (s₁.setTop (entryFrame m #[(.ref rq), (.int (4 : Int32))] 2)) t := fun t k => castTop (ef_2k4 m rq) k
  obtain ⟨_, _, ⟨T1, L1, k1, n1⟩, -, X1, ⟨Lc1, hQ1, l1, y1, z1⟩, st1⟩ := Jvm.LawKit.callS X0 hx (y := (⟨"skipstitch/table/PrefixTableOptimisedPinLaw", "isB", "([BII)Z"⟩ : MethodName)) hown (mvT hZ (hw _ (List.mem_of_getElem? (i := 10) rfl))) (mvT hZ (hw _ (List.mem_of_getElem? (i := 11) rfl))) (mvT hZ (hw _ (List.mem_of_getElem? (i := 4) rfl))) (mvT hZ (hw _ (List.mem_of_getElem? (i := 12) rfl))) (by decide) (backOf (W := 0) (rm3i4l4 l Z a0 hw [] rq fq h0 n0 Z0 A_rq) hZ (hw _ (List.mem_of_getElem? (i := 12) rfl)) (hw _ (List.mem_of_getElem? (i := 4) rfl)) (by decide) (by decide)) (g := (mkF m 8 #[.val (.ref rq), .val (.int (4 : Int32))] [(.int (4 : Int32)), (.int (4 : Int32)), (.ref rq)])) rfl (by rw [hml]; rfl) (argsL := [(.ref rq), (.int (4 : Int32)), (.int (4 : Int32))]) (rest := []) (lenOf pd_0 rfl) rfl (by show 2 * 0 + _ ≤ _; exact Nat.le_of_eq rfl) (hb hby d2_8) (fun _ _ => ⟨rfl, e0, (by decide : 0 + 0 ≤ _), (by decide : 0 + 0 ≤ _)⟩)
  dsimp only [Pt.U, Pt.locs, Pt.cells, Pt.slots] at X1 l1 y1 z1 st1 hQ1
  subst y1 z1
  obtain ⟨rfl, N1q, e1⟩ := hQ1
  have N1 : Fr n0 L1 := by rw [l1]; exact Fr.app N0 N1q
  have pre2 : ∀ t, Steps p.tables e below (T1.setTop (mkF m 11 #[.val (.ref rq), .val (.int (4 : Int32))] [(.int (r3i4l4_v fq))])) t → Steps p.tables e below (s₁.setTop (entryFrame m #[(.ref rq), (.int (4 : Int32))] 2)) t := by
    intro t k
    refine pre0 _ ?_
    refine XS.iloadN X0.here hx rfl (hb hby d2_0) rfl ?_
    refine XS.iconst X0.here hx rfl (hb hby d2_1) ?_
    refine XS.icmpNo X0.here hx rfl (hb hby d2_2) rfl (flt (by decide : ¬ ((4 : Int32) < (4 : Int32)))).1 ?_
    refine XS.aloadN X0.here hx rfl (hb hby d2_5) rfl rfl ?_
    refine XS.iloadN X0.here hx rfl (hb hby d2_6) rfl ?_
    refine XS.iconst X0.here hx rfl (hb hby d2_7) ?_
    refine st1 _ ?_
    exact k
  by_cases hk3 : (r3i4l4_v fq) = (0 : Int32)
  · obtain ⟨_, _, ⟨T4, L4, k4, n4⟩, -, X4, ⟨Lc4, hQ4, l4, y4, z4⟩, st4⟩ := Jvm.LawKit.callS X1 hx (y := (⟨"skipstitch/table/PrefixTableOptimisedPinLaw", "isB", "([BII)Z"⟩ : MethodName)) hown (mvT hZ (hw _ (List.mem_of_getElem? (i := 10) rfl))) (mvT hZ (hw _ (List.mem_of_getElem? (i := 11) rfl))) (mvT hZ (hw _ (List.mem_of_getElem? (i := 4) rfl))) (mvT hZ (hw _ (List.mem_of_getElem? (i := 12) rfl))) (by decide) (backOf (W := 0) (rm3i4l3 l Z a0 hw [] rq fq h0 n0 Z0 A_rq) hZ (hw _ (List.mem_of_getElem? (i := 12) rfl)) (hw _ (List.mem_of_getElem? (i := 4) rfl)) (by decide) (by decide)) (g := (mkF m 24 #[.val (.ref rq), .val (.int (4 : Int32))] [(.int (3 : Int32)), (.int (4 : Int32)), (.ref rq)])) rfl (by rw [hml]; rfl) (argsL := [(.ref rq), (.int (4 : Int32)), (.int (3 : Int32))]) (rest := []) (lenOf pd_0 rfl) rfl (by show 2 * 0 + _ ≤ _; exact Nat.le_of_eq rfl) (hb hby d2_24) (fun _ _ => ⟨rfl, e1, (by decide : 0 + 0 ≤ _), (by decide : 0 + 0 ≤ _)⟩)
    dsimp only [Pt.U, Pt.locs, Pt.cells, Pt.slots] at X4 l4 y4 z4 st4 hQ4
    subst y4 z4
    obtain ⟨rfl, N4q, e4⟩ := hQ4
    have N4 : Fr n0 L4 := by rw [l4]; exact Fr.app N1 N4q
    have pre5 : ∀ t, Steps p.tables e below (T4.setTop (mkF m 27 #[.val (.ref rq), .val (.int (4 : Int32))] [(.int (r3i4l3_v fq))])) t → Steps p.tables e below (s₁.setTop (entryFrame m #[(.ref rq), (.int (4 : Int32))] 2)) t := by
      intro t k
      refine pre2 _ ?_
      refine XS.ifYes X1.here hx rfl (pc0 := 11) (pc' := 16) rfl (hb hby d2_11) rfl ((if0 _ _).trans (teq hk3).1) (by decide) (by decide) ?_
      refine XS.iloadN X1.here hx rfl (hb hby d2_16) rfl ?_
      refine XS.iconst X1.here hx rfl (hb hby d2_17) ?_
      refine XS.icmpNo X1.here hx rfl (hb hby d2_18) rfl (flt (by decide : ¬ ((4 : Int32) < (3 : Int32)))).1 ?_
      refine XS.aloadN X1.here hx rfl (hb hby d2_21) rfl rfl ?_
      refine XS.iloadN X1.here hx rfl (hb hby d2_22) rfl ?_
      refine XS.iconst X1.here hx rfl (hb hby d2_23) ?_
      refine st4 _ ?_
      exact k
    by_cases hk6 : (r3i4l3_v fq) = (0 : Int32)
    · obtain ⟨_, _, ⟨T7, L7, k7, n7⟩, -, X7, ⟨Lc7, hQ7, l7, y7, z7⟩, st7⟩ := Jvm.LawKit.callS X4 hx (y := (⟨"skipstitch/table/PrefixTableOptimisedPinLaw", "isB", "([BII)Z"⟩ : MethodName)) hown (mvT hZ (hw _ (List.mem_of_getElem? (i := 10) rfl))) (mvT hZ (hw _ (List.mem_of_getElem? (i := 11) rfl))) (mvT hZ (hw _ (List.mem_of_getElem? (i := 4) rfl))) (mvT hZ (hw _ (List.mem_of_getElem? (i := 12) rfl))) (by decide) (backOf (W := 0) (rm3i4l2 l Z a0 hw [] rq fq h0 n0 Z0 A_rq) hZ (hw _ (List.mem_of_getElem? (i := 12) rfl)) (hw _ (List.mem_of_getElem? (i := 4) rfl)) (by decide) (by decide)) (g := (mkF m 40 #[.val (.ref rq), .val (.int (4 : Int32))] [(.int (2 : Int32)), (.int (4 : Int32)), (.ref rq)])) rfl (by rw [hml]; rfl) (argsL := [(.ref rq), (.int (4 : Int32)), (.int (2 : Int32))]) (rest := []) (lenOf pd_0 rfl) rfl (by show 2 * 0 + _ ≤ _; exact Nat.le_of_eq rfl) (hb hby d2_40) (fun _ _ => ⟨rfl, e4, (by decide : 0 + 0 ≤ _), (by decide : 0 + 0 ≤ _)⟩)
      dsimp only [Pt.U, Pt.locs, Pt.cells, Pt.slots] at X7 l7 y7 z7 st7 hQ7
      subst y7 z7
      obtain ⟨rfl, N7q, e7⟩ := hQ7
      have N7 : Fr n0 L7 := by rw [l7]; exact Fr.app N4 N7q
      have pre8 : ∀ t, Steps p.tables e below (T7.setTop (mkF m 43 #[.val (.ref rq), .val (.int (4 : Int32))] [(.int (r3i4l2_v fq))])) t → Steps p.tables e below (s₁.setTop (entryFrame m #[(.ref rq), (.int (4 : Int32))] 2)) t := by
        intro t k
        refine pre5 _ ?_
        refine XS.ifYes X4.here hx rfl (pc0 := 27) (pc' := 32) rfl (hb hby d2_27) rfl ((if0 _ _).trans (teq hk6).1) (by decide) (by decide) ?_
        refine XS.iloadN X4.here hx rfl (hb hby d2_32) rfl ?_
        refine XS.iconst X4.here hx rfl (hb hby d2_33) ?_
        refine XS.icmpNo X4.here hx rfl (hb hby d2_34) rfl (flt (by decide : ¬ ((4 : Int32) < (2 : Int32)))).1 ?_
        refine XS.aloadN X4.here hx rfl (hb hby d2_37) rfl rfl ?_
        refine XS.iloadN X4.here hx rfl (hb hby d2_38) rfl ?_
        refine XS.iconst X4.here hx rfl (hb hby d2_39) ?_
        refine st7 _ ?_
        exact k
      by_cases hk9 : (r3i4l2_v fq) = (0 : Int32)
      · obtain ⟨_, _, ⟨T10, L10, k10, n10⟩, -, X10, ⟨Lc10, hQ10, l10, y10, z10⟩, st10⟩ := Jvm.LawKit.callS X7 hx (y := (⟨"skipstitch/table/PrefixTableOptimisedPinLaw", "isB", "([BII)Z"⟩ : MethodName)) hown (mvT hZ (hw _ (List.mem_of_getElem? (i := 10) rfl))) (mvT hZ (hw _ (List.mem_of_getElem? (i := 11) rfl))) (mvT hZ (hw _ (List.mem_of_getElem? (i := 4) rfl))) (mvT hZ (hw _ (List.mem_of_getElem? (i := 12) rfl))) (by decide) (backOf (W := 0) (rm3i4l1 l Z a0 hw [] rq fq h0 n0 Z0 A_rq) hZ (hw _ (List.mem_of_getElem? (i := 12) rfl)) (hw _ (List.mem_of_getElem? (i := 4) rfl)) (by decide) (by decide)) (g := (mkF m 56 #[.val (.ref rq), .val (.int (4 : Int32))] [(.int (1 : Int32)), (.int (4 : Int32)), (.ref rq)])) rfl (by rw [hml]; rfl) (argsL := [(.ref rq), (.int (4 : Int32)), (.int (1 : Int32))]) (rest := []) (lenOf pd_0 rfl) rfl (by show 2 * 0 + _ ≤ _; exact Nat.le_of_eq rfl) (hb hby d2_56) (fun _ _ => ⟨rfl, e7, (by decide : 0 + 0 ≤ _), (by decide : 0 + 0 ≤ _)⟩)
        dsimp only [Pt.U, Pt.locs, Pt.cells, Pt.slots] at X10 l10 y10 z10 st10 hQ10
        subst y10 z10
        obtain ⟨rfl, N10q, e10⟩ := hQ10
        have N10 : Fr n0 L10 := by rw [l10]; exact Fr.app N7 N10q
        have pre11 : ∀ t, Steps p.tables e below (T10.setTop (mkF m 59 #[.val (.ref rq), .val (.int (4 : Int32))] [(.int (r3i4l1_v fq))])) t → Steps p.tables e below (s₁.setTop (entryFrame m #[(.ref rq), (.int (4 : Int32))] 2)) t := by
          intro t k
          refine pre8 _ ?_
          refine XS.ifYes X7.here hx rfl (pc0 := 43) (pc' := 48) rfl (hb hby d2_43) rfl ((if0 _ _).trans (teq hk9).1) (by decide) (by decide) ?_
          refine XS.iloadN X7.here hx rfl (hb hby d2_48) rfl ?_
          refine XS.iconst X7.here hx rfl (hb hby d2_49) ?_
          refine XS.icmpNo X7.here hx rfl (hb hby d2_50) rfl (flt (by decide : ¬ ((4 : Int32) < (1 : Int32)))).1 ?_
          refine XS.aloadN X7.here hx rfl (hb hby d2_53) rfl rfl ?_
          refine XS.iloadN X7.here hx rfl (hb hby d2_54) rfl ?_
          refine XS.iconst X7.here hx rfl (hb hby d2_55) ?_
          refine st10 _ ?_
          exact k
        by_cases hk12 : (r3i4l1_v fq) = (0 : Int32)
        · obtain ⟨fs, hr, hrun, hended, hW, hsame⟩ := X10.leave (v := some (.int (0 : Int32))) (fun h => by rw [Bd.returns] at h; cases h) (hlocks := Bd.notSynchronized)
          refine ⟨_, _, pre11 _ ?_, hrun, hended, _, _, rfl, ?_, ⟨_, rfl⟩, hW, hsame.mono (by decide) (by decide)⟩
          · show Steps p.tables e below (T10.setTop (mkF m 59 #[.val (.ref rq), .val (.int (4 : Int32))] [(.int (r3i4l1_v fq))])) _
            refine XS.ifYes X10.here hx rfl (pc0 := 59) (pc' := 64) rfl (hb hby d2_59) rfl ((if0 _ _).trans (teq hk12).1) (by decide) (by decide) ?_
            refine XS.iconst X10.here hx rfl (hb hby d2_64) ?_
            exact retI X10 hx Bd.returns (hb hby d2_65) hr
          · show Q2k4 Z rq fq h0 n0 _ T10.heap _
            rw [e10]
            have ev13 : (r2k4_v fq) = (0 : Int32) := by unfold r2k4_v; rw [if_pos hk3, if_pos hk6, if_pos hk9, if_pos hk12]
            exact ⟨(congrArg (fun z => some (Value.int z)) ev13.symm), N10, rfl⟩
        · obtain ⟨fs, hr, hrun, hended, hW, hsame⟩ := X10.leave (v := some (.int (1 : Int32))) (fun h => by rw [Bd.returns] at h; cases h) (hlocks := Bd.notSynchronized)
          refine ⟨_, _, pre11 _ ?_, hrun, hended, _, _, rfl, ?_, ⟨_, rfl⟩, hW, hsame.mono (by decide) (by decide)⟩
          · show Steps p.tables e below (T10.setTop (mkF m 59 #[.val (.ref rq), .val (.int (4 : Int32))] [(.int (r3i4l1_v fq))])) _
            refine XS.ifNo X10.here hx rfl (hb hby d2_59) rfl ((if0 _ _).trans (feq hk12).1) ?_
            refine XS.iconst X10.here hx rfl (hb hby d2_62) ?_
            exact retI X10 hx Bd.returns (hb hby d2_63) hr
          · show Q2k4 Z rq fq h0 n0 _ T10.heap _
            rw [e10]
            have ev14 : (r2k4_v fq) = (1 : Int32) := by unfold r2k4_v; rw [if_pos hk3, if_pos hk6, if_pos hk9, if_neg hk12]
            exact ⟨(congrArg (fun z => some (Value.int z)) ev14.symm), N10, rfl⟩
      · obtain ⟨fs, hr, hrun, hended, hW, hsame⟩ := X7.leave (v := some (.int (2 : Int32))) (fun h => by rw [Bd.returns] at h; cases h) (hlocks := Bd.notSynchronized)
        refine ⟨_, _, pre8 _ ?_, hrun, hended, _, _, rfl, ?_, ⟨_, rfl⟩, hW, hsame.mono (by decide) (by decide)⟩
        · show Steps p.tables e below (T7.setTop (mkF m 43 #[.val (.ref rq), .val (.int (4 : Int32))] [(.int (r3i4l2_v fq))])) _
          refine XS.ifNo X7.here hx rfl (hb hby d2_43) rfl ((if0 _ _).trans (feq hk9).1) ?_
          refine XS.iconst X7.here hx rfl (hb hby d2_46) ?_
          exact retI X7 hx Bd.returns (hb hby d2_47) hr
        · show Q2k4 Z rq fq h0 n0 _ T7.heap _
          rw [e7]
          have ev15 : (r2k4_v fq) = (2 : Int32) := by unfold r2k4_v; rw [if_pos hk3, if_pos hk6, if_neg hk9]
          exact ⟨(congrArg (fun z => some (Value.int z)) ev15.symm), N7, rfl⟩
    · obtain ⟨fs, hr, hrun, hended, hW, hsame⟩ := X4.leave (v := some (.int (3 : Int32))) (fun h => by rw [Bd.returns] at h; cases h) (hlocks := Bd.notSynchronized)
      refine ⟨_, _, pre5 _ ?_, hrun, hended, _, _, rfl, ?_, ⟨_, rfl⟩, hW, hsame.mono (by decide) (by decide)⟩
      · show Steps p.tables e below (T4.setTop (mkF m 27 #[.val (.ref rq), .val (.int (4 : Int32))] [(.int (r3i4l3_v fq))])) _
        refine XS.ifNo X4.here hx rfl (hb hby d2_27) rfl ((if0 _ _).trans (feq hk6).1) ?_
        refine XS.iconst X4.here hx rfl (hb hby d2_30) ?_
        exact retI X4 hx Bd.returns (hb hby d2_31) hr
      · show Q2k4 Z rq fq h0 n0 _ T4.heap _
        rw [e4]
        have ev16 : (r2k4_v fq) = (3 : Int32) := by unfold r2k4_v; rw [if_pos hk3, if_neg hk6]
        exact ⟨(congrArg (fun z => some (Value.int z)) ev16.symm), N4, rfl⟩
  · obtain ⟨fs, hr, hrun, hended, hW, hsame⟩ := X1.leave (v := some (.int (4 : Int32))) (fun h => by rw [Bd.returns] at h; cases h) (hlocks := Bd.notSynchronized)
    refine ⟨_, _, pre2 _ ?_, hrun, hended, _, _, rfl, ?_, ⟨_, rfl⟩, hW, hsame.mono (by decide) (by decide)⟩
    · show Steps p.tables e below (T1.setTop (mkF m 11 #[.val (.ref rq), .val (.int (4 : Int32))] [(.int (r3i4l4_v fq))])) _
      refine XS.ifNo X1.here hx rfl (hb hby d2_11) rfl ((if0 _ _).trans (feq hk3).1) ?_
      refine XS.iconst X1.here hx rfl (hb hby d2_14) ?_
      exact retI X1 hx Bd.returns (hb hby d2_15) hr
    · show Q2k4 Z rq fq h0 n0 _ T1.heap _
      rw [e1]
      have ev17 : (r2k4_v fq) = (4 : Int32) := by unfold r2k4_v; rw [if_neg hk3]
      exact ⟨(congrArg (fun z => some (Value.int z)) ev17.symm), N1, rfl⟩
theorem own_k1 {kk : Int32} (h : ¬ kk < (0 : Int32)) : kk.toInt = ((kk.toInt.toNat : Nat) : Int) := by
  rw [Int32.lt_iff_toInt_lt] at h
  have e0 : (0 : Int32).toInt = 0 := rfl
  omega
theorem own_k2 {kk : Int32} (h : ¬ kk < (0 : Int32)) (hk : -1 ≤ kk.toInt ∧ kk.toInt < 5) : kk.toInt.toNat < 5 := by omega
theorem own_k3 {kk : Int32} (h : ¬ kk < (0 : Int32)) (h0 : ¬ kk = (0 : Int32)) (hk : -1 ≤ kk.toInt ∧ kk.toInt < 5) : (kk - (1 : Int32)).toInt = ((kk.toInt.toNat - 1 : Nat) : Int) := by
  rw [Int32.lt_iff_toInt_lt] at h
  rw [← Int32.toInt_inj] at h0
  have e0 : (0 : Int32).toInt = 0 := rfl
  have : (kk - (1 : Int32)).toInt = kk.toInt - 1 := own_isub rfl rfl (by omega) (by omega)
  omega
theorem ef_8 (m : MethodId) (rq : Addr) (rt : Addr) (cc : Int32) (kk : Int32) : entryFrame m #[(.ref rq), (.ref rt), (.int cc), (.int kk)] 4 = mkF m 0 #[.val (.ref rq), .val (.ref rt), .val (.int cc), .val (.int kk)] [] := by first | (simp [entryFrame, mkF, argsToLocals, Value.category]; done) | rfl
theorem d8_0 : decode method_6_code 0 = .ok (.iload_n 3, 1) := by decide +kernel
theorem d8_1 : decode method_6_code 1 = .ok (.ifCond .ge 5, 3) := by decide +kernel
theorem d8_4 : decode method_6_code 4 = .ok (.iload_n 3, 1) := by decide +kernel
theorem d8_5 : decode method_6_code 5 = .ok (.ireturn, 1) := by decide +kernel
theorem d8_6 : decode method_6_code 6 = .ok (.aload_n 0, 1) := by decide +kernel
theorem d8_7 : decode method_6_code 7 = .ok (.iload_n 3, 1) := by decide +kernel
theorem d8_8 : decode method_6_code 8 = .ok (.baload, 1) := by decide +kernel
theorem d8_9 : decode method_6_code 9 = .ok (.aload_n 0, 1) := by decide +kernel
theorem d8_10 : decode method_6_code 10 = .ok (.iload_n 2, 1) := by decide +kernel
theorem d8_11 : decode method_6_code 11 = .ok (.baload, 1) := by decide +kernel
theorem d8_12 : decode method_6_code 12 = .ok (.if_icmp .eq 5, 3) := by decide +kernel
theorem d8_17 : decode method_6_code 17 = .ok (.iload_n 3, 1) := by decide +kernel
theorem d8_18 : decode method_6_code 18 = .ok (.ifCond .ne 7, 3) := by decide +kernel
theorem d8_21 : decode method_6_code 21 = .ok (.iconst (-1), 1) := by decide +kernel
theorem d8_22 : decode method_6_code 22 = .ok (.goto 8, 3) := by decide +kernel
theorem d8_30 : decode method_6_code 30 = .ok (.ireturn, 1) := by decide +kernel
theorem d8_25 : decode method_6_code 25 = .ok (.aload_n 1, 1) := by decide +kernel
theorem d8_26 : decode method_6_code 26 = .ok (.iload_n 3, 1) := by decide +kernel
theorem d8_27 : decode method_6_code 27 = .ok (.iconst 1, 1) := by decide +kernel
theorem d8_28 : decode method_6_code 28 = .ok (.isub, 1) := by decide +kernel
theorem d8_29 : decode method_6_code 29 = .ok (.iaload, 1) := by decide +kernel
theorem d8_15 : decode method_6_code 15 = .ok (.iload_n 3, 1) := by decide +kernel
theorem d8_16 : decode method_6_code 16 = .ok (.ireturn, 1) := by decide +kernel
def r8_v (kk : Int32) (fq : Nat → Int32) (fu : Nat → Int32) (cn : Nat) : Int32 := (if kk < (0 : Int32) then kk else (if (fq kk.toInt.toNat) = (fq cn) then (if kk = (0 : Int32) then (-1 : Int32) else (fu (kk.toInt.toNat - 1))) else kk))
def Q8 (Z : State) (rq : Addr) (rt : Addr) (cc : Int32) (kk : Int32) (fq : Nat → Int32) (fu : Nat → Int32) (cn : Nat) (h0 : Heap) (n0 : Nat) (v : Option Value) (h : Heap) (L : List Loc) : Prop := v = some (.int (r8_v kk fq fu cn)) ∧ Fr n0 L ∧ h = h0
set_option maxRecDepth 65536 in
set_option maxHeartbeats 40000000 in
theorem rm8 (l : Launch) (Z : State) (a0 : Array Value) (hw : ∀ d ∈ tables_1, d.before a0 Z = true) (ws : List Jvm.Cond) (rq : Addr) (rt : Addr) (cc : Int32) (kk : Int32) (fq : Nat → Int32) (fu : Nat → Int32) (cn : Nat) (h0 : Heap) (n0 : Nat) (Z0 : n0 ≤ h0.size) (A_rq : AI Z h0 rq .byte 5 fq) (A_rt : AI Z h0 rt .int 5 fu) (hcn : cc.toInt = cn) (hcl : cn < 5) (hk : -1 ≤ kk.toInt ∧ kk.toInt < 5) :
    MetFree l (⟨"skipstitch/table/PrefixTableOptimisedPinLaw", "step", "([B[III)I"⟩ : MethodName) (head1 (Jvm.Cond.code (⟨"skipstitch/table/PrefixTableOptimisedPinLaw", "step", "([B[III)I"⟩ : MethodName) method_6_code 4 (some .int) :: ws) ({ frames := 0, cells := 0, slots := 0, locals := 0 } : Room)) (fun a U => a = #[(.ref rq), (.ref rt), (.int cc), (.int kk)] ∧ Z.Warmed39 U.vm ∧ U.heap = h0) (fun _ _ _ _ _ => True) (fun _ U o U' => ∃ v L, o = .returned v ∧ Q8 Z rq rt cc kk fq fu cn h0 n0 v U'.heap L ∧ FrameEnd U o U' L ({ frames := 0, cells := 0, slots := 0, locals := 0 } : Room).cells ({ frames := 0, cells := 0, slots := 0, locals := 0 } : Room).slots) := by
  refine MetFree.of_bodySF (plainFor_of_name pn_skipstitch_table_PrefixTableOptimisedPinLaw) hisR ?_
  intro p e s m args below meth c s₁ Bd hml0 hP hK
  obtain ⟨rfl, hZ, hh⟩ := hP
  have hx := Bd.exec
  have hby := Bd.bytes
  have hml : c.maxLocals = 4 := hml0
  have hown : s.vm.findClass "skipstitch/table/PrefixTableOptimisedPinLaw" = some m.cls := findClass_of_methodNamed Bd.named
  have hnm := (name_of_methodNamed Bd.named Bd.method).1
  have X0 : Stand p l e ({ frames := 0, cells := 0, slots := 0, locals := 0 } : Room) s m #[(.ref rq), (.ref rt), (.int cc), (.int kk)] below meth c s₁ [] 0 0 := Stand.of_body Bd
  have e0 : s₁.heap = h0 := by rw [← hh, Bd.state]; rfl
  have N0 := Fr.nil n0
  have K0 : Keep h0 h0 [] := Keep.refl h0 _
  have pre0 : ∀ t, Steps p.tables e below (s₁.setTop (mkF m 0 #[.val (.ref rq), .val (.ref rt), .val (.int cc), .val (.int kk)] [])) t → Steps p.tables e below (s₁.setTop (entryFrame m #[(.ref rq), (.ref rt), (.int cc), (.int kk)] 4)) t := fun t k => castTop (ef_8 m rq rt cc kk) k
  have pre1 : ∀ t, Steps p.tables e below (s₁.setTop (mkF m 1 #[.val (.ref rq), .val (.ref rt), .val (.int cc), .val (.int kk)] [(.int kk)])) t → Steps p.tables e below (s₁.setTop (entryFrame m #[(.ref rq), (.ref rt), (.int cc), (.int kk)] 4)) t := by
    intro t k
    refine pre0 _ ?_
    refine XS.iloadN X0.here hx rfl (hb hby d8_0) rfl ?_
    exact k
  by_cases hk2 : kk < (0 : Int32)
  · obtain ⟨fs, hr, hrun, hended, hW, hsame⟩ := X0.leave (v := some (.int kk)) (fun h => by rw [Bd.returns] at h; cases h) (hlocks := Bd.notSynchronized)
    refine ⟨_, _, pre1 _ ?_, hrun, hended, _, _, rfl, ?_, ⟨_, rfl⟩, hW, hsame.mono (by decide) (by decide)⟩
    · show Steps p.tables e below (s₁.setTop (mkF m 1 #[.val (.ref rq), .val (.ref rt), .val (.int cc), .val (.int kk)] [(.int kk)])) _
      refine XS.ifNo X0.here hx rfl (hb hby d8_1) rfl ((if0 _ _).trans (tlt hk2).2.1) ?_
      refine XS.iloadN X0.here hx rfl (hb hby d8_4) rfl ?_
      exact retI X0 hx Bd.returns (hb hby d8_5) hr
    · show Q8 Z rq rt cc kk fq fu cn h0 n0 _ s₁.heap _
      rw [e0]
      have ev10 : (r8_v kk fq fu cn) = kk := by unfold r8_v; rw [if_pos hk2]
      exact ⟨(congrArg (fun z => some (Value.int z)) ev10.symm), N0, rfl⟩
  · obtain ⟨cl3, Arcl3, hincl3, hatcl3⟩ := AF.at A_rq (j := kk) kk.toInt.toNat (own_k1 hk2) (own_k2 hk2 hk)
    obtain ⟨cl4, Arcl4, hincl4, hatcl4⟩ := AF.at A_rq (j := cc) cn hcn hcl
    have pre5 : ∀ t, Steps p.tables e below (s₁.setTop (mkF m 12 #[.val (.ref rq), .val (.ref rt), .val (.int cc), .val (.int kk)] [(.int (fq cn)), (.int (fq kk.toInt.toNat))])) t → Steps p.tables e below (s₁.setTop (entryFrame m #[(.ref rq), (.ref rt), (.int cc), (.int kk)] 4)) t := by
      intro t k
      refine pre1 _ ?_
      refine XS.ifYes X0.here hx rfl (pc0 := 1) (pc' := 6) rfl (hb hby d8_1) rfl ((if0 _ _).trans (flt hk2).2.1) (by decide) (by decide) ?_
      refine XS.aloadN X0.here hx rfl (hb hby d8_6) rfl rfl ?_
      refine XS.iloadN X0.here hx rfl (hb hby d8_7) rfl ?_
      refine X0.baloadBytes hx (j := kk) (v := (.int (fq kk.toInt.toNat))) (by rw [e0]; exact Arcl3.1) (State.isArrayOf_alike hZ.alike Arcl3.2.1) Arcl3.2.2 hincl3 hatcl3 (g := (mkF m 8 #[.val (.ref rq), .val (.ref rt), .val (.int cc), .val (.int kk)] [(.int kk), (.ref rq)])) rfl rfl (hb hby d8_8) _ ?_
      refine XS.aloadN X0.here hx rfl (hb hby d8_9) rfl rfl ?_
      refine XS.iloadN X0.here hx rfl (hb hby d8_10) rfl ?_
      refine X0.baloadBytes hx (j := cc) (v := (.int (fq cn))) (by rw [e0]; exact Arcl4.1) (State.isArrayOf_alike hZ.alike Arcl4.2.1) Arcl4.2.2 hincl4 hatcl4 (g := (mkF m 11 #[.val (.ref rq), .val (.ref rt), .val (.int cc), .val (.int kk)] [(.int cc), (.ref rq), (.int (fq kk.toInt.toNat))])) rfl rfl (hb hby d8_11) _ ?_
      exact k
    by_cases hk6 : (fq kk.toInt.toNat) = (fq cn)
    · have pre7 : ∀ t, Steps p.tables e below (s₁.setTop (mkF m 18 #[.val (.ref rq), .val (.ref rt), .val (.int cc), .val (.int kk)] [(.int kk)])) t → Steps p.tables e below (s₁.setTop (entryFrame m #[(.ref rq), (.ref rt), (.int cc), (.int kk)] 4)) t := by
        intro t k
        refine pre5 _ ?_
        refine XS.icmpYes X0.here hx rfl (pc0 := 12) (pc' := 17) rfl (hb hby d8_12) rfl (teq hk6).1 (by decide) (by decide) ?_
        refine XS.iloadN X0.here hx rfl (hb hby d8_17) rfl ?_
        exact k
      by_cases hk8 : kk = (0 : Int32)
      · obtain ⟨fs, hr, hrun, hended, hW, hsame⟩ := X0.leave (v := some (.int (-1 : Int32))) (fun h => by rw [Bd.returns] at h; cases h) (hlocks := Bd.notSynchronized)
        refine ⟨_, _, pre7 _ ?_, hrun, hended, _, _, rfl, ?_, ⟨_, rfl⟩, hW, hsame.mono (by decide) (by decide)⟩
        · show Steps p.tables e below (s₁.setTop (mkF m 18 #[.val (.ref rq), .val (.ref rt), .val (.int cc), .val (.int kk)] [(.int kk)])) _
          refine XS.ifNo X0.here hx rfl (hb hby d8_18) rfl ((if0 _ _).trans (teq hk8).2) ?_
          refine XS.iconst X0.here hx rfl (hb hby d8_21) ?_
          refine XS.goto X0.here hx rfl (pc0 := 22) (pc' := 30) rfl (hb hby d8_22) (by decide) (by decide) ?_
          exact retI X0 hx Bd.returns (hb hby d8_30) hr
        · show Q8 Z rq rt cc kk fq fu cn h0 n0 _ s₁.heap _
          rw [e0]
          have ev11 : (r8_v kk fq fu cn) = (-1 : Int32) := by unfold r8_v; rw [if_neg hk2, if_pos hk6, if_pos hk8]
          exact ⟨(congrArg (fun z => some (Value.int z)) ev11.symm), N0, rfl⟩
      · obtain ⟨cl9, Arcl9, hincl9, hatcl9⟩ := AF.at A_rt (j := (kk - (1 : Int32))) (kk.toInt.toNat - 1) (own_k3 hk2 hk8 hk) (by have := own_k2 hk2 hk; omega)
        obtain ⟨fs, hr, hrun, hended, hW, hsame⟩ := X0.leave (v := some (.int (fu (kk.toInt.toNat - 1)))) (fun h => by rw [Bd.returns] at h; cases h) (hlocks := Bd.notSynchronized)
        refine ⟨_, _, pre7 _ ?_, hrun, hended, _, _, rfl, ?_, ⟨_, rfl⟩, hW, hsame.mono (by decide) (by decide)⟩
        · show Steps p.tables e below (s₁.setTop (mkF m 18 #[.val (.ref rq), .val (.ref rt), .val (.int cc), .val (.int kk)] [(.int kk)])) _
          refine XS.ifYes X0.here hx rfl (pc0 := 18) (pc' := 25) rfl (hb hby d8_18) rfl ((if0 _ _).trans (feq hk8).2) (by decide) (by decide) ?_
          refine XS.aloadN X0.here hx rfl (hb hby d8_25) rfl rfl ?_
          refine XS.iloadN X0.here hx rfl (hb hby d8_26) rfl ?_
          refine XS.iconst X0.here hx rfl (hb hby d8_27) ?_
          refine XS.isub X0.here hx rfl (hb hby d8_28) rfl ?_
          refine X0.iaload hx (j := (kk - (1 : Int32))) (v := (.int (fu (kk.toInt.toNat - 1)))) (by rw [e0]; exact Arcl9.1) (State.isArrayOf_alike hZ.alike Arcl9.2.1) Arcl9.2.2 hincl9 hatcl9 (g := (mkF m 29 #[.val (.ref rq), .val (.ref rt), .val (.int cc), .val (.int kk)] [(.int (kk - (1 : Int32))), (.ref rt)])) rfl rfl (hb hby d8_29) _ ?_
          exact retI X0 hx Bd.returns (hb hby d8_30) hr
        · show Q8 Z rq rt cc kk fq fu cn h0 n0 _ s₁.heap _
          rw [e0]
          have ev12 : (r8_v kk fq fu cn) = (fu (kk.toInt.toNat - 1)) := by unfold r8_v; rw [if_neg hk2, if_pos hk6, if_neg hk8]
          exact ⟨(congrArg (fun z => some (Value.int z)) ev12.symm), N0, rfl⟩
    · obtain ⟨fs, hr, hrun, hended, hW, hsame⟩ := X0.leave (v := some (.int kk)) (fun h => by rw [Bd.returns] at h; cases h) (hlocks := Bd.notSynchronized)
      refine ⟨_, _, pre5 _ ?_, hrun, hended, _, _, rfl, ?_, ⟨_, rfl⟩, hW, hsame.mono (by decide) (by decide)⟩
      · show Steps p.tables e below (s₁.setTop (mkF m 12 #[.val (.ref rq), .val (.ref rt), .val (.int cc), .val (.int kk)] [(.int (fq cn)), (.int (fq kk.toInt.toNat))])) _
        refine XS.icmpNo X0.here hx rfl (hb hby d8_12) rfl (feq hk6).1 ?_
        refine XS.iloadN X0.here hx rfl (hb hby d8_15) rfl ?_
        exact retI X0 hx Bd.returns (hb hby d8_16) hr
      · show Q8 Z rq rt cc kk fq fu cn h0 n0 _ s₁.heap _
        rw [e0]
        have ev13 : (r8_v kk fq fu cn) = kk := by unfold r8_v; rw [if_neg hk2, if_neg hk6]
        exact ⟨(congrArg (fun z => some (Value.int z)) ev13.symm), N0, rfl⟩
theorem own_r8 (kk : Int32) (fq fu : Nat → Int32) (cn : Nat) (hfu : ∀ j, j < 5 → 0 ≤ (fu j).toInt ∧ (fu j).toInt < 5) (hk : -1 ≤ kk.toInt ∧ kk.toInt < 5) : -1 ≤ (r8_v kk fq fu cn).toInt ∧ (r8_v kk fq fu cn).toInt < 5 := by
  unfold r8_v
  split
  · exact hk
  · rename_i h
    split
    · split
      · exact ⟨by decide, by decide⟩
      · have h2 := own_k2 h hk
        have := hfu (kk.toInt.toNat - 1) (by omega)
        omega
    · exact hk
theorem own_f0 {fu : Nat → Int32} (hfu : ∀ j, j < 5 → 0 ≤ (fu j).toInt ∧ (fu j).toInt < 5) (j : Nat) (hj : j < 5) : -1 ≤ (fu j).toInt ∧ (fu j).toInt < 5 := by have := hfu j hj; omega
theorem ef_7k0 (m : MethodId) (rq : Addr) (rt : Addr) : entryFrame m #[(.ref rq), (.ref rt), (.int (0 : Int32))] 5 = mkF m 0 #[.val (.ref rq), .val (.ref rt), .val (.int (0 : Int32)), .unset, .unset] [] := by first | (simp [entryFrame, mkF, argsToLocals, Value.category]; done) | rfl
theorem d7_0 : decode method_7_code 0 = .ok (.iload_n 2, 1) := by decide +kernel
theorem d7_1 : decode method_7_code 1 = .ok (.iconst 1, 1) := by decide +kernel
theorem d7_2 : decode method_7_code 2 = .ok (.iadd, 1) := by decide +kernel
theorem d7_3 : decode method_7_code 3 = .ok (.istore_n 3, 1) := by decide +kernel
theorem d7_4 : decode method_7_code 4 = .ok (.aload_n 1, 1) := by decide +kernel
theorem d7_5 : decode method_7_code 5 = .ok (.iload_n 2, 1) := by decide +kernel
theorem d7_6 : decode method_7_code 6 = .ok (.iaload, 1) := by decide +kernel
theorem d7_7 : decode method_7_code 7 = .ok (.istore 4, 2) := by decide +kernel
theorem d7_9 : decode method_7_code 9 = .ok (.aload_n 0, 1) := by decide +kernel
theorem d7_10 : decode method_7_code 10 = .ok (.aload_n 1, 1) := by decide +kernel
theorem d7_11 : decode method_7_code 11 = .ok (.iload_n 3, 1) := by decide +kernel
theorem d7_12 : decode method_7_code 12 = .ok (.iload 4, 2) := by decide +kernel
theorem pd_1 : parseMethodDescriptor "([B[III)I" = some ⟨[(.array .byte), (.array .int), .int, .int], some .int⟩ := by decide +kernel
theorem d7_14 : decode method_7_code 14 = .ok (.invokestatic 36, 3) := by decide +kernel
theorem d7_17 : decode method_7_code 17 = .ok (.istore 4, 2) := by decide +kernel
theorem d7_19 : decode method_7_code 19 = .ok (.aload_n 0, 1) := by decide +kernel
theorem d7_20 : decode method_7_code 20 = .ok (.aload_n 1, 1) := by decide +kernel
theorem d7_21 : decode method_7_code 21 = .ok (.iload_n 3, 1) := by decide +kernel
theorem d7_22 : decode method_7_code 22 = .ok (.iload 4, 2) := by decide +kernel
theorem d7_24 : decode method_7_code 24 = .ok (.invokestatic 36, 3) := by decide +kernel
theorem d7_27 : decode method_7_code 27 = .ok (.istore 4, 2) := by decide +kernel
theorem d7_29 : decode method_7_code 29 = .ok (.aload_n 0, 1) := by decide +kernel
theorem d7_30 : decode method_7_code 30 = .ok (.aload_n 1, 1) := by decide +kernel
theorem d7_31 : decode method_7_code 31 = .ok (.iload_n 3, 1) := by decide +kernel
theorem d7_32 : decode method_7_code 32 = .ok (.iload 4, 2) := by decide +kernel
theorem d7_34 : decode method_7_code 34 = .ok (.invokestatic 36, 3) := by decide +kernel
theorem d7_37 : decode method_7_code 37 = .ok (.istore 4, 2) := by decide +kernel
theorem d7_39 : decode method_7_code 39 = .ok (.aload_n 0, 1) := by decide +kernel
theorem d7_40 : decode method_7_code 40 = .ok (.aload_n 1, 1) := by decide +kernel
theorem d7_41 : decode method_7_code 41 = .ok (.iload_n 3, 1) := by decide +kernel
theorem d7_42 : decode method_7_code 42 = .ok (.iload 4, 2) := by decide +kernel
theorem d7_44 : decode method_7_code 44 = .ok (.invokestatic 36, 3) := by decide +kernel
theorem d7_47 : decode method_7_code 47 = .ok (.istore 4, 2) := by decide +kernel
theorem d7_49 : decode method_7_code 49 = .ok (.aload_n 0, 1) := by decide +kernel
theorem d7_50 : decode method_7_code 50 = .ok (.aload_n 1, 1) := by decide +kernel
theorem d7_51 : decode method_7_code 51 = .ok (.iload_n 3, 1) := by decide +kernel
theorem d7_52 : decode method_7_code 52 = .ok (.iload 4, 2) := by decide +kernel
theorem d7_54 : decode method_7_code 54 = .ok (.invokestatic 36, 3) := by decide +kernel
theorem d7_57 : decode method_7_code 57 = .ok (.istore 4, 2) := by decide +kernel
theorem d7_59 : decode method_7_code 59 = .ok (.iload 4, 2) := by decide +kernel
theorem d7_61 : decode method_7_code 61 = .ok (.ireturn, 1) := by decide +kernel
def r7k0_v (fq : Nat → Int32) (fu : Nat → Int32) : Int32 := (r8_v (r8_v (r8_v (r8_v (r8_v (fu 0) fq fu 1) fq fu 1) fq fu 1) fq fu 1) fq fu 1)
def Q7k0 (Z : State) (rq : Addr) (rt : Addr) (fq : Nat → Int32) (fu : Nat → Int32) (h0 : Heap) (n0 : Nat) (v : Option Value) (h : Heap) (L : List Loc) : Prop := v = some (.int (r7k0_v fq fu)) ∧ Fr n0 L ∧ h = h0
set_option maxRecDepth 65536 in
set_option maxHeartbeats 40000000 in
theorem rm7k0 (l : Launch) (Z : State) (a0 : Array Value) (hw : ∀ d ∈ tables_1, d.before a0 Z = true) (ws : List Jvm.Cond) (rq : Addr) (rt : Addr) (fq : Nat → Int32) (fu : Nat → Int32) (h0 : Heap) (n0 : Nat) (Z0 : n0 ≤ h0.size) (A_rq : AI Z h0 rq .byte 5 fq) (A_rt : AI Z h0 rt .int 5 fu) (hfu : ∀ j, j < 5 → 0 ≤ (fu j).toInt ∧ (fu j).toInt < 5) :
    MetFree l (⟨"skipstitch/table/PrefixTableOptimisedPinLaw", "chain", "([B[II)I"⟩ : MethodName) (head1 (Jvm.Cond.code (⟨"skipstitch/table/PrefixTableOptimisedPinLaw", "chain", "([B[II)I"⟩ : MethodName) method_7_code 5 (some .int) :: ws) ({ frames := 1, cells := 0, slots := 0, locals := 15 } : Room)) (fun a U => a = #[(.ref rq), (.ref rt), (.int (0 : Int32))] ∧ Z.Warmed39 U.vm ∧ U.heap = h0) (fun _ _ _ _ _ => True) (fun _ U o U' => ∃ v L, o = .returned v ∧ Q7k0 Z rq rt fq fu h0 n0 v U'.heap L ∧ FrameEnd U o U' L ({ frames := 1, cells := 0, slots := 0, locals := 15 } : Room).cells ({ frames := 1, cells := 0, slots := 0, locals := 15 } : Room).slots) := by
  refine MetFree.of_bodySF (plainFor_of_name pn_skipstitch_table_PrefixTableOptimisedPinLaw) hisR ?_
  intro p e s m args below meth c s₁ Bd hml0 hP hK
  obtain ⟨rfl, hZ, hh⟩ := hP
  have hx := Bd.exec
  have hby := Bd.bytes
  have hml : c.maxLocals = 5 := hml0
  have hown : s.vm.findClass "skipstitch/table/PrefixTableOptimisedPinLaw" = some m.cls := findClass_of_methodNamed Bd.named
  have hnm := (name_of_methodNamed Bd.named Bd.method).1
  have X0 : Stand p l e ({ frames := 1, cells := 0, slots := 0, locals := 15 } : Room) s m #[(.ref rq), (.ref rt), (.int (0 : Int32))] below meth c s₁ [] 0 0 := Stand.of_body Bd
  have e0 : s₁.heap = h0 := by rw [← hh, Bd.state]; rfl
  have N0 := Fr.nil n0
  have K0 : Keep h0 h0 [] := Keep.refl h0 _
  have pre0 : ∀ t, Steps p.tables e below (s₁.setTop (mkF m 0 #[.val (.ref rq), .val (.ref rt), .val (.int (0 : Int32)), .unset, .unset] [])) t → Steps p.tables e below (s₁.setTop (entryFrame m #[(.ref rq), (.ref rt), (.int (0 : Int32))] 5)) t := fun t k => castTop (ef_7k0 m rq rt) k
  obtain ⟨cl1, Arcl1, hincl1, hatcl1⟩ := AF.at A_rt (j := (0 : Int32)) 0 (by decide) (by decide)
  obtain ⟨_, _, ⟨T2, L2, k2, n2⟩, -, X2, ⟨Lc2, hQ2, l2, y2, z2⟩, st2⟩ := Jvm.LawKit.callS X0 hx (y := (⟨"skipstitch/table/PrefixTableOptimisedPinLaw", "step", "([B[III)I"⟩ : MethodName)) hown (mvT hZ (hw _ (List.mem_of_getElem? (i := 26) rfl))) (mvT hZ (hw _ (List.mem_of_getElem? (i := 27) rfl))) (mvT hZ (hw _ (List.mem_of_getElem? (i := 4) rfl))) (mvT hZ (hw _ (List.mem_of_getElem? (i := 28) rfl))) (by decide) (backOf (W := 0) (rm8 l Z a0 hw [] rq rt (1 : Int32) (fu 0) fq fu 1 h0 n0 Z0 A_rq A_rt (rfl) (by decide) (own_f0 hfu 0 (by decide))) hZ (hw _ (List.mem_of_getElem? (i := 28) rfl)) (hw _ (List.mem_of_getElem? (i := 4) rfl)) (by decide) (by decide)) (g := (mkF m 14 #[.val (.ref rq), .val (.ref rt), .val (.int (0 : Int32)), .val (.int (1 : Int32)), .val (.int (fu 0))] [(.int (fu 0)), (.int (1 : Int32)), (.ref rt), (.ref rq)])) rfl (by rw [hml]; rfl) (argsL := [(.ref rq), (.ref rt), (.int (1 : Int32)), (.int (fu 0))]) (rest := []) (lenOf pd_1 rfl) rfl (by show 2 * 0 + _ ≤ _; exact Nat.le_of_eq rfl) (hb hby d7_14) (fun _ _ => ⟨rfl, e0, (by decide : 0 + 0 ≤ _), (by decide : 0 + 0 ≤ _)⟩)
  dsimp only [Pt.U, Pt.locs, Pt.cells, Pt.slots] at X2 l2 y2 z2 st2 hQ2
  subst y2 z2
  obtain ⟨rfl, N2q, e2⟩ := hQ2
  have N2 : Fr n0 L2 := by rw [l2]; exact Fr.app N0 N2q
  obtain ⟨_, _, ⟨T3, L3, k3, n3⟩, -, X3, ⟨Lc3, hQ3, l3, y3, z3⟩, st3⟩ := Jvm.LawKit.callS X2 hx (y := (⟨"skipstitch/table/PrefixTableOptimisedPinLaw", "step", "([B[III)I"⟩ : MethodName)) hown (mvT hZ (hw _ (List.mem_of_getElem? (i := 26) rfl))) (mvT hZ (hw _ (List.mem_of_getElem? (i := 27) rfl))) (mvT hZ (hw _ (List.mem_of_getElem? (i := 4) rfl))) (mvT hZ (hw _ (List.mem_of_getElem? (i := 28) rfl))) (by decide) (backOf (W := 0) (rm8 l Z a0 hw [] rq rt (1 : Int32) (r8_v (fu 0) fq fu 1) fq fu 1 h0 n0 Z0 A_rq A_rt (rfl) (by decide) (own_r8 _ _ _ _ hfu (own_f0 hfu 0 (by decide)))) hZ (hw _ (List.mem_of_getElem? (i := 28) rfl)) (hw _ (List.mem_of_getElem? (i := 4) rfl)) (by decide) (by decide)) (g := (mkF m 24 #[.val (.ref rq), .val (.ref rt), .val (.int (0 : Int32)), .val (.int (1 : Int32)), .val (.int (r8_v (fu 0) fq fu 1))] [(.int (r8_v (fu 0) fq fu 1)), (.int (1 : Int32)), (.ref rt), (.ref rq)])) rfl (by rw [hml]; rfl) (argsL := [(.ref rq), (.ref rt), (.int (1 : Int32)), (.int (r8_v (fu 0) fq fu 1))]) (rest := []) (lenOf pd_1 rfl) rfl (by show 2 * 0 + _ ≤ _; exact Nat.le_of_eq rfl) (hb hby d7_24) (fun _ _ => ⟨rfl, e2, (by decide : 0 + 0 ≤ _), (by decide : 0 + 0 ≤ _)⟩)
  dsimp only [Pt.U, Pt.locs, Pt.cells, Pt.slots] at X3 l3 y3 z3 st3 hQ3
  subst y3 z3
  obtain ⟨rfl, N3q, e3⟩ := hQ3
  have N3 : Fr n0 L3 := by rw [l3]; exact Fr.app N2 N3q
  obtain ⟨_, _, ⟨T4, L4, k4, n4⟩, -, X4, ⟨Lc4, hQ4, l4, y4, z4⟩, st4⟩ := Jvm.LawKit.callS X3 hx (y := (⟨"skipstitch/table/PrefixTableOptimisedPinLaw", "step", "([B[III)I"⟩ : MethodName)) hown (mvT hZ (hw _ (List.mem_of_getElem? (i := 26) rfl))) (mvT hZ (hw _ (List.mem_of_getElem? (i := 27) rfl))) (mvT hZ (hw _ (List.mem_of_getElem? (i := 4) rfl))) (mvT hZ (hw _ (List.mem_of_getElem? (i := 28) rfl))) (by decide) (backOf (W := 0) (rm8 l Z a0 hw [] rq rt (1 : Int32) (r8_v (r8_v (fu 0) fq fu 1) fq fu 1) fq fu 1 h0 n0 Z0 A_rq A_rt (rfl) (by decide) (own_r8 _ _ _ _ hfu (own_r8 _ _ _ _ hfu (own_f0 hfu 0 (by decide))))) hZ (hw _ (List.mem_of_getElem? (i := 28) rfl)) (hw _ (List.mem_of_getElem? (i := 4) rfl)) (by decide) (by decide)) (g := (mkF m 34 #[.val (.ref rq), .val (.ref rt), .val (.int (0 : Int32)), .val (.int (1 : Int32)), .val (.int (r8_v (r8_v (fu 0) fq fu 1) fq fu 1))] [(.int (r8_v (r8_v (fu 0) fq fu 1) fq fu 1)), (.int (1 : Int32)), (.ref rt), (.ref rq)])) rfl (by rw [hml]; rfl) (argsL := [(.ref rq), (.ref rt), (.int (1 : Int32)), (.int (r8_v (r8_v (fu 0) fq fu 1) fq fu 1))]) (rest := []) (lenOf pd_1 rfl) rfl (by show 2 * 0 + _ ≤ _; exact Nat.le_of_eq rfl) (hb hby d7_34) (fun _ _ => ⟨rfl, e3, (by decide : 0 + 0 ≤ _), (by decide : 0 + 0 ≤ _)⟩)
  dsimp only [Pt.U, Pt.locs, Pt.cells, Pt.slots] at X4 l4 y4 z4 st4 hQ4
  subst y4 z4
  obtain ⟨rfl, N4q, e4⟩ := hQ4
  have N4 : Fr n0 L4 := by rw [l4]; exact Fr.app N3 N4q
  obtain ⟨_, _, ⟨T5, L5, k5, n5⟩, -, X5, ⟨Lc5, hQ5, l5, y5, z5⟩, st5⟩ := Jvm.LawKit.callS X4 hx (y := (⟨"skipstitch/table/PrefixTableOptimisedPinLaw", "step", "([B[III)I"⟩ : MethodName)) hown (mvT hZ (hw _ (List.mem_of_getElem? (i := 26) rfl))) (mvT hZ (hw _ (List.mem_of_getElem? (i := 27) rfl))) (mvT hZ (hw _ (List.mem_of_getElem? (i := 4) rfl))) (mvT hZ (hw _ (List.mem_of_getElem? (i := 28) rfl))) (by decide) (backOf (W := 0) (rm8 l Z a0 hw [] rq rt (1 : Int32) (r8_v (r8_v (r8_v (fu 0) fq fu 1) fq fu 1) fq fu 1) fq fu 1 h0 n0 Z0 A_rq A_rt (rfl) (by decide) (own_r8 _ _ _ _ hfu (own_r8 _ _ _ _ hfu (own_r8 _ _ _ _ hfu (own_f0 hfu 0 (by decide)))))) hZ (hw _ (List.mem_of_getElem? (i := 28) rfl)) (hw _ (List.mem_of_getElem? (i := 4) rfl)) (by decide) (by decide)) (g := (mkF m 44 #[.val (.ref rq), .val (.ref rt), .val (.int (0 : Int32)), .val (.int (1 : Int32)), .val (.int (r8_v (r8_v (r8_v (fu 0) fq fu 1) fq fu 1) fq fu 1))] [(.int (r8_v (r8_v (r8_v (fu 0) fq fu 1) fq fu 1) fq fu 1)), (.int (1 : Int32)), (.ref rt), (.ref rq)])) rfl (by rw [hml]; rfl) (argsL := [(.ref rq), (.ref rt), (.int (1 : Int32)), (.int (r8_v (r8_v (r8_v (fu 0) fq fu 1) fq fu 1) fq fu 1))]) (rest := []) (lenOf pd_1 rfl) rfl (by show 2 * 0 + _ ≤ _; exact Nat.le_of_eq rfl) (hb hby d7_44) (fun _ _ => ⟨rfl, e4, (by decide : 0 + 0 ≤ _), (by decide : 0 + 0 ≤ _)⟩)
  dsimp only [Pt.U, Pt.locs, Pt.cells, Pt.slots] at X5 l5 y5 z5 st5 hQ5
  subst y5 z5
  obtain ⟨rfl, N5q, e5⟩ := hQ5
  have N5 : Fr n0 L5 := by rw [l5]; exact Fr.app N4 N5q
  obtain ⟨_, _, ⟨T6, L6, k6, n6⟩, -, X6, ⟨Lc6, hQ6, l6, y6, z6⟩, st6⟩ := Jvm.LawKit.callS X5 hx (y := (⟨"skipstitch/table/PrefixTableOptimisedPinLaw", "step", "([B[III)I"⟩ : MethodName)) hown (mvT hZ (hw _ (List.mem_of_getElem? (i := 26) rfl))) (mvT hZ (hw _ (List.mem_of_getElem? (i := 27) rfl))) (mvT hZ (hw _ (List.mem_of_getElem? (i := 4) rfl))) (mvT hZ (hw _ (List.mem_of_getElem? (i := 28) rfl))) (by decide) (backOf (W := 0) (rm8 l Z a0 hw [] rq rt (1 : Int32) (r8_v (r8_v (r8_v (r8_v (fu 0) fq fu 1) fq fu 1) fq fu 1) fq fu 1) fq fu 1 h0 n0 Z0 A_rq A_rt (rfl) (by decide) (own_r8 _ _ _ _ hfu (own_r8 _ _ _ _ hfu (own_r8 _ _ _ _ hfu (own_r8 _ _ _ _ hfu (own_f0 hfu 0 (by decide))))))) hZ (hw _ (List.mem_of_getElem? (i := 28) rfl)) (hw _ (List.mem_of_getElem? (i := 4) rfl)) (by decide) (by decide)) (g := (mkF m 54 #[.val (.ref rq), .val (.ref rt), .val (.int (0 : Int32)), .val (.int (1 : Int32)), .val (.int (r8_v (r8_v (r8_v (r8_v (fu 0) fq fu 1) fq fu 1) fq fu 1) fq fu 1))] [(.int (r8_v (r8_v (r8_v (r8_v (fu 0) fq fu 1) fq fu 1) fq fu 1) fq fu 1)), (.int (1 : Int32)), (.ref rt), (.ref rq)])) rfl (by rw [hml]; rfl) (argsL := [(.ref rq), (.ref rt), (.int (1 : Int32)), (.int (r8_v (r8_v (r8_v (r8_v (fu 0) fq fu 1) fq fu 1) fq fu 1) fq fu 1))]) (rest := []) (lenOf pd_1 rfl) rfl (by show 2 * 0 + _ ≤ _; exact Nat.le_of_eq rfl) (hb hby d7_54) (fun _ _ => ⟨rfl, e5, (by decide : 0 + 0 ≤ _), (by decide : 0 + 0 ≤ _)⟩)
  dsimp only [Pt.U, Pt.locs, Pt.cells, Pt.slots] at X6 l6 y6 z6 st6 hQ6
  subst y6 z6
  obtain ⟨rfl, N6q, e6⟩ := hQ6
  have N6 : Fr n0 L6 := by rw [l6]; exact Fr.app N5 N6q
  obtain ⟨fs, hr, hrun, hended, hW, hsame⟩ := X6.leave (v := some (.int (r8_v (r8_v (r8_v (r8_v (r8_v (fu 0) fq fu 1) fq fu 1) fq fu 1) fq fu 1) fq fu 1))) (fun h => by rw [Bd.returns] at h; cases h) (hlocks := Bd.notSynchronized)
  refine ⟨_, _, pre0 _ ?_, hrun, hended, _, _, rfl, ?_, ⟨_, rfl⟩, hW, hsame.mono (by decide) (by decide)⟩
  · show Steps p.tables e below (s₁.setTop (mkF m 0 #[.val (.ref rq), .val (.ref rt), .val (.int (0 : Int32)), .unset, .unset] [])) _
    refine XS.iloadN X0.here hx rfl (hb hby d7_0) rfl ?_
    refine XS.iconst X0.here hx rfl (hb hby d7_1) ?_
    refine XS.iadd X0.here hx rfl (hb hby d7_2) rfl ?_
    refine XS.istoreN X0.here hx rfl (hb hby d7_3) rfl (l' := #[.val (.ref rq), .val (.ref rt), .val (.int (0 : Int32)), .val (.int (1 : Int32)), .unset]) rfl ?_
    refine XS.aloadN X0.here hx rfl (hb hby d7_4) rfl rfl ?_
    refine XS.iloadN X0.here hx rfl (hb hby d7_5) rfl ?_
    refine X0.iaload hx (j := (0 : Int32)) (v := (.int (fu 0))) (by rw [e0]; exact Arcl1.1) (State.isArrayOf_alike hZ.alike Arcl1.2.1) Arcl1.2.2 hincl1 hatcl1 (g := (mkF m 6 #[.val (.ref rq), .val (.ref rt), .val (.int (0 : Int32)), .val (.int (1 : Int32)), .unset] [(.int (0 : Int32)), (.ref rt)])) rfl rfl (hb hby d7_6) _ ?_
    refine XS.istore X0.here hx rfl (hb hby d7_7) rfl (l' := #[.val (.ref rq), .val (.ref rt), .val (.int (0 : Int32)), .val (.int (1 : Int32)), .val (.int (fu 0))]) rfl ?_
    refine XS.aloadN X0.here hx rfl (hb hby d7_9) rfl rfl ?_
    refine XS.aloadN X0.here hx rfl (hb hby d7_10) rfl rfl ?_
    refine XS.iloadN X0.here hx rfl (hb hby d7_11) rfl ?_
    refine XS.iload X0.here hx rfl (hb hby d7_12) rfl ?_
    refine st2 _ ?_
    refine XS.istore X2.here hx rfl (hb hby d7_17) rfl (l' := #[.val (.ref rq), .val (.ref rt), .val (.int (0 : Int32)), .val (.int (1 : Int32)), .val (.int (r8_v (fu 0) fq fu 1))]) rfl ?_
    refine XS.aloadN X2.here hx rfl (hb hby d7_19) rfl rfl ?_
    refine XS.aloadN X2.here hx rfl (hb hby d7_20) rfl rfl ?_
    refine XS.iloadN X2.here hx rfl (hb hby d7_21) rfl ?_
    refine XS.iload X2.here hx rfl (hb hby d7_22) rfl ?_
    refine st3 _ ?_
    refine XS.istore X3.here hx rfl (hb hby d7_27) rfl (l' := #[.val (.ref rq), .val (.ref rt), .val (.int (0 : Int32)), .val (.int (1 : Int32)), .val (.int (r8_v (r8_v (fu 0) fq fu 1) fq fu 1))]) rfl ?_
    refine XS.aloadN X3.here hx rfl (hb hby d7_29) rfl rfl ?_
    refine XS.aloadN X3.here hx rfl (hb hby d7_30) rfl rfl ?_
    refine XS.iloadN X3.here hx rfl (hb hby d7_31) rfl ?_
    refine XS.iload X3.here hx rfl (hb hby d7_32) rfl ?_
    refine st4 _ ?_
    refine XS.istore X4.here hx rfl (hb hby d7_37) rfl (l' := #[.val (.ref rq), .val (.ref rt), .val (.int (0 : Int32)), .val (.int (1 : Int32)), .val (.int (r8_v (r8_v (r8_v (fu 0) fq fu 1) fq fu 1) fq fu 1))]) rfl ?_
    refine XS.aloadN X4.here hx rfl (hb hby d7_39) rfl rfl ?_
    refine XS.aloadN X4.here hx rfl (hb hby d7_40) rfl rfl ?_
    refine XS.iloadN X4.here hx rfl (hb hby d7_41) rfl ?_
    refine XS.iload X4.here hx rfl (hb hby d7_42) rfl ?_
    refine st5 _ ?_
    refine XS.istore X5.here hx rfl (hb hby d7_47) rfl (l' := #[.val (.ref rq), .val (.ref rt), .val (.int (0 : Int32)), .val (.int (1 : Int32)), .val (.int (r8_v (r8_v (r8_v (r8_v (fu 0) fq fu 1) fq fu 1) fq fu 1) fq fu 1))]) rfl ?_
    refine XS.aloadN X5.here hx rfl (hb hby d7_49) rfl rfl ?_
    refine XS.aloadN X5.here hx rfl (hb hby d7_50) rfl rfl ?_
    refine XS.iloadN X5.here hx rfl (hb hby d7_51) rfl ?_
    refine XS.iload X5.here hx rfl (hb hby d7_52) rfl ?_
    refine st6 _ ?_
    refine XS.istore X6.here hx rfl (hb hby d7_57) rfl (l' := #[.val (.ref rq), .val (.ref rt), .val (.int (0 : Int32)), .val (.int (1 : Int32)), .val (.int (r8_v (r8_v (r8_v (r8_v (r8_v (fu 0) fq fu 1) fq fu 1) fq fu 1) fq fu 1) fq fu 1))]) rfl ?_
    refine XS.iload X6.here hx rfl (hb hby d7_59) rfl ?_
    exact retI X6 hx Bd.returns (hb hby d7_61) hr
  · show Q7k0 Z rq rt fq fu h0 n0 _ T6.heap _
    rw [e6]
    have ev7 : (r7k0_v fq fu) = (r8_v (r8_v (r8_v (r8_v (r8_v (fu 0) fq fu 1) fq fu 1) fq fu 1) fq fu 1) fq fu 1) := rfl
    exact ⟨(congrArg (fun z => some (Value.int z)) ev7.symm), N6, rfl⟩
theorem ef_7k1 (m : MethodId) (rq : Addr) (rt : Addr) : entryFrame m #[(.ref rq), (.ref rt), (.int (1 : Int32))] 5 = mkF m 0 #[.val (.ref rq), .val (.ref rt), .val (.int (1 : Int32)), .unset, .unset] [] := by first | (simp [entryFrame, mkF, argsToLocals, Value.category]; done) | rfl
def r7k1_v (fq : Nat → Int32) (fu : Nat → Int32) : Int32 := (r8_v (r8_v (r8_v (r8_v (r8_v (fu 1) fq fu 2) fq fu 2) fq fu 2) fq fu 2) fq fu 2)
def Q7k1 (Z : State) (rq : Addr) (rt : Addr) (fq : Nat → Int32) (fu : Nat → Int32) (h0 : Heap) (n0 : Nat) (v : Option Value) (h : Heap) (L : List Loc) : Prop := v = some (.int (r7k1_v fq fu)) ∧ Fr n0 L ∧ h = h0
set_option maxRecDepth 65536 in
set_option maxHeartbeats 40000000 in
theorem rm7k1 (l : Launch) (Z : State) (a0 : Array Value) (hw : ∀ d ∈ tables_1, d.before a0 Z = true) (ws : List Jvm.Cond) (rq : Addr) (rt : Addr) (fq : Nat → Int32) (fu : Nat → Int32) (h0 : Heap) (n0 : Nat) (Z0 : n0 ≤ h0.size) (A_rq : AI Z h0 rq .byte 5 fq) (A_rt : AI Z h0 rt .int 5 fu) (hfu : ∀ j, j < 5 → 0 ≤ (fu j).toInt ∧ (fu j).toInt < 5) :
    MetFree l (⟨"skipstitch/table/PrefixTableOptimisedPinLaw", "chain", "([B[II)I"⟩ : MethodName) (head1 (Jvm.Cond.code (⟨"skipstitch/table/PrefixTableOptimisedPinLaw", "chain", "([B[II)I"⟩ : MethodName) method_7_code 5 (some .int) :: ws) ({ frames := 1, cells := 0, slots := 0, locals := 15 } : Room)) (fun a U => a = #[(.ref rq), (.ref rt), (.int (1 : Int32))] ∧ Z.Warmed39 U.vm ∧ U.heap = h0) (fun _ _ _ _ _ => True) (fun _ U o U' => ∃ v L, o = .returned v ∧ Q7k1 Z rq rt fq fu h0 n0 v U'.heap L ∧ FrameEnd U o U' L ({ frames := 1, cells := 0, slots := 0, locals := 15 } : Room).cells ({ frames := 1, cells := 0, slots := 0, locals := 15 } : Room).slots) := by
  refine MetFree.of_bodySF (plainFor_of_name pn_skipstitch_table_PrefixTableOptimisedPinLaw) hisR ?_
  intro p e s m args below meth c s₁ Bd hml0 hP hK
  obtain ⟨rfl, hZ, hh⟩ := hP
  have hx := Bd.exec
  have hby := Bd.bytes
  have hml : c.maxLocals = 5 := hml0
  have hown : s.vm.findClass "skipstitch/table/PrefixTableOptimisedPinLaw" = some m.cls := findClass_of_methodNamed Bd.named
  have hnm := (name_of_methodNamed Bd.named Bd.method).1
  have X0 : Stand p l e ({ frames := 1, cells := 0, slots := 0, locals := 15 } : Room) s m #[(.ref rq), (.ref rt), (.int (1 : Int32))] below meth c s₁ [] 0 0 := Stand.of_body Bd
  have e0 : s₁.heap = h0 := by rw [← hh, Bd.state]; rfl
  have N0 := Fr.nil n0
  have K0 : Keep h0 h0 [] := Keep.refl h0 _
  have pre0 : ∀ t, Steps p.tables e below (s₁.setTop (mkF m 0 #[.val (.ref rq), .val (.ref rt), .val (.int (1 : Int32)), .unset, .unset] [])) t → Steps p.tables e below (s₁.setTop (entryFrame m #[(.ref rq), (.ref rt), (.int (1 : Int32))] 5)) t := fun t k => castTop (ef_7k1 m rq rt) k
  obtain ⟨cl1, Arcl1, hincl1, hatcl1⟩ := AF.at A_rt (j := (1 : Int32)) 1 (by decide) (by decide)
  obtain ⟨_, _, ⟨T2, L2, k2, n2⟩, -, X2, ⟨Lc2, hQ2, l2, y2, z2⟩, st2⟩ := Jvm.LawKit.callS X0 hx (y := (⟨"skipstitch/table/PrefixTableOptimisedPinLaw", "step", "([B[III)I"⟩ : MethodName)) hown (mvT hZ (hw _ (List.mem_of_getElem? (i := 26) rfl))) (mvT hZ (hw _ (List.mem_of_getElem? (i := 27) rfl))) (mvT hZ (hw _ (List.mem_of_getElem? (i := 4) rfl))) (mvT hZ (hw _ (List.mem_of_getElem? (i := 28) rfl))) (by decide) (backOf (W := 0) (rm8 l Z a0 hw [] rq rt (2 : Int32) (fu 1) fq fu 2 h0 n0 Z0 A_rq A_rt (rfl) (by decide) (own_f0 hfu 1 (by decide))) hZ (hw _ (List.mem_of_getElem? (i := 28) rfl)) (hw _ (List.mem_of_getElem? (i := 4) rfl)) (by decide) (by decide)) (g := (mkF m 14 #[.val (.ref rq), .val (.ref rt), .val (.int (1 : Int32)), .val (.int (2 : Int32)), .val (.int (fu 1))] [(.int (fu 1)), (.int (2 : Int32)), (.ref rt), (.ref rq)])) rfl (by rw [hml]; rfl) (argsL := [(.ref rq), (.ref rt), (.int (2 : Int32)), (.int (fu 1))]) (rest := []) (lenOf pd_1 rfl) rfl (by show 2 * 0 + _ ≤ _; exact Nat.le_of_eq rfl) (hb hby d7_14) (fun _ _ => ⟨rfl, e0, (by decide : 0 + 0 ≤ _), (by decide : 0 + 0 ≤ _)⟩)
  dsimp only [Pt.U, Pt.locs, Pt.cells, Pt.slots] at X2 l2 y2 z2 st2 hQ2
  subst y2 z2
  obtain ⟨rfl, N2q, e2⟩ := hQ2
  have N2 : Fr n0 L2 := by rw [l2]; exact Fr.app N0 N2q
  obtain ⟨_, _, ⟨T3, L3, k3, n3⟩, -, X3, ⟨Lc3, hQ3, l3, y3, z3⟩, st3⟩ := Jvm.LawKit.callS X2 hx (y := (⟨"skipstitch/table/PrefixTableOptimisedPinLaw", "step", "([B[III)I"⟩ : MethodName)) hown (mvT hZ (hw _ (List.mem_of_getElem? (i := 26) rfl))) (mvT hZ (hw _ (List.mem_of_getElem? (i := 27) rfl))) (mvT hZ (hw _ (List.mem_of_getElem? (i := 4) rfl))) (mvT hZ (hw _ (List.mem_of_getElem? (i := 28) rfl))) (by decide) (backOf (W := 0) (rm8 l Z a0 hw [] rq rt (2 : Int32) (r8_v (fu 1) fq fu 2) fq fu 2 h0 n0 Z0 A_rq A_rt (rfl) (by decide) (own_r8 _ _ _ _ hfu (own_f0 hfu 1 (by decide)))) hZ (hw _ (List.mem_of_getElem? (i := 28) rfl)) (hw _ (List.mem_of_getElem? (i := 4) rfl)) (by decide) (by decide)) (g := (mkF m 24 #[.val (.ref rq), .val (.ref rt), .val (.int (1 : Int32)), .val (.int (2 : Int32)), .val (.int (r8_v (fu 1) fq fu 2))] [(.int (r8_v (fu 1) fq fu 2)), (.int (2 : Int32)), (.ref rt), (.ref rq)])) rfl (by rw [hml]; rfl) (argsL := [(.ref rq), (.ref rt), (.int (2 : Int32)), (.int (r8_v (fu 1) fq fu 2))]) (rest := []) (lenOf pd_1 rfl) rfl (by show 2 * 0 + _ ≤ _; exact Nat.le_of_eq rfl) (hb hby d7_24) (fun _ _ => ⟨rfl, e2, (by decide : 0 + 0 ≤ _), (by decide : 0 + 0 ≤ _)⟩)
  dsimp only [Pt.U, Pt.locs, Pt.cells, Pt.slots] at X3 l3 y3 z3 st3 hQ3
  subst y3 z3
  obtain ⟨rfl, N3q, e3⟩ := hQ3
  have N3 : Fr n0 L3 := by rw [l3]; exact Fr.app N2 N3q
  obtain ⟨_, _, ⟨T4, L4, k4, n4⟩, -, X4, ⟨Lc4, hQ4, l4, y4, z4⟩, st4⟩ := Jvm.LawKit.callS X3 hx (y := (⟨"skipstitch/table/PrefixTableOptimisedPinLaw", "step", "([B[III)I"⟩ : MethodName)) hown (mvT hZ (hw _ (List.mem_of_getElem? (i := 26) rfl))) (mvT hZ (hw _ (List.mem_of_getElem? (i := 27) rfl))) (mvT hZ (hw _ (List.mem_of_getElem? (i := 4) rfl))) (mvT hZ (hw _ (List.mem_of_getElem? (i := 28) rfl))) (by decide) (backOf (W := 0) (rm8 l Z a0 hw [] rq rt (2 : Int32) (r8_v (r8_v (fu 1) fq fu 2) fq fu 2) fq fu 2 h0 n0 Z0 A_rq A_rt (rfl) (by decide) (own_r8 _ _ _ _ hfu (own_r8 _ _ _ _ hfu (own_f0 hfu 1 (by decide))))) hZ (hw _ (List.mem_of_getElem? (i := 28) rfl)) (hw _ (List.mem_of_getElem? (i := 4) rfl)) (by decide) (by decide)) (g := (mkF m 34 #[.val (.ref rq), .val (.ref rt), .val (.int (1 : Int32)), .val (.int (2 : Int32)), .val (.int (r8_v (r8_v (fu 1) fq fu 2) fq fu 2))] [(.int (r8_v (r8_v (fu 1) fq fu 2) fq fu 2)), (.int (2 : Int32)), (.ref rt), (.ref rq)])) rfl (by rw [hml]; rfl) (argsL := [(.ref rq), (.ref rt), (.int (2 : Int32)), (.int (r8_v (r8_v (fu 1) fq fu 2) fq fu 2))]) (rest := []) (lenOf pd_1 rfl) rfl (by show 2 * 0 + _ ≤ _; exact Nat.le_of_eq rfl) (hb hby d7_34) (fun _ _ => ⟨rfl, e3, (by decide : 0 + 0 ≤ _), (by decide : 0 + 0 ≤ _)⟩)
  dsimp only [Pt.U, Pt.locs, Pt.cells, Pt.slots] at X4 l4 y4 z4 st4 hQ4
  subst y4 z4
  obtain ⟨rfl, N4q, e4⟩ := hQ4
  have N4 : Fr n0 L4 := by rw [l4]; exact Fr.app N3 N4q
  obtain ⟨_, _, ⟨T5, L5, k5, n5⟩, -, X5, ⟨Lc5, hQ5, l5, y5, z5⟩, st5⟩ := Jvm.LawKit.callS X4 hx (y := (⟨"skipstitch/table/PrefixTableOptimisedPinLaw", "step", "([B[III)I"⟩ : MethodName)) hown (mvT hZ (hw _ (List.mem_of_getElem? (i := 26) rfl))) (mvT hZ (hw _ (List.mem_of_getElem? (i := 27) rfl))) (mvT hZ (hw _ (List.mem_of_getElem? (i := 4) rfl))) (mvT hZ (hw _ (List.mem_of_getElem? (i := 28) rfl))) (by decide) (backOf (W := 0) (rm8 l Z a0 hw [] rq rt (2 : Int32) (r8_v (r8_v (r8_v (fu 1) fq fu 2) fq fu 2) fq fu 2) fq fu 2 h0 n0 Z0 A_rq A_rt (rfl) (by decide) (own_r8 _ _ _ _ hfu (own_r8 _ _ _ _ hfu (own_r8 _ _ _ _ hfu (own_f0 hfu 1 (by decide)))))) hZ (hw _ (List.mem_of_getElem? (i := 28) rfl)) (hw _ (List.mem_of_getElem? (i := 4) rfl)) (by decide) (by decide)) (g := (mkF m 44 #[.val (.ref rq), .val (.ref rt), .val (.int (1 : Int32)), .val (.int (2 : Int32)), .val (.int (r8_v (r8_v (r8_v (fu 1) fq fu 2) fq fu 2) fq fu 2))] [(.int (r8_v (r8_v (r8_v (fu 1) fq fu 2) fq fu 2) fq fu 2)), (.int (2 : Int32)), (.ref rt), (.ref rq)])) rfl (by rw [hml]; rfl) (argsL := [(.ref rq), (.ref rt), (.int (2 : Int32)), (.int (r8_v (r8_v (r8_v (fu 1) fq fu 2) fq fu 2) fq fu 2))]) (rest := []) (lenOf pd_1 rfl) rfl (by show 2 * 0 + _ ≤ _; exact Nat.le_of_eq rfl) (hb hby d7_44) (fun _ _ => ⟨rfl, e4, (by decide : 0 + 0 ≤ _), (by decide : 0 + 0 ≤ _)⟩)
  dsimp only [Pt.U, Pt.locs, Pt.cells, Pt.slots] at X5 l5 y5 z5 st5 hQ5
  subst y5 z5
  obtain ⟨rfl, N5q, e5⟩ := hQ5
  have N5 : Fr n0 L5 := by rw [l5]; exact Fr.app N4 N5q
  obtain ⟨_, _, ⟨T6, L6, k6, n6⟩, -, X6, ⟨Lc6, hQ6, l6, y6, z6⟩, st6⟩ := Jvm.LawKit.callS X5 hx (y := (⟨"skipstitch/table/PrefixTableOptimisedPinLaw", "step", "([B[III)I"⟩ : MethodName)) hown (mvT hZ (hw _ (List.mem_of_getElem? (i := 26) rfl))) (mvT hZ (hw _ (List.mem_of_getElem? (i := 27) rfl))) (mvT hZ (hw _ (List.mem_of_getElem? (i := 4) rfl))) (mvT hZ (hw _ (List.mem_of_getElem? (i := 28) rfl))) (by decide) (backOf (W := 0) (rm8 l Z a0 hw [] rq rt (2 : Int32) (r8_v (r8_v (r8_v (r8_v (fu 1) fq fu 2) fq fu 2) fq fu 2) fq fu 2) fq fu 2 h0 n0 Z0 A_rq A_rt (rfl) (by decide) (own_r8 _ _ _ _ hfu (own_r8 _ _ _ _ hfu (own_r8 _ _ _ _ hfu (own_r8 _ _ _ _ hfu (own_f0 hfu 1 (by decide))))))) hZ (hw _ (List.mem_of_getElem? (i := 28) rfl)) (hw _ (List.mem_of_getElem? (i := 4) rfl)) (by decide) (by decide)) (g := (mkF m 54 #[.val (.ref rq), .val (.ref rt), .val (.int (1 : Int32)), .val (.int (2 : Int32)), .val (.int (r8_v (r8_v (r8_v (r8_v (fu 1) fq fu 2) fq fu 2) fq fu 2) fq fu 2))] [(.int (r8_v (r8_v (r8_v (r8_v (fu 1) fq fu 2) fq fu 2) fq fu 2) fq fu 2)), (.int (2 : Int32)), (.ref rt), (.ref rq)])) rfl (by rw [hml]; rfl) (argsL := [(.ref rq), (.ref rt), (.int (2 : Int32)), (.int (r8_v (r8_v (r8_v (r8_v (fu 1) fq fu 2) fq fu 2) fq fu 2) fq fu 2))]) (rest := []) (lenOf pd_1 rfl) rfl (by show 2 * 0 + _ ≤ _; exact Nat.le_of_eq rfl) (hb hby d7_54) (fun _ _ => ⟨rfl, e5, (by decide : 0 + 0 ≤ _), (by decide : 0 + 0 ≤ _)⟩)
  dsimp only [Pt.U, Pt.locs, Pt.cells, Pt.slots] at X6 l6 y6 z6 st6 hQ6
  subst y6 z6
  obtain ⟨rfl, N6q, e6⟩ := hQ6
  have N6 : Fr n0 L6 := by rw [l6]; exact Fr.app N5 N6q
  obtain ⟨fs, hr, hrun, hended, hW, hsame⟩ := X6.leave (v := some (.int (r8_v (r8_v (r8_v (r8_v (r8_v (fu 1) fq fu 2) fq fu 2) fq fu 2) fq fu 2) fq fu 2))) (fun h => by rw [Bd.returns] at h; cases h) (hlocks := Bd.notSynchronized)
  refine ⟨_, _, pre0 _ ?_, hrun, hended, _, _, rfl, ?_, ⟨_, rfl⟩, hW, hsame.mono (by decide) (by decide)⟩
  · show Steps p.tables e below (s₁.setTop (mkF m 0 #[.val (.ref rq), .val (.ref rt), .val (.int (1 : Int32)), .unset, .unset] [])) _
    refine XS.iloadN X0.here hx rfl (hb hby d7_0) rfl ?_
    refine XS.iconst X0.here hx rfl (hb hby d7_1) ?_
    refine XS.iadd X0.here hx rfl (hb hby d7_2) rfl ?_
    refine XS.istoreN X0.here hx rfl (hb hby d7_3) rfl (l' := #[.val (.ref rq), .val (.ref rt), .val (.int (1 : Int32)), .val (.int (2 : Int32)), .unset]) rfl ?_
    refine XS.aloadN X0.here hx rfl (hb hby d7_4) rfl rfl ?_
    refine XS.iloadN X0.here hx rfl (hb hby d7_5) rfl ?_
    refine X0.iaload hx (j := (1 : Int32)) (v := (.int (fu 1))) (by rw [e0]; exact Arcl1.1) (State.isArrayOf_alike hZ.alike Arcl1.2.1) Arcl1.2.2 hincl1 hatcl1 (g := (mkF m 6 #[.val (.ref rq), .val (.ref rt), .val (.int (1 : Int32)), .val (.int (2 : Int32)), .unset] [(.int (1 : Int32)), (.ref rt)])) rfl rfl (hb hby d7_6) _ ?_
    refine XS.istore X0.here hx rfl (hb hby d7_7) rfl (l' := #[.val (.ref rq), .val (.ref rt), .val (.int (1 : Int32)), .val (.int (2 : Int32)), .val (.int (fu 1))]) rfl ?_
    refine XS.aloadN X0.here hx rfl (hb hby d7_9) rfl rfl ?_
    refine XS.aloadN X0.here hx rfl (hb hby d7_10) rfl rfl ?_
    refine XS.iloadN X0.here hx rfl (hb hby d7_11) rfl ?_
    refine XS.iload X0.here hx rfl (hb hby d7_12) rfl ?_
    refine st2 _ ?_
    refine XS.istore X2.here hx rfl (hb hby d7_17) rfl (l' := #[.val (.ref rq), .val (.ref rt), .val (.int (1 : Int32)), .val (.int (2 : Int32)), .val (.int (r8_v (fu 1) fq fu 2))]) rfl ?_
    refine XS.aloadN X2.here hx rfl (hb hby d7_19) rfl rfl ?_
    refine XS.aloadN X2.here hx rfl (hb hby d7_20) rfl rfl ?_
    refine XS.iloadN X2.here hx rfl (hb hby d7_21) rfl ?_
    refine XS.iload X2.here hx rfl (hb hby d7_22) rfl ?_
    refine st3 _ ?_
    refine XS.istore X3.here hx rfl (hb hby d7_27) rfl (l' := #[.val (.ref rq), .val (.ref rt), .val (.int (1 : Int32)), .val (.int (2 : Int32)), .val (.int (r8_v (r8_v (fu 1) fq fu 2) fq fu 2))]) rfl ?_
    refine XS.aloadN X3.here hx rfl (hb hby d7_29) rfl rfl ?_
    refine XS.aloadN X3.here hx rfl (hb hby d7_30) rfl rfl ?_
    refine XS.iloadN X3.here hx rfl (hb hby d7_31) rfl ?_
    refine XS.iload X3.here hx rfl (hb hby d7_32) rfl ?_
    refine st4 _ ?_
    refine XS.istore X4.here hx rfl (hb hby d7_37) rfl (l' := #[.val (.ref rq), .val (.ref rt), .val (.int (1 : Int32)), .val (.int (2 : Int32)), .val (.int (r8_v (r8_v (r8_v (fu 1) fq fu 2) fq fu 2) fq fu 2))]) rfl ?_
    refine XS.aloadN X4.here hx rfl (hb hby d7_39) rfl rfl ?_
    refine XS.aloadN X4.here hx rfl (hb hby d7_40) rfl rfl ?_
    refine XS.iloadN X4.here hx rfl (hb hby d7_41) rfl ?_
    refine XS.iload X4.here hx rfl (hb hby d7_42) rfl ?_
    refine st5 _ ?_
    refine XS.istore X5.here hx rfl (hb hby d7_47) rfl (l' := #[.val (.ref rq), .val (.ref rt), .val (.int (1 : Int32)), .val (.int (2 : Int32)), .val (.int (r8_v (r8_v (r8_v (r8_v (fu 1) fq fu 2) fq fu 2) fq fu 2) fq fu 2))]) rfl ?_
    refine XS.aloadN X5.here hx rfl (hb hby d7_49) rfl rfl ?_
    refine XS.aloadN X5.here hx rfl (hb hby d7_50) rfl rfl ?_
    refine XS.iloadN X5.here hx rfl (hb hby d7_51) rfl ?_
    refine XS.iload X5.here hx rfl (hb hby d7_52) rfl ?_
    refine st6 _ ?_
    refine XS.istore X6.here hx rfl (hb hby d7_57) rfl (l' := #[.val (.ref rq), .val (.ref rt), .val (.int (1 : Int32)), .val (.int (2 : Int32)), .val (.int (r8_v (r8_v (r8_v (r8_v (r8_v (fu 1) fq fu 2) fq fu 2) fq fu 2) fq fu 2) fq fu 2))]) rfl ?_
    refine XS.iload X6.here hx rfl (hb hby d7_59) rfl ?_
    exact retI X6 hx Bd.returns (hb hby d7_61) hr
  · show Q7k1 Z rq rt fq fu h0 n0 _ T6.heap _
    rw [e6]
    have ev7 : (r7k1_v fq fu) = (r8_v (r8_v (r8_v (r8_v (r8_v (fu 1) fq fu 2) fq fu 2) fq fu 2) fq fu 2) fq fu 2) := rfl
    exact ⟨(congrArg (fun z => some (Value.int z)) ev7.symm), N6, rfl⟩
theorem ef_7k2 (m : MethodId) (rq : Addr) (rt : Addr) : entryFrame m #[(.ref rq), (.ref rt), (.int (2 : Int32))] 5 = mkF m 0 #[.val (.ref rq), .val (.ref rt), .val (.int (2 : Int32)), .unset, .unset] [] := by first | (simp [entryFrame, mkF, argsToLocals, Value.category]; done) | rfl
def r7k2_v (fq : Nat → Int32) (fu : Nat → Int32) : Int32 := (r8_v (r8_v (r8_v (r8_v (r8_v (fu 2) fq fu 3) fq fu 3) fq fu 3) fq fu 3) fq fu 3)
def Q7k2 (Z : State) (rq : Addr) (rt : Addr) (fq : Nat → Int32) (fu : Nat → Int32) (h0 : Heap) (n0 : Nat) (v : Option Value) (h : Heap) (L : List Loc) : Prop := v = some (.int (r7k2_v fq fu)) ∧ Fr n0 L ∧ h = h0
set_option maxRecDepth 65536 in
set_option maxHeartbeats 40000000 in
theorem rm7k2 (l : Launch) (Z : State) (a0 : Array Value) (hw : ∀ d ∈ tables_1, d.before a0 Z = true) (ws : List Jvm.Cond) (rq : Addr) (rt : Addr) (fq : Nat → Int32) (fu : Nat → Int32) (h0 : Heap) (n0 : Nat) (Z0 : n0 ≤ h0.size) (A_rq : AI Z h0 rq .byte 5 fq) (A_rt : AI Z h0 rt .int 5 fu) (hfu : ∀ j, j < 5 → 0 ≤ (fu j).toInt ∧ (fu j).toInt < 5) :
    MetFree l (⟨"skipstitch/table/PrefixTableOptimisedPinLaw", "chain", "([B[II)I"⟩ : MethodName) (head1 (Jvm.Cond.code (⟨"skipstitch/table/PrefixTableOptimisedPinLaw", "chain", "([B[II)I"⟩ : MethodName) method_7_code 5 (some .int) :: ws) ({ frames := 1, cells := 0, slots := 0, locals := 15 } : Room)) (fun a U => a = #[(.ref rq), (.ref rt), (.int (2 : Int32))] ∧ Z.Warmed39 U.vm ∧ U.heap = h0) (fun _ _ _ _ _ => True) (fun _ U o U' => ∃ v L, o = .returned v ∧ Q7k2 Z rq rt fq fu h0 n0 v U'.heap L ∧ FrameEnd U o U' L ({ frames := 1, cells := 0, slots := 0, locals := 15 } : Room).cells ({ frames := 1, cells := 0, slots := 0, locals := 15 } : Room).slots) := by
  refine MetFree.of_bodySF (plainFor_of_name pn_skipstitch_table_PrefixTableOptimisedPinLaw) hisR ?_
  intro p e s m args below meth c s₁ Bd hml0 hP hK
  obtain ⟨rfl, hZ, hh⟩ := hP
  have hx := Bd.exec
  have hby := Bd.bytes
  have hml : c.maxLocals = 5 := hml0
  have hown : s.vm.findClass "skipstitch/table/PrefixTableOptimisedPinLaw" = some m.cls := findClass_of_methodNamed Bd.named
  have hnm := (name_of_methodNamed Bd.named Bd.method).1
  have X0 : Stand p l e ({ frames := 1, cells := 0, slots := 0, locals := 15 } : Room) s m #[(.ref rq), (.ref rt), (.int (2 : Int32))] below meth c s₁ [] 0 0 := Stand.of_body Bd
  have e0 : s₁.heap = h0 := by rw [← hh, Bd.state]; rfl
  have N0 := Fr.nil n0
  have K0 : Keep h0 h0 [] := Keep.refl h0 _
  have pre0 : ∀ t, Steps p.tables e below (s₁.setTop (mkF m 0 #[.val (.ref rq), .val (.ref rt), .val (.int (2 : Int32)), .unset, .unset] [])) t → Steps p.tables e below (s₁.setTop (entryFrame m #[(.ref rq), (.ref rt), (.int (2 : Int32))] 5)) t := fun t k => castTop (ef_7k2 m rq rt) k
  obtain ⟨cl1, Arcl1, hincl1, hatcl1⟩ := AF.at A_rt (j := (2 : Int32)) 2 (by decide) (by decide)
  obtain ⟨_, _, ⟨T2, L2, k2, n2⟩, -, X2, ⟨Lc2, hQ2, l2, y2, z2⟩, st2⟩ := Jvm.LawKit.callS X0 hx (y := (⟨"skipstitch/table/PrefixTableOptimisedPinLaw", "step", "([B[III)I"⟩ : MethodName)) hown (mvT hZ (hw _ (List.mem_of_getElem? (i := 26) rfl))) (mvT hZ (hw _ (List.mem_of_getElem? (i := 27) rfl))) (mvT hZ (hw _ (List.mem_of_getElem? (i := 4) rfl))) (mvT hZ (hw _ (List.mem_of_getElem? (i := 28) rfl))) (by decide) (backOf (W := 0) (rm8 l Z a0 hw [] rq rt (3 : Int32) (fu 2) fq fu 3 h0 n0 Z0 A_rq A_rt (rfl) (by decide) (own_f0 hfu 2 (by decide))) hZ (hw _ (List.mem_of_getElem? (i := 28) rfl)) (hw _ (List.mem_of_getElem? (i := 4) rfl)) (by decide) (by decide)) (g := (mkF m 14 #[.val (.ref rq), .val (.ref rt), .val (.int (2 : Int32)), .val (.int (3 : Int32)), .val (.int (fu 2))] [(.int (fu 2)), (.int (3 : Int32)), (.ref rt), (.ref rq)])) rfl (by rw [hml]; rfl) (argsL := [(.ref rq), (.ref rt), (.int (3 : Int32)), (.int (fu 2))]) (rest := []) (lenOf pd_1 rfl) rfl (by show 2 * 0 + _ ≤ _; exact Nat.le_of_eq rfl) (hb hby d7_14) (fun _ _ => ⟨rfl, e0, (by decide : 0 + 0 ≤ _), (by decide : 0 + 0 ≤ _)⟩)
  dsimp only [Pt.U, Pt.locs, Pt.cells, Pt.slots] at X2 l2 y2 z2 st2 hQ2
  subst y2 z2
  obtain ⟨rfl, N2q, e2⟩ := hQ2
  have N2 : Fr n0 L2 := by rw [l2]; exact Fr.app N0 N2q
  obtain ⟨_, _, ⟨T3, L3, k3, n3⟩, -, X3, ⟨Lc3, hQ3, l3, y3, z3⟩, st3⟩ := Jvm.LawKit.callS X2 hx (y := (⟨"skipstitch/table/PrefixTableOptimisedPinLaw", "step", "([B[III)I"⟩ : MethodName)) hown (mvT hZ (hw _ (List.mem_of_getElem? (i := 26) rfl))) (mvT hZ (hw _ (List.mem_of_getElem? (i := 27) rfl))) (mvT hZ (hw _ (List.mem_of_getElem? (i := 4) rfl))) (mvT hZ (hw _ (List.mem_of_getElem? (i := 28) rfl))) (by decide) (backOf (W := 0) (rm8 l Z a0 hw [] rq rt (3 : Int32) (r8_v (fu 2) fq fu 3) fq fu 3 h0 n0 Z0 A_rq A_rt (rfl) (by decide) (own_r8 _ _ _ _ hfu (own_f0 hfu 2 (by decide)))) hZ (hw _ (List.mem_of_getElem? (i := 28) rfl)) (hw _ (List.mem_of_getElem? (i := 4) rfl)) (by decide) (by decide)) (g := (mkF m 24 #[.val (.ref rq), .val (.ref rt), .val (.int (2 : Int32)), .val (.int (3 : Int32)), .val (.int (r8_v (fu 2) fq fu 3))] [(.int (r8_v (fu 2) fq fu 3)), (.int (3 : Int32)), (.ref rt), (.ref rq)])) rfl (by rw [hml]; rfl) (argsL := [(.ref rq), (.ref rt), (.int (3 : Int32)), (.int (r8_v (fu 2) fq fu 3))]) (rest := []) (lenOf pd_1 rfl) rfl (by show 2 * 0 + _ ≤ _; exact Nat.le_of_eq rfl) (hb hby d7_24) (fun _ _ => ⟨rfl, e2, (by decide : 0 + 0 ≤ _), (by decide : 0 + 0 ≤ _)⟩)
  dsimp only [Pt.U, Pt.locs, Pt.cells, Pt.slots] at X3 l3 y3 z3 st3 hQ3
  subst y3 z3
  obtain ⟨rfl, N3q, e3⟩ := hQ3
  have N3 : Fr n0 L3 := by rw [l3]; exact Fr.app N2 N3q
  obtain ⟨_, _, ⟨T4, L4, k4, n4⟩, -, X4, ⟨Lc4, hQ4, l4, y4, z4⟩, st4⟩ := Jvm.LawKit.callS X3 hx (y := (⟨"skipstitch/table/PrefixTableOptimisedPinLaw", "step", "([B[III)I"⟩ : MethodName)) hown (mvT hZ (hw _ (List.mem_of_getElem? (i := 26) rfl))) (mvT hZ (hw _ (List.mem_of_getElem? (i := 27) rfl))) (mvT hZ (hw _ (List.mem_of_getElem? (i := 4) rfl))) (mvT hZ (hw _ (List.mem_of_getElem? (i := 28) rfl))) (by decide) (backOf (W := 0) (rm8 l Z a0 hw [] rq rt (3 : Int32) (r8_v (r8_v (fu 2) fq fu 3) fq fu 3) fq fu 3 h0 n0 Z0 A_rq A_rt (rfl) (by decide) (own_r8 _ _ _ _ hfu (own_r8 _ _ _ _ hfu (own_f0 hfu 2 (by decide))))) hZ (hw _ (List.mem_of_getElem? (i := 28) rfl)) (hw _ (List.mem_of_getElem? (i := 4) rfl)) (by decide) (by decide)) (g := (mkF m 34 #[.val (.ref rq), .val (.ref rt), .val (.int (2 : Int32)), .val (.int (3 : Int32)), .val (.int (r8_v (r8_v (fu 2) fq fu 3) fq fu 3))] [(.int (r8_v (r8_v (fu 2) fq fu 3) fq fu 3)), (.int (3 : Int32)), (.ref rt), (.ref rq)])) rfl (by rw [hml]; rfl) (argsL := [(.ref rq), (.ref rt), (.int (3 : Int32)), (.int (r8_v (r8_v (fu 2) fq fu 3) fq fu 3))]) (rest := []) (lenOf pd_1 rfl) rfl (by show 2 * 0 + _ ≤ _; exact Nat.le_of_eq rfl) (hb hby d7_34) (fun _ _ => ⟨rfl, e3, (by decide : 0 + 0 ≤ _), (by decide : 0 + 0 ≤ _)⟩)
  dsimp only [Pt.U, Pt.locs, Pt.cells, Pt.slots] at X4 l4 y4 z4 st4 hQ4
  subst y4 z4
  obtain ⟨rfl, N4q, e4⟩ := hQ4
  have N4 : Fr n0 L4 := by rw [l4]; exact Fr.app N3 N4q
  obtain ⟨_, _, ⟨T5, L5, k5, n5⟩, -, X5, ⟨Lc5, hQ5, l5, y5, z5⟩, st5⟩ := Jvm.LawKit.callS X4 hx (y := (⟨"skipstitch/table/PrefixTableOptimisedPinLaw", "step", "([B[III)I"⟩ : MethodName)) hown (mvT hZ (hw _ (List.mem_of_getElem? (i := 26) rfl))) (mvT hZ (hw _ (List.mem_of_getElem? (i := 27) rfl))) (mvT hZ (hw _ (List.mem_of_getElem? (i := 4) rfl))) (mvT hZ (hw _ (List.mem_of_getElem? (i := 28) rfl))) (by decide) (backOf (W := 0) (rm8 l Z a0 hw [] rq rt (3 : Int32) (r8_v (r8_v (r8_v (fu 2) fq fu 3) fq fu 3) fq fu 3) fq fu 3 h0 n0 Z0 A_rq A_rt (rfl) (by decide) (own_r8 _ _ _ _ hfu (own_r8 _ _ _ _ hfu (own_r8 _ _ _ _ hfu (own_f0 hfu 2 (by decide)))))) hZ (hw _ (List.mem_of_getElem? (i := 28) rfl)) (hw _ (List.mem_of_getElem? (i := 4) rfl)) (by decide) (by decide)) (g := (mkF m 44 #[.val (.ref rq), .val (.ref rt), .val (.int (2 : Int32)), .val (.int (3 : Int32)), .val (.int (r8_v (r8_v (r8_v (fu 2) fq fu 3) fq fu 3) fq fu 3))] [(.int (r8_v (r8_v (r8_v (fu 2) fq fu 3) fq fu 3) fq fu 3)), (.int (3 : Int32)), (.ref rt), (.ref rq)])) rfl (by rw [hml]; rfl) (argsL := [(.ref rq), (.ref rt), (.int (3 : Int32)), (.int (r8_v (r8_v (r8_v (fu 2) fq fu 3) fq fu 3) fq fu 3))]) (rest := []) (lenOf pd_1 rfl) rfl (by show 2 * 0 + _ ≤ _; exact Nat.le_of_eq rfl) (hb hby d7_44) (fun _ _ => ⟨rfl, e4, (by decide : 0 + 0 ≤ _), (by decide : 0 + 0 ≤ _)⟩)
  dsimp only [Pt.U, Pt.locs, Pt.cells, Pt.slots] at X5 l5 y5 z5 st5 hQ5
  subst y5 z5
  obtain ⟨rfl, N5q, e5⟩ := hQ5
  have N5 : Fr n0 L5 := by rw [l5]; exact Fr.app N4 N5q
  obtain ⟨_, _, ⟨T6, L6, k6, n6⟩, -, X6, ⟨Lc6, hQ6, l6, y6, z6⟩, st6⟩ := Jvm.LawKit.callS X5 hx (y := (⟨"skipstitch/table/PrefixTableOptimisedPinLaw", "step", "([B[III)I"⟩ : MethodName)) hown (mvT hZ (hw _ (List.mem_of_getElem? (i := 26) rfl))) (mvT hZ (hw _ (List.mem_of_getElem? (i := 27) rfl))) (mvT hZ (hw _ (List.mem_of_getElem? (i := 4) rfl))) (mvT hZ (hw _ (List.mem_of_getElem? (i := 28) rfl))) (by decide) (backOf (W := 0) (rm8 l Z a0 hw [] rq rt (3 : Int32) (r8_v (r8_v (r8_v (r8_v (fu 2) fq fu 3) fq fu 3) fq fu 3) fq fu 3) fq fu 3 h0 n0 Z0 A_rq A_rt (rfl) (by decide) (own_r8 _ _ _ _ hfu (own_r8 _ _ _ _ hfu (own_r8 _ _ _ _ hfu (own_r8 _ _ _ _ hfu (own_f0 hfu 2 (by decide))))))) hZ (hw _ (List.mem_of_getElem? (i := 28) rfl)) (hw _ (List.mem_of_getElem? (i := 4) rfl)) (by decide) (by decide)) (g := (mkF m 54 #[.val (.ref rq), .val (.ref rt), .val (.int (2 : Int32)), .val (.int (3 : Int32)), .val (.int (r8_v (r8_v (r8_v (r8_v (fu 2) fq fu 3) fq fu 3) fq fu 3) fq fu 3))] [(.int (r8_v (r8_v (r8_v (r8_v (fu 2) fq fu 3) fq fu 3) fq fu 3) fq fu 3)), (.int (3 : Int32)), (.ref rt), (.ref rq)])) rfl (by rw [hml]; rfl) (argsL := [(.ref rq), (.ref rt), (.int (3 : Int32)), (.int (r8_v (r8_v (r8_v (r8_v (fu 2) fq fu 3) fq fu 3) fq fu 3) fq fu 3))]) (rest := []) (lenOf pd_1 rfl) rfl (by show 2 * 0 + _ ≤ _; exact Nat.le_of_eq rfl) (hb hby d7_54) (fun _ _ => ⟨rfl, e5, (by decide : 0 + 0 ≤ _), (by decide : 0 + 0 ≤ _)⟩)
  dsimp only [Pt.U, Pt.locs, Pt.cells, Pt.slots] at X6 l6 y6 z6 st6 hQ6
  subst y6 z6
  obtain ⟨rfl, N6q, e6⟩ := hQ6
  have N6 : Fr n0 L6 := by rw [l6]; exact Fr.app N5 N6q
  obtain ⟨fs, hr, hrun, hended, hW, hsame⟩ := X6.leave (v := some (.int (r8_v (r8_v (r8_v (r8_v (r8_v (fu 2) fq fu 3) fq fu 3) fq fu 3) fq fu 3) fq fu 3))) (fun h => by rw [Bd.returns] at h; cases h) (hlocks := Bd.notSynchronized)
  refine ⟨_, _, pre0 _ ?_, hrun, hended, _, _, rfl, ?_, ⟨_, rfl⟩, hW, hsame.mono (by decide) (by decide)⟩
  · show Steps p.tables e below (s₁.setTop (mkF m 0 #[.val (.ref rq), .val (.ref rt), .val (.int (2 : Int32)), .unset, .unset] [])) _
    refine XS.iloadN X0.here hx rfl (hb hby d7_0) rfl ?_
    refine XS.iconst X0.here hx rfl (hb hby d7_1) ?_
    refine XS.iadd X0.here hx rfl (hb hby d7_2) rfl ?_
    refine XS.istoreN X0.here hx rfl (hb hby d7_3) rfl (l' := #[.val (.ref rq), .val (.ref rt), .val (.int (2 : Int32)), .val (.int (3 : Int32)), .unset]) rfl ?_
    refine XS.aloadN X0.here hx rfl (hb hby d7_4) rfl rfl ?_
    refine XS.iloadN X0.here hx rfl (hb hby d7_5) rfl ?_
    refine X0.iaload hx (j := (2 : Int32)) (v := (.int (fu 2))) (by rw [e0]; exact Arcl1.1) (State.isArrayOf_alike hZ.alike Arcl1.2.1) Arcl1.2.2 hincl1 hatcl1 (g := (mkF m 6 #[.val (.ref rq), .val (.ref rt), .val (.int (2 : Int32)), .val (.int (3 : Int32)), .unset] [(.int (2 : Int32)), (.ref rt)])) rfl rfl (hb hby d7_6) _ ?_
    refine XS.istore X0.here hx rfl (hb hby d7_7) rfl (l' := #[.val (.ref rq), .val (.ref rt), .val (.int (2 : Int32)), .val (.int (3 : Int32)), .val (.int (fu 2))]) rfl ?_
    refine XS.aloadN X0.here hx rfl (hb hby d7_9) rfl rfl ?_
    refine XS.aloadN X0.here hx rfl (hb hby d7_10) rfl rfl ?_
    refine XS.iloadN X0.here hx rfl (hb hby d7_11) rfl ?_
    refine XS.iload X0.here hx rfl (hb hby d7_12) rfl ?_
    refine st2 _ ?_
    refine XS.istore X2.here hx rfl (hb hby d7_17) rfl (l' := #[.val (.ref rq), .val (.ref rt), .val (.int (2 : Int32)), .val (.int (3 : Int32)), .val (.int (r8_v (fu 2) fq fu 3))]) rfl ?_
    refine XS.aloadN X2.here hx rfl (hb hby d7_19) rfl rfl ?_
    refine XS.aloadN X2.here hx rfl (hb hby d7_20) rfl rfl ?_
    refine XS.iloadN X2.here hx rfl (hb hby d7_21) rfl ?_
    refine XS.iload X2.here hx rfl (hb hby d7_22) rfl ?_
    refine st3 _ ?_
    refine XS.istore X3.here hx rfl (hb hby d7_27) rfl (l' := #[.val (.ref rq), .val (.ref rt), .val (.int (2 : Int32)), .val (.int (3 : Int32)), .val (.int (r8_v (r8_v (fu 2) fq fu 3) fq fu 3))]) rfl ?_
    refine XS.aloadN X3.here hx rfl (hb hby d7_29) rfl rfl ?_
    refine XS.aloadN X3.here hx rfl (hb hby d7_30) rfl rfl ?_
    refine XS.iloadN X3.here hx rfl (hb hby d7_31) rfl ?_
    refine XS.iload X3.here hx rfl (hb hby d7_32) rfl ?_
    refine st4 _ ?_
    refine XS.istore X4.here hx rfl (hb hby d7_37) rfl (l' := #[.val (.ref rq), .val (.ref rt), .val (.int (2 : Int32)), .val (.int (3 : Int32)), .val (.int (r8_v (r8_v (r8_v (fu 2) fq fu 3) fq fu 3) fq fu 3))]) rfl ?_
    refine XS.aloadN X4.here hx rfl (hb hby d7_39) rfl rfl ?_
    refine XS.aloadN X4.here hx rfl (hb hby d7_40) rfl rfl ?_
    refine XS.iloadN X4.here hx rfl (hb hby d7_41) rfl ?_
    refine XS.iload X4.here hx rfl (hb hby d7_42) rfl ?_
    refine st5 _ ?_
    refine XS.istore X5.here hx rfl (hb hby d7_47) rfl (l' := #[.val (.ref rq), .val (.ref rt), .val (.int (2 : Int32)), .val (.int (3 : Int32)), .val (.int (r8_v (r8_v (r8_v (r8_v (fu 2) fq fu 3) fq fu 3) fq fu 3) fq fu 3))]) rfl ?_
    refine XS.aloadN X5.here hx rfl (hb hby d7_49) rfl rfl ?_
    refine XS.aloadN X5.here hx rfl (hb hby d7_50) rfl rfl ?_
    refine XS.iloadN X5.here hx rfl (hb hby d7_51) rfl ?_
    refine XS.iload X5.here hx rfl (hb hby d7_52) rfl ?_
    refine st6 _ ?_
    refine XS.istore X6.here hx rfl (hb hby d7_57) rfl (l' := #[.val (.ref rq), .val (.ref rt), .val (.int (2 : Int32)), .val (.int (3 : Int32)), .val (.int (r8_v (r8_v (r8_v (r8_v (r8_v (fu 2) fq fu 3) fq fu 3) fq fu 3) fq fu 3) fq fu 3))]) rfl ?_
    refine XS.iload X6.here hx rfl (hb hby d7_59) rfl ?_
    exact retI X6 hx Bd.returns (hb hby d7_61) hr
  · show Q7k2 Z rq rt fq fu h0 n0 _ T6.heap _
    rw [e6]
    have ev7 : (r7k2_v fq fu) = (r8_v (r8_v (r8_v (r8_v (r8_v (fu 2) fq fu 3) fq fu 3) fq fu 3) fq fu 3) fq fu 3) := rfl
    exact ⟨(congrArg (fun z => some (Value.int z)) ev7.symm), N6, rfl⟩
theorem ef_7k3 (m : MethodId) (rq : Addr) (rt : Addr) : entryFrame m #[(.ref rq), (.ref rt), (.int (3 : Int32))] 5 = mkF m 0 #[.val (.ref rq), .val (.ref rt), .val (.int (3 : Int32)), .unset, .unset] [] := by first | (simp [entryFrame, mkF, argsToLocals, Value.category]; done) | rfl
def r7k3_v (fq : Nat → Int32) (fu : Nat → Int32) : Int32 := (r8_v (r8_v (r8_v (r8_v (r8_v (fu 3) fq fu 4) fq fu 4) fq fu 4) fq fu 4) fq fu 4)
def Q7k3 (Z : State) (rq : Addr) (rt : Addr) (fq : Nat → Int32) (fu : Nat → Int32) (h0 : Heap) (n0 : Nat) (v : Option Value) (h : Heap) (L : List Loc) : Prop := v = some (.int (r7k3_v fq fu)) ∧ Fr n0 L ∧ h = h0
set_option maxRecDepth 65536 in
set_option maxHeartbeats 40000000 in
theorem rm7k3 (l : Launch) (Z : State) (a0 : Array Value) (hw : ∀ d ∈ tables_1, d.before a0 Z = true) (ws : List Jvm.Cond) (rq : Addr) (rt : Addr) (fq : Nat → Int32) (fu : Nat → Int32) (h0 : Heap) (n0 : Nat) (Z0 : n0 ≤ h0.size) (A_rq : AI Z h0 rq .byte 5 fq) (A_rt : AI Z h0 rt .int 5 fu) (hfu : ∀ j, j < 5 → 0 ≤ (fu j).toInt ∧ (fu j).toInt < 5) :
    MetFree l (⟨"skipstitch/table/PrefixTableOptimisedPinLaw", "chain", "([B[II)I"⟩ : MethodName) (head1 (Jvm.Cond.code (⟨"skipstitch/table/PrefixTableOptimisedPinLaw", "chain", "([B[II)I"⟩ : MethodName) method_7_code 5 (some .int) :: ws) ({ frames := 1, cells := 0, slots := 0, locals := 15 } : Room)) (fun a U => a = #[(.ref rq), (.ref rt), (.int (3 : Int32))] ∧ Z.Warmed39 U.vm ∧ U.heap = h0) (fun _ _ _ _ _ => True) (fun _ U o U' => ∃ v L, o = .returned v ∧ Q7k3 Z rq rt fq fu h0 n0 v U'.heap L ∧ FrameEnd U o U' L ({ frames := 1, cells := 0, slots := 0, locals := 15 } : Room).cells ({ frames := 1, cells := 0, slots := 0, locals := 15 } : Room).slots) := by
  refine MetFree.of_bodySF (plainFor_of_name pn_skipstitch_table_PrefixTableOptimisedPinLaw) hisR ?_
  intro p e s m args below meth c s₁ Bd hml0 hP hK
  obtain ⟨rfl, hZ, hh⟩ := hP
  have hx := Bd.exec
  have hby := Bd.bytes
  have hml : c.maxLocals = 5 := hml0
  have hown : s.vm.findClass "skipstitch/table/PrefixTableOptimisedPinLaw" = some m.cls := findClass_of_methodNamed Bd.named
  have hnm := (name_of_methodNamed Bd.named Bd.method).1
  have X0 : Stand p l e ({ frames := 1, cells := 0, slots := 0, locals := 15 } : Room) s m #[(.ref rq), (.ref rt), (.int (3 : Int32))] below meth c s₁ [] 0 0 := Stand.of_body Bd
  have e0 : s₁.heap = h0 := by rw [← hh, Bd.state]; rfl
  have N0 := Fr.nil n0
  have K0 : Keep h0 h0 [] := Keep.refl h0 _
  have pre0 : ∀ t, Steps p.tables e below (s₁.setTop (mkF m 0 #[.val (.ref rq), .val (.ref rt), .val (.int (3 : Int32)), .unset, .unset] [])) t → Steps p.tables e below (s₁.setTop (entryFrame m #[(.ref rq), (.ref rt), (.int (3 : Int32))] 5)) t := fun t k => castTop (ef_7k3 m rq rt) k
  obtain ⟨cl1, Arcl1, hincl1, hatcl1⟩ := AF.at A_rt (j := (3 : Int32)) 3 (by decide) (by decide)
  obtain ⟨_, _, ⟨T2, L2, k2, n2⟩, -, X2, ⟨Lc2, hQ2, l2, y2, z2⟩, st2⟩ := Jvm.LawKit.callS X0 hx (y := (⟨"skipstitch/table/PrefixTableOptimisedPinLaw", "step", "([B[III)I"⟩ : MethodName)) hown (mvT hZ (hw _ (List.mem_of_getElem? (i := 26) rfl))) (mvT hZ (hw _ (List.mem_of_getElem? (i := 27) rfl))) (mvT hZ (hw _ (List.mem_of_getElem? (i := 4) rfl))) (mvT hZ (hw _ (List.mem_of_getElem? (i := 28) rfl))) (by decide) (backOf (W := 0) (rm8 l Z a0 hw [] rq rt (4 : Int32) (fu 3) fq fu 4 h0 n0 Z0 A_rq A_rt (rfl) (by decide) (own_f0 hfu 3 (by decide))) hZ (hw _ (List.mem_of_getElem? (i := 28) rfl)) (hw _ (List.mem_of_getElem? (i := 4) rfl)) (by decide) (by decide)) (g := (mkF m 14 #[.val (.ref rq), .val (.ref rt), .val (.int (3 : Int32)), .val (.int (4 : Int32)), .val (.int (fu 3))] [(.int (fu 3)), (.int (4 : Int32)), (.ref rt), (.ref rq)])) rfl (by rw [hml]; rfl) (argsL := [(.ref rq), (.ref rt), (.int (4 : Int32)), (.int (fu 3))]) (rest := []) (lenOf pd_1 rfl) rfl (by show 2 * 0 + _ ≤ _; exact Nat.le_of_eq rfl) (hb hby d7_14) (fun _ _ => ⟨rfl, e0, (by decide : 0 + 0 ≤ _), (by decide : 0 + 0 ≤ _)⟩)
  dsimp only [Pt.U, Pt.locs, Pt.cells, Pt.slots] at X2 l2 y2 z2 st2 hQ2
  subst y2 z2
  obtain ⟨rfl, N2q, e2⟩ := hQ2
  have N2 : Fr n0 L2 := by rw [l2]; exact Fr.app N0 N2q
  obtain ⟨_, _, ⟨T3, L3, k3, n3⟩, -, X3, ⟨Lc3, hQ3, l3, y3, z3⟩, st3⟩ := Jvm.LawKit.callS X2 hx (y := (⟨"skipstitch/table/PrefixTableOptimisedPinLaw", "step", "([B[III)I"⟩ : MethodName)) hown (mvT hZ (hw _ (List.mem_of_getElem? (i := 26) rfl))) (mvT hZ (hw _ (List.mem_of_getElem? (i := 27) rfl))) (mvT hZ (hw _ (List.mem_of_getElem? (i := 4) rfl))) (mvT hZ (hw _ (List.mem_of_getElem? (i := 28) rfl))) (by decide) (backOf (W := 0) (rm8 l Z a0 hw [] rq rt (4 : Int32) (r8_v (fu 3) fq fu 4) fq fu 4 h0 n0 Z0 A_rq A_rt (rfl) (by decide) (own_r8 _ _ _ _ hfu (own_f0 hfu 3 (by decide)))) hZ (hw _ (List.mem_of_getElem? (i := 28) rfl)) (hw _ (List.mem_of_getElem? (i := 4) rfl)) (by decide) (by decide)) (g := (mkF m 24 #[.val (.ref rq), .val (.ref rt), .val (.int (3 : Int32)), .val (.int (4 : Int32)), .val (.int (r8_v (fu 3) fq fu 4))] [(.int (r8_v (fu 3) fq fu 4)), (.int (4 : Int32)), (.ref rt), (.ref rq)])) rfl (by rw [hml]; rfl) (argsL := [(.ref rq), (.ref rt), (.int (4 : Int32)), (.int (r8_v (fu 3) fq fu 4))]) (rest := []) (lenOf pd_1 rfl) rfl (by show 2 * 0 + _ ≤ _; exact Nat.le_of_eq rfl) (hb hby d7_24) (fun _ _ => ⟨rfl, e2, (by decide : 0 + 0 ≤ _), (by decide : 0 + 0 ≤ _)⟩)
  dsimp only [Pt.U, Pt.locs, Pt.cells, Pt.slots] at X3 l3 y3 z3 st3 hQ3
  subst y3 z3
  obtain ⟨rfl, N3q, e3⟩ := hQ3
  have N3 : Fr n0 L3 := by rw [l3]; exact Fr.app N2 N3q
  obtain ⟨_, _, ⟨T4, L4, k4, n4⟩, -, X4, ⟨Lc4, hQ4, l4, y4, z4⟩, st4⟩ := Jvm.LawKit.callS X3 hx (y := (⟨"skipstitch/table/PrefixTableOptimisedPinLaw", "step", "([B[III)I"⟩ : MethodName)) hown (mvT hZ (hw _ (List.mem_of_getElem? (i := 26) rfl))) (mvT hZ (hw _ (List.mem_of_getElem? (i := 27) rfl))) (mvT hZ (hw _ (List.mem_of_getElem? (i := 4) rfl))) (mvT hZ (hw _ (List.mem_of_getElem? (i := 28) rfl))) (by decide) (backOf (W := 0) (rm8 l Z a0 hw [] rq rt (4 : Int32) (r8_v (r8_v (fu 3) fq fu 4) fq fu 4) fq fu 4 h0 n0 Z0 A_rq A_rt (rfl) (by decide) (own_r8 _ _ _ _ hfu (own_r8 _ _ _ _ hfu (own_f0 hfu 3 (by decide))))) hZ (hw _ (List.mem_of_getElem? (i := 28) rfl)) (hw _ (List.mem_of_getElem? (i := 4) rfl)) (by decide) (by decide)) (g := (mkF m 34 #[.val (.ref rq), .val (.ref rt), .val (.int (3 : Int32)), .val (.int (4 : Int32)), .val (.int (r8_v (r8_v (fu 3) fq fu 4) fq fu 4))] [(.int (r8_v (r8_v (fu 3) fq fu 4) fq fu 4)), (.int (4 : Int32)), (.ref rt), (.ref rq)])) rfl (by rw [hml]; rfl) (argsL := [(.ref rq), (.ref rt), (.int (4 : Int32)), (.int (r8_v (r8_v (fu 3) fq fu 4) fq fu 4))]) (rest := []) (lenOf pd_1 rfl) rfl (by show 2 * 0 + _ ≤ _; exact Nat.le_of_eq rfl) (hb hby d7_34) (fun _ _ => ⟨rfl, e3, (by decide : 0 + 0 ≤ _), (by decide : 0 + 0 ≤ _)⟩)
  dsimp only [Pt.U, Pt.locs, Pt.cells, Pt.slots] at X4 l4 y4 z4 st4 hQ4
  subst y4 z4
  obtain ⟨rfl, N4q, e4⟩ := hQ4
  have N4 : Fr n0 L4 := by rw [l4]; exact Fr.app N3 N4q
  obtain ⟨_, _, ⟨T5, L5, k5, n5⟩, -, X5, ⟨Lc5, hQ5, l5, y5, z5⟩, st5⟩ := Jvm.LawKit.callS X4 hx (y := (⟨"skipstitch/table/PrefixTableOptimisedPinLaw", "step", "([B[III)I"⟩ : MethodName)) hown (mvT hZ (hw _ (List.mem_of_getElem? (i := 26) rfl))) (mvT hZ (hw _ (List.mem_of_getElem? (i := 27) rfl))) (mvT hZ (hw _ (List.mem_of_getElem? (i := 4) rfl))) (mvT hZ (hw _ (List.mem_of_getElem? (i := 28) rfl))) (by decide) (backOf (W := 0) (rm8 l Z a0 hw [] rq rt (4 : Int32) (r8_v (r8_v (r8_v (fu 3) fq fu 4) fq fu 4) fq fu 4) fq fu 4 h0 n0 Z0 A_rq A_rt (rfl) (by decide) (own_r8 _ _ _ _ hfu (own_r8 _ _ _ _ hfu (own_r8 _ _ _ _ hfu (own_f0 hfu 3 (by decide)))))) hZ (hw _ (List.mem_of_getElem? (i := 28) rfl)) (hw _ (List.mem_of_getElem? (i := 4) rfl)) (by decide) (by decide)) (g := (mkF m 44 #[.val (.ref rq), .val (.ref rt), .val (.int (3 : Int32)), .val (.int (4 : Int32)), .val (.int (r8_v (r8_v (r8_v (fu 3) fq fu 4) fq fu 4) fq fu 4))] [(.int (r8_v (r8_v (r8_v (fu 3) fq fu 4) fq fu 4) fq fu 4)), (.int (4 : Int32)), (.ref rt), (.ref rq)])) rfl (by rw [hml]; rfl) (argsL := [(.ref rq), (.ref rt), (.int (4 : Int32)), (.int (r8_v (r8_v (r8_v (fu 3) fq fu 4) fq fu 4) fq fu 4))]) (rest := []) (lenOf pd_1 rfl) rfl (by show 2 * 0 + _ ≤ _; exact Nat.le_of_eq rfl) (hb hby d7_44) (fun _ _ => ⟨rfl, e4, (by decide : 0 + 0 ≤ _), (by decide : 0 + 0 ≤ _)⟩)
  dsimp only [Pt.U, Pt.locs, Pt.cells, Pt.slots] at X5 l5 y5 z5 st5 hQ5
  subst y5 z5
  obtain ⟨rfl, N5q, e5⟩ := hQ5
  have N5 : Fr n0 L5 := by rw [l5]; exact Fr.app N4 N5q
  obtain ⟨_, _, ⟨T6, L6, k6, n6⟩, -, X6, ⟨Lc6, hQ6, l6, y6, z6⟩, st6⟩ := Jvm.LawKit.callS X5 hx (y := (⟨"skipstitch/table/PrefixTableOptimisedPinLaw", "step", "([B[III)I"⟩ : MethodName)) hown (mvT hZ (hw _ (List.mem_of_getElem? (i := 26) rfl))) (mvT hZ (hw _ (List.mem_of_getElem? (i := 27) rfl))) (mvT hZ (hw _ (List.mem_of_getElem? (i := 4) rfl))) (mvT hZ (hw _ (List.mem_of_getElem? (i := 28) rfl))) (by decide) (backOf (W := 0) (rm8 l Z a0 hw [] rq rt (4 : Int32) (r8_v (r8_v (r8_v (r8_v (fu 3) fq fu 4) fq fu 4) fq fu 4) fq fu 4) fq fu 4 h0 n0 Z0 A_rq A_rt (rfl) (by decide) (own_r8 _ _ _ _ hfu (own_r8 _ _ _ _ hfu (own_r8 _ _ _ _ hfu (own_r8 _ _ _ _ hfu (own_f0 hfu 3 (by decide))))))) hZ (hw _ (List.mem_of_getElem? (i := 28) rfl)) (hw _ (List.mem_of_getElem? (i := 4) rfl)) (by decide) (by decide)) (g := (mkF m 54 #[.val (.ref rq), .val (.ref rt), .val (.int (3 : Int32)), .val (.int (4 : Int32)), .val (.int (r8_v (r8_v (r8_v (r8_v (fu 3) fq fu 4) fq fu 4) fq fu 4) fq fu 4))] [(.int (r8_v (r8_v (r8_v (r8_v (fu 3) fq fu 4) fq fu 4) fq fu 4) fq fu 4)), (.int (4 : Int32)), (.ref rt), (.ref rq)])) rfl (by rw [hml]; rfl) (argsL := [(.ref rq), (.ref rt), (.int (4 : Int32)), (.int (r8_v (r8_v (r8_v (r8_v (fu 3) fq fu 4) fq fu 4) fq fu 4) fq fu 4))]) (rest := []) (lenOf pd_1 rfl) rfl (by show 2 * 0 + _ ≤ _; exact Nat.le_of_eq rfl) (hb hby d7_54) (fun _ _ => ⟨rfl, e5, (by decide : 0 + 0 ≤ _), (by decide : 0 + 0 ≤ _)⟩)
  dsimp only [Pt.U, Pt.locs, Pt.cells, Pt.slots] at X6 l6 y6 z6 st6 hQ6
  subst y6 z6
  obtain ⟨rfl, N6q, e6⟩ := hQ6
  have N6 : Fr n0 L6 := by rw [l6]; exact Fr.app N5 N6q
  obtain ⟨fs, hr, hrun, hended, hW, hsame⟩ := X6.leave (v := some (.int (r8_v (r8_v (r8_v (r8_v (r8_v (fu 3) fq fu 4) fq fu 4) fq fu 4) fq fu 4) fq fu 4))) (fun h => by rw [Bd.returns] at h; cases h) (hlocks := Bd.notSynchronized)
  refine ⟨_, _, pre0 _ ?_, hrun, hended, _, _, rfl, ?_, ⟨_, rfl⟩, hW, hsame.mono (by decide) (by decide)⟩
  · show Steps p.tables e below (s₁.setTop (mkF m 0 #[.val (.ref rq), .val (.ref rt), .val (.int (3 : Int32)), .unset, .unset] [])) _
    refine XS.iloadN X0.here hx rfl (hb hby d7_0) rfl ?_
    refine XS.iconst X0.here hx rfl (hb hby d7_1) ?_
    refine XS.iadd X0.here hx rfl (hb hby d7_2) rfl ?_
    refine XS.istoreN X0.here hx rfl (hb hby d7_3) rfl (l' := #[.val (.ref rq), .val (.ref rt), .val (.int (3 : Int32)), .val (.int (4 : Int32)), .unset]) rfl ?_
    refine XS.aloadN X0.here hx rfl (hb hby d7_4) rfl rfl ?_
    refine XS.iloadN X0.here hx rfl (hb hby d7_5) rfl ?_
    refine X0.iaload hx (j := (3 : Int32)) (v := (.int (fu 3))) (by rw [e0]; exact Arcl1.1) (State.isArrayOf_alike hZ.alike Arcl1.2.1) Arcl1.2.2 hincl1 hatcl1 (g := (mkF m 6 #[.val (.ref rq), .val (.ref rt), .val (.int (3 : Int32)), .val (.int (4 : Int32)), .unset] [(.int (3 : Int32)), (.ref rt)])) rfl rfl (hb hby d7_6) _ ?_
    refine XS.istore X0.here hx rfl (hb hby d7_7) rfl (l' := #[.val (.ref rq), .val (.ref rt), .val (.int (3 : Int32)), .val (.int (4 : Int32)), .val (.int (fu 3))]) rfl ?_
    refine XS.aloadN X0.here hx rfl (hb hby d7_9) rfl rfl ?_
    refine XS.aloadN X0.here hx rfl (hb hby d7_10) rfl rfl ?_
    refine XS.iloadN X0.here hx rfl (hb hby d7_11) rfl ?_
    refine XS.iload X0.here hx rfl (hb hby d7_12) rfl ?_
    refine st2 _ ?_
    refine XS.istore X2.here hx rfl (hb hby d7_17) rfl (l' := #[.val (.ref rq), .val (.ref rt), .val (.int (3 : Int32)), .val (.int (4 : Int32)), .val (.int (r8_v (fu 3) fq fu 4))]) rfl ?_
    refine XS.aloadN X2.here hx rfl (hb hby d7_19) rfl rfl ?_
    refine XS.aloadN X2.here hx rfl (hb hby d7_20) rfl rfl ?_
    refine XS.iloadN X2.here hx rfl (hb hby d7_21) rfl ?_
    refine XS.iload X2.here hx rfl (hb hby d7_22) rfl ?_
    refine st3 _ ?_
    refine XS.istore X3.here hx rfl (hb hby d7_27) rfl (l' := #[.val (.ref rq), .val (.ref rt), .val (.int (3 : Int32)), .val (.int (4 : Int32)), .val (.int (r8_v (r8_v (fu 3) fq fu 4) fq fu 4))]) rfl ?_
    refine XS.aloadN X3.here hx rfl (hb hby d7_29) rfl rfl ?_
    refine XS.aloadN X3.here hx rfl (hb hby d7_30) rfl rfl ?_
    refine XS.iloadN X3.here hx rfl (hb hby d7_31) rfl ?_
    refine XS.iload X3.here hx rfl (hb hby d7_32) rfl ?_
    refine st4 _ ?_
    refine XS.istore X4.here hx rfl (hb hby d7_37) rfl (l' := #[.val (.ref rq), .val (.ref rt), .val (.int (3 : Int32)), .val (.int (4 : Int32)), .val (.int (r8_v (r8_v (r8_v (fu 3) fq fu 4) fq fu 4) fq fu 4))]) rfl ?_
    refine XS.aloadN X4.here hx rfl (hb hby d7_39) rfl rfl ?_
    refine XS.aloadN X4.here hx rfl (hb hby d7_40) rfl rfl ?_
    refine XS.iloadN X4.here hx rfl (hb hby d7_41) rfl ?_
    refine XS.iload X4.here hx rfl (hb hby d7_42) rfl ?_
    refine st5 _ ?_
    refine XS.istore X5.here hx rfl (hb hby d7_47) rfl (l' := #[.val (.ref rq), .val (.ref rt), .val (.int (3 : Int32)), .val (.int (4 : Int32)), .val (.int (r8_v (r8_v (r8_v (r8_v (fu 3) fq fu 4) fq fu 4) fq fu 4) fq fu 4))]) rfl ?_
    refine XS.aloadN X5.here hx rfl (hb hby d7_49) rfl rfl ?_
    refine XS.aloadN X5.here hx rfl (hb hby d7_50) rfl rfl ?_
    refine XS.iloadN X5.here hx rfl (hb hby d7_51) rfl ?_
    refine XS.iload X5.here hx rfl (hb hby d7_52) rfl ?_
    refine st6 _ ?_
    refine XS.istore X6.here hx rfl (hb hby d7_57) rfl (l' := #[.val (.ref rq), .val (.ref rt), .val (.int (3 : Int32)), .val (.int (4 : Int32)), .val (.int (r8_v (r8_v (r8_v (r8_v (r8_v (fu 3) fq fu 4) fq fu 4) fq fu 4) fq fu 4) fq fu 4))]) rfl ?_
    refine XS.iload X6.here hx rfl (hb hby d7_59) rfl ?_
    exact retI X6 hx Bd.returns (hb hby d7_61) hr
  · show Q7k3 Z rq rt fq fu h0 n0 _ T6.heap _
    rw [e6]
    have ev7 : (r7k3_v fq fu) = (r8_v (r8_v (r8_v (r8_v (r8_v (fu 3) fq fu 4) fq fu 4) fq fu 4) fq fu 4) fq fu 4) := rfl
    exact ⟨(congrArg (fun z => some (Value.int z)) ev7.symm), N6, rfl⟩
theorem ef_5a0 (m : MethodId) (rr : Addr) (mm : Int32) (rq : Addr) (rt : Addr) : entryFrame m #[(.ref rr), (.int mm), (.ref rq), (.ref rt), (.int (0 : Int32))] 6 = mkF m 0 #[.val (.ref rr), .val (.int mm), .val (.ref rq), .val (.ref rt), .val (.int (0 : Int32)), .unset] [] := by first | (simp [entryFrame, mkF, argsToLocals, Value.category]; done) | rfl
theorem d5_0 : decode method_8_code 0 = .ok (.iload 4, 2) := by decide +kernel
theorem d5_2 : decode method_8_code 2 = .ok (.iload_n 1, 1) := by decide +kernel
theorem d5_3 : decode method_8_code 3 = .ok (.if_icmp .lt 5, 3) := by decide +kernel
theorem d5_8 : decode method_8_code 8 = .ok (.iload 4, 2) := by decide +kernel
theorem d5_10 : decode method_8_code 10 = .ok (.iconst 1, 1) := by decide +kernel
theorem d5_11 : decode method_8_code 11 = .ok (.iadd, 1) := by decide +kernel
theorem d5_12 : decode method_8_code 12 = .ok (.iload_n 1, 1) := by decide +kernel
theorem d5_13 : decode method_8_code 13 = .ok (.if_icmp .ge 13, 3) := by decide +kernel
theorem d5_16 : decode method_8_code 16 = .ok (.aload_n 2, 1) := by decide +kernel
theorem d5_17 : decode method_8_code 17 = .ok (.aload_n 3, 1) := by decide +kernel
theorem d5_18 : decode method_8_code 18 = .ok (.iload 4, 2) := by decide +kernel
theorem pd_2 : parseMethodDescriptor "([B[II)I" = some ⟨[(.array .byte), (.array .int), .int], some .int⟩ := by decide +kernel
theorem d5_20 : decode method_8_code 20 = .ok (.invokestatic 40, 3) := by decide +kernel
theorem d5_23 : decode method_8_code 23 = .ok (.goto 7, 3) := by decide +kernel
theorem d5_30 : decode method_8_code 30 = .ok (.istore 5, 2) := by decide +kernel
theorem d5_32 : decode method_8_code 32 = .ok (.aload_n 0, 1) := by decide +kernel
theorem d5_33 : decode method_8_code 33 = .ok (.iload 4, 2) := by decide +kernel
theorem d5_35 : decode method_8_code 35 = .ok (.iaload, 1) := by decide +kernel
theorem d5_36 : decode method_8_code 36 = .ok (.iload 5, 2) := by decide +kernel
theorem d5_38 : decode method_8_code 38 = .ok (.if_icmp .ne 7, 3) := by decide +kernel
theorem d5_41 : decode method_8_code 41 = .ok (.iconst 1, 1) := by decide +kernel
theorem d5_42 : decode method_8_code 42 = .ok (.goto 4, 3) := by decide +kernel
theorem d5_46 : decode method_8_code 46 = .ok (.ireturn, 1) := by decide +kernel
theorem d5_45 : decode method_8_code 45 = .ok (.iconst 0, 1) := by decide +kernel
def r5a0_v (fq : Nat → Int32) (fu : Nat → Int32) (fr : Nat → Int32) : Int32 := (if (fr 0) = (r7k0_v fq fu) then (1 : Int32) else (0 : Int32))
def Q5a0 (Z : State) (rr : Addr) (mm : Int32) (rq : Addr) (rt : Addr) (fq : Nat → Int32) (fu : Nat → Int32) (fr : Nat → Int32) (nn : Nat) (h0 : Heap) (n0 : Nat) (v : Option Value) (h : Heap) (L : List Loc) : Prop := v = some (.int (r5a0_v fq fu fr)) ∧ Fr n0 L ∧ h = h0
set_option maxRecDepth 65536 in
set_option maxHeartbeats 40000000 in
theorem rm5a0 (l : Launch) (Z : State) (a0 : Array Value) (hw : ∀ d ∈ tables_1, d.before a0 Z = true) (ws : List Jvm.Cond) (rr : Addr) (mm : Int32) (rq : Addr) (rt : Addr) (fq : Nat → Int32) (fu : Nat → Int32) (fr : Nat → Int32) (nn : Nat) (h0 : Heap) (n0 : Nat) (Z0 : n0 ≤ h0.size) (A_rr : AI Z h0 rr .int nn fr) (A_rq : AI Z h0 rq .byte 5 fq) (A_rt : AI Z h0 rt .int 5 fu) (hfu : ∀ j, j < 5 → 0 ≤ (fu j).toInt ∧ (fu j).toInt < 5) (hin : 0 < nn) (hc3 : ((0 : Int32) < mm)) (hc13 : ((1 : Int32) < mm)) :
    MetFree l (⟨"skipstitch/table/PrefixTableOptimisedPinLaw", "at", "([II[B[II)Z"⟩ : MethodName) (head1 (Jvm.Cond.code (⟨"skipstitch/table/PrefixTableOptimisedPinLaw", "at", "([II[B[II)Z"⟩ : MethodName) method_8_code 6 (some .boolean) :: ws) ({ frames := 2, cells := 0, slots := 0, locals := 31 } : Room)) (fun a U => a = #[(.ref rr), (.int mm), (.ref rq), (.ref rt), (.int (0 : Int32))] ∧ Z.Warmed39 U.vm ∧ U.heap = h0) (fun _ _ _ _ _ => True) (fun _ U o U' => ∃ v L, o = .returned v ∧ Q5a0 Z rr mm rq rt fq fu fr nn h0 n0 v U'.heap L ∧ FrameEnd U o U' L ({ frames := 2, cells := 0, slots := 0, locals := 31 } : Room).cells ({ frames := 2, cells := 0, slots := 0, locals := 31 } : Room).slots) := by
  refine MetFree.of_bodySF (plainFor_of_name pn_skipstitch_table_PrefixTableOptimisedPinLaw) hisR ?_
  intro p e s m args below meth c s₁ Bd hml0 hP hK
  obtain ⟨rfl, hZ, hh⟩ := hP
  have hx := Bd.exec
  have hby := Bd.bytes
  have hml : c.maxLocals = 6 := hml0
  have hown : s.vm.findClass "skipstitch/table/PrefixTableOptimisedPinLaw" = some m.cls := findClass_of_methodNamed Bd.named
  have hnm := (name_of_methodNamed Bd.named Bd.method).1
  have X0 : Stand p l e ({ frames := 2, cells := 0, slots := 0, locals := 31 } : Room) s m #[(.ref rr), (.int mm), (.ref rq), (.ref rt), (.int (0 : Int32))] below meth c s₁ [] 0 0 := Stand.of_body Bd
  have e0 : s₁.heap = h0 := by rw [← hh, Bd.state]; rfl
  have N0 := Fr.nil n0
  have K0 : Keep h0 h0 [] := Keep.refl h0 _
  have pre0 : ∀ t, Steps p.tables e below (s₁.setTop (mkF m 0 #[.val (.ref rr), .val (.int mm), .val (.ref rq), .val (.ref rt), .val (.int (0 : Int32)), .unset] [])) t → Steps p.tables e below (s₁.setTop (entryFrame m #[(.ref rr), (.int mm), (.ref rq), (.ref rt), (.int (0 : Int32))] 6)) t := fun t k => castTop (ef_5a0 m rr mm rq rt) k
  obtain ⟨_, _, ⟨T1, L1, k1, n1⟩, -, X1, ⟨Lc1, hQ1, l1, y1, z1⟩, st1⟩ := Jvm.LawKit.callS X0 hx (y := (⟨"skipstitch/table/PrefixTableOptimisedPinLaw", "chain", "([B[II)I"⟩ : MethodName)) hown (mvT hZ (hw _ (List.mem_of_getElem? (i := 23) rfl))) (mvT hZ (hw _ (List.mem_of_getElem? (i := 24) rfl))) (mvT hZ (hw _ (List.mem_of_getElem? (i := 4) rfl))) (mvT hZ (hw _ (List.mem_of_getElem? (i := 25) rfl))) (by decide) (backOf (W := 0) (rm7k0 l Z a0 hw [] rq rt fq fu h0 n0 Z0 A_rq A_rt (hfu)) hZ (hw _ (List.mem_of_getElem? (i := 25) rfl)) (hw _ (List.mem_of_getElem? (i := 4) rfl)) (by decide) (by decide)) (g := (mkF m 20 #[.val (.ref rr), .val (.int mm), .val (.ref rq), .val (.ref rt), .val (.int (0 : Int32)), .unset] [(.int (0 : Int32)), (.ref rt), (.ref rq)])) rfl (by rw [hml]; rfl) (argsL := [(.ref rq), (.ref rt), (.int (0 : Int32))]) (rest := []) (lenOf pd_2 rfl) rfl (by show 2 * 0 + _ ≤ _; exact Nat.le_of_eq rfl) (hb hby d5_20) (fun _ _ => ⟨rfl, e0, (by decide : 0 + 0 ≤ _), (by decide : 0 + 0 ≤ _)⟩)
  dsimp only [Pt.U, Pt.locs, Pt.cells, Pt.slots] at X1 l1 y1 z1 st1 hQ1
  subst y1 z1
  obtain ⟨rfl, N1q, e1⟩ := hQ1
  have N1 : Fr n0 L1 := by rw [l1]; exact Fr.app N0 N1q
  obtain ⟨cl2, Arcl2, hincl2, hatcl2⟩ := AF.at A_rr (j := (0 : Int32)) 0 (by decide) hin
  have pre3 : ∀ t, Steps p.tables e below (T1.setTop (mkF m 38 #[.val (.ref rr), .val (.int mm), .val (.ref rq), .val (.ref rt), .val (.int (0 : Int32)), .val (.int (r7k0_v fq fu))] [(.int (r7k0_v fq fu)), (.int (fr 0))])) t → Steps p.tables e below (s₁.setTop (entryFrame m #[(.ref rr), (.int mm), (.ref rq), (.ref rt), (.int (0 : Int32))] 6)) t := by
    intro t k
    refine pre0 _ ?_
    refine XS.iload X0.here hx rfl (hb hby d5_0) rfl ?_
    refine XS.iloadN X0.here hx rfl (hb hby d5_2) rfl ?_
    refine XS.icmpYes X0.here hx rfl (pc0 := 3) (pc' := 8) rfl (hb hby d5_3) rfl (tlt hc3).1 (by decide) (by decide) ?_
    refine XS.iload X0.here hx rfl (hb hby d5_8) rfl ?_
    refine XS.iconst X0.here hx rfl (hb hby d5_10) ?_
    refine XS.iadd X0.here hx rfl (hb hby d5_11) rfl ?_
    refine XS.iloadN X0.here hx rfl (hb hby d5_12) rfl ?_
    refine XS.icmpNo X0.here hx rfl (hb hby d5_13) rfl (tlt hc13).2.1 ?_
    refine XS.aloadN X0.here hx rfl (hb hby d5_16) rfl rfl ?_
    refine XS.aloadN X0.here hx rfl (hb hby d5_17) rfl rfl ?_
    refine XS.iload X0.here hx rfl (hb hby d5_18) rfl ?_
    refine st1 _ ?_
    refine XS.goto X1.here hx rfl (pc0 := 23) (pc' := 30) rfl (hb hby d5_23) (by decide) (by decide) ?_
    refine XS.istore X1.here hx rfl (hb hby d5_30) rfl (l' := #[.val (.ref rr), .val (.int mm), .val (.ref rq), .val (.ref rt), .val (.int (0 : Int32)), .val (.int (r7k0_v fq fu))]) rfl ?_
    refine XS.aloadN X1.here hx rfl (hb hby d5_32) rfl rfl ?_
    refine XS.iload X1.here hx rfl (hb hby d5_33) rfl ?_
    refine X1.iaload hx (j := (0 : Int32)) (v := (.int (fr 0))) (by rw [e1]; exact Arcl2.1) (State.isArrayOf_alike hZ.alike Arcl2.2.1) Arcl2.2.2 hincl2 hatcl2 (g := (mkF m 35 #[.val (.ref rr), .val (.int mm), .val (.ref rq), .val (.ref rt), .val (.int (0 : Int32)), .val (.int (r7k0_v fq fu))] [(.int (0 : Int32)), (.ref rr)])) rfl rfl (hb hby d5_35) _ ?_
    refine XS.iload X1.here hx rfl (hb hby d5_36) rfl ?_
    exact k
  by_cases hk4 : (fr 0) = (r7k0_v fq fu)
  · obtain ⟨fs, hr, hrun, hended, hW, hsame⟩ := X1.leave (v := some (.int (1 : Int32))) (fun h => by rw [Bd.returns] at h; cases h) (hlocks := Bd.notSynchronized)
    refine ⟨_, _, pre3 _ ?_, hrun, hended, _, _, rfl, ?_, ⟨_, rfl⟩, hW, hsame.mono (by decide) (by decide)⟩
    · show Steps p.tables e below (T1.setTop (mkF m 38 #[.val (.ref rr), .val (.int mm), .val (.ref rq), .val (.ref rt), .val (.int (0 : Int32)), .val (.int (r7k0_v fq fu))] [(.int (r7k0_v fq fu)), (.int (fr 0))])) _
      refine XS.icmpNo X1.here hx rfl (hb hby d5_38) rfl (teq hk4).2 ?_
      refine XS.iconst X1.here hx rfl (hb hby d5_41) ?_
      refine XS.goto X1.here hx rfl (pc0 := 42) (pc' := 46) rfl (hb hby d5_42) (by decide) (by decide) ?_
      exact retN X1 hx (t := .boolean) Bd.returns (by simp) (hb hby d5_46) hr
    · show Q5a0 Z rr mm rq rt fq fu fr nn h0 n0 _ T1.heap _
      rw [e1]
      have ev5 : (r5a0_v fq fu fr) = (1 : Int32) := by unfold r5a0_v; rw [if_pos hk4]
      exact ⟨(congrArg (fun z => some (Value.int z)) ev5.symm), N1, rfl⟩
  · obtain ⟨fs, hr, hrun, hended, hW, hsame⟩ := X1.leave (v := some (.int (0 : Int32))) (fun h => by rw [Bd.returns] at h; cases h) (hlocks := Bd.notSynchronized)
    refine ⟨_, _, pre3 _ ?_, hrun, hended, _, _, rfl, ?_, ⟨_, rfl⟩, hW, hsame.mono (by decide) (by decide)⟩
    · show Steps p.tables e below (T1.setTop (mkF m 38 #[.val (.ref rr), .val (.int mm), .val (.ref rq), .val (.ref rt), .val (.int (0 : Int32)), .val (.int (r7k0_v fq fu))] [(.int (r7k0_v fq fu)), (.int (fr 0))])) _
      refine XS.icmpYes X1.here hx rfl (pc0 := 38) (pc' := 45) rfl (hb hby d5_38) rfl (feq hk4).2 (by decide) (by decide) ?_
      refine XS.iconst X1.here hx rfl (hb hby d5_45) ?_
      exact retN X1 hx (t := .boolean) Bd.returns (by simp) (hb hby d5_46) hr
    · show Q5a0 Z rr mm rq rt fq fu fr nn h0 n0 _ T1.heap _
      rw [e1]
      have ev6 : (r5a0_v fq fu fr) = (0 : Int32) := by unfold r5a0_v; rw [if_neg hk4]
      exact ⟨(congrArg (fun z => some (Value.int z)) ev6.symm), N1, rfl⟩
theorem ef_5a1 (m : MethodId) (rr : Addr) (mm : Int32) (rq : Addr) (rt : Addr) : entryFrame m #[(.ref rr), (.int mm), (.ref rq), (.ref rt), (.int (1 : Int32))] 6 = mkF m 0 #[.val (.ref rr), .val (.int mm), .val (.ref rq), .val (.ref rt), .val (.int (1 : Int32)), .unset] [] := by first | (simp [entryFrame, mkF, argsToLocals, Value.category]; done) | rfl
def r5a1_v (fq : Nat → Int32) (fu : Nat → Int32) (fr : Nat → Int32) : Int32 := (if (fr 1) = (r7k1_v fq fu) then (1 : Int32) else (0 : Int32))
def Q5a1 (Z : State) (rr : Addr) (mm : Int32) (rq : Addr) (rt : Addr) (fq : Nat → Int32) (fu : Nat → Int32) (fr : Nat → Int32) (nn : Nat) (h0 : Heap) (n0 : Nat) (v : Option Value) (h : Heap) (L : List Loc) : Prop := v = some (.int (r5a1_v fq fu fr)) ∧ Fr n0 L ∧ h = h0
set_option maxRecDepth 65536 in
set_option maxHeartbeats 40000000 in
theorem rm5a1 (l : Launch) (Z : State) (a0 : Array Value) (hw : ∀ d ∈ tables_1, d.before a0 Z = true) (ws : List Jvm.Cond) (rr : Addr) (mm : Int32) (rq : Addr) (rt : Addr) (fq : Nat → Int32) (fu : Nat → Int32) (fr : Nat → Int32) (nn : Nat) (h0 : Heap) (n0 : Nat) (Z0 : n0 ≤ h0.size) (A_rr : AI Z h0 rr .int nn fr) (A_rq : AI Z h0 rq .byte 5 fq) (A_rt : AI Z h0 rt .int 5 fu) (hfu : ∀ j, j < 5 → 0 ≤ (fu j).toInt ∧ (fu j).toInt < 5) (hin : 1 < nn) (hc3 : ((1 : Int32) < mm)) (hc13 : ((2 : Int32) < mm)) :
    MetFree l (⟨"skipstitch/table/PrefixTableOptimisedPinLaw", "at", "([II[B[II)Z"⟩ : MethodName) (head1 (Jvm.Cond.code (⟨"skipstitch/table/PrefixTableOptimisedPinLaw", "at", "([II[B[II)Z"⟩ : MethodName) method_8_code 6 (some .boolean) :: ws) ({ frames := 2, cells := 0, slots := 0, locals := 31 } : Room)) (fun a U => a = #[(.ref rr), (.int mm), (.ref rq), (.ref rt), (.int (1 : Int32))] ∧ Z.Warmed39 U.vm ∧ U.heap = h0) (fun _ _ _ _ _ => True) (fun _ U o U' => ∃ v L, o = .returned v ∧ Q5a1 Z rr mm rq rt fq fu fr nn h0 n0 v U'.heap L ∧ FrameEnd U o U' L ({ frames := 2, cells := 0, slots := 0, locals := 31 } : Room).cells ({ frames := 2, cells := 0, slots := 0, locals := 31 } : Room).slots) := by
  refine MetFree.of_bodySF (plainFor_of_name pn_skipstitch_table_PrefixTableOptimisedPinLaw) hisR ?_
  intro p e s m args below meth c s₁ Bd hml0 hP hK
  obtain ⟨rfl, hZ, hh⟩ := hP
  have hx := Bd.exec
  have hby := Bd.bytes
  have hml : c.maxLocals = 6 := hml0
  have hown : s.vm.findClass "skipstitch/table/PrefixTableOptimisedPinLaw" = some m.cls := findClass_of_methodNamed Bd.named
  have hnm := (name_of_methodNamed Bd.named Bd.method).1
  have X0 : Stand p l e ({ frames := 2, cells := 0, slots := 0, locals := 31 } : Room) s m #[(.ref rr), (.int mm), (.ref rq), (.ref rt), (.int (1 : Int32))] below meth c s₁ [] 0 0 := Stand.of_body Bd
  have e0 : s₁.heap = h0 := by rw [← hh, Bd.state]; rfl
  have N0 := Fr.nil n0
  have K0 : Keep h0 h0 [] := Keep.refl h0 _
  have pre0 : ∀ t, Steps p.tables e below (s₁.setTop (mkF m 0 #[.val (.ref rr), .val (.int mm), .val (.ref rq), .val (.ref rt), .val (.int (1 : Int32)), .unset] [])) t → Steps p.tables e below (s₁.setTop (entryFrame m #[(.ref rr), (.int mm), (.ref rq), (.ref rt), (.int (1 : Int32))] 6)) t := fun t k => castTop (ef_5a1 m rr mm rq rt) k
  obtain ⟨_, _, ⟨T1, L1, k1, n1⟩, -, X1, ⟨Lc1, hQ1, l1, y1, z1⟩, st1⟩ := Jvm.LawKit.callS X0 hx (y := (⟨"skipstitch/table/PrefixTableOptimisedPinLaw", "chain", "([B[II)I"⟩ : MethodName)) hown (mvT hZ (hw _ (List.mem_of_getElem? (i := 23) rfl))) (mvT hZ (hw _ (List.mem_of_getElem? (i := 24) rfl))) (mvT hZ (hw _ (List.mem_of_getElem? (i := 4) rfl))) (mvT hZ (hw _ (List.mem_of_getElem? (i := 25) rfl))) (by decide) (backOf (W := 0) (rm7k1 l Z a0 hw [] rq rt fq fu h0 n0 Z0 A_rq A_rt (hfu)) hZ (hw _ (List.mem_of_getElem? (i := 25) rfl)) (hw _ (List.mem_of_getElem? (i := 4) rfl)) (by decide) (by decide)) (g := (mkF m 20 #[.val (.ref rr), .val (.int mm), .val (.ref rq), .val (.ref rt), .val (.int (1 : Int32)), .unset] [(.int (1 : Int32)), (.ref rt), (.ref rq)])) rfl (by rw [hml]; rfl) (argsL := [(.ref rq), (.ref rt), (.int (1 : Int32))]) (rest := []) (lenOf pd_2 rfl) rfl (by show 2 * 0 + _ ≤ _; exact Nat.le_of_eq rfl) (hb hby d5_20) (fun _ _ => ⟨rfl, e0, (by decide : 0 + 0 ≤ _), (by decide : 0 + 0 ≤ _)⟩)
  dsimp only [Pt.U, Pt.locs, Pt.cells, Pt.slots] at X1 l1 y1 z1 st1 hQ1
  subst y1 z1
  obtain ⟨rfl, N1q, e1⟩ := hQ1
  have N1 : Fr n0 L1 := by rw [l1]; exact Fr.app N0 N1q
  obtain ⟨cl2, Arcl2, hincl2, hatcl2⟩ := AF.at A_rr (j := (1 : Int32)) 1 (by decide) hin
  have pre3 : ∀ t, Steps p.tables e below (T1.setTop (mkF m 38 #[.val (.ref rr), .val (.int mm), .val (.ref rq), .val (.ref rt), .val (.int (1 : Int32)), .val (.int (r7k1_v fq fu))] [(.int (r7k1_v fq fu)), (.int (fr 1))])) t → Steps p.tables e below (s₁.setTop (entryFrame m #[(.ref rr), (.int mm), (.ref rq), (.ref rt), (.int (1 : Int32))] 6)) t := by
    intro t k
    refine pre0 _ ?_
    refine XS.iload X0.here hx rfl (hb hby d5_0) rfl ?_
    refine XS.iloadN X0.here hx rfl (hb hby d5_2) rfl ?_
    refine XS.icmpYes X0.here hx rfl (pc0 := 3) (pc' := 8) rfl (hb hby d5_3) rfl (tlt hc3).1 (by decide) (by decide) ?_
    refine XS.iload X0.here hx rfl (hb hby d5_8) rfl ?_
    refine XS.iconst X0.here hx rfl (hb hby d5_10) ?_
    refine XS.iadd X0.here hx rfl (hb hby d5_11) rfl ?_
    refine XS.iloadN X0.here hx rfl (hb hby d5_12) rfl ?_
    refine XS.icmpNo X0.here hx rfl (hb hby d5_13) rfl (tlt hc13).2.1 ?_
    refine XS.aloadN X0.here hx rfl (hb hby d5_16) rfl rfl ?_
    refine XS.aloadN X0.here hx rfl (hb hby d5_17) rfl rfl ?_
    refine XS.iload X0.here hx rfl (hb hby d5_18) rfl ?_
    refine st1 _ ?_
    refine XS.goto X1.here hx rfl (pc0 := 23) (pc' := 30) rfl (hb hby d5_23) (by decide) (by decide) ?_
    refine XS.istore X1.here hx rfl (hb hby d5_30) rfl (l' := #[.val (.ref rr), .val (.int mm), .val (.ref rq), .val (.ref rt), .val (.int (1 : Int32)), .val (.int (r7k1_v fq fu))]) rfl ?_
    refine XS.aloadN X1.here hx rfl (hb hby d5_32) rfl rfl ?_
    refine XS.iload X1.here hx rfl (hb hby d5_33) rfl ?_
    refine X1.iaload hx (j := (1 : Int32)) (v := (.int (fr 1))) (by rw [e1]; exact Arcl2.1) (State.isArrayOf_alike hZ.alike Arcl2.2.1) Arcl2.2.2 hincl2 hatcl2 (g := (mkF m 35 #[.val (.ref rr), .val (.int mm), .val (.ref rq), .val (.ref rt), .val (.int (1 : Int32)), .val (.int (r7k1_v fq fu))] [(.int (1 : Int32)), (.ref rr)])) rfl rfl (hb hby d5_35) _ ?_
    refine XS.iload X1.here hx rfl (hb hby d5_36) rfl ?_
    exact k
  by_cases hk4 : (fr 1) = (r7k1_v fq fu)
  · obtain ⟨fs, hr, hrun, hended, hW, hsame⟩ := X1.leave (v := some (.int (1 : Int32))) (fun h => by rw [Bd.returns] at h; cases h) (hlocks := Bd.notSynchronized)
    refine ⟨_, _, pre3 _ ?_, hrun, hended, _, _, rfl, ?_, ⟨_, rfl⟩, hW, hsame.mono (by decide) (by decide)⟩
    · show Steps p.tables e below (T1.setTop (mkF m 38 #[.val (.ref rr), .val (.int mm), .val (.ref rq), .val (.ref rt), .val (.int (1 : Int32)), .val (.int (r7k1_v fq fu))] [(.int (r7k1_v fq fu)), (.int (fr 1))])) _
      refine XS.icmpNo X1.here hx rfl (hb hby d5_38) rfl (teq hk4).2 ?_
      refine XS.iconst X1.here hx rfl (hb hby d5_41) ?_
      refine XS.goto X1.here hx rfl (pc0 := 42) (pc' := 46) rfl (hb hby d5_42) (by decide) (by decide) ?_
      exact retN X1 hx (t := .boolean) Bd.returns (by simp) (hb hby d5_46) hr
    · show Q5a1 Z rr mm rq rt fq fu fr nn h0 n0 _ T1.heap _
      rw [e1]
      have ev5 : (r5a1_v fq fu fr) = (1 : Int32) := by unfold r5a1_v; rw [if_pos hk4]
      exact ⟨(congrArg (fun z => some (Value.int z)) ev5.symm), N1, rfl⟩
  · obtain ⟨fs, hr, hrun, hended, hW, hsame⟩ := X1.leave (v := some (.int (0 : Int32))) (fun h => by rw [Bd.returns] at h; cases h) (hlocks := Bd.notSynchronized)
    refine ⟨_, _, pre3 _ ?_, hrun, hended, _, _, rfl, ?_, ⟨_, rfl⟩, hW, hsame.mono (by decide) (by decide)⟩
    · show Steps p.tables e below (T1.setTop (mkF m 38 #[.val (.ref rr), .val (.int mm), .val (.ref rq), .val (.ref rt), .val (.int (1 : Int32)), .val (.int (r7k1_v fq fu))] [(.int (r7k1_v fq fu)), (.int (fr 1))])) _
      refine XS.icmpYes X1.here hx rfl (pc0 := 38) (pc' := 45) rfl (hb hby d5_38) rfl (feq hk4).2 (by decide) (by decide) ?_
      refine XS.iconst X1.here hx rfl (hb hby d5_45) ?_
      exact retN X1 hx (t := .boolean) Bd.returns (by simp) (hb hby d5_46) hr
    · show Q5a1 Z rr mm rq rt fq fu fr nn h0 n0 _ T1.heap _
      rw [e1]
      have ev6 : (r5a1_v fq fu fr) = (0 : Int32) := by unfold r5a1_v; rw [if_neg hk4]
      exact ⟨(congrArg (fun z => some (Value.int z)) ev6.symm), N1, rfl⟩
theorem ef_5a2 (m : MethodId) (rr : Addr) (mm : Int32) (rq : Addr) (rt : Addr) : entryFrame m #[(.ref rr), (.int mm), (.ref rq), (.ref rt), (.int (2 : Int32))] 6 = mkF m 0 #[.val (.ref rr), .val (.int mm), .val (.ref rq), .val (.ref rt), .val (.int (2 : Int32)), .unset] [] := by first | (simp [entryFrame, mkF, argsToLocals, Value.category]; done) | rfl
def r5a2_v (fq : Nat → Int32) (fu : Nat → Int32) (fr : Nat → Int32) : Int32 := (if (fr 2) = (r7k2_v fq fu) then (1 : Int32) else (0 : Int32))
def Q5a2 (Z : State) (rr : Addr) (mm : Int32) (rq : Addr) (rt : Addr) (fq : Nat → Int32) (fu : Nat → Int32) (fr : Nat → Int32) (nn : Nat) (h0 : Heap) (n0 : Nat) (v : Option Value) (h : Heap) (L : List Loc) : Prop := v = some (.int (r5a2_v fq fu fr)) ∧ Fr n0 L ∧ h = h0
set_option maxRecDepth 65536 in
set_option maxHeartbeats 40000000 in
theorem rm5a2 (l : Launch) (Z : State) (a0 : Array Value) (hw : ∀ d ∈ tables_1, d.before a0 Z = true) (ws : List Jvm.Cond) (rr : Addr) (mm : Int32) (rq : Addr) (rt : Addr) (fq : Nat → Int32) (fu : Nat → Int32) (fr : Nat → Int32) (nn : Nat) (h0 : Heap) (n0 : Nat) (Z0 : n0 ≤ h0.size) (A_rr : AI Z h0 rr .int nn fr) (A_rq : AI Z h0 rq .byte 5 fq) (A_rt : AI Z h0 rt .int 5 fu) (hfu : ∀ j, j < 5 → 0 ≤ (fu j).toInt ∧ (fu j).toInt < 5) (hin : 2 < nn) (hc3 : ((2 : Int32) < mm)) (hc13 : ((3 : Int32) < mm)) :
    MetFree l (⟨"skipstitch/table/PrefixTableOptimisedPinLaw", "at", "([II[B[II)Z"⟩ : MethodName) (head1 (Jvm.Cond.code (⟨"skipstitch/table/PrefixTableOptimisedPinLaw", "at", "([II[B[II)Z"⟩ : MethodName) method_8_code 6 (some .boolean) :: ws) ({ frames := 2, cells := 0, slots := 0, locals := 31 } : Room)) (fun a U => a = #[(.ref rr), (.int mm), (.ref rq), (.ref rt), (.int (2 : Int32))] ∧ Z.Warmed39 U.vm ∧ U.heap = h0) (fun _ _ _ _ _ => True) (fun _ U o U' => ∃ v L, o = .returned v ∧ Q5a2 Z rr mm rq rt fq fu fr nn h0 n0 v U'.heap L ∧ FrameEnd U o U' L ({ frames := 2, cells := 0, slots := 0, locals := 31 } : Room).cells ({ frames := 2, cells := 0, slots := 0, locals := 31 } : Room).slots) := by
  refine MetFree.of_bodySF (plainFor_of_name pn_skipstitch_table_PrefixTableOptimisedPinLaw) hisR ?_
  intro p e s m args below meth c s₁ Bd hml0 hP hK
  obtain ⟨rfl, hZ, hh⟩ := hP
  have hx := Bd.exec
  have hby := Bd.bytes
  have hml : c.maxLocals = 6 := hml0
  have hown : s.vm.findClass "skipstitch/table/PrefixTableOptimisedPinLaw" = some m.cls := findClass_of_methodNamed Bd.named
  have hnm := (name_of_methodNamed Bd.named Bd.method).1
  have X0 : Stand p l e ({ frames := 2, cells := 0, slots := 0, locals := 31 } : Room) s m #[(.ref rr), (.int mm), (.ref rq), (.ref rt), (.int (2 : Int32))] below meth c s₁ [] 0 0 := Stand.of_body Bd
  have e0 : s₁.heap = h0 := by rw [← hh, Bd.state]; rfl
  have N0 := Fr.nil n0
  have K0 : Keep h0 h0 [] := Keep.refl h0 _
  have pre0 : ∀ t, Steps p.tables e below (s₁.setTop (mkF m 0 #[.val (.ref rr), .val (.int mm), .val (.ref rq), .val (.ref rt), .val (.int (2 : Int32)), .unset] [])) t → Steps p.tables e below (s₁.setTop (entryFrame m #[(.ref rr), (.int mm), (.ref rq), (.ref rt), (.int (2 : Int32))] 6)) t := fun t k => castTop (ef_5a2 m rr mm rq rt) k
  obtain ⟨_, _, ⟨T1, L1, k1, n1⟩, -, X1, ⟨Lc1, hQ1, l1, y1, z1⟩, st1⟩ := Jvm.LawKit.callS X0 hx (y := (⟨"skipstitch/table/PrefixTableOptimisedPinLaw", "chain", "([B[II)I"⟩ : MethodName)) hown (mvT hZ (hw _ (List.mem_of_getElem? (i := 23) rfl))) (mvT hZ (hw _ (List.mem_of_getElem? (i := 24) rfl))) (mvT hZ (hw _ (List.mem_of_getElem? (i := 4) rfl))) (mvT hZ (hw _ (List.mem_of_getElem? (i := 25) rfl))) (by decide) (backOf (W := 0) (rm7k2 l Z a0 hw [] rq rt fq fu h0 n0 Z0 A_rq A_rt (hfu)) hZ (hw _ (List.mem_of_getElem? (i := 25) rfl)) (hw _ (List.mem_of_getElem? (i := 4) rfl)) (by decide) (by decide)) (g := (mkF m 20 #[.val (.ref rr), .val (.int mm), .val (.ref rq), .val (.ref rt), .val (.int (2 : Int32)), .unset] [(.int (2 : Int32)), (.ref rt), (.ref rq)])) rfl (by rw [hml]; rfl) (argsL := [(.ref rq), (.ref rt), (.int (2 : Int32))]) (rest := []) (lenOf pd_2 rfl) rfl (by show 2 * 0 + _ ≤ _; exact Nat.le_of_eq rfl) (hb hby d5_20) (fun _ _ => ⟨rfl, e0, (by decide : 0 + 0 ≤ _), (by decide : 0 + 0 ≤ _)⟩)
  dsimp only [Pt.U, Pt.locs, Pt.cells, Pt.slots] at X1 l1 y1 z1 st1 hQ1
  subst y1 z1
  obtain ⟨rfl, N1q, e1⟩ := hQ1
  have N1 : Fr n0 L1 := by rw [l1]; exact Fr.app N0 N1q
  obtain ⟨cl2, Arcl2, hincl2, hatcl2⟩ := AF.at A_rr (j := (2 : Int32)) 2 (by decide) hin
  have pre3 : ∀ t, Steps p.tables e below (T1.setTop (mkF m 38 #[.val (.ref rr), .val (.int mm), .val (.ref rq), .val (.ref rt), .val (.int (2 : Int32)), .val (.int (r7k2_v fq fu))] [(.int (r7k2_v fq fu)), (.int (fr 2))])) t → Steps p.tables e below (s₁.setTop (entryFrame m #[(.ref rr), (.int mm), (.ref rq), (.ref rt), (.int (2 : Int32))] 6)) t := by
    intro t k
    refine pre0 _ ?_
    refine XS.iload X0.here hx rfl (hb hby d5_0) rfl ?_
    refine XS.iloadN X0.here hx rfl (hb hby d5_2) rfl ?_
    refine XS.icmpYes X0.here hx rfl (pc0 := 3) (pc' := 8) rfl (hb hby d5_3) rfl (tlt hc3).1 (by decide) (by decide) ?_
    refine XS.iload X0.here hx rfl (hb hby d5_8) rfl ?_
    refine XS.iconst X0.here hx rfl (hb hby d5_10) ?_
    refine XS.iadd X0.here hx rfl (hb hby d5_11) rfl ?_
    refine XS.iloadN X0.here hx rfl (hb hby d5_12) rfl ?_
    refine XS.icmpNo X0.here hx rfl (hb hby d5_13) rfl (tlt hc13).2.1 ?_
    refine XS.aloadN X0.here hx rfl (hb hby d5_16) rfl rfl ?_
    refine XS.aloadN X0.here hx rfl (hb hby d5_17) rfl rfl ?_
    refine XS.iload X0.here hx rfl (hb hby d5_18) rfl ?_
    refine st1 _ ?_
    refine XS.goto X1.here hx rfl (pc0 := 23) (pc' := 30) rfl (hb hby d5_23) (by decide) (by decide) ?_
    refine XS.istore X1.here hx rfl (hb hby d5_30) rfl (l' := #[.val (.ref rr), .val (.int mm), .val (.ref rq), .val (.ref rt), .val (.int (2 : Int32)), .val (.int (r7k2_v fq fu))]) rfl ?_
    refine XS.aloadN X1.here hx rfl (hb hby d5_32) rfl rfl ?_
    refine XS.iload X1.here hx rfl (hb hby d5_33) rfl ?_
    refine X1.iaload hx (j := (2 : Int32)) (v := (.int (fr 2))) (by rw [e1]; exact Arcl2.1) (State.isArrayOf_alike hZ.alike Arcl2.2.1) Arcl2.2.2 hincl2 hatcl2 (g := (mkF m 35 #[.val (.ref rr), .val (.int mm), .val (.ref rq), .val (.ref rt), .val (.int (2 : Int32)), .val (.int (r7k2_v fq fu))] [(.int (2 : Int32)), (.ref rr)])) rfl rfl (hb hby d5_35) _ ?_
    refine XS.iload X1.here hx rfl (hb hby d5_36) rfl ?_
    exact k
  by_cases hk4 : (fr 2) = (r7k2_v fq fu)
  · obtain ⟨fs, hr, hrun, hended, hW, hsame⟩ := X1.leave (v := some (.int (1 : Int32))) (fun h => by rw [Bd.returns] at h; cases h) (hlocks := Bd.notSynchronized)
    refine ⟨_, _, pre3 _ ?_, hrun, hended, _, _, rfl, ?_, ⟨_, rfl⟩, hW, hsame.mono (by decide) (by decide)⟩
    · show Steps p.tables e below (T1.setTop (mkF m 38 #[.val (.ref rr), .val (.int mm), .val (.ref rq), .val (.ref rt), .val (.int (2 : Int32)), .val (.int (r7k2_v fq fu))] [(.int (r7k2_v fq fu)), (.int (fr 2))])) _
      refine XS.icmpNo X1.here hx rfl (hb hby d5_38) rfl (teq hk4).2 ?_
      refine XS.iconst X1.here hx rfl (hb hby d5_41) ?_
      refine XS.goto X1.here hx rfl (pc0 := 42) (pc' := 46) rfl (hb hby d5_42) (by decide) (by decide) ?_
      exact retN X1 hx (t := .boolean) Bd.returns (by simp) (hb hby d5_46) hr
    · show Q5a2 Z rr mm rq rt fq fu fr nn h0 n0 _ T1.heap _
      rw [e1]
      have ev5 : (r5a2_v fq fu fr) = (1 : Int32) := by unfold r5a2_v; rw [if_pos hk4]
      exact ⟨(congrArg (fun z => some (Value.int z)) ev5.symm), N1, rfl⟩
  · obtain ⟨fs, hr, hrun, hended, hW, hsame⟩ := X1.leave (v := some (.int (0 : Int32))) (fun h => by rw [Bd.returns] at h; cases h) (hlocks := Bd.notSynchronized)
    refine ⟨_, _, pre3 _ ?_, hrun, hended, _, _, rfl, ?_, ⟨_, rfl⟩, hW, hsame.mono (by decide) (by decide)⟩
    · show Steps p.tables e below (T1.setTop (mkF m 38 #[.val (.ref rr), .val (.int mm), .val (.ref rq), .val (.ref rt), .val (.int (2 : Int32)), .val (.int (r7k2_v fq fu))] [(.int (r7k2_v fq fu)), (.int (fr 2))])) _
      refine XS.icmpYes X1.here hx rfl (pc0 := 38) (pc' := 45) rfl (hb hby d5_38) rfl (feq hk4).2 (by decide) (by decide) ?_
      refine XS.iconst X1.here hx rfl (hb hby d5_45) ?_
      exact retN X1 hx (t := .boolean) Bd.returns (by simp) (hb hby d5_46) hr
    · show Q5a2 Z rr mm rq rt fq fu fr nn h0 n0 _ T1.heap _
      rw [e1]
      have ev6 : (r5a2_v fq fu fr) = (0 : Int32) := by unfold r5a2_v; rw [if_neg hk4]
      exact ⟨(congrArg (fun z => some (Value.int z)) ev6.symm), N1, rfl⟩
theorem ef_5a3 (m : MethodId) (rr : Addr) (mm : Int32) (rq : Addr) (rt : Addr) : entryFrame m #[(.ref rr), (.int mm), (.ref rq), (.ref rt), (.int (3 : Int32))] 6 = mkF m 0 #[.val (.ref rr), .val (.int mm), .val (.ref rq), .val (.ref rt), .val (.int (3 : Int32)), .unset] [] := by first | (simp [entryFrame, mkF, argsToLocals, Value.category]; done) | rfl
def r5a3_v (fq : Nat → Int32) (fu : Nat → Int32) (fr : Nat → Int32) : Int32 := (if (fr 3) = (r7k3_v fq fu) then (1 : Int32) else (0 : Int32))
def Q5a3 (Z : State) (rr : Addr) (mm : Int32) (rq : Addr) (rt : Addr) (fq : Nat → Int32) (fu : Nat → Int32) (fr : Nat → Int32) (nn : Nat) (h0 : Heap) (n0 : Nat) (v : Option Value) (h : Heap) (L : List Loc) : Prop := v = some (.int (r5a3_v fq fu fr)) ∧ Fr n0 L ∧ h = h0
set_option maxRecDepth 65536 in
set_option maxHeartbeats 40000000 in
theorem rm5a3 (l : Launch) (Z : State) (a0 : Array Value) (hw : ∀ d ∈ tables_1, d.before a0 Z = true) (ws : List Jvm.Cond) (rr : Addr) (mm : Int32) (rq : Addr) (rt : Addr) (fq : Nat → Int32) (fu : Nat → Int32) (fr : Nat → Int32) (nn : Nat) (h0 : Heap) (n0 : Nat) (Z0 : n0 ≤ h0.size) (A_rr : AI Z h0 rr .int nn fr) (A_rq : AI Z h0 rq .byte 5 fq) (A_rt : AI Z h0 rt .int 5 fu) (hfu : ∀ j, j < 5 → 0 ≤ (fu j).toInt ∧ (fu j).toInt < 5) (hin : 3 < nn) (hc3 : ((3 : Int32) < mm)) (hc13 : ((4 : Int32) < mm)) :
    MetFree l (⟨"skipstitch/table/PrefixTableOptimisedPinLaw", "at", "([II[B[II)Z"⟩ : MethodName) (head1 (Jvm.Cond.code (⟨"skipstitch/table/PrefixTableOptimisedPinLaw", "at", "([II[B[II)Z"⟩ : MethodName) method_8_code 6 (some .boolean) :: ws) ({ frames := 2, cells := 0, slots := 0, locals := 31 } : Room)) (fun a U => a = #[(.ref rr), (.int mm), (.ref rq), (.ref rt), (.int (3 : Int32))] ∧ Z.Warmed39 U.vm ∧ U.heap = h0) (fun _ _ _ _ _ => True) (fun _ U o U' => ∃ v L, o = .returned v ∧ Q5a3 Z rr mm rq rt fq fu fr nn h0 n0 v U'.heap L ∧ FrameEnd U o U' L ({ frames := 2, cells := 0, slots := 0, locals := 31 } : Room).cells ({ frames := 2, cells := 0, slots := 0, locals := 31 } : Room).slots) := by
  refine MetFree.of_bodySF (plainFor_of_name pn_skipstitch_table_PrefixTableOptimisedPinLaw) hisR ?_
  intro p e s m args below meth c s₁ Bd hml0 hP hK
  obtain ⟨rfl, hZ, hh⟩ := hP
  have hx := Bd.exec
  have hby := Bd.bytes
  have hml : c.maxLocals = 6 := hml0
  have hown : s.vm.findClass "skipstitch/table/PrefixTableOptimisedPinLaw" = some m.cls := findClass_of_methodNamed Bd.named
  have hnm := (name_of_methodNamed Bd.named Bd.method).1
  have X0 : Stand p l e ({ frames := 2, cells := 0, slots := 0, locals := 31 } : Room) s m #[(.ref rr), (.int mm), (.ref rq), (.ref rt), (.int (3 : Int32))] below meth c s₁ [] 0 0 := Stand.of_body Bd
  have e0 : s₁.heap = h0 := by rw [← hh, Bd.state]; rfl
  have N0 := Fr.nil n0
  have K0 : Keep h0 h0 [] := Keep.refl h0 _
  have pre0 : ∀ t, Steps p.tables e below (s₁.setTop (mkF m 0 #[.val (.ref rr), .val (.int mm), .val (.ref rq), .val (.ref rt), .val (.int (3 : Int32)), .unset] [])) t → Steps p.tables e below (s₁.setTop (entryFrame m #[(.ref rr), (.int mm), (.ref rq), (.ref rt), (.int (3 : Int32))] 6)) t := fun t k => castTop (ef_5a3 m rr mm rq rt) k
  obtain ⟨_, _, ⟨T1, L1, k1, n1⟩, -, X1, ⟨Lc1, hQ1, l1, y1, z1⟩, st1⟩ := Jvm.LawKit.callS X0 hx (y := (⟨"skipstitch/table/PrefixTableOptimisedPinLaw", "chain", "([B[II)I"⟩ : MethodName)) hown (mvT hZ (hw _ (List.mem_of_getElem? (i := 23) rfl))) (mvT hZ (hw _ (List.mem_of_getElem? (i := 24) rfl))) (mvT hZ (hw _ (List.mem_of_getElem? (i := 4) rfl))) (mvT hZ (hw _ (List.mem_of_getElem? (i := 25) rfl))) (by decide) (backOf (W := 0) (rm7k3 l Z a0 hw [] rq rt fq fu h0 n0 Z0 A_rq A_rt (hfu)) hZ (hw _ (List.mem_of_getElem? (i := 25) rfl)) (hw _ (List.mem_of_getElem? (i := 4) rfl)) (by decide) (by decide)) (g := (mkF m 20 #[.val (.ref rr), .val (.int mm), .val (.ref rq), .val (.ref rt), .val (.int (3 : Int32)), .unset] [(.int (3 : Int32)), (.ref rt), (.ref rq)])) rfl (by rw [hml]; rfl) (argsL := [(.ref rq), (.ref rt), (.int (3 : Int32))]) (rest := []) (lenOf pd_2 rfl) rfl (by show 2 * 0 + _ ≤ _; exact Nat.le_of_eq rfl) (hb hby d5_20) (fun _ _ => ⟨rfl, e0, (by decide : 0 + 0 ≤ _), (by decide : 0 + 0 ≤ _)⟩)
  dsimp only [Pt.U, Pt.locs, Pt.cells, Pt.slots] at X1 l1 y1 z1 st1 hQ1
  subst y1 z1
  obtain ⟨rfl, N1q, e1⟩ := hQ1
  have N1 : Fr n0 L1 := by rw [l1]; exact Fr.app N0 N1q
  obtain ⟨cl2, Arcl2, hincl2, hatcl2⟩ := AF.at A_rr (j := (3 : Int32)) 3 (by decide) hin
  have pre3 : ∀ t, Steps p.tables e below (T1.setTop (mkF m 38 #[.val (.ref rr), .val (.int mm), .val (.ref rq), .val (.ref rt), .val (.int (3 : Int32)), .val (.int (r7k3_v fq fu))] [(.int (r7k3_v fq fu)), (.int (fr 3))])) t → Steps p.tables e below (s₁.setTop (entryFrame m #[(.ref rr), (.int mm), (.ref rq), (.ref rt), (.int (3 : Int32))] 6)) t := by
    intro t k
    refine pre0 _ ?_
    refine XS.iload X0.here hx rfl (hb hby d5_0) rfl ?_
    refine XS.iloadN X0.here hx rfl (hb hby d5_2) rfl ?_
    refine XS.icmpYes X0.here hx rfl (pc0 := 3) (pc' := 8) rfl (hb hby d5_3) rfl (tlt hc3).1 (by decide) (by decide) ?_
    refine XS.iload X0.here hx rfl (hb hby d5_8) rfl ?_
    refine XS.iconst X0.here hx rfl (hb hby d5_10) ?_
    refine XS.iadd X0.here hx rfl (hb hby d5_11) rfl ?_
    refine XS.iloadN X0.here hx rfl (hb hby d5_12) rfl ?_
    refine XS.icmpNo X0.here hx rfl (hb hby d5_13) rfl (tlt hc13).2.1 ?_
    refine XS.aloadN X0.here hx rfl (hb hby d5_16) rfl rfl ?_
    refine XS.aloadN X0.here hx rfl (hb hby d5_17) rfl rfl ?_
    refine XS.iload X0.here hx rfl (hb hby d5_18) rfl ?_
    refine st1 _ ?_
    refine XS.goto X1.here hx rfl (pc0 := 23) (pc' := 30) rfl (hb hby d5_23) (by decide) (by decide) ?_
    refine XS.istore X1.here hx rfl (hb hby d5_30) rfl (l' := #[.val (.ref rr), .val (.int mm), .val (.ref rq), .val (.ref rt), .val (.int (3 : Int32)), .val (.int (r7k3_v fq fu))]) rfl ?_
    refine XS.aloadN X1.here hx rfl (hb hby d5_32) rfl rfl ?_
    refine XS.iload X1.here hx rfl (hb hby d5_33) rfl ?_
    refine X1.iaload hx (j := (3 : Int32)) (v := (.int (fr 3))) (by rw [e1]; exact Arcl2.1) (State.isArrayOf_alike hZ.alike Arcl2.2.1) Arcl2.2.2 hincl2 hatcl2 (g := (mkF m 35 #[.val (.ref rr), .val (.int mm), .val (.ref rq), .val (.ref rt), .val (.int (3 : Int32)), .val (.int (r7k3_v fq fu))] [(.int (3 : Int32)), (.ref rr)])) rfl rfl (hb hby d5_35) _ ?_
    refine XS.iload X1.here hx rfl (hb hby d5_36) rfl ?_
    exact k
  by_cases hk4 : (fr 3) = (r7k3_v fq fu)
  · obtain ⟨fs, hr, hrun, hended, hW, hsame⟩ := X1.leave (v := some (.int (1 : Int32))) (fun h => by rw [Bd.returns] at h; cases h) (hlocks := Bd.notSynchronized)
    refine ⟨_, _, pre3 _ ?_, hrun, hended, _, _, rfl, ?_, ⟨_, rfl⟩, hW, hsame.mono (by decide) (by decide)⟩
    · show Steps p.tables e below (T1.setTop (mkF m 38 #[.val (.ref rr), .val (.int mm), .val (.ref rq), .val (.ref rt), .val (.int (3 : Int32)), .val (.int (r7k3_v fq fu))] [(.int (r7k3_v fq fu)), (.int (fr 3))])) _
      refine XS.icmpNo X1.here hx rfl (hb hby d5_38) rfl (teq hk4).2 ?_
      refine XS.iconst X1.here hx rfl (hb hby d5_41) ?_
      refine XS.goto X1.here hx rfl (pc0 := 42) (pc' := 46) rfl (hb hby d5_42) (by decide) (by decide) ?_
      exact retN X1 hx (t := .boolean) Bd.returns (by simp) (hb hby d5_46) hr
    · show Q5a3 Z rr mm rq rt fq fu fr nn h0 n0 _ T1.heap _
      rw [e1]
      have ev5 : (r5a3_v fq fu fr) = (1 : Int32) := by unfold r5a3_v; rw [if_pos hk4]
      exact ⟨(congrArg (fun z => some (Value.int z)) ev5.symm), N1, rfl⟩
  · obtain ⟨fs, hr, hrun, hended, hW, hsame⟩ := X1.leave (v := some (.int (0 : Int32))) (fun h => by rw [Bd.returns] at h; cases h) (hlocks := Bd.notSynchronized)
    refine ⟨_, _, pre3 _ ?_, hrun, hended, _, _, rfl, ?_, ⟨_, rfl⟩, hW, hsame.mono (by decide) (by decide)⟩
    · show Steps p.tables e below (T1.setTop (mkF m 38 #[.val (.ref rr), .val (.int mm), .val (.ref rq), .val (.ref rt), .val (.int (3 : Int32)), .val (.int (r7k3_v fq fu))] [(.int (r7k3_v fq fu)), (.int (fr 3))])) _
      refine XS.icmpYes X1.here hx rfl (pc0 := 38) (pc' := 45) rfl (hb hby d5_38) rfl (feq hk4).2 (by decide) (by decide) ?_
      refine XS.iconst X1.here hx rfl (hb hby d5_45) ?_
      exact retN X1 hx (t := .boolean) Bd.returns (by simp) (hb hby d5_46) hr
    · show Q5a3 Z rr mm rq rt fq fu fr nn h0 n0 _ T1.heap _
      rw [e1]
      have ev6 : (r5a3_v fq fu fr) = (0 : Int32) := by unfold r5a3_v; rw [if_neg hk4]
      exact ⟨(congrArg (fun z => some (Value.int z)) ev6.symm), N1, rfl⟩
theorem ef_5b0 (m : MethodId) (rr : Addr) (mm : Int32) (rq : Addr) (rt : Addr) : entryFrame m #[(.ref rr), (.int mm), (.ref rq), (.ref rt), (.int (0 : Int32))] 6 = mkF m 0 #[.val (.ref rr), .val (.int mm), .val (.ref rq), .val (.ref rt), .val (.int (0 : Int32)), .unset] [] := by first | (simp [entryFrame, mkF, argsToLocals, Value.category]; done) | rfl
theorem d5_26 : decode method_8_code 26 = .ok (.aload_n 3, 1) := by decide +kernel
theorem d5_27 : decode method_8_code 27 = .ok (.iload 4, 2) := by decide +kernel
theorem d5_29 : decode method_8_code 29 = .ok (.iaload, 1) := by decide +kernel
def r5b0_v (fu : Nat → Int32) (fr : Nat → Int32) : Int32 := (if (fr 0) = (fu 0) then (1 : Int32) else (0 : Int32))
def Q5b0 (Z : State) (rr : Addr) (mm : Int32) (rq : Addr) (rt : Addr) (fu : Nat → Int32) (fr : Nat → Int32) (nn : Nat) (h0 : Heap) (n0 : Nat) (v : Option Value) (h : Heap) (L : List Loc) : Prop := v = some (.int (r5b0_v fu fr)) ∧ Fr n0 L ∧ h = h0
set_option maxRecDepth 65536 in
set_option maxHeartbeats 40000000 in
theorem rm5b0 (l : Launch) (Z : State) (a0 : Array Value) (hw : ∀ d ∈ tables_1, d.before a0 Z = true) (ws : List Jvm.Cond) (rr : Addr) (mm : Int32) (rq : Addr) (rt : Addr) (fu : Nat → Int32) (fr : Nat → Int32) (nn : Nat) (h0 : Heap) (n0 : Nat) (Z0 : n0 ≤ h0.size) (A_rr : AI Z h0 rr .int nn fr) (A_rt : AI Z h0 rt .int 5 fu) (hin : 0 < nn) (hc3 : ((0 : Int32) < mm)) (hc13 : ¬ ((1 : Int32) < mm)) :
    MetFree l (⟨"skipstitch/table/PrefixTableOptimisedPinLaw", "at", "([II[B[II)Z"⟩ : MethodName) (head1 (Jvm.Cond.code (⟨"skipstitch/table/PrefixTableOptimisedPinLaw", "at", "([II[B[II)Z"⟩ : MethodName) method_8_code 6 (some .boolean) :: ws) ({ frames := 0, cells := 0, slots := 0, locals := 0 } : Room)) (fun a U => a = #[(.ref rr), (.int mm), (.ref rq), (.ref rt), (.int (0 : Int32))] ∧ Z.Warmed39 U.vm ∧ U.heap = h0) (fun _ _ _ _ _ => True) (fun _ U o U' => ∃ v L, o = .returned v ∧ Q5b0 Z rr mm rq rt fu fr nn h0 n0 v U'.heap L ∧ FrameEnd U o U' L ({ frames := 0, cells := 0, slots := 0, locals := 0 } : Room).cells ({ frames := 0, cells := 0, slots := 0, locals := 0 } : Room).slots) := by
  refine MetFree.of_bodySF (plainFor_of_name pn_skipstitch_table_PrefixTableOptimisedPinLaw) hisR ?_
  intro p e s m args below meth c s₁ Bd hml0 hP hK
  obtain ⟨rfl, hZ, hh⟩ := hP
  have hx := Bd.exec
  have hby := Bd.bytes
  have hml : c.maxLocals = 6 := hml0
  have hown : s.vm.findClass "skipstitch/table/PrefixTableOptimisedPinLaw" = some m.cls := findClass_of_methodNamed Bd.named
  have hnm := (name_of_methodNamed Bd.named Bd.method).1
  have X0 : Stand p l e ({ frames := 0, cells := 0, slots := 0, locals := 0 } : Room) s m #[(.ref rr), (.int mm), (.ref rq), (.ref rt), (.int (0 : Int32))] below meth c s₁ [] 0 0 := Stand.of_body Bd
  have e0 : s₁.heap = h0 := by rw [← hh, Bd.state]; rfl
  have N0 := Fr.nil n0
  have K0 : Keep h0 h0 [] := Keep.refl h0 _
  have pre0 : ∀ t, Steps p.tables e below (s₁.setTop (mkF m 0 #[.val (.ref rr), .val (.int mm), .val (.ref rq), .val (.ref rt), .val (.int (0 : Int32)), .unset] [])) t → Steps p.tables e below (s₁.setTop (entryFrame m #[(.ref rr), (.int mm), (.ref rq), (.ref rt), (.int (0 : Int32))] 6)) t := fun t k => castTop (ef_5b0 m rr mm rq rt) k
  obtain ⟨cl1, Arcl1, hincl1, hatcl1⟩ := AF.at A_rt (j := (0 : Int32)) 0 (by decide) (by decide)
  obtain ⟨cl2, Arcl2, hincl2, hatcl2⟩ := AF.at A_rr (j := (0 : Int32)) 0 (by decide) hin
  have pre3 : ∀ t, Steps p.tables e below (s₁.setTop (mkF m 38 #[.val (.ref rr), .val (.int mm), .val (.ref rq), .val (.ref rt), .val (.int (0 : Int32)), .val (.int (fu 0))] [(.int (fu 0)), (.int (fr 0))])) t → Steps p.tables e below (s₁.setTop (entryFrame m #[(.ref rr), (.int mm), (.ref rq), (.ref rt), (.int (0 : Int32))] 6)) t := by
    intro t k
    refine pre0 _ ?_
    refine XS.iload X0.here hx rfl (hb hby d5_0) rfl ?_
    refine XS.iloadN X0.here hx rfl (hb hby d5_2) rfl ?_
    refine XS.icmpYes X0.here hx rfl (pc0 := 3) (pc' := 8) rfl (hb hby d5_3) rfl (tlt hc3).1 (by decide) (by decide) ?_
    refine XS.iload X0.here hx rfl (hb hby d5_8) rfl ?_
    refine XS.iconst X0.here hx rfl (hb hby d5_10) ?_
    refine XS.iadd X0.here hx rfl (hb hby d5_11) rfl ?_
    refine XS.iloadN X0.here hx rfl (hb hby d5_12) rfl ?_
    refine XS.icmpYes X0.here hx rfl (pc0 := 13) (pc' := 26) rfl (hb hby d5_13) rfl (flt hc13).2.1 (by decide) (by decide) ?_
    refine XS.aloadN X0.here hx rfl (hb hby d5_26) rfl rfl ?_
    refine XS.iload X0.here hx rfl (hb hby d5_27) rfl ?_
    refine X0.iaload hx (j := (0 : Int32)) (v := (.int (fu 0))) (by rw [e0]; exact Arcl1.1) (State.isArrayOf_alike hZ.alike Arcl1.2.1) Arcl1.2.2 hincl1 hatcl1 (g := (mkF m 29 #[.val (.ref rr), .val (.int mm), .val (.ref rq), .val (.ref rt), .val (.int (0 : Int32)), .unset] [(.int (0 : Int32)), (.ref rt)])) rfl rfl (hb hby d5_29) _ ?_
    refine XS.istore X0.here hx rfl (hb hby d5_30) rfl (l' := #[.val (.ref rr), .val (.int mm), .val (.ref rq), .val (.ref rt), .val (.int (0 : Int32)), .val (.int (fu 0))]) rfl ?_
    refine XS.aloadN X0.here hx rfl (hb hby d5_32) rfl rfl ?_
    refine XS.iload X0.here hx rfl (hb hby d5_33) rfl ?_
    refine X0.iaload hx (j := (0 : Int32)) (v := (.int (fr 0))) (by rw [e0]; exact Arcl2.1) (State.isArrayOf_alike hZ.alike Arcl2.2.1) Arcl2.2.2 hincl2 hatcl2 (g := (mkF m 35 #[.val (.ref rr), .val (.int mm), .val (.ref rq), .val (.ref rt), .val (.int (0 : Int32)), .val (.int (fu 0))] [(.int (0 : Int32)), (.ref rr)])) rfl rfl (hb hby d5_35) _ ?_
    refine XS.iload X0.here hx rfl (hb hby d5_36) rfl ?_
    exact k
  by_cases hk4 : (fr 0) = (fu 0)
  · obtain ⟨fs, hr, hrun, hended, hW, hsame⟩ := X0.leave (v := some (.int (1 : Int32))) (fun h => by rw [Bd.returns] at h; cases h) (hlocks := Bd.notSynchronized)
    refine ⟨_, _, pre3 _ ?_, hrun, hended, _, _, rfl, ?_, ⟨_, rfl⟩, hW, hsame.mono (by decide) (by decide)⟩
    · show Steps p.tables e below (s₁.setTop (mkF m 38 #[.val (.ref rr), .val (.int mm), .val (.ref rq), .val (.ref rt), .val (.int (0 : Int32)), .val (.int (fu 0))] [(.int (fu 0)), (.int (fr 0))])) _
      refine XS.icmpNo X0.here hx rfl (hb hby d5_38) rfl (teq hk4).2 ?_
      refine XS.iconst X0.here hx rfl (hb hby d5_41) ?_
      refine XS.goto X0.here hx rfl (pc0 := 42) (pc' := 46) rfl (hb hby d5_42) (by decide) (by decide) ?_
      exact retN X0 hx (t := .boolean) Bd.returns (by simp) (hb hby d5_46) hr
    · show Q5b0 Z rr mm rq rt fu fr nn h0 n0 _ s₁.heap _
      rw [e0]
      have ev5 : (r5b0_v fu fr) = (1 : Int32) := by unfold r5b0_v; rw [if_pos hk4]
      exact ⟨(congrArg (fun z => some (Value.int z)) ev5.symm), N0, rfl⟩
  · obtain ⟨fs, hr, hrun, hended, hW, hsame⟩ := X0.leave (v := some (.int (0 : Int32))) (fun h => by rw [Bd.returns] at h; cases h) (hlocks := Bd.notSynchronized)
    refine ⟨_, _, pre3 _ ?_, hrun, hended, _, _, rfl, ?_, ⟨_, rfl⟩, hW, hsame.mono (by decide) (by decide)⟩
    · show Steps p.tables e below (s₁.setTop (mkF m 38 #[.val (.ref rr), .val (.int mm), .val (.ref rq), .val (.ref rt), .val (.int (0 : Int32)), .val (.int (fu 0))] [(.int (fu 0)), (.int (fr 0))])) _
      refine XS.icmpYes X0.here hx rfl (pc0 := 38) (pc' := 45) rfl (hb hby d5_38) rfl (feq hk4).2 (by decide) (by decide) ?_
      refine XS.iconst X0.here hx rfl (hb hby d5_45) ?_
      exact retN X0 hx (t := .boolean) Bd.returns (by simp) (hb hby d5_46) hr
    · show Q5b0 Z rr mm rq rt fu fr nn h0 n0 _ s₁.heap _
      rw [e0]
      have ev6 : (r5b0_v fu fr) = (0 : Int32) := by unfold r5b0_v; rw [if_neg hk4]
      exact ⟨(congrArg (fun z => some (Value.int z)) ev6.symm), N0, rfl⟩
theorem ef_5b1 (m : MethodId) (rr : Addr) (mm : Int32) (rq : Addr) (rt : Addr) : entryFrame m #[(.ref rr), (.int mm), (.ref rq), (.ref rt), (.int (1 : Int32))] 6 = mkF m 0 #[.val (.ref rr), .val (.int mm), .val (.ref rq), .val (.ref rt), .val (.int (1 : Int32)), .unset] [] := by first | (simp [entryFrame, mkF, argsToLocals, Value.category]; done) | rfl
def r5b1_v (fu : Nat → Int32) (fr : Nat → Int32) : Int32 := (if (fr 1) = (fu 1) then (1 : Int32) else (0 : Int32))
def Q5b1 (Z : State) (rr : Addr) (mm : Int32) (rq : Addr) (rt : Addr) (fu : Nat → Int32) (fr : Nat → Int32) (nn : Nat) (h0 : Heap) (n0 : Nat) (v : Option Value) (h : Heap) (L : List Loc) : Prop := v = some (.int (r5b1_v fu fr)) ∧ Fr n0 L ∧ h = h0
set_option maxRecDepth 65536 in
set_option maxHeartbeats 40000000 in
theorem rm5b1 (l : Launch) (Z : State) (a0 : Array Value) (hw : ∀ d ∈ tables_1, d.before a0 Z = true) (ws : List Jvm.Cond) (rr : Addr) (mm : Int32) (rq : Addr) (rt : Addr) (fu : Nat → Int32) (fr : Nat → Int32) (nn : Nat) (h0 : Heap) (n0 : Nat) (Z0 : n0 ≤ h0.size) (A_rr : AI Z h0 rr .int nn fr) (A_rt : AI Z h0 rt .int 5 fu) (hin : 1 < nn) (hc3 : ((1 : Int32) < mm)) (hc13 : ¬ ((2 : Int32) < mm)) :
    MetFree l (⟨"skipstitch/table/PrefixTableOptimisedPinLaw", "at", "([II[B[II)Z"⟩ : MethodName) (head1 (Jvm.Cond.code (⟨"skipstitch/table/PrefixTableOptimisedPinLaw", "at", "([II[B[II)Z"⟩ : MethodName) method_8_code 6 (some .boolean) :: ws) ({ frames := 0, cells := 0, slots := 0, locals := 0 } : Room)) (fun a U => a = #[(.ref rr), (.int mm), (.ref rq), (.ref rt), (.int (1 : Int32))] ∧ Z.Warmed39 U.vm ∧ U.heap = h0) (fun _ _ _ _ _ => True) (fun _ U o U' => ∃ v L, o = .returned v ∧ Q5b1 Z rr mm rq rt fu fr nn h0 n0 v U'.heap L ∧ FrameEnd U o U' L ({ frames := 0, cells := 0, slots := 0, locals := 0 } : Room).cells ({ frames := 0, cells := 0, slots := 0, locals := 0 } : Room).slots) := by
  refine MetFree.of_bodySF (plainFor_of_name pn_skipstitch_table_PrefixTableOptimisedPinLaw) hisR ?_
  intro p e s m args below meth c s₁ Bd hml0 hP hK
  obtain ⟨rfl, hZ, hh⟩ := hP
  have hx := Bd.exec
  have hby := Bd.bytes
  have hml : c.maxLocals = 6 := hml0
  have hown : s.vm.findClass "skipstitch/table/PrefixTableOptimisedPinLaw" = some m.cls := findClass_of_methodNamed Bd.named
  have hnm := (name_of_methodNamed Bd.named Bd.method).1
  have X0 : Stand p l e ({ frames := 0, cells := 0, slots := 0, locals := 0 } : Room) s m #[(.ref rr), (.int mm), (.ref rq), (.ref rt), (.int (1 : Int32))] below meth c s₁ [] 0 0 := Stand.of_body Bd
  have e0 : s₁.heap = h0 := by rw [← hh, Bd.state]; rfl
  have N0 := Fr.nil n0
  have K0 : Keep h0 h0 [] := Keep.refl h0 _
  have pre0 : ∀ t, Steps p.tables e below (s₁.setTop (mkF m 0 #[.val (.ref rr), .val (.int mm), .val (.ref rq), .val (.ref rt), .val (.int (1 : Int32)), .unset] [])) t → Steps p.tables e below (s₁.setTop (entryFrame m #[(.ref rr), (.int mm), (.ref rq), (.ref rt), (.int (1 : Int32))] 6)) t := fun t k => castTop (ef_5b1 m rr mm rq rt) k
  obtain ⟨cl1, Arcl1, hincl1, hatcl1⟩ := AF.at A_rt (j := (1 : Int32)) 1 (by decide) (by decide)
  obtain ⟨cl2, Arcl2, hincl2, hatcl2⟩ := AF.at A_rr (j := (1 : Int32)) 1 (by decide) hin
  have pre3 : ∀ t, Steps p.tables e below (s₁.setTop (mkF m 38 #[.val (.ref rr), .val (.int mm), .val (.ref rq), .val (.ref rt), .val (.int (1 : Int32)), .val (.int (fu 1))] [(.int (fu 1)), (.int (fr 1))])) t → Steps p.tables e below (s₁.setTop (entryFrame m #[(.ref rr), (.int mm), (.ref rq), (.ref rt), (.int (1 : Int32))] 6)) t := by
    intro t k
    refine pre0 _ ?_
    refine XS.iload X0.here hx rfl (hb hby d5_0) rfl ?_
    refine XS.iloadN X0.here hx rfl (hb hby d5_2) rfl ?_
    refine XS.icmpYes X0.here hx rfl (pc0 := 3) (pc' := 8) rfl (hb hby d5_3) rfl (tlt hc3).1 (by decide) (by decide) ?_
    refine XS.iload X0.here hx rfl (hb hby d5_8) rfl ?_
    refine XS.iconst X0.here hx rfl (hb hby d5_10) ?_
    refine XS.iadd X0.here hx rfl (hb hby d5_11) rfl ?_
    refine XS.iloadN X0.here hx rfl (hb hby d5_12) rfl ?_
    refine XS.icmpYes X0.here hx rfl (pc0 := 13) (pc' := 26) rfl (hb hby d5_13) rfl (flt hc13).2.1 (by decide) (by decide) ?_
    refine XS.aloadN X0.here hx rfl (hb hby d5_26) rfl rfl ?_
    refine XS.iload X0.here hx rfl (hb hby d5_27) rfl ?_
    refine X0.iaload hx (j := (1 : Int32)) (v := (.int (fu 1))) (by rw [e0]; exact Arcl1.1) (State.isArrayOf_alike hZ.alike Arcl1.2.1) Arcl1.2.2 hincl1 hatcl1 (g := (mkF m 29 #[.val (.ref rr), .val (.int mm), .val (.ref rq), .val (.ref rt), .val (.int (1 : Int32)), .unset] [(.int (1 : Int32)), (.ref rt)])) rfl rfl (hb hby d5_29) _ ?_
    refine XS.istore X0.here hx rfl (hb hby d5_30) rfl (l' := #[.val (.ref rr), .val (.int mm), .val (.ref rq), .val (.ref rt), .val (.int (1 : Int32)), .val (.int (fu 1))]) rfl ?_
    refine XS.aloadN X0.here hx rfl (hb hby d5_32) rfl rfl ?_
    refine XS.iload X0.here hx rfl (hb hby d5_33) rfl ?_
    refine X0.iaload hx (j := (1 : Int32)) (v := (.int (fr 1))) (by rw [e0]; exact Arcl2.1) (State.isArrayOf_alike hZ.alike Arcl2.2.1) Arcl2.2.2 hincl2 hatcl2 (g := (mkF m 35 #[.val (.ref rr), .val (.int mm), .val (.ref rq), .val (.ref rt), .val (.int (1 : Int32)), .val (.int (fu 1))] [(.int (1 : Int32)), (.ref rr)])) rfl rfl (hb hby d5_35) _ ?_
    refine XS.iload X0.here hx rfl (hb hby d5_36) rfl ?_
    exact k
  by_cases hk4 : (fr 1) = (fu 1)
  · obtain ⟨fs, hr, hrun, hended, hW, hsame⟩ := X0.leave (v := some (.int (1 : Int32))) (fun h => by rw [Bd.returns] at h; cases h) (hlocks := Bd.notSynchronized)
    refine ⟨_, _, pre3 _ ?_, hrun, hended, _, _, rfl, ?_, ⟨_, rfl⟩, hW, hsame.mono (by decide) (by decide)⟩
    · show Steps p.tables e below (s₁.setTop (mkF m 38 #[.val (.ref rr), .val (.int mm), .val (.ref rq), .val (.ref rt), .val (.int (1 : Int32)), .val (.int (fu 1))] [(.int (fu 1)), (.int (fr 1))])) _
      refine XS.icmpNo X0.here hx rfl (hb hby d5_38) rfl (teq hk4).2 ?_
      refine XS.iconst X0.here hx rfl (hb hby d5_41) ?_
      refine XS.goto X0.here hx rfl (pc0 := 42) (pc' := 46) rfl (hb hby d5_42) (by decide) (by decide) ?_
      exact retN X0 hx (t := .boolean) Bd.returns (by simp) (hb hby d5_46) hr
    · show Q5b1 Z rr mm rq rt fu fr nn h0 n0 _ s₁.heap _
      rw [e0]
      have ev5 : (r5b1_v fu fr) = (1 : Int32) := by unfold r5b1_v; rw [if_pos hk4]
      exact ⟨(congrArg (fun z => some (Value.int z)) ev5.symm), N0, rfl⟩
  · obtain ⟨fs, hr, hrun, hended, hW, hsame⟩ := X0.leave (v := some (.int (0 : Int32))) (fun h => by rw [Bd.returns] at h; cases h) (hlocks := Bd.notSynchronized)
    refine ⟨_, _, pre3 _ ?_, hrun, hended, _, _, rfl, ?_, ⟨_, rfl⟩, hW, hsame.mono (by decide) (by decide)⟩
    · show Steps p.tables e below (s₁.setTop (mkF m 38 #[.val (.ref rr), .val (.int mm), .val (.ref rq), .val (.ref rt), .val (.int (1 : Int32)), .val (.int (fu 1))] [(.int (fu 1)), (.int (fr 1))])) _
      refine XS.icmpYes X0.here hx rfl (pc0 := 38) (pc' := 45) rfl (hb hby d5_38) rfl (feq hk4).2 (by decide) (by decide) ?_
      refine XS.iconst X0.here hx rfl (hb hby d5_45) ?_
      exact retN X0 hx (t := .boolean) Bd.returns (by simp) (hb hby d5_46) hr
    · show Q5b1 Z rr mm rq rt fu fr nn h0 n0 _ s₁.heap _
      rw [e0]
      have ev6 : (r5b1_v fu fr) = (0 : Int32) := by unfold r5b1_v; rw [if_neg hk4]
      exact ⟨(congrArg (fun z => some (Value.int z)) ev6.symm), N0, rfl⟩
theorem ef_5b2 (m : MethodId) (rr : Addr) (mm : Int32) (rq : Addr) (rt : Addr) : entryFrame m #[(.ref rr), (.int mm), (.ref rq), (.ref rt), (.int (2 : Int32))] 6 = mkF m 0 #[.val (.ref rr), .val (.int mm), .val (.ref rq), .val (.ref rt), .val (.int (2 : Int32)), .unset] [] := by first | (simp [entryFrame, mkF, argsToLocals, Value.category]; done) | rfl
def r5b2_v (fu : Nat → Int32) (fr : Nat → Int32) : Int32 := (if (fr 2) = (fu 2) then (1 : Int32) else (0 : Int32))
def Q5b2 (Z : State) (rr : Addr) (mm : Int32) (rq : Addr) (rt : Addr) (fu : Nat → Int32) (fr : Nat → Int32) (nn : Nat) (h0 : Heap) (n0 : Nat) (v : Option Value) (h : Heap) (L : List Loc) : Prop := v = some (.int (r5b2_v fu fr)) ∧ Fr n0 L ∧ h = h0
set_option maxRecDepth 65536 in
set_option maxHeartbeats 40000000 in
theorem rm5b2 (l : Launch) (Z : State) (a0 : Array Value) (hw : ∀ d ∈ tables_1, d.before a0 Z = true) (ws : List Jvm.Cond) (rr : Addr) (mm : Int32) (rq : Addr) (rt : Addr) (fu : Nat → Int32) (fr : Nat → Int32) (nn : Nat) (h0 : Heap) (n0 : Nat) (Z0 : n0 ≤ h0.size) (A_rr : AI Z h0 rr .int nn fr) (A_rt : AI Z h0 rt .int 5 fu) (hin : 2 < nn) (hc3 : ((2 : Int32) < mm)) (hc13 : ¬ ((3 : Int32) < mm)) :
    MetFree l (⟨"skipstitch/table/PrefixTableOptimisedPinLaw", "at", "([II[B[II)Z"⟩ : MethodName) (head1 (Jvm.Cond.code (⟨"skipstitch/table/PrefixTableOptimisedPinLaw", "at", "([II[B[II)Z"⟩ : MethodName) method_8_code 6 (some .boolean) :: ws) ({ frames := 0, cells := 0, slots := 0, locals := 0 } : Room)) (fun a U => a = #[(.ref rr), (.int mm), (.ref rq), (.ref rt), (.int (2 : Int32))] ∧ Z.Warmed39 U.vm ∧ U.heap = h0) (fun _ _ _ _ _ => True) (fun _ U o U' => ∃ v L, o = .returned v ∧ Q5b2 Z rr mm rq rt fu fr nn h0 n0 v U'.heap L ∧ FrameEnd U o U' L ({ frames := 0, cells := 0, slots := 0, locals := 0 } : Room).cells ({ frames := 0, cells := 0, slots := 0, locals := 0 } : Room).slots) := by
  refine MetFree.of_bodySF (plainFor_of_name pn_skipstitch_table_PrefixTableOptimisedPinLaw) hisR ?_
  intro p e s m args below meth c s₁ Bd hml0 hP hK
  obtain ⟨rfl, hZ, hh⟩ := hP
  have hx := Bd.exec
  have hby := Bd.bytes
  have hml : c.maxLocals = 6 := hml0
  have hown : s.vm.findClass "skipstitch/table/PrefixTableOptimisedPinLaw" = some m.cls := findClass_of_methodNamed Bd.named
  have hnm := (name_of_methodNamed Bd.named Bd.method).1
  have X0 : Stand p l e ({ frames := 0, cells := 0, slots := 0, locals := 0 } : Room) s m #[(.ref rr), (.int mm), (.ref rq), (.ref rt), (.int (2 : Int32))] below meth c s₁ [] 0 0 := Stand.of_body Bd
  have e0 : s₁.heap = h0 := by rw [← hh, Bd.state]; rfl
  have N0 := Fr.nil n0
  have K0 : Keep h0 h0 [] := Keep.refl h0 _
  have pre0 : ∀ t, Steps p.tables e below (s₁.setTop (mkF m 0 #[.val (.ref rr), .val (.int mm), .val (.ref rq), .val (.ref rt), .val (.int (2 : Int32)), .unset] [])) t → Steps p.tables e below (s₁.setTop (entryFrame m #[(.ref rr), (.int mm), (.ref rq), (.ref rt), (.int (2 : Int32))] 6)) t := fun t k => castTop (ef_5b2 m rr mm rq rt) k
  obtain ⟨cl1, Arcl1, hincl1, hatcl1⟩ := AF.at A_rt (j := (2 : Int32)) 2 (by decide) (by decide)
  obtain ⟨cl2, Arcl2, hincl2, hatcl2⟩ := AF.at A_rr (j := (2 : Int32)) 2 (by decide) hin
  have pre3 : ∀ t, Steps p.tables e below (s₁.setTop (mkF m 38 #[.val (.ref rr), .val (.int mm), .val (.ref rq), .val (.ref rt), .val (.int (2 : Int32)), .val (.int (fu 2))] [(.int (fu 2)), (.int (fr 2))])) t → Steps p.tables e below (s₁.setTop (entryFrame m #[(.ref rr), (.int mm), (.ref rq), (.ref rt), (.int (2 : Int32))] 6)) t := by
    intro t k
    refine pre0 _ ?_
    refine XS.iload X0.here hx rfl (hb hby d5_0) rfl ?_
    refine XS.iloadN X0.here hx rfl (hb hby d5_2) rfl ?_
    refine XS.icmpYes X0.here hx rfl (pc0 := 3) (pc' := 8) rfl (hb hby d5_3) rfl (tlt hc3).1 (by decide) (by decide) ?_
    refine XS.iload X0.here hx rfl (hb hby d5_8) rfl ?_
    refine XS.iconst X0.here hx rfl (hb hby d5_10) ?_
    refine XS.iadd X0.here hx rfl (hb hby d5_11) rfl ?_
    refine XS.iloadN X0.here hx rfl (hb hby d5_12) rfl ?_
    refine XS.icmpYes X0.here hx rfl (pc0 := 13) (pc' := 26) rfl (hb hby d5_13) rfl (flt hc13).2.1 (by decide) (by decide) ?_
    refine XS.aloadN X0.here hx rfl (hb hby d5_26) rfl rfl ?_
    refine XS.iload X0.here hx rfl (hb hby d5_27) rfl ?_
    refine X0.iaload hx (j := (2 : Int32)) (v := (.int (fu 2))) (by rw [e0]; exact Arcl1.1) (State.isArrayOf_alike hZ.alike Arcl1.2.1) Arcl1.2.2 hincl1 hatcl1 (g := (mkF m 29 #[.val (.ref rr), .val (.int mm), .val (.ref rq), .val (.ref rt), .val (.int (2 : Int32)), .unset] [(.int (2 : Int32)), (.ref rt)])) rfl rfl (hb hby d5_29) _ ?_
    refine XS.istore X0.here hx rfl (hb hby d5_30) rfl (l' := #[.val (.ref rr), .val (.int mm), .val (.ref rq), .val (.ref rt), .val (.int (2 : Int32)), .val (.int (fu 2))]) rfl ?_
    refine XS.aloadN X0.here hx rfl (hb hby d5_32) rfl rfl ?_
    refine XS.iload X0.here hx rfl (hb hby d5_33) rfl ?_
    refine X0.iaload hx (j := (2 : Int32)) (v := (.int (fr 2))) (by rw [e0]; exact Arcl2.1) (State.isArrayOf_alike hZ.alike Arcl2.2.1) Arcl2.2.2 hincl2 hatcl2 (g := (mkF m 35 #[.val (.ref rr), .val (.int mm), .val (.ref rq), .val (.ref rt), .val (.int (2 : Int32)), .val (.int (fu 2))] [(.int (2 : Int32)), (.ref rr)])) rfl rfl (hb hby d5_35) _ ?_
    refine XS.iload X0.here hx rfl (hb hby d5_36) rfl ?_
    exact k
  by_cases hk4 : (fr 2) = (fu 2)
  · obtain ⟨fs, hr, hrun, hended, hW, hsame⟩ := X0.leave (v := some (.int (1 : Int32))) (fun h => by rw [Bd.returns] at h; cases h) (hlocks := Bd.notSynchronized)
    refine ⟨_, _, pre3 _ ?_, hrun, hended, _, _, rfl, ?_, ⟨_, rfl⟩, hW, hsame.mono (by decide) (by decide)⟩
    · show Steps p.tables e below (s₁.setTop (mkF m 38 #[.val (.ref rr), .val (.int mm), .val (.ref rq), .val (.ref rt), .val (.int (2 : Int32)), .val (.int (fu 2))] [(.int (fu 2)), (.int (fr 2))])) _
      refine XS.icmpNo X0.here hx rfl (hb hby d5_38) rfl (teq hk4).2 ?_
      refine XS.iconst X0.here hx rfl (hb hby d5_41) ?_
      refine XS.goto X0.here hx rfl (pc0 := 42) (pc' := 46) rfl (hb hby d5_42) (by decide) (by decide) ?_
      exact retN X0 hx (t := .boolean) Bd.returns (by simp) (hb hby d5_46) hr
    · show Q5b2 Z rr mm rq rt fu fr nn h0 n0 _ s₁.heap _
      rw [e0]
      have ev5 : (r5b2_v fu fr) = (1 : Int32) := by unfold r5b2_v; rw [if_pos hk4]
      exact ⟨(congrArg (fun z => some (Value.int z)) ev5.symm), N0, rfl⟩
  · obtain ⟨fs, hr, hrun, hended, hW, hsame⟩ := X0.leave (v := some (.int (0 : Int32))) (fun h => by rw [Bd.returns] at h; cases h) (hlocks := Bd.notSynchronized)
    refine ⟨_, _, pre3 _ ?_, hrun, hended, _, _, rfl, ?_, ⟨_, rfl⟩, hW, hsame.mono (by decide) (by decide)⟩
    · show Steps p.tables e below (s₁.setTop (mkF m 38 #[.val (.ref rr), .val (.int mm), .val (.ref rq), .val (.ref rt), .val (.int (2 : Int32)), .val (.int (fu 2))] [(.int (fu 2)), (.int (fr 2))])) _
      refine XS.icmpYes X0.here hx rfl (pc0 := 38) (pc' := 45) rfl (hb hby d5_38) rfl (feq hk4).2 (by decide) (by decide) ?_
      refine XS.iconst X0.here hx rfl (hb hby d5_45) ?_
      exact retN X0 hx (t := .boolean) Bd.returns (by simp) (hb hby d5_46) hr
    · show Q5b2 Z rr mm rq rt fu fr nn h0 n0 _ s₁.heap _
      rw [e0]
      have ev6 : (r5b2_v fu fr) = (0 : Int32) := by unfold r5b2_v; rw [if_neg hk4]
      exact ⟨(congrArg (fun z => some (Value.int z)) ev6.symm), N0, rfl⟩
theorem ef_5b3 (m : MethodId) (rr : Addr) (mm : Int32) (rq : Addr) (rt : Addr) : entryFrame m #[(.ref rr), (.int mm), (.ref rq), (.ref rt), (.int (3 : Int32))] 6 = mkF m 0 #[.val (.ref rr), .val (.int mm), .val (.ref rq), .val (.ref rt), .val (.int (3 : Int32)), .unset] [] := by first | (simp [entryFrame, mkF, argsToLocals, Value.category]; done) | rfl
def r5b3_v (fu : Nat → Int32) (fr : Nat → Int32) : Int32 := (if (fr 3) = (fu 3) then (1 : Int32) else (0 : Int32))
def Q5b3 (Z : State) (rr : Addr) (mm : Int32) (rq : Addr) (rt : Addr) (fu : Nat → Int32) (fr : Nat → Int32) (nn : Nat) (h0 : Heap) (n0 : Nat) (v : Option Value) (h : Heap) (L : List Loc) : Prop := v = some (.int (r5b3_v fu fr)) ∧ Fr n0 L ∧ h = h0
set_option maxRecDepth 65536 in
set_option maxHeartbeats 40000000 in
theorem rm5b3 (l : Launch) (Z : State) (a0 : Array Value) (hw : ∀ d ∈ tables_1, d.before a0 Z = true) (ws : List Jvm.Cond) (rr : Addr) (mm : Int32) (rq : Addr) (rt : Addr) (fu : Nat → Int32) (fr : Nat → Int32) (nn : Nat) (h0 : Heap) (n0 : Nat) (Z0 : n0 ≤ h0.size) (A_rr : AI Z h0 rr .int nn fr) (A_rt : AI Z h0 rt .int 5 fu) (hin : 3 < nn) (hc3 : ((3 : Int32) < mm)) (hc13 : ¬ ((4 : Int32) < mm)) :
    MetFree l (⟨"skipstitch/table/PrefixTableOptimisedPinLaw", "at", "([II[B[II)Z"⟩ : MethodName) (head1 (Jvm.Cond.code (⟨"skipstitch/table/PrefixTableOptimisedPinLaw", "at", "([II[B[II)Z"⟩ : MethodName) method_8_code 6 (some .boolean) :: ws) ({ frames := 0, cells := 0, slots := 0, locals := 0 } : Room)) (fun a U => a = #[(.ref rr), (.int mm), (.ref rq), (.ref rt), (.int (3 : Int32))] ∧ Z.Warmed39 U.vm ∧ U.heap = h0) (fun _ _ _ _ _ => True) (fun _ U o U' => ∃ v L, o = .returned v ∧ Q5b3 Z rr mm rq rt fu fr nn h0 n0 v U'.heap L ∧ FrameEnd U o U' L ({ frames := 0, cells := 0, slots := 0, locals := 0 } : Room).cells ({ frames := 0, cells := 0, slots := 0, locals := 0 } : Room).slots) := by
  refine MetFree.of_bodySF (plainFor_of_name pn_skipstitch_table_PrefixTableOptimisedPinLaw) hisR ?_
  intro p e s m args below meth c s₁ Bd hml0 hP hK
  obtain ⟨rfl, hZ, hh⟩ := hP
  have hx := Bd.exec
  have hby := Bd.bytes
  have hml : c.maxLocals = 6 := hml0
  have hown : s.vm.findClass "skipstitch/table/PrefixTableOptimisedPinLaw" = some m.cls := findClass_of_methodNamed Bd.named
  have hnm := (name_of_methodNamed Bd.named Bd.method).1
  have X0 : Stand p l e ({ frames := 0, cells := 0, slots := 0, locals := 0 } : Room) s m #[(.ref rr), (.int mm), (.ref rq), (.ref rt), (.int (3 : Int32))] below meth c s₁ [] 0 0 := Stand.of_body Bd
  have e0 : s₁.heap = h0 := by rw [← hh, Bd.state]; rfl
  have N0 := Fr.nil n0
  have K0 : Keep h0 h0 [] := Keep.refl h0 _
  have pre0 : ∀ t, Steps p.tables e below (s₁.setTop (mkF m 0 #[.val (.ref rr), .val (.int mm), .val (.ref rq), .val (.ref rt), .val (.int (3 : Int32)), .unset] [])) t → Steps p.tables e below (s₁.setTop (entryFrame m #[(.ref rr), (.int mm), (.ref rq), (.ref rt), (.int (3 : Int32))] 6)) t := fun t k => castTop (ef_5b3 m rr mm rq rt) k
  obtain ⟨cl1, Arcl1, hincl1, hatcl1⟩ := AF.at A_rt (j := (3 : Int32)) 3 (by decide) (by decide)
  obtain ⟨cl2, Arcl2, hincl2, hatcl2⟩ := AF.at A_rr (j := (3 : Int32)) 3 (by decide) hin
  have pre3 : ∀ t, Steps p.tables e below (s₁.setTop (mkF m 38 #[.val (.ref rr), .val (.int mm), .val (.ref rq), .val (.ref rt), .val (.int (3 : Int32)), .val (.int (fu 3))] [(.int (fu 3)), (.int (fr 3))])) t → Steps p.tables e below (s₁.setTop (entryFrame m #[(.ref rr), (.int mm), (.ref rq), (.ref rt), (.int (3 : Int32))] 6)) t := by
    intro t k
    refine pre0 _ ?_
    refine XS.iload X0.here hx rfl (hb hby d5_0) rfl ?_
    refine XS.iloadN X0.here hx rfl (hb hby d5_2) rfl ?_
    refine XS.icmpYes X0.here hx rfl (pc0 := 3) (pc' := 8) rfl (hb hby d5_3) rfl (tlt hc3).1 (by decide) (by decide) ?_
    refine XS.iload X0.here hx rfl (hb hby d5_8) rfl ?_
    refine XS.iconst X0.here hx rfl (hb hby d5_10) ?_
    refine XS.iadd X0.here hx rfl (hb hby d5_11) rfl ?_
    refine XS.iloadN X0.here hx rfl (hb hby d5_12) rfl ?_
    refine XS.icmpYes X0.here hx rfl (pc0 := 13) (pc' := 26) rfl (hb hby d5_13) rfl (flt hc13).2.1 (by decide) (by decide) ?_
    refine XS.aloadN X0.here hx rfl (hb hby d5_26) rfl rfl ?_
    refine XS.iload X0.here hx rfl (hb hby d5_27) rfl ?_
    refine X0.iaload hx (j := (3 : Int32)) (v := (.int (fu 3))) (by rw [e0]; exact Arcl1.1) (State.isArrayOf_alike hZ.alike Arcl1.2.1) Arcl1.2.2 hincl1 hatcl1 (g := (mkF m 29 #[.val (.ref rr), .val (.int mm), .val (.ref rq), .val (.ref rt), .val (.int (3 : Int32)), .unset] [(.int (3 : Int32)), (.ref rt)])) rfl rfl (hb hby d5_29) _ ?_
    refine XS.istore X0.here hx rfl (hb hby d5_30) rfl (l' := #[.val (.ref rr), .val (.int mm), .val (.ref rq), .val (.ref rt), .val (.int (3 : Int32)), .val (.int (fu 3))]) rfl ?_
    refine XS.aloadN X0.here hx rfl (hb hby d5_32) rfl rfl ?_
    refine XS.iload X0.here hx rfl (hb hby d5_33) rfl ?_
    refine X0.iaload hx (j := (3 : Int32)) (v := (.int (fr 3))) (by rw [e0]; exact Arcl2.1) (State.isArrayOf_alike hZ.alike Arcl2.2.1) Arcl2.2.2 hincl2 hatcl2 (g := (mkF m 35 #[.val (.ref rr), .val (.int mm), .val (.ref rq), .val (.ref rt), .val (.int (3 : Int32)), .val (.int (fu 3))] [(.int (3 : Int32)), (.ref rr)])) rfl rfl (hb hby d5_35) _ ?_
    refine XS.iload X0.here hx rfl (hb hby d5_36) rfl ?_
    exact k
  by_cases hk4 : (fr 3) = (fu 3)
  · obtain ⟨fs, hr, hrun, hended, hW, hsame⟩ := X0.leave (v := some (.int (1 : Int32))) (fun h => by rw [Bd.returns] at h; cases h) (hlocks := Bd.notSynchronized)
    refine ⟨_, _, pre3 _ ?_, hrun, hended, _, _, rfl, ?_, ⟨_, rfl⟩, hW, hsame.mono (by decide) (by decide)⟩
    · show Steps p.tables e below (s₁.setTop (mkF m 38 #[.val (.ref rr), .val (.int mm), .val (.ref rq), .val (.ref rt), .val (.int (3 : Int32)), .val (.int (fu 3))] [(.int (fu 3)), (.int (fr 3))])) _
      refine XS.icmpNo X0.here hx rfl (hb hby d5_38) rfl (teq hk4).2 ?_
      refine XS.iconst X0.here hx rfl (hb hby d5_41) ?_
      refine XS.goto X0.here hx rfl (pc0 := 42) (pc' := 46) rfl (hb hby d5_42) (by decide) (by decide) ?_
      exact retN X0 hx (t := .boolean) Bd.returns (by simp) (hb hby d5_46) hr
    · show Q5b3 Z rr mm rq rt fu fr nn h0 n0 _ s₁.heap _
      rw [e0]
      have ev5 : (r5b3_v fu fr) = (1 : Int32) := by unfold r5b3_v; rw [if_pos hk4]
      exact ⟨(congrArg (fun z => some (Value.int z)) ev5.symm), N0, rfl⟩
  · obtain ⟨fs, hr, hrun, hended, hW, hsame⟩ := X0.leave (v := some (.int (0 : Int32))) (fun h => by rw [Bd.returns] at h; cases h) (hlocks := Bd.notSynchronized)
    refine ⟨_, _, pre3 _ ?_, hrun, hended, _, _, rfl, ?_, ⟨_, rfl⟩, hW, hsame.mono (by decide) (by decide)⟩
    · show Steps p.tables e below (s₁.setTop (mkF m 38 #[.val (.ref rr), .val (.int mm), .val (.ref rq), .val (.ref rt), .val (.int (3 : Int32)), .val (.int (fu 3))] [(.int (fu 3)), (.int (fr 3))])) _
      refine XS.icmpYes X0.here hx rfl (pc0 := 38) (pc' := 45) rfl (hb hby d5_38) rfl (feq hk4).2 (by decide) (by decide) ?_
      refine XS.iconst X0.here hx rfl (hb hby d5_45) ?_
      exact retN X0 hx (t := .boolean) Bd.returns (by simp) (hb hby d5_46) hr
    · show Q5b3 Z rr mm rq rt fu fr nn h0 n0 _ s₁.heap _
      rw [e0]
      have ev6 : (r5b3_v fu fr) = (0 : Int32) := by unfold r5b3_v; rw [if_neg hk4]
      exact ⟨(congrArg (fun z => some (Value.int z)) ev6.symm), N0, rfl⟩
theorem ef_5b4 (m : MethodId) (rr : Addr) (mm : Int32) (rq : Addr) (rt : Addr) : entryFrame m #[(.ref rr), (.int mm), (.ref rq), (.ref rt), (.int (4 : Int32))] 6 = mkF m 0 #[.val (.ref rr), .val (.int mm), .val (.ref rq), .val (.ref rt), .val (.int (4 : Int32)), .unset] [] := by first | (simp [entryFrame, mkF, argsToLocals, Value.category]; done) | rfl
def r5b4_v (fu : Nat → Int32) (fr : Nat → Int32) : Int32 := (if (fr 4) = (fu 4) then (1 : Int32) else (0 : Int32))
def Q5b4 (Z : State) (rr : Addr) (mm : Int32) (rq : Addr) (rt : Addr) (fu : Nat → Int32) (fr : Nat → Int32) (nn : Nat) (h0 : Heap) (n0 : Nat) (v : Option Value) (h : Heap) (L : List Loc) : Prop := v = some (.int (r5b4_v fu fr)) ∧ Fr n0 L ∧ h = h0
set_option maxRecDepth 65536 in
set_option maxHeartbeats 40000000 in
theorem rm5b4 (l : Launch) (Z : State) (a0 : Array Value) (hw : ∀ d ∈ tables_1, d.before a0 Z = true) (ws : List Jvm.Cond) (rr : Addr) (mm : Int32) (rq : Addr) (rt : Addr) (fu : Nat → Int32) (fr : Nat → Int32) (nn : Nat) (h0 : Heap) (n0 : Nat) (Z0 : n0 ≤ h0.size) (A_rr : AI Z h0 rr .int nn fr) (A_rt : AI Z h0 rt .int 5 fu) (hin : 4 < nn) (hc3 : ((4 : Int32) < mm)) (hc13 : ¬ ((5 : Int32) < mm)) :
    MetFree l (⟨"skipstitch/table/PrefixTableOptimisedPinLaw", "at", "([II[B[II)Z"⟩ : MethodName) (head1 (Jvm.Cond.code (⟨"skipstitch/table/PrefixTableOptimisedPinLaw", "at", "([II[B[II)Z"⟩ : MethodName) method_8_code 6 (some .boolean) :: ws) ({ frames := 0, cells := 0, slots := 0, locals := 0 } : Room)) (fun a U => a = #[(.ref rr), (.int mm), (.ref rq), (.ref rt), (.int (4 : Int32))] ∧ Z.Warmed39 U.vm ∧ U.heap = h0) (fun _ _ _ _ _ => True) (fun _ U o U' => ∃ v L, o = .returned v ∧ Q5b4 Z rr mm rq rt fu fr nn h0 n0 v U'.heap L ∧ FrameEnd U o U' L ({ frames := 0, cells := 0, slots := 0, locals := 0 } : Room).cells ({ frames := 0, cells := 0, slots := 0, locals := 0 } : Room).slots) := by
  refine MetFree.of_bodySF (plainFor_of_name pn_skipstitch_table_PrefixTableOptimisedPinLaw) hisR ?_
  intro p e s m args below meth c s₁ Bd hml0 hP hK
  obtain ⟨rfl, hZ, hh⟩ := hP
  have hx := Bd.exec
  have hby := Bd.bytes
  have hml : c.maxLocals = 6 := hml0
  have hown : s.vm.findClass "skipstitch/table/PrefixTableOptimisedPinLaw" = some m.cls := findClass_of_methodNamed Bd.named
  have hnm := (name_of_methodNamed Bd.named Bd.method).1
  have X0 : Stand p l e ({ frames := 0, cells := 0, slots := 0, locals := 0 } : Room) s m #[(.ref rr), (.int mm), (.ref rq), (.ref rt), (.int (4 : Int32))] below meth c s₁ [] 0 0 := Stand.of_body Bd
  have e0 : s₁.heap = h0 := by rw [← hh, Bd.state]; rfl
  have N0 := Fr.nil n0
  have K0 : Keep h0 h0 [] := Keep.refl h0 _
  have pre0 : ∀ t, Steps p.tables e below (s₁.setTop (mkF m 0 #[.val (.ref rr), .val (.int mm), .val (.ref rq), .val (.ref rt), .val (.int (4 : Int32)), .unset] [])) t → Steps p.tables e below (s₁.setTop (entryFrame m #[(.ref rr), (.int mm), (.ref rq), (.ref rt), (.int (4 : Int32))] 6)) t := fun t k => castTop (ef_5b4 m rr mm rq rt) k
  obtain ⟨cl1, Arcl1, hincl1, hatcl1⟩ := AF.at A_rt (j := (4 : Int32)) 4 (by decide) (by decide)
  obtain ⟨cl2, Arcl2, hincl2, hatcl2⟩ := AF.at A_rr (j := (4 : Int32)) 4 (by decide) hin
  have pre3 : ∀ t, Steps p.tables e below (s₁.setTop (mkF m 38 #[.val (.ref rr), .val (.int mm), .val (.ref rq), .val (.ref rt), .val (.int (4 : Int32)), .val (.int (fu 4))] [(.int (fu 4)), (.int (fr 4))])) t → Steps p.tables e below (s₁.setTop (entryFrame m #[(.ref rr), (.int mm), (.ref rq), (.ref rt), (.int (4 : Int32))] 6)) t := by
    intro t k
    refine pre0 _ ?_
    refine XS.iload X0.here hx rfl (hb hby d5_0) rfl ?_
    refine XS.iloadN X0.here hx rfl (hb hby d5_2) rfl ?_
    refine XS.icmpYes X0.here hx rfl (pc0 := 3) (pc' := 8) rfl (hb hby d5_3) rfl (tlt hc3).1 (by decide) (by decide) ?_
    refine XS.iload X0.here hx rfl (hb hby d5_8) rfl ?_
    refine XS.iconst X0.here hx rfl (hb hby d5_10) ?_
    refine XS.iadd X0.here hx rfl (hb hby d5_11) rfl ?_
    refine XS.iloadN X0.here hx rfl (hb hby d5_12) rfl ?_
    refine XS.icmpYes X0.here hx rfl (pc0 := 13) (pc' := 26) rfl (hb hby d5_13) rfl (flt hc13).2.1 (by decide) (by decide) ?_
    refine XS.aloadN X0.here hx rfl (hb hby d5_26) rfl rfl ?_
    refine XS.iload X0.here hx rfl (hb hby d5_27) rfl ?_
    refine X0.iaload hx (j := (4 : Int32)) (v := (.int (fu 4))) (by rw [e0]; exact Arcl1.1) (State.isArrayOf_alike hZ.alike Arcl1.2.1) Arcl1.2.2 hincl1 hatcl1 (g := (mkF m 29 #[.val (.ref rr), .val (.int mm), .val (.ref rq), .val (.ref rt), .val (.int (4 : Int32)), .unset] [(.int (4 : Int32)), (.ref rt)])) rfl rfl (hb hby d5_29) _ ?_
    refine XS.istore X0.here hx rfl (hb hby d5_30) rfl (l' := #[.val (.ref rr), .val (.int mm), .val (.ref rq), .val (.ref rt), .val (.int (4 : Int32)), .val (.int (fu 4))]) rfl ?_
    refine XS.aloadN X0.here hx rfl (hb hby d5_32) rfl rfl ?_
    refine XS.iload X0.here hx rfl (hb hby d5_33) rfl ?_
    refine X0.iaload hx (j := (4 : Int32)) (v := (.int (fr 4))) (by rw [e0]; exact Arcl2.1) (State.isArrayOf_alike hZ.alike Arcl2.2.1) Arcl2.2.2 hincl2 hatcl2 (g := (mkF m 35 #[.val (.ref rr), .val (.int mm), .val (.ref rq), .val (.ref rt), .val (.int (4 : Int32)), .val (.int (fu 4))] [(.int (4 : Int32)), (.ref rr)])) rfl rfl (hb hby d5_35) _ ?_
    refine XS.iload X0.here hx rfl (hb hby d5_36) rfl ?_
    exact k
  by_cases hk4 : (fr 4) = (fu 4)
  · obtain ⟨fs, hr, hrun, hended, hW, hsame⟩ := X0.leave (v := some (.int (1 : Int32))) (fun h => by rw [Bd.returns] at h; cases h) (hlocks := Bd.notSynchronized)
    refine ⟨_, _, pre3 _ ?_, hrun, hended, _, _, rfl, ?_, ⟨_, rfl⟩, hW, hsame.mono (by decide) (by decide)⟩
    · show Steps p.tables e below (s₁.setTop (mkF m 38 #[.val (.ref rr), .val (.int mm), .val (.ref rq), .val (.ref rt), .val (.int (4 : Int32)), .val (.int (fu 4))] [(.int (fu 4)), (.int (fr 4))])) _
      refine XS.icmpNo X0.here hx rfl (hb hby d5_38) rfl (teq hk4).2 ?_
      refine XS.iconst X0.here hx rfl (hb hby d5_41) ?_
      refine XS.goto X0.here hx rfl (pc0 := 42) (pc' := 46) rfl (hb hby d5_42) (by decide) (by decide) ?_
      exact retN X0 hx (t := .boolean) Bd.returns (by simp) (hb hby d5_46) hr
    · show Q5b4 Z rr mm rq rt fu fr nn h0 n0 _ s₁.heap _
      rw [e0]
      have ev5 : (r5b4_v fu fr) = (1 : Int32) := by unfold r5b4_v; rw [if_pos hk4]
      exact ⟨(congrArg (fun z => some (Value.int z)) ev5.symm), N0, rfl⟩
  · obtain ⟨fs, hr, hrun, hended, hW, hsame⟩ := X0.leave (v := some (.int (0 : Int32))) (fun h => by rw [Bd.returns] at h; cases h) (hlocks := Bd.notSynchronized)
    refine ⟨_, _, pre3 _ ?_, hrun, hended, _, _, rfl, ?_, ⟨_, rfl⟩, hW, hsame.mono (by decide) (by decide)⟩
    · show Steps p.tables e below (s₁.setTop (mkF m 38 #[.val (.ref rr), .val (.int mm), .val (.ref rq), .val (.ref rt), .val (.int (4 : Int32)), .val (.int (fu 4))] [(.int (fu 4)), (.int (fr 4))])) _
      refine XS.icmpYes X0.here hx rfl (pc0 := 38) (pc' := 45) rfl (hb hby d5_38) rfl (feq hk4).2 (by decide) (by decide) ?_
      refine XS.iconst X0.here hx rfl (hb hby d5_45) ?_
      exact retN X0 hx (t := .boolean) Bd.returns (by simp) (hb hby d5_46) hr
    · show Q5b4 Z rr mm rq rt fu fr nn h0 n0 _ s₁.heap _
      rw [e0]
      have ev6 : (r5b4_v fu fr) = (0 : Int32) := by unfold r5b4_v; rw [if_neg hk4]
      exact ⟨(congrArg (fun z => some (Value.int z)) ev6.symm), N0, rfl⟩
theorem ef_5c (m : MethodId) (rr : Addr) (mm : Int32) (rq : Addr) (rt : Addr) (ii : Int32) : entryFrame m #[(.ref rr), (.int mm), (.ref rq), (.ref rt), (.int ii)] 6 = mkF m 0 #[.val (.ref rr), .val (.int mm), .val (.ref rq), .val (.ref rt), .val (.int ii), .unset] [] := by first | (simp [entryFrame, mkF, argsToLocals, Value.category]; done) | rfl
theorem d5_6 : decode method_8_code 6 = .ok (.iconst 1, 1) := by decide +kernel
theorem d5_7 : decode method_8_code 7 = .ok (.ireturn, 1) := by decide +kernel
def Q5c (Z : State) (rr : Addr) (mm : Int32) (rq : Addr) (rt : Addr) (ii : Int32) (h0 : Heap) (n0 : Nat) (v : Option Value) (h : Heap) (L : List Loc) : Prop := v = some (.int (1 : Int32)) ∧ Fr n0 L ∧ h = h0
set_option maxRecDepth 65536 in
set_option maxHeartbeats 40000000 in
theorem rm5c (l : Launch) (Z : State) (a0 : Array Value) (hw : ∀ d ∈ tables_1, d.before a0 Z = true) (ws : List Jvm.Cond) (rr : Addr) (mm : Int32) (rq : Addr) (rt : Addr) (ii : Int32) (h0 : Heap) (n0 : Nat) (Z0 : n0 ≤ h0.size) (hc3 : ¬ (ii < mm)) :
    MetFree l (⟨"skipstitch/table/PrefixTableOptimisedPinLaw", "at", "([II[B[II)Z"⟩ : MethodName) (head1 (Jvm.Cond.code (⟨"skipstitch/table/PrefixTableOptimisedPinLaw", "at", "([II[B[II)Z"⟩ : MethodName) method_8_code 6 (some .boolean) :: ws) ({ frames := 0, cells := 0, slots := 0, locals := 0 } : Room)) (fun a U => a = #[(.ref rr), (.int mm), (.ref rq), (.ref rt), (.int ii)] ∧ Z.Warmed39 U.vm ∧ U.heap = h0) (fun _ _ _ _ _ => True) (fun _ U o U' => ∃ v L, o = .returned v ∧ Q5c Z rr mm rq rt ii h0 n0 v U'.heap L ∧ FrameEnd U o U' L ({ frames := 0, cells := 0, slots := 0, locals := 0 } : Room).cells ({ frames := 0, cells := 0, slots := 0, locals := 0 } : Room).slots) := by
  refine MetFree.of_bodySF (plainFor_of_name pn_skipstitch_table_PrefixTableOptimisedPinLaw) hisR ?_
  intro p e s m args below meth c s₁ Bd hml0 hP hK
  obtain ⟨rfl, hZ, hh⟩ := hP
  have hx := Bd.exec
  have hby := Bd.bytes
  have hml : c.maxLocals = 6 := hml0
  have hown : s.vm.findClass "skipstitch/table/PrefixTableOptimisedPinLaw" = some m.cls := findClass_of_methodNamed Bd.named
  have hnm := (name_of_methodNamed Bd.named Bd.method).1
  have X0 : Stand p l e ({ frames := 0, cells := 0, slots := 0, locals := 0 } : Room) s m #[(.ref rr), (.int mm), (.ref rq), (.ref rt), (.int ii)] below meth c s₁ [] 0 0 := Stand.of_body Bd
  have e0 : s₁.heap = h0 := by rw [← hh, Bd.state]; rfl
  have N0 := Fr.nil n0
  have K0 : Keep h0 h0 [] := Keep.refl h0 _
  have pre0 : ∀ t, Steps p.tables e below (s₁.setTop (mkF m 0 #[.val (.ref rr), .val (.int mm), .val (.ref rq), .val (.ref rt), .val (.int ii), .unset] [])) t → Steps p.tables e below (s₁.setTop (entryFrame m #[(.ref rr), (.int mm), (.ref rq), (.ref rt), (.int ii)] 6)) t := fun t k => castTop (ef_5c m rr mm rq rt ii) k
  obtain ⟨fs, hr, hrun, hended, hW, hsame⟩ := X0.leave (v := some (.int (1 : Int32))) (fun h => by rw [Bd.returns] at h; cases h) (hlocks := Bd.notSynchronized)
  refine ⟨_, _, pre0 _ ?_, hrun, hended, _, _, rfl, ?_, ⟨_, rfl⟩, hW, hsame.mono (by decide) (by decide)⟩
  · show Steps p.tables e below (s₁.setTop (mkF m 0 #[.val (.ref rr), .val (.int mm), .val (.ref rq), .val (.ref rt), .val (.int ii), .unset] [])) _
    refine XS.iload X0.here hx rfl (hb hby d5_0) rfl ?_
    refine XS.iloadN X0.here hx rfl (hb hby d5_2) rfl ?_
    refine XS.icmpNo X0.here hx rfl (hb hby d5_3) rfl (flt hc3).1 ?_
    refine XS.iconst X0.here hx rfl (hb hby d5_6) ?_
    exact retN X0 hx (t := .boolean) Bd.returns (by simp) (hb hby d5_7) hr
  · show Q5c Z rr mm rq rt ii h0 n0 _ s₁.heap _
    rw [e0]
    exact ⟨rfl, N0, rfl⟩
theorem ef_6l0 (m : MethodId) (rp : Addr) (rs : Addr) (mm : Int32) (rq : Addr) (rt : Addr) : entryFrame m #[(.ref rp), (.ref rs), (.int mm), (.ref rq), (.ref rt), (.int (0 : Int32))] 6 = mkF m 0 #[.val (.ref rp), .val (.ref rs), .val (.int mm), .val (.ref rq), .val (.ref rt), .val (.int (0 : Int32))] [] := by first | (simp [entryFrame, mkF, argsToLocals, Value.category]; done) | rfl
theorem d6_0 : decode method_9_code 0 = .ok (.iload 5, 2) := by decide +kernel
theorem d6_2 : decode method_9_code 2 = .ok (.iload_n 2, 1) := by decide +kernel
theorem d6_3 : decode method_9_code 3 = .ok (.if_icmp .lt 5, 3) := by decide +kernel
theorem d6_8 : decode method_9_code 8 = .ok (.aload_n 0, 1) := by decide +kernel
theorem d6_9 : decode method_9_code 9 = .ok (.iload 5, 2) := by decide +kernel
theorem d6_11 : decode method_9_code 11 = .ok (.baload, 1) := by decide +kernel
theorem d6_12 : decode method_9_code 12 = .ok (.aload_n 3, 1) := by decide +kernel
theorem d6_13 : decode method_9_code 13 = .ok (.iload 5, 2) := by decide +kernel
theorem d6_15 : decode method_9_code 15 = .ok (.baload, 1) := by decide +kernel
theorem d6_16 : decode method_9_code 16 = .ok (.if_icmp .ne 19, 3) := by decide +kernel
theorem d6_19 : decode method_9_code 19 = .ok (.aload_n 1, 1) := by decide +kernel
theorem d6_20 : decode method_9_code 20 = .ok (.iload 5, 2) := by decide +kernel
theorem d6_22 : decode method_9_code 22 = .ok (.iaload, 1) := by decide +kernel
theorem d6_23 : decode method_9_code 23 = .ok (.aload 4, 2) := by decide +kernel
theorem d6_25 : decode method_9_code 25 = .ok (.iload 5, 2) := by decide +kernel
theorem d6_27 : decode method_9_code 27 = .ok (.iaload, 1) := by decide +kernel
theorem d6_28 : decode method_9_code 28 = .ok (.if_icmp .ne 7, 3) := by decide +kernel
theorem d6_31 : decode method_9_code 31 = .ok (.iconst 1, 1) := by decide +kernel
theorem d6_32 : decode method_9_code 32 = .ok (.goto 4, 3) := by decide +kernel
theorem d6_36 : decode method_9_code 36 = .ok (.ireturn, 1) := by decide +kernel
theorem d6_35 : decode method_9_code 35 = .ok (.iconst 0, 1) := by decide +kernel
def r6l0_v (fq : Nat → Int32) (fu : Nat → Int32) (fp : Nat → Int32) (fz : Nat → Int32) : Int32 := (if (fp 0) = (fq 0) then (if (fz 0) = (fu 0) then (1 : Int32) else (0 : Int32)) else (0 : Int32))
def Q6l0 (Z : State) (rp : Addr) (rs : Addr) (mm : Int32) (rq : Addr) (rt : Addr) (fq : Nat → Int32) (fu : Nat → Int32) (fp : Nat → Int32) (fz : Nat → Int32) (nn : Nat) (h0 : Heap) (n0 : Nat) (v : Option Value) (h : Heap) (L : List Loc) : Prop := v = some (.int (r6l0_v fq fu fp fz)) ∧ Fr n0 L ∧ h = h0
set_option maxRecDepth 65536 in
set_option maxHeartbeats 40000000 in
theorem rm6l0 (l : Launch) (Z : State) (a0 : Array Value) (hw : ∀ d ∈ tables_1, d.before a0 Z = true) (ws : List Jvm.Cond) (rp : Addr) (rs : Addr) (mm : Int32) (rq : Addr) (rt : Addr) (fq : Nat → Int32) (fu : Nat → Int32) (fp : Nat → Int32) (fz : Nat → Int32) (nn : Nat) (h0 : Heap) (n0 : Nat) (Z0 : n0 ≤ h0.size) (A_rp : AI Z h0 rp .byte nn fp) (A_rs : AI Z h0 rs .int nn fz) (A_rq : AI Z h0 rq .byte 5 fq) (A_rt : AI Z h0 rt .int 5 fu) (hin : 0 < nn) (hc3 : ((0 : Int32) < mm)) :
    MetFree l (⟨"skipstitch/table/PrefixTableOptimisedPinLaw", "same", "([B[II[B[II)Z"⟩ : MethodName) (head1 (Jvm.Cond.code (⟨"skipstitch/table/PrefixTableOptimisedPinLaw", "same", "([B[II[B[II)Z"⟩ : MethodName) method_9_code 6 (some .boolean) :: ws) ({ frames := 0, cells := 0, slots := 0, locals := 0 } : Room)) (fun a U => a = #[(.ref rp), (.ref rs), (.int mm), (.ref rq), (.ref rt), (.int (0 : Int32))] ∧ Z.Warmed39 U.vm ∧ U.heap = h0) (fun _ _ _ _ _ => True) (fun _ U o U' => ∃ v L, o = .returned v ∧ Q6l0 Z rp rs mm rq rt fq fu fp fz nn h0 n0 v U'.heap L ∧ FrameEnd U o U' L ({ frames := 0, cells := 0, slots := 0, locals := 0 } : Room).cells ({ frames := 0, cells := 0, slots := 0, locals := 0 } : Room).slots) := by
  refine MetFree.of_bodySF (plainFor_of_name pn_skipstitch_table_PrefixTableOptimisedPinLaw) hisR ?_
  intro p e s m args below meth c s₁ Bd hml0 hP hK
  obtain ⟨rfl, hZ, hh⟩ := hP
  have hx := Bd.exec
  have hby := Bd.bytes
  have hml : c.maxLocals = 6 := hml0
  have hown : s.vm.findClass "skipstitch/table/PrefixTableOptimisedPinLaw" = some m.cls := findClass_of_methodNamed Bd.named
  have hnm := (name_of_methodNamed Bd.named Bd.method).1
  have X0 : Stand p l e ({ frames := 0, cells := 0, slots := 0, locals := 0 } : Room) s m #[(.ref rp), (.ref rs), (.int mm), (.ref rq), (.ref rt), (.int (0 : Int32))] below meth c s₁ [] 0 0 := Stand.of_body Bd
  have e0 : s₁.heap = h0 := by rw [← hh, Bd.state]; rfl
  have N0 := Fr.nil n0
  have K0 : Keep h0 h0 [] := Keep.refl h0 _
  have pre0 : ∀ t, Steps p.tables e below (s₁.setTop (mkF m 0 #[.val (.ref rp), .val (.ref rs), .val (.int mm), .val (.ref rq), .val (.ref rt), .val (.int (0 : Int32))] [])) t → Steps p.tables e below (s₁.setTop (entryFrame m #[(.ref rp), (.ref rs), (.int mm), (.ref rq), (.ref rt), (.int (0 : Int32))] 6)) t := fun t k => castTop (ef_6l0 m rp rs mm rq rt) k
  obtain ⟨cl1, Arcl1, hincl1, hatcl1⟩ := AF.at A_rp (j := (0 : Int32)) 0 (by decide) hin
  obtain ⟨cl2, Arcl2, hincl2, hatcl2⟩ := AF.at A_rq (j := (0 : Int32)) 0 (by decide) (by decide)
  have pre3 : ∀ t, Steps p.tables e below (s₁.setTop (mkF m 16 #[.val (.ref rp), .val (.ref rs), .val (.int mm), .val (.ref rq), .val (.ref rt), .val (.int (0 : Int32))] [(.int (fq 0)), (.int (fp 0))])) t → Steps p.tables e below (s₁.setTop (entryFrame m #[(.ref rp), (.ref rs), (.int mm), (.ref rq), (.ref rt), (.int (0 : Int32))] 6)) t := by
    intro t k
    refine pre0 _ ?_
    refine XS.iload X0.here hx rfl (hb hby d6_0) rfl ?_
    refine XS.iloadN X0.here hx rfl (hb hby d6_2) rfl ?_
    refine XS.icmpYes X0.here hx rfl (pc0 := 3) (pc' := 8) rfl (hb hby d6_3) rfl (tlt hc3).1 (by decide) (by decide) ?_
    refine XS.aloadN X0.here hx rfl (hb hby d6_8) rfl rfl ?_
    refine XS.iload X0.here hx rfl (hb hby d6_9) rfl ?_
    refine X0.baloadBytes hx (j := (0 : Int32)) (v := (.int (fp 0))) (by rw [e0]; exact Arcl1.1) (State.isArrayOf_alike hZ.alike Arcl1.2.1) Arcl1.2.2 hincl1 hatcl1 (g := (mkF m 11 #[.val (.ref rp), .val (.ref rs), .val (.int mm), .val (.ref rq), .val (.ref rt), .val (.int (0 : Int32))] [(.int (0 : Int32)), (.ref rp)])) rfl rfl (hb hby d6_11) _ ?_
    refine XS.aloadN X0.here hx rfl (hb hby d6_12) rfl rfl ?_
    refine XS.iload X0.here hx rfl (hb hby d6_13) rfl ?_
    refine X0.baloadBytes hx (j := (0 : Int32)) (v := (.int (fq 0))) (by rw [e0]; exact Arcl2.1) (State.isArrayOf_alike hZ.alike Arcl2.2.1) Arcl2.2.2 hincl2 hatcl2 (g := (mkF m 15 #[.val (.ref rp), .val (.ref rs), .val (.int mm), .val (.ref rq), .val (.ref rt), .val (.int (0 : Int32))] [(.int (0 : Int32)), (.ref rq), (.int (fp 0))])) rfl rfl (hb hby d6_15) _ ?_
    exact k
  by_cases hk4 : (fp 0) = (fq 0)
  · obtain ⟨cl5, Arcl5, hincl5, hatcl5⟩ := AF.at A_rs (j := (0 : Int32)) 0 (by decide) hin
    obtain ⟨cl6, Arcl6, hincl6, hatcl6⟩ := AF.at A_rt (j := (0 : Int32)) 0 (by decide) (by decide)
    have pre7 : ∀ t, Steps p.tables e below (s₁.setTop (mkF m 28 #[.val (.ref rp), .val (.ref rs), .val (.int mm), .val (.ref rq), .val (.ref rt), .val (.int (0 : Int32))] [(.int (fu 0)), (.int (fz 0))])) t → Steps p.tables e below (s₁.setTop (entryFrame m #[(.ref rp), (.ref rs), (.int mm), (.ref rq), (.ref rt), (.int (0 : Int32))] 6)) t := by
      intro t k
      refine pre3 _ ?_
      refine XS.icmpNo X0.here hx rfl (hb hby d6_16) rfl (teq hk4).2 ?_
      refine XS.aloadN X0.here hx rfl (hb hby d6_19) rfl rfl ?_
      refine XS.iload X0.here hx rfl (hb hby d6_20) rfl ?_
      refine X0.iaload hx (j := (0 : Int32)) (v := (.int (fz 0))) (by rw [e0]; exact Arcl5.1) (State.isArrayOf_alike hZ.alike Arcl5.2.1) Arcl5.2.2 hincl5 hatcl5 (g := (mkF m 22 #[.val (.ref rp), .val (.ref rs), .val (.int mm), .val (.ref rq), .val (.ref rt), .val (.int (0 : Int32))] [(.int (0 : Int32)), (.ref rs)])) rfl rfl (hb hby d6_22) _ ?_
      refine XS.aload X0.here hx rfl (hb hby d6_23) rfl rfl ?_
      refine XS.iload X0.here hx rfl (hb hby d6_25) rfl ?_
      refine X0.iaload hx (j := (0 : Int32)) (v := (.int (fu 0))) (by rw [e0]; exact Arcl6.1) (State.isArrayOf_alike hZ.alike Arcl6.2.1) Arcl6.2.2 hincl6 hatcl6 (g := (mkF m 27 #[.val (.ref rp), .val (.ref rs), .val (.int mm), .val (.ref rq), .val (.ref rt), .val (.int (0 : Int32))] [(.int (0 : Int32)), (.ref rt), (.int (fz 0))])) rfl rfl (hb hby d6_27) _ ?_
      exact k
    by_cases hk8 : (fz 0) = (fu 0)
    · obtain ⟨fs, hr, hrun, hended, hW, hsame⟩ := X0.leave (v := some (.int (1 : Int32))) (fun h => by rw [Bd.returns] at h; cases h) (hlocks := Bd.notSynchronized)
      refine ⟨_, _, pre7 _ ?_, hrun, hended, _, _, rfl, ?_, ⟨_, rfl⟩, hW, hsame.mono (by decide) (by decide)⟩
      · show Steps p.tables e below (s₁.setTop (mkF m 28 #[.val (.ref rp), .val (.ref rs), .val (.int mm), .val (.ref rq), .val (.ref rt), .val (.int (0 : Int32))] [(.int (fu 0)), (.int (fz 0))])) _
        refine XS.icmpNo X0.here hx rfl (hb hby d6_28) rfl (teq hk8).2 ?_
        refine XS.iconst X0.here hx rfl (hb hby d6_31) ?_
        refine XS.goto X0.here hx rfl (pc0 := 32) (pc' := 36) rfl (hb hby d6_32) (by decide) (by decide) ?_
        exact retN X0 hx (t := .boolean) Bd.returns (by simp) (hb hby d6_36) hr
      · show Q6l0 Z rp rs mm rq rt fq fu fp fz nn h0 n0 _ s₁.heap _
        rw [e0]
        have ev9 : (r6l0_v fq fu fp fz) = (1 : Int32) := by unfold r6l0_v; rw [if_pos hk4, if_pos hk8]
        exact ⟨(congrArg (fun z => some (Value.int z)) ev9.symm), N0, rfl⟩
    · obtain ⟨fs, hr, hrun, hended, hW, hsame⟩ := X0.leave (v := some (.int (0 : Int32))) (fun h => by rw [Bd.returns] at h; cases h) (hlocks := Bd.notSynchronized)
      refine ⟨_, _, pre7 _ ?_, hrun, hended, _, _, rfl, ?_, ⟨_, rfl⟩, hW, hsame.mono (by decide) (by decide)⟩
      · show Steps p.tables e below (s₁.setTop (mkF m 28 #[.val (.ref rp), .val (.ref rs), .val (.int mm), .val (.ref rq), .val (.ref rt), .val (.int (0 : Int32))] [(.int (fu 0)), (.int (fz 0))])) _
        refine XS.icmpYes X0.here hx rfl (pc0 := 28) (pc' := 35) rfl (hb hby d6_28) rfl (feq hk8).2 (by decide) (by decide) ?_
        refine XS.iconst X0.here hx rfl (hb hby d6_35) ?_
        exact retN X0 hx (t := .boolean) Bd.returns (by simp) (hb hby d6_36) hr
      · show Q6l0 Z rp rs mm rq rt fq fu fp fz nn h0 n0 _ s₁.heap _
        rw [e0]
        have ev10 : (r6l0_v fq fu fp fz) = (0 : Int32) := by unfold r6l0_v; rw [if_pos hk4, if_neg hk8]
        exact ⟨(congrArg (fun z => some (Value.int z)) ev10.symm), N0, rfl⟩
  · obtain ⟨fs, hr, hrun, hended, hW, hsame⟩ := X0.leave (v := some (.int (0 : Int32))) (fun h => by rw [Bd.returns] at h; cases h) (hlocks := Bd.notSynchronized)
    refine ⟨_, _, pre3 _ ?_, hrun, hended, _, _, rfl, ?_, ⟨_, rfl⟩, hW, hsame.mono (by decide) (by decide)⟩
    · show Steps p.tables e below (s₁.setTop (mkF m 16 #[.val (.ref rp), .val (.ref rs), .val (.int mm), .val (.ref rq), .val (.ref rt), .val (.int (0 : Int32))] [(.int (fq 0)), (.int (fp 0))])) _
      refine XS.icmpYes X0.here hx rfl (pc0 := 16) (pc' := 35) rfl (hb hby d6_16) rfl (feq hk4).2 (by decide) (by decide) ?_
      refine XS.iconst X0.here hx rfl (hb hby d6_35) ?_
      exact retN X0 hx (t := .boolean) Bd.returns (by simp) (hb hby d6_36) hr
    · show Q6l0 Z rp rs mm rq rt fq fu fp fz nn h0 n0 _ s₁.heap _
      rw [e0]
      have ev11 : (r6l0_v fq fu fp fz) = (0 : Int32) := by unfold r6l0_v; rw [if_neg hk4]
      exact ⟨(congrArg (fun z => some (Value.int z)) ev11.symm), N0, rfl⟩
theorem ef_6l1 (m : MethodId) (rp : Addr) (rs : Addr) (mm : Int32) (rq : Addr) (rt : Addr) : entryFrame m #[(.ref rp), (.ref rs), (.int mm), (.ref rq), (.ref rt), (.int (1 : Int32))] 6 = mkF m 0 #[.val (.ref rp), .val (.ref rs), .val (.int mm), .val (.ref rq), .val (.ref rt), .val (.int (1 : Int32))] [] := by first | (simp [entryFrame, mkF, argsToLocals, Value.category]; done) | rfl
def r6l1_v (fq : Nat → Int32) (fu : Nat → Int32) (fp : Nat → Int32) (fz : Nat → Int32) : Int32 := (if (fp 1) = (fq 1) then (if (fz 1) = (fu 1) then (1 : Int32) else (0 : Int32)) else (0 : Int32))
def Q6l1 (Z : State) (rp : Addr) (rs : Addr) (mm : Int32) (rq : Addr) (rt : Addr) (fq : Nat → Int32) (fu : Nat → Int32) (fp : Nat → Int32) (fz : Nat → Int32) (nn : Nat) (h0 : Heap) (n0 : Nat) (v : Option Value) (h : Heap) (L : List Loc) : Prop := v = some (.int (r6l1_v fq fu fp fz)) ∧ Fr n0 L ∧ h = h0
set_option maxRecDepth 65536 in
set_option maxHeartbeats 40000000 in
theorem rm6l1 (l : Launch) (Z : State) (a0 : Array Value) (hw : ∀ d ∈ tables_1, d.before a0 Z = true) (ws : List Jvm.Cond) (rp : Addr) (rs : Addr) (mm : Int32) (rq : Addr) (rt : Addr) (fq : Nat → Int32) (fu : Nat → Int32) (fp : Nat → Int32) (fz : Nat → Int32) (nn : Nat) (h0 : Heap) (n0 : Nat) (Z0 : n0 ≤ h0.size) (A_rp : AI Z h0 rp .byte nn fp) (A_rs : AI Z h0 rs .int nn fz) (A_rq : AI Z h0 rq .byte 5 fq) (A_rt : AI Z h0 rt .int 5 fu) (hin : 1 < nn) (hc3 : ((1 : Int32) < mm)) :
    MetFree l (⟨"skipstitch/table/PrefixTableOptimisedPinLaw", "same", "([B[II[B[II)Z"⟩ : MethodName) (head1 (Jvm.Cond.code (⟨"skipstitch/table/PrefixTableOptimisedPinLaw", "same", "([B[II[B[II)Z"⟩ : MethodName) method_9_code 6 (some .boolean) :: ws) ({ frames := 0, cells := 0, slots := 0, locals := 0 } : Room)) (fun a U => a = #[(.ref rp), (.ref rs), (.int mm), (.ref rq), (.ref rt), (.int (1 : Int32))] ∧ Z.Warmed39 U.vm ∧ U.heap = h0) (fun _ _ _ _ _ => True) (fun _ U o U' => ∃ v L, o = .returned v ∧ Q6l1 Z rp rs mm rq rt fq fu fp fz nn h0 n0 v U'.heap L ∧ FrameEnd U o U' L ({ frames := 0, cells := 0, slots := 0, locals := 0 } : Room).cells ({ frames := 0, cells := 0, slots := 0, locals := 0 } : Room).slots) := by
  refine MetFree.of_bodySF (plainFor_of_name pn_skipstitch_table_PrefixTableOptimisedPinLaw) hisR ?_
  intro p e s m args below meth c s₁ Bd hml0 hP hK
  obtain ⟨rfl, hZ, hh⟩ := hP
  have hx := Bd.exec
  have hby := Bd.bytes
  have hml : c.maxLocals = 6 := hml0
  have hown : s.vm.findClass "skipstitch/table/PrefixTableOptimisedPinLaw" = some m.cls := findClass_of_methodNamed Bd.named
  have hnm := (name_of_methodNamed Bd.named Bd.method).1
  have X0 : Stand p l e ({ frames := 0, cells := 0, slots := 0, locals := 0 } : Room) s m #[(.ref rp), (.ref rs), (.int mm), (.ref rq), (.ref rt), (.int (1 : Int32))] below meth c s₁ [] 0 0 := Stand.of_body Bd
  have e0 : s₁.heap = h0 := by rw [← hh, Bd.state]; rfl
  have N0 := Fr.nil n0
  have K0 : Keep h0 h0 [] := Keep.refl h0 _
  have pre0 : ∀ t, Steps p.tables e below (s₁.setTop (mkF m 0 #[.val (.ref rp), .val (.ref rs), .val (.int mm), .val (.ref rq), .val (.ref rt), .val (.int (1 : Int32))] [])) t → Steps p.tables e below (s₁.setTop (entryFrame m #[(.ref rp), (.ref rs), (.int mm), (.ref rq), (.ref rt), (.int (1 : Int32))] 6)) t := fun t k => castTop (ef_6l1 m rp rs mm rq rt) k
  obtain ⟨cl1, Arcl1, hincl1, hatcl1⟩ := AF.at A_rp (j := (1 : Int32)) 1 (by decide) hin
  obtain ⟨cl2, Arcl2, hincl2, hatcl2⟩ := AF.at A_rq (j := (1 : Int32)) 1 (by decide) (by decide)
  have pre3 : ∀ t, Steps p.tables e below (s₁.setTop (mkF m 16 #[.val (.ref rp), .val (.ref rs), .val (.int mm), .val (.ref rq), .val (.ref rt), .val (.int (1 : Int32))] [(.int (fq 1)), (.int (fp 1))])) t → Steps p.tables e below (s₁.setTop (entryFrame m #[(.ref rp), (.ref rs), (.int mm), (.ref rq), (.ref rt), (.int (1 : Int32))] 6)) t := by
    intro t k
    refine pre0 _ ?_
    refine XS.iload X0.here hx rfl (hb hby d6_0) rfl ?_
    refine XS.iloadN X0.here hx rfl (hb hby d6_2) rfl ?_
    refine XS.icmpYes X0.here hx rfl (pc0 := 3) (pc' := 8) rfl (hb hby d6_3) rfl (tlt hc3).1 (by decide) (by decide) ?_
    refine XS.aloadN X0.here hx rfl (hb hby d6_8) rfl rfl ?_
    refine XS.iload X0.here hx rfl (hb hby d6_9) rfl ?_
    refine X0.baloadBytes hx (j := (1 : Int32)) (v := (.int (fp 1))) (by rw [e0]; exact Arcl1.1) (State.isArrayOf_alike hZ.alike Arcl1.2.1) Arcl1.2.2 hincl1 hatcl1 (g := (mkF m 11 #[.val (.ref rp), .val (.ref rs), .val (.int mm), .val (.ref rq), .val (.ref rt), .val (.int (1 : Int32))] [(.int (1 : Int32)), (.ref rp)])) rfl rfl (hb hby d6_11) _ ?_
    refine XS.aloadN X0.here hx rfl (hb hby d6_12) rfl rfl ?_
    refine XS.iload X0.here hx rfl (hb hby d6_13) rfl ?_
    refine X0.baloadBytes hx (j := (1 : Int32)) (v := (.int (fq 1))) (by rw [e0]; exact Arcl2.1) (State.isArrayOf_alike hZ.alike Arcl2.2.1) Arcl2.2.2 hincl2 hatcl2 (g := (mkF m 15 #[.val (.ref rp), .val (.ref rs), .val (.int mm), .val (.ref rq), .val (.ref rt), .val (.int (1 : Int32))] [(.int (1 : Int32)), (.ref rq), (.int (fp 1))])) rfl rfl (hb hby d6_15) _ ?_
    exact k
  by_cases hk4 : (fp 1) = (fq 1)
  · obtain ⟨cl5, Arcl5, hincl5, hatcl5⟩ := AF.at A_rs (j := (1 : Int32)) 1 (by decide) hin
    obtain ⟨cl6, Arcl6, hincl6, hatcl6⟩ := AF.at A_rt (j := (1 : Int32)) 1 (by decide) (by decide)
    have pre7 : ∀ t, Steps p.tables e below (s₁.setTop (mkF m 28 #[.val (.ref rp), .val (.ref rs), .val (.int mm), .val (.ref rq), .val (.ref rt), .val (.int (1 : Int32))] [(.int (fu 1)), (.int (fz 1))])) t → Steps p.tables e below (s₁.setTop (entryFrame m #[(.ref rp), (.ref rs), (.int mm), (.ref rq), (.ref rt), (.int (1 : Int32))] 6)) t := by
      intro t k
      refine pre3 _ ?_
      refine XS.icmpNo X0.here hx rfl (hb hby d6_16) rfl (teq hk4).2 ?_
      refine XS.aloadN X0.here hx rfl (hb hby d6_19) rfl rfl ?_
      refine XS.iload X0.here hx rfl (hb hby d6_20) rfl ?_
      refine X0.iaload hx (j := (1 : Int32)) (v := (.int (fz 1))) (by rw [e0]; exact Arcl5.1) (State.isArrayOf_alike hZ.alike Arcl5.2.1) Arcl5.2.2 hincl5 hatcl5 (g := (mkF m 22 #[.val (.ref rp), .val (.ref rs), .val (.int mm), .val (.ref rq), .val (.ref rt), .val (.int (1 : Int32))] [(.int (1 : Int32)), (.ref rs)])) rfl rfl (hb hby d6_22) _ ?_
      refine XS.aload X0.here hx rfl (hb hby d6_23) rfl rfl ?_
      refine XS.iload X0.here hx rfl (hb hby d6_25) rfl ?_
      refine X0.iaload hx (j := (1 : Int32)) (v := (.int (fu 1))) (by rw [e0]; exact Arcl6.1) (State.isArrayOf_alike hZ.alike Arcl6.2.1) Arcl6.2.2 hincl6 hatcl6 (g := (mkF m 27 #[.val (.ref rp), .val (.ref rs), .val (.int mm), .val (.ref rq), .val (.ref rt), .val (.int (1 : Int32))] [(.int (1 : Int32)), (.ref rt), (.int (fz 1))])) rfl rfl (hb hby d6_27) _ ?_
      exact k
    by_cases hk8 : (fz 1) = (fu 1)
    · obtain ⟨fs, hr, hrun, hended, hW, hsame⟩ := X0.leave (v := some (.int (1 : Int32))) (fun h => by rw [Bd.returns] at h; cases h) (hlocks := Bd.notSynchronized)
      refine ⟨_, _, pre7 _ ?_, hrun, hended, _, _, rfl, ?_, ⟨_, rfl⟩, hW, hsame.mono (by decide) (by decide)⟩
      · show Steps p.tables e below (s₁.setTop (mkF m 28 #[.val (.ref rp), .val (.ref rs), .val (.int mm), .val (.ref rq), .val (.ref rt), .val (.int (1 : Int32))] [(.int (fu 1)), (.int (fz 1))])) _
        refine XS.icmpNo X0.here hx rfl (hb hby d6_28) rfl (teq hk8).2 ?_
        refine XS.iconst X0.here hx rfl (hb hby d6_31) ?_
        refine XS.goto X0.here hx rfl (pc0 := 32) (pc' := 36) rfl (hb hby d6_32) (by decide) (by decide) ?_
        exact retN X0 hx (t := .boolean) Bd.returns (by simp) (hb hby d6_36) hr
      · show Q6l1 Z rp rs mm rq rt fq fu fp fz nn h0 n0 _ s₁.heap _
        rw [e0]
        have ev9 : (r6l1_v fq fu fp fz) = (1 : Int32) := by unfold r6l1_v; rw [if_pos hk4, if_pos hk8]
        exact ⟨(congrArg (fun z => some (Value.int z)) ev9.symm), N0, rfl⟩
    · obtain ⟨fs, hr, hrun, hended, hW, hsame⟩ := X0.leave (v := some (.int (0 : Int32))) (fun h => by rw [Bd.returns] at h; cases h) (hlocks := Bd.notSynchronized)
      refine ⟨_, _, pre7 _ ?_, hrun, hended, _, _, rfl, ?_, ⟨_, rfl⟩, hW, hsame.mono (by decide) (by decide)⟩
      · show Steps p.tables e below (s₁.setTop (mkF m 28 #[.val (.ref rp), .val (.ref rs), .val (.int mm), .val (.ref rq), .val (.ref rt), .val (.int (1 : Int32))] [(.int (fu 1)), (.int (fz 1))])) _
        refine XS.icmpYes X0.here hx rfl (pc0 := 28) (pc' := 35) rfl (hb hby d6_28) rfl (feq hk8).2 (by decide) (by decide) ?_
        refine XS.iconst X0.here hx rfl (hb hby d6_35) ?_
        exact retN X0 hx (t := .boolean) Bd.returns (by simp) (hb hby d6_36) hr
      · show Q6l1 Z rp rs mm rq rt fq fu fp fz nn h0 n0 _ s₁.heap _
        rw [e0]
        have ev10 : (r6l1_v fq fu fp fz) = (0 : Int32) := by unfold r6l1_v; rw [if_pos hk4, if_neg hk8]
        exact ⟨(congrArg (fun z => some (Value.int z)) ev10.symm), N0, rfl⟩
  · obtain ⟨fs, hr, hrun, hended, hW, hsame⟩ := X0.leave (v := some (.int (0 : Int32))) (fun h => by rw [Bd.returns] at h; cases h) (hlocks := Bd.notSynchronized)
    refine ⟨_, _, pre3 _ ?_, hrun, hended, _, _, rfl, ?_, ⟨_, rfl⟩, hW, hsame.mono (by decide) (by decide)⟩
    · show Steps p.tables e below (s₁.setTop (mkF m 16 #[.val (.ref rp), .val (.ref rs), .val (.int mm), .val (.ref rq), .val (.ref rt), .val (.int (1 : Int32))] [(.int (fq 1)), (.int (fp 1))])) _
      refine XS.icmpYes X0.here hx rfl (pc0 := 16) (pc' := 35) rfl (hb hby d6_16) rfl (feq hk4).2 (by decide) (by decide) ?_
      refine XS.iconst X0.here hx rfl (hb hby d6_35) ?_
      exact retN X0 hx (t := .boolean) Bd.returns (by simp) (hb hby d6_36) hr
    · show Q6l1 Z rp rs mm rq rt fq fu fp fz nn h0 n0 _ s₁.heap _
      rw [e0]
      have ev11 : (r6l1_v fq fu fp fz) = (0 : Int32) := by unfold r6l1_v; rw [if_neg hk4]
      exact ⟨(congrArg (fun z => some (Value.int z)) ev11.symm), N0, rfl⟩
theorem ef_6l2 (m : MethodId) (rp : Addr) (rs : Addr) (mm : Int32) (rq : Addr) (rt : Addr) : entryFrame m #[(.ref rp), (.ref rs), (.int mm), (.ref rq), (.ref rt), (.int (2 : Int32))] 6 = mkF m 0 #[.val (.ref rp), .val (.ref rs), .val (.int mm), .val (.ref rq), .val (.ref rt), .val (.int (2 : Int32))] [] := by first | (simp [entryFrame, mkF, argsToLocals, Value.category]; done) | rfl
def r6l2_v (fq : Nat → Int32) (fu : Nat → Int32) (fp : Nat → Int32) (fz : Nat → Int32) : Int32 := (if (fp 2) = (fq 2) then (if (fz 2) = (fu 2) then (1 : Int32) else (0 : Int32)) else (0 : Int32))
def Q6l2 (Z : State) (rp : Addr) (rs : Addr) (mm : Int32) (rq : Addr) (rt : Addr) (fq : Nat → Int32) (fu : Nat → Int32) (fp : Nat → Int32) (fz : Nat → Int32) (nn : Nat) (h0 : Heap) (n0 : Nat) (v : Option Value) (h : Heap) (L : List Loc) : Prop := v = some (.int (r6l2_v fq fu fp fz)) ∧ Fr n0 L ∧ h = h0
set_option maxRecDepth 65536 in
set_option maxHeartbeats 40000000 in
theorem rm6l2 (l : Launch) (Z : State) (a0 : Array Value) (hw : ∀ d ∈ tables_1, d.before a0 Z = true) (ws : List Jvm.Cond) (rp : Addr) (rs : Addr) (mm : Int32) (rq : Addr) (rt : Addr) (fq : Nat → Int32) (fu : Nat → Int32) (fp : Nat → Int32) (fz : Nat → Int32) (nn : Nat) (h0 : Heap) (n0 : Nat) (Z0 : n0 ≤ h0.size) (A_rp : AI Z h0 rp .byte nn fp) (A_rs : AI Z h0 rs .int nn fz) (A_rq : AI Z h0 rq .byte 5 fq) (A_rt : AI Z h0 rt .int 5 fu) (hin : 2 < nn) (hc3 : ((2 : Int32) < mm)) :
    MetFree l (⟨"skipstitch/table/PrefixTableOptimisedPinLaw", "same", "([B[II[B[II)Z"⟩ : MethodName) (head1 (Jvm.Cond.code (⟨"skipstitch/table/PrefixTableOptimisedPinLaw", "same", "([B[II[B[II)Z"⟩ : MethodName) method_9_code 6 (some .boolean) :: ws) ({ frames := 0, cells := 0, slots := 0, locals := 0 } : Room)) (fun a U => a = #[(.ref rp), (.ref rs), (.int mm), (.ref rq), (.ref rt), (.int (2 : Int32))] ∧ Z.Warmed39 U.vm ∧ U.heap = h0) (fun _ _ _ _ _ => True) (fun _ U o U' => ∃ v L, o = .returned v ∧ Q6l2 Z rp rs mm rq rt fq fu fp fz nn h0 n0 v U'.heap L ∧ FrameEnd U o U' L ({ frames := 0, cells := 0, slots := 0, locals := 0 } : Room).cells ({ frames := 0, cells := 0, slots := 0, locals := 0 } : Room).slots) := by
  refine MetFree.of_bodySF (plainFor_of_name pn_skipstitch_table_PrefixTableOptimisedPinLaw) hisR ?_
  intro p e s m args below meth c s₁ Bd hml0 hP hK
  obtain ⟨rfl, hZ, hh⟩ := hP
  have hx := Bd.exec
  have hby := Bd.bytes
  have hml : c.maxLocals = 6 := hml0
  have hown : s.vm.findClass "skipstitch/table/PrefixTableOptimisedPinLaw" = some m.cls := findClass_of_methodNamed Bd.named
  have hnm := (name_of_methodNamed Bd.named Bd.method).1
  have X0 : Stand p l e ({ frames := 0, cells := 0, slots := 0, locals := 0 } : Room) s m #[(.ref rp), (.ref rs), (.int mm), (.ref rq), (.ref rt), (.int (2 : Int32))] below meth c s₁ [] 0 0 := Stand.of_body Bd
  have e0 : s₁.heap = h0 := by rw [← hh, Bd.state]; rfl
  have N0 := Fr.nil n0
  have K0 : Keep h0 h0 [] := Keep.refl h0 _
  have pre0 : ∀ t, Steps p.tables e below (s₁.setTop (mkF m 0 #[.val (.ref rp), .val (.ref rs), .val (.int mm), .val (.ref rq), .val (.ref rt), .val (.int (2 : Int32))] [])) t → Steps p.tables e below (s₁.setTop (entryFrame m #[(.ref rp), (.ref rs), (.int mm), (.ref rq), (.ref rt), (.int (2 : Int32))] 6)) t := fun t k => castTop (ef_6l2 m rp rs mm rq rt) k
  obtain ⟨cl1, Arcl1, hincl1, hatcl1⟩ := AF.at A_rp (j := (2 : Int32)) 2 (by decide) hin
  obtain ⟨cl2, Arcl2, hincl2, hatcl2⟩ := AF.at A_rq (j := (2 : Int32)) 2 (by decide) (by decide)
  have pre3 : ∀ t, Steps p.tables e below (s₁.setTop (mkF m 16 #[.val (.ref rp), .val (.ref rs), .val (.int mm), .val (.ref rq), .val (.ref rt), .val (.int (2 : Int32))] [(.int (fq 2)), (.int (fp 2))])) t → Steps p.tables e below (s₁.setTop (entryFrame m #[(.ref rp), (.ref rs), (.int mm), (.ref rq), (.ref rt), (.int (2 : Int32))] 6)) t := by
    intro t k
    refine pre0 _ ?_
    refine XS.iload X0.here hx rfl (hb hby d6_0) rfl ?_
    refine XS.iloadN X0.here hx rfl (hb hby d6_2) rfl ?_
    refine XS.icmpYes X0.here hx rfl (pc0 := 3) (pc' := 8) rfl (hb hby d6_3) rfl (tlt hc3).1 (by decide) (by decide) ?_
    refine XS.aloadN X0.here hx rfl (hb hby d6_8) rfl rfl ?_
    refine XS.iload X0.here hx rfl (hb hby d6_9) rfl ?_
    refine X0.baloadBytes hx (j := (2 : Int32)) (v := (.int (fp 2))) (by rw [e0]; exact Arcl1.1) (State.isArrayOf_alike hZ.alike Arcl1.2.1) Arcl1.2.2 hincl1 hatcl1 (g := (mkF m 11 #[.val (.ref rp), .val (.ref rs), .val (.int mm), .val (.ref rq), .val (.ref rt), .val (.int (2 : Int32))] [(.int (2 : Int32)), (.ref rp)])) rfl rfl (hb hby d6_11) _ ?_
    refine XS.aloadN X0.here hx rfl (hb hby d6_12) rfl rfl ?_
    refine XS.iload X0.here hx rfl (hb hby d6_13) rfl ?_
    refine X0.baloadBytes hx (j := (2 : Int32)) (v := (.int (fq 2))) (by rw [e0]; exact Arcl2.1) (State.isArrayOf_alike hZ.alike Arcl2.2.1) Arcl2.2.2 hincl2 hatcl2 (g := (mkF m 15 #[.val (.ref rp), .val (.ref rs), .val (.int mm), .val (.ref rq), .val (.ref rt), .val (.int (2 : Int32))] [(.int (2 : Int32)), (.ref rq), (.int (fp 2))])) rfl rfl (hb hby d6_15) _ ?_
    exact k
  by_cases hk4 : (fp 2) = (fq 2)
  · obtain ⟨cl5, Arcl5, hincl5, hatcl5⟩ := AF.at A_rs (j := (2 : Int32)) 2 (by decide) hin
    obtain ⟨cl6, Arcl6, hincl6, hatcl6⟩ := AF.at A_rt (j := (2 : Int32)) 2 (by decide) (by decide)
    have pre7 : ∀ t, Steps p.tables e below (s₁.setTop (mkF m 28 #[.val (.ref rp), .val (.ref rs), .val (.int mm), .val (.ref rq), .val (.ref rt), .val (.int (2 : Int32))] [(.int (fu 2)), (.int (fz 2))])) t → Steps p.tables e below (s₁.setTop (entryFrame m #[(.ref rp), (.ref rs), (.int mm), (.ref rq), (.ref rt), (.int (2 : Int32))] 6)) t := by
      intro t k
      refine pre3 _ ?_
      refine XS.icmpNo X0.here hx rfl (hb hby d6_16) rfl (teq hk4).2 ?_
      refine XS.aloadN X0.here hx rfl (hb hby d6_19) rfl rfl ?_
      refine XS.iload X0.here hx rfl (hb hby d6_20) rfl ?_
      refine X0.iaload hx (j := (2 : Int32)) (v := (.int (fz 2))) (by rw [e0]; exact Arcl5.1) (State.isArrayOf_alike hZ.alike Arcl5.2.1) Arcl5.2.2 hincl5 hatcl5 (g := (mkF m 22 #[.val (.ref rp), .val (.ref rs), .val (.int mm), .val (.ref rq), .val (.ref rt), .val (.int (2 : Int32))] [(.int (2 : Int32)), (.ref rs)])) rfl rfl (hb hby d6_22) _ ?_
      refine XS.aload X0.here hx rfl (hb hby d6_23) rfl rfl ?_
      refine XS.iload X0.here hx rfl (hb hby d6_25) rfl ?_
      refine X0.iaload hx (j := (2 : Int32)) (v := (.int (fu 2))) (by rw [e0]; exact Arcl6.1) (State.isArrayOf_alike hZ.alike Arcl6.2.1) Arcl6.2.2 hincl6 hatcl6 (g := (mkF m 27 #[.val (.ref rp), .val (.ref rs), .val (.int mm), .val (.ref rq), .val (.ref rt), .val (.int (2 : Int32))] [(.int (2 : Int32)), (.ref rt), (.int (fz 2))])) rfl rfl (hb hby d6_27) _ ?_
      exact k
    by_cases hk8 : (fz 2) = (fu 2)
    · obtain ⟨fs, hr, hrun, hended, hW, hsame⟩ := X0.leave (v := some (.int (1 : Int32))) (fun h => by rw [Bd.returns] at h; cases h) (hlocks := Bd.notSynchronized)
      refine ⟨_, _, pre7 _ ?_, hrun, hended, _, _, rfl, ?_, ⟨_, rfl⟩, hW, hsame.mono (by decide) (by decide)⟩
      · show Steps p.tables e below (s₁.setTop (mkF m 28 #[.val (.ref rp), .val (.ref rs), .val (.int mm), .val (.ref rq), .val (.ref rt), .val (.int (2 : Int32))] [(.int (fu 2)), (.int (fz 2))])) _
        refine XS.icmpNo X0.here hx rfl (hb hby d6_28) rfl (teq hk8).2 ?_
        refine XS.iconst X0.here hx rfl (hb hby d6_31) ?_
        refine XS.goto X0.here hx rfl (pc0 := 32) (pc' := 36) rfl (hb hby d6_32) (by decide) (by decide) ?_
        exact retN X0 hx (t := .boolean) Bd.returns (by simp) (hb hby d6_36) hr
      · show Q6l2 Z rp rs mm rq rt fq fu fp fz nn h0 n0 _ s₁.heap _
        rw [e0]
        have ev9 : (r6l2_v fq fu fp fz) = (1 : Int32) := by unfold r6l2_v; rw [if_pos hk4, if_pos hk8]
        exact ⟨(congrArg (fun z => some (Value.int z)) ev9.symm), N0, rfl⟩
    · obtain ⟨fs, hr, hrun, hended, hW, hsame⟩ := X0.leave (v := some (.int (0 : Int32))) (fun h => by rw [Bd.returns] at h; cases h) (hlocks := Bd.notSynchronized)
      refine ⟨_, _, pre7 _ ?_, hrun, hended, _, _, rfl, ?_, ⟨_, rfl⟩, hW, hsame.mono (by decide) (by decide)⟩
      · show Steps p.tables e below (s₁.setTop (mkF m 28 #[.val (.ref rp), .val (.ref rs), .val (.int mm), .val (.ref rq), .val (.ref rt), .val (.int (2 : Int32))] [(.int (fu 2)), (.int (fz 2))])) _
        refine XS.icmpYes X0.here hx rfl (pc0 := 28) (pc' := 35) rfl (hb hby d6_28) rfl (feq hk8).2 (by decide) (by decide) ?_
        refine XS.iconst X0.here hx rfl (hb hby d6_35) ?_
        exact retN X0 hx (t := .boolean) Bd.returns (by simp) (hb hby d6_36) hr
      · show Q6l2 Z rp rs mm rq rt fq fu fp fz nn h0 n0 _ s₁.heap _
        rw [e0]
        have ev10 : (r6l2_v fq fu fp fz) = (0 : Int32) := by unfold r6l2_v; rw [if_pos hk4, if_neg hk8]
        exact ⟨(congrArg (fun z => some (Value.int z)) ev10.symm), N0, rfl⟩
  · obtain ⟨fs, hr, hrun, hended, hW, hsame⟩ := X0.leave (v := some (.int (0 : Int32))) (fun h => by rw [Bd.returns] at h; cases h) (hlocks := Bd.notSynchronized)
    refine ⟨_, _, pre3 _ ?_, hrun, hended, _, _, rfl, ?_, ⟨_, rfl⟩, hW, hsame.mono (by decide) (by decide)⟩
    · show Steps p.tables e below (s₁.setTop (mkF m 16 #[.val (.ref rp), .val (.ref rs), .val (.int mm), .val (.ref rq), .val (.ref rt), .val (.int (2 : Int32))] [(.int (fq 2)), (.int (fp 2))])) _
      refine XS.icmpYes X0.here hx rfl (pc0 := 16) (pc' := 35) rfl (hb hby d6_16) rfl (feq hk4).2 (by decide) (by decide) ?_
      refine XS.iconst X0.here hx rfl (hb hby d6_35) ?_
      exact retN X0 hx (t := .boolean) Bd.returns (by simp) (hb hby d6_36) hr
    · show Q6l2 Z rp rs mm rq rt fq fu fp fz nn h0 n0 _ s₁.heap _
      rw [e0]
      have ev11 : (r6l2_v fq fu fp fz) = (0 : Int32) := by unfold r6l2_v; rw [if_neg hk4]
      exact ⟨(congrArg (fun z => some (Value.int z)) ev11.symm), N0, rfl⟩
theorem ef_6l3 (m : MethodId) (rp : Addr) (rs : Addr) (mm : Int32) (rq : Addr) (rt : Addr) : entryFrame m #[(.ref rp), (.ref rs), (.int mm), (.ref rq), (.ref rt), (.int (3 : Int32))] 6 = mkF m 0 #[.val (.ref rp), .val (.ref rs), .val (.int mm), .val (.ref rq), .val (.ref rt), .val (.int (3 : Int32))] [] := by first | (simp [entryFrame, mkF, argsToLocals, Value.category]; done) | rfl
def r6l3_v (fq : Nat → Int32) (fu : Nat → Int32) (fp : Nat → Int32) (fz : Nat → Int32) : Int32 := (if (fp 3) = (fq 3) then (if (fz 3) = (fu 3) then (1 : Int32) else (0 : Int32)) else (0 : Int32))
def Q6l3 (Z : State) (rp : Addr) (rs : Addr) (mm : Int32) (rq : Addr) (rt : Addr) (fq : Nat → Int32) (fu : Nat → Int32) (fp : Nat → Int32) (fz : Nat → Int32) (nn : Nat) (h0 : Heap) (n0 : Nat) (v : Option Value) (h : Heap) (L : List Loc) : Prop := v = some (.int (r6l3_v fq fu fp fz)) ∧ Fr n0 L ∧ h = h0
set_option maxRecDepth 65536 in
set_option maxHeartbeats 40000000 in
theorem rm6l3 (l : Launch) (Z : State) (a0 : Array Value) (hw : ∀ d ∈ tables_1, d.before a0 Z = true) (ws : List Jvm.Cond) (rp : Addr) (rs : Addr) (mm : Int32) (rq : Addr) (rt : Addr) (fq : Nat → Int32) (fu : Nat → Int32) (fp : Nat → Int32) (fz : Nat → Int32) (nn : Nat) (h0 : Heap) (n0 : Nat) (Z0 : n0 ≤ h0.size) (A_rp : AI Z h0 rp .byte nn fp) (A_rs : AI Z h0 rs .int nn fz) (A_rq : AI Z h0 rq .byte 5 fq) (A_rt : AI Z h0 rt .int 5 fu) (hin : 3 < nn) (hc3 : ((3 : Int32) < mm)) :
    MetFree l (⟨"skipstitch/table/PrefixTableOptimisedPinLaw", "same", "([B[II[B[II)Z"⟩ : MethodName) (head1 (Jvm.Cond.code (⟨"skipstitch/table/PrefixTableOptimisedPinLaw", "same", "([B[II[B[II)Z"⟩ : MethodName) method_9_code 6 (some .boolean) :: ws) ({ frames := 0, cells := 0, slots := 0, locals := 0 } : Room)) (fun a U => a = #[(.ref rp), (.ref rs), (.int mm), (.ref rq), (.ref rt), (.int (3 : Int32))] ∧ Z.Warmed39 U.vm ∧ U.heap = h0) (fun _ _ _ _ _ => True) (fun _ U o U' => ∃ v L, o = .returned v ∧ Q6l3 Z rp rs mm rq rt fq fu fp fz nn h0 n0 v U'.heap L ∧ FrameEnd U o U' L ({ frames := 0, cells := 0, slots := 0, locals := 0 } : Room).cells ({ frames := 0, cells := 0, slots := 0, locals := 0 } : Room).slots) := by
  refine MetFree.of_bodySF (plainFor_of_name pn_skipstitch_table_PrefixTableOptimisedPinLaw) hisR ?_
  intro p e s m args below meth c s₁ Bd hml0 hP hK
  obtain ⟨rfl, hZ, hh⟩ := hP
  have hx := Bd.exec
  have hby := Bd.bytes
  have hml : c.maxLocals = 6 := hml0
  have hown : s.vm.findClass "skipstitch/table/PrefixTableOptimisedPinLaw" = some m.cls := findClass_of_methodNamed Bd.named
  have hnm := (name_of_methodNamed Bd.named Bd.method).1
  have X0 : Stand p l e ({ frames := 0, cells := 0, slots := 0, locals := 0 } : Room) s m #[(.ref rp), (.ref rs), (.int mm), (.ref rq), (.ref rt), (.int (3 : Int32))] below meth c s₁ [] 0 0 := Stand.of_body Bd
  have e0 : s₁.heap = h0 := by rw [← hh, Bd.state]; rfl
  have N0 := Fr.nil n0
  have K0 : Keep h0 h0 [] := Keep.refl h0 _
  have pre0 : ∀ t, Steps p.tables e below (s₁.setTop (mkF m 0 #[.val (.ref rp), .val (.ref rs), .val (.int mm), .val (.ref rq), .val (.ref rt), .val (.int (3 : Int32))] [])) t → Steps p.tables e below (s₁.setTop (entryFrame m #[(.ref rp), (.ref rs), (.int mm), (.ref rq), (.ref rt), (.int (3 : Int32))] 6)) t := fun t k => castTop (ef_6l3 m rp rs mm rq rt) k
  obtain ⟨cl1, Arcl1, hincl1, hatcl1⟩ := AF.at A_rp (j := (3 : Int32)) 3 (by decide) hin
  obtain ⟨cl2, Arcl2, hincl2, hatcl2⟩ := AF.at A_rq (j := (3 : Int32)) 3 (by decide) (by decide)
  have pre3 : ∀ t, Steps p.tables e below (s₁.setTop (mkF m 16 #[.val (.ref rp), .val (.ref rs), .val (.int mm), .val (.ref rq), .val (.ref rt), .val (.int (3 : Int32))] [(.int (fq 3)), (.int (fp 3))])) t → Steps p.tables e below (s₁.setTop (entryFrame m #[(.ref rp), (.ref rs), (.int mm), (.ref rq), (.ref rt), (.int (3 : Int32))] 6)) t := by
    intro t k
    refine pre0 _ ?_
    refine XS.iload X0.here hx rfl (hb hby d6_0) rfl ?_
    refine XS.iloadN X0.here hx rfl (hb hby d6_2) rfl ?_
    refine XS.icmpYes X0.here hx rfl (pc0 := 3) (pc' := 8) rfl (hb hby d6_3) rfl (tlt hc3).1 (by decide) (by decide) ?_
    refine XS.aloadN X0.here hx rfl (hb hby d6_8) rfl rfl ?_
    refine XS.iload X0.here hx rfl (hb hby d6_9) rfl ?_
    refine X0.baloadBytes hx (j := (3 : Int32)) (v := (.int (fp 3))) (by rw [e0]; exact Arcl1.1) (State.isArrayOf_alike hZ.alike Arcl1.2.1) Arcl1.2.2 hincl1 hatcl1 (g := (mkF m 11 #[.val (.ref rp), .val (.ref rs), .val (.int mm), .val (.ref rq), .val (.ref rt), .val (.int (3 : Int32))] [(.int (3 : Int32)), (.ref rp)])) rfl rfl (hb hby d6_11) _ ?_
    refine XS.aloadN X0.here hx rfl (hb hby d6_12) rfl rfl ?_
    refine XS.iload X0.here hx rfl (hb hby d6_13) rfl ?_
    refine X0.baloadBytes hx (j := (3 : Int32)) (v := (.int (fq 3))) (by rw [e0]; exact Arcl2.1) (State.isArrayOf_alike hZ.alike Arcl2.2.1) Arcl2.2.2 hincl2 hatcl2 (g := (mkF m 15 #[.val (.ref rp), .val (.ref rs), .val (.int mm), .val (.ref rq), .val (.ref rt), .val (.int (3 : Int32))] [(.int (3 : Int32)), (.ref rq), (.int (fp 3))])) rfl rfl (hb hby d6_15) _ ?_
    exact k
  by_cases hk4 : (fp 3) = (fq 3)
  · obtain ⟨cl5, Arcl5, hincl5, hatcl5⟩ := AF.at A_rs (j := (3 : Int32)) 3 (by decide) hin
    obtain ⟨cl6, Arcl6, hincl6, hatcl6⟩ := AF.at A_rt (j := (3 : Int32)) 3 (by decide) (by decide)
    have pre7 : ∀ t, Steps p.tables e below (s₁.setTop (mkF m 28 #[.val (.ref rp), .val (.ref rs), .val (.int mm), .val (.ref rq), .val (.ref rt), .val (.int (3 : Int32))] [(.int (fu 3)), (.int (fz 3))])) t → Steps p.tables e below (s₁.setTop (entryFrame m #[(.ref rp), (.ref rs), (.int mm), (.ref rq), (.ref rt), (.int (3 : Int32))] 6)) t := by
      intro t k
      refine pre3 _ ?_
      refine XS.icmpNo X0.here hx rfl (hb hby d6_16) rfl (teq hk4).2 ?_
      refine XS.aloadN X0.here hx rfl (hb hby d6_19) rfl rfl ?_
      refine XS.iload X0.here hx rfl (hb hby d6_20) rfl ?_
      refine X0.iaload hx (j := (3 : Int32)) (v := (.int (fz 3))) (by rw [e0]; exact Arcl5.1) (State.isArrayOf_alike hZ.alike Arcl5.2.1) Arcl5.2.2 hincl5 hatcl5 (g := (mkF m 22 #[.val (.ref rp), .val (.ref rs), .val (.int mm), .val (.ref rq), .val (.ref rt), .val (.int (3 : Int32))] [(.int (3 : Int32)), (.ref rs)])) rfl rfl (hb hby d6_22) _ ?_
      refine XS.aload X0.here hx rfl (hb hby d6_23) rfl rfl ?_
      refine XS.iload X0.here hx rfl (hb hby d6_25) rfl ?_
      refine X0.iaload hx (j := (3 : Int32)) (v := (.int (fu 3))) (by rw [e0]; exact Arcl6.1) (State.isArrayOf_alike hZ.alike Arcl6.2.1) Arcl6.2.2 hincl6 hatcl6 (g := (mkF m 27 #[.val (.ref rp), .val (.ref rs), .val (.int mm), .val (.ref rq), .val (.ref rt), .val (.int (3 : Int32))] [(.int (3 : Int32)), (.ref rt), (.int (fz 3))])) rfl rfl (hb hby d6_27) _ ?_
      exact k
    by_cases hk8 : (fz 3) = (fu 3)
    · obtain ⟨fs, hr, hrun, hended, hW, hsame⟩ := X0.leave (v := some (.int (1 : Int32))) (fun h => by rw [Bd.returns] at h; cases h) (hlocks := Bd.notSynchronized)
      refine ⟨_, _, pre7 _ ?_, hrun, hended, _, _, rfl, ?_, ⟨_, rfl⟩, hW, hsame.mono (by decide) (by decide)⟩
      · show Steps p.tables e below (s₁.setTop (mkF m 28 #[.val (.ref rp), .val (.ref rs), .val (.int mm), .val (.ref rq), .val (.ref rt), .val (.int (3 : Int32))] [(.int (fu 3)), (.int (fz 3))])) _
        refine XS.icmpNo X0.here hx rfl (hb hby d6_28) rfl (teq hk8).2 ?_
        refine XS.iconst X0.here hx rfl (hb hby d6_31) ?_
        refine XS.goto X0.here hx rfl (pc0 := 32) (pc' := 36) rfl (hb hby d6_32) (by decide) (by decide) ?_
        exact retN X0 hx (t := .boolean) Bd.returns (by simp) (hb hby d6_36) hr
      · show Q6l3 Z rp rs mm rq rt fq fu fp fz nn h0 n0 _ s₁.heap _
        rw [e0]
        have ev9 : (r6l3_v fq fu fp fz) = (1 : Int32) := by unfold r6l3_v; rw [if_pos hk4, if_pos hk8]
        exact ⟨(congrArg (fun z => some (Value.int z)) ev9.symm), N0, rfl⟩
    · obtain ⟨fs, hr, hrun, hended, hW, hsame⟩ := X0.leave (v := some (.int (0 : Int32))) (fun h => by rw [Bd.returns] at h; cases h) (hlocks := Bd.notSynchronized)
      refine ⟨_, _, pre7 _ ?_, hrun, hended, _, _, rfl, ?_, ⟨_, rfl⟩, hW, hsame.mono (by decide) (by decide)⟩
      · show Steps p.tables e below (s₁.setTop (mkF m 28 #[.val (.ref rp), .val (.ref rs), .val (.int mm), .val (.ref rq), .val (.ref rt), .val (.int (3 : Int32))] [(.int (fu 3)), (.int (fz 3))])) _
        refine XS.icmpYes X0.here hx rfl (pc0 := 28) (pc' := 35) rfl (hb hby d6_28) rfl (feq hk8).2 (by decide) (by decide) ?_
        refine XS.iconst X0.here hx rfl (hb hby d6_35) ?_
        exact retN X0 hx (t := .boolean) Bd.returns (by simp) (hb hby d6_36) hr
      · show Q6l3 Z rp rs mm rq rt fq fu fp fz nn h0 n0 _ s₁.heap _
        rw [e0]
        have ev10 : (r6l3_v fq fu fp fz) = (0 : Int32) := by unfold r6l3_v; rw [if_pos hk4, if_neg hk8]
        exact ⟨(congrArg (fun z => some (Value.int z)) ev10.symm), N0, rfl⟩
  · obtain ⟨fs, hr, hrun, hended, hW, hsame⟩ := X0.leave (v := some (.int (0 : Int32))) (fun h => by rw [Bd.returns] at h; cases h) (hlocks := Bd.notSynchronized)
    refine ⟨_, _, pre3 _ ?_, hrun, hended, _, _, rfl, ?_, ⟨_, rfl⟩, hW, hsame.mono (by decide) (by decide)⟩
    · show Steps p.tables e below (s₁.setTop (mkF m 16 #[.val (.ref rp), .val (.ref rs), .val (.int mm), .val (.ref rq), .val (.ref rt), .val (.int (3 : Int32))] [(.int (fq 3)), (.int (fp 3))])) _
      refine XS.icmpYes X0.here hx rfl (pc0 := 16) (pc' := 35) rfl (hb hby d6_16) rfl (feq hk4).2 (by decide) (by decide) ?_
      refine XS.iconst X0.here hx rfl (hb hby d6_35) ?_
      exact retN X0 hx (t := .boolean) Bd.returns (by simp) (hb hby d6_36) hr
    · show Q6l3 Z rp rs mm rq rt fq fu fp fz nn h0 n0 _ s₁.heap _
      rw [e0]
      have ev11 : (r6l3_v fq fu fp fz) = (0 : Int32) := by unfold r6l3_v; rw [if_neg hk4]
      exact ⟨(congrArg (fun z => some (Value.int z)) ev11.symm), N0, rfl⟩
theorem ef_6l4 (m : MethodId) (rp : Addr) (rs : Addr) (mm : Int32) (rq : Addr) (rt : Addr) : entryFrame m #[(.ref rp), (.ref rs), (.int mm), (.ref rq), (.ref rt), (.int (4 : Int32))] 6 = mkF m 0 #[.val (.ref rp), .val (.ref rs), .val (.int mm), .val (.ref rq), .val (.ref rt), .val (.int (4 : Int32))] [] := by first | (simp [entryFrame, mkF, argsToLocals, Value.category]; done) | rfl
def r6l4_v (fq : Nat → Int32) (fu : Nat → Int32) (fp : Nat → Int32) (fz : Nat → Int32) : Int32 := (if (fp 4) = (fq 4) then (if (fz 4) = (fu 4) then (1 : Int32) else (0 : Int32)) else (0 : Int32))
def Q6l4 (Z : State) (rp : Addr) (rs : Addr) (mm : Int32) (rq : Addr) (rt : Addr) (fq : Nat → Int32) (fu : Nat → Int32) (fp : Nat → Int32) (fz : Nat → Int32) (nn : Nat) (h0 : Heap) (n0 : Nat) (v : Option Value) (h : Heap) (L : List Loc) : Prop := v = some (.int (r6l4_v fq fu fp fz)) ∧ Fr n0 L ∧ h = h0
set_option maxRecDepth 65536 in
set_option maxHeartbeats 40000000 in
theorem rm6l4 (l : Launch) (Z : State) (a0 : Array Value) (hw : ∀ d ∈ tables_1, d.before a0 Z = true) (ws : List Jvm.Cond) (rp : Addr) (rs : Addr) (mm : Int32) (rq : Addr) (rt : Addr) (fq : Nat → Int32) (fu : Nat → Int32) (fp : Nat → Int32) (fz : Nat → Int32) (nn : Nat) (h0 : Heap) (n0 : Nat) (Z0 : n0 ≤ h0.size) (A_rp : AI Z h0 rp .byte nn fp) (A_rs : AI Z h0 rs .int nn fz) (A_rq : AI Z h0 rq .byte 5 fq) (A_rt : AI Z h0 rt .int 5 fu) (hin : 4 < nn) (hc3 : ((4 : Int32) < mm)) :
    MetFree l (⟨"skipstitch/table/PrefixTableOptimisedPinLaw", "same", "([B[II[B[II)Z"⟩ : MethodName) (head1 (Jvm.Cond.code (⟨"skipstitch/table/PrefixTableOptimisedPinLaw", "same", "([B[II[B[II)Z"⟩ : MethodName) method_9_code 6 (some .boolean) :: ws) ({ frames := 0, cells := 0, slots := 0, locals := 0 } : Room)) (fun a U => a = #[(.ref rp), (.ref rs), (.int mm), (.ref rq), (.ref rt), (.int (4 : Int32))] ∧ Z.Warmed39 U.vm ∧ U.heap = h0) (fun _ _ _ _ _ => True) (fun _ U o U' => ∃ v L, o = .returned v ∧ Q6l4 Z rp rs mm rq rt fq fu fp fz nn h0 n0 v U'.heap L ∧ FrameEnd U o U' L ({ frames := 0, cells := 0, slots := 0, locals := 0 } : Room).cells ({ frames := 0, cells := 0, slots := 0, locals := 0 } : Room).slots) := by
  refine MetFree.of_bodySF (plainFor_of_name pn_skipstitch_table_PrefixTableOptimisedPinLaw) hisR ?_
  intro p e s m args below meth c s₁ Bd hml0 hP hK
  obtain ⟨rfl, hZ, hh⟩ := hP
  have hx := Bd.exec
  have hby := Bd.bytes
  have hml : c.maxLocals = 6 := hml0
  have hown : s.vm.findClass "skipstitch/table/PrefixTableOptimisedPinLaw" = some m.cls := findClass_of_methodNamed Bd.named
  have hnm := (name_of_methodNamed Bd.named Bd.method).1
  have X0 : Stand p l e ({ frames := 0, cells := 0, slots := 0, locals := 0 } : Room) s m #[(.ref rp), (.ref rs), (.int mm), (.ref rq), (.ref rt), (.int (4 : Int32))] below meth c s₁ [] 0 0 := Stand.of_body Bd
  have e0 : s₁.heap = h0 := by rw [← hh, Bd.state]; rfl
  have N0 := Fr.nil n0
  have K0 : Keep h0 h0 [] := Keep.refl h0 _
  have pre0 : ∀ t, Steps p.tables e below (s₁.setTop (mkF m 0 #[.val (.ref rp), .val (.ref rs), .val (.int mm), .val (.ref rq), .val (.ref rt), .val (.int (4 : Int32))] [])) t → Steps p.tables e below (s₁.setTop (entryFrame m #[(.ref rp), (.ref rs), (.int mm), (.ref rq), (.ref rt), (.int (4 : Int32))] 6)) t := fun t k => castTop (ef_6l4 m rp rs mm rq rt) k
  obtain ⟨cl1, Arcl1, hincl1, hatcl1⟩ := AF.at A_rp (j := (4 : Int32)) 4 (by decide) hin
  obtain ⟨cl2, Arcl2, hincl2, hatcl2⟩ := AF.at A_rq (j := (4 : Int32)) 4 (by decide) (by decide)
  have pre3 : ∀ t, Steps p.tables e below (s₁.setTop (mkF m 16 #[.val (.ref rp), .val (.ref rs), .val (.int mm), .val (.ref rq), .val (.ref rt), .val (.int (4 : Int32))] [(.int (fq 4)), (.int (fp 4))])) t → Steps p.tables e below (s₁.setTop (entryFrame m #[(.ref rp), (.ref rs), (.int mm), (.ref rq), (.ref rt), (.int (4 : Int32))] 6)) t := by
    intro t k
    refine pre0 _ ?_
    refine XS.iload X0.here hx rfl (hb hby d6_0) rfl ?_
    refine XS.iloadN X0.here hx rfl (hb hby d6_2) rfl ?_
    refine XS.icmpYes X0.here hx rfl (pc0 := 3) (pc' := 8) rfl (hb hby d6_3) rfl (tlt hc3).1 (by decide) (by decide) ?_
    refine XS.aloadN X0.here hx rfl (hb hby d6_8) rfl rfl ?_
    refine XS.iload X0.here hx rfl (hb hby d6_9) rfl ?_
    refine X0.baloadBytes hx (j := (4 : Int32)) (v := (.int (fp 4))) (by rw [e0]; exact Arcl1.1) (State.isArrayOf_alike hZ.alike Arcl1.2.1) Arcl1.2.2 hincl1 hatcl1 (g := (mkF m 11 #[.val (.ref rp), .val (.ref rs), .val (.int mm), .val (.ref rq), .val (.ref rt), .val (.int (4 : Int32))] [(.int (4 : Int32)), (.ref rp)])) rfl rfl (hb hby d6_11) _ ?_
    refine XS.aloadN X0.here hx rfl (hb hby d6_12) rfl rfl ?_
    refine XS.iload X0.here hx rfl (hb hby d6_13) rfl ?_
    refine X0.baloadBytes hx (j := (4 : Int32)) (v := (.int (fq 4))) (by rw [e0]; exact Arcl2.1) (State.isArrayOf_alike hZ.alike Arcl2.2.1) Arcl2.2.2 hincl2 hatcl2 (g := (mkF m 15 #[.val (.ref rp), .val (.ref rs), .val (.int mm), .val (.ref rq), .val (.ref rt), .val (.int (4 : Int32))] [(.int (4 : Int32)), (.ref rq), (.int (fp 4))])) rfl rfl (hb hby d6_15) _ ?_
    exact k
  by_cases hk4 : (fp 4) = (fq 4)
  · obtain ⟨cl5, Arcl5, hincl5, hatcl5⟩ := AF.at A_rs (j := (4 : Int32)) 4 (by decide) hin
    obtain ⟨cl6, Arcl6, hincl6, hatcl6⟩ := AF.at A_rt (j := (4 : Int32)) 4 (by decide) (by decide)
    have pre7 : ∀ t, Steps p.tables e below (s₁.setTop (mkF m 28 #[.val (.ref rp), .val (.ref rs), .val (.int mm), .val (.ref rq), .val (.ref rt), .val (.int (4 : Int32))] [(.int (fu 4)), (.int (fz 4))])) t → Steps p.tables e below (s₁.setTop (entryFrame m #[(.ref rp), (.ref rs), (.int mm), (.ref rq), (.ref rt), (.int (4 : Int32))] 6)) t := by
      intro t k
      refine pre3 _ ?_
      refine XS.icmpNo X0.here hx rfl (hb hby d6_16) rfl (teq hk4).2 ?_
      refine XS.aloadN X0.here hx rfl (hb hby d6_19) rfl rfl ?_
      refine XS.iload X0.here hx rfl (hb hby d6_20) rfl ?_
      refine X0.iaload hx (j := (4 : Int32)) (v := (.int (fz 4))) (by rw [e0]; exact Arcl5.1) (State.isArrayOf_alike hZ.alike Arcl5.2.1) Arcl5.2.2 hincl5 hatcl5 (g := (mkF m 22 #[.val (.ref rp), .val (.ref rs), .val (.int mm), .val (.ref rq), .val (.ref rt), .val (.int (4 : Int32))] [(.int (4 : Int32)), (.ref rs)])) rfl rfl (hb hby d6_22) _ ?_
      refine XS.aload X0.here hx rfl (hb hby d6_23) rfl rfl ?_
      refine XS.iload X0.here hx rfl (hb hby d6_25) rfl ?_
      refine X0.iaload hx (j := (4 : Int32)) (v := (.int (fu 4))) (by rw [e0]; exact Arcl6.1) (State.isArrayOf_alike hZ.alike Arcl6.2.1) Arcl6.2.2 hincl6 hatcl6 (g := (mkF m 27 #[.val (.ref rp), .val (.ref rs), .val (.int mm), .val (.ref rq), .val (.ref rt), .val (.int (4 : Int32))] [(.int (4 : Int32)), (.ref rt), (.int (fz 4))])) rfl rfl (hb hby d6_27) _ ?_
      exact k
    by_cases hk8 : (fz 4) = (fu 4)
    · obtain ⟨fs, hr, hrun, hended, hW, hsame⟩ := X0.leave (v := some (.int (1 : Int32))) (fun h => by rw [Bd.returns] at h; cases h) (hlocks := Bd.notSynchronized)
      refine ⟨_, _, pre7 _ ?_, hrun, hended, _, _, rfl, ?_, ⟨_, rfl⟩, hW, hsame.mono (by decide) (by decide)⟩
      · show Steps p.tables e below (s₁.setTop (mkF m 28 #[.val (.ref rp), .val (.ref rs), .val (.int mm), .val (.ref rq), .val (.ref rt), .val (.int (4 : Int32))] [(.int (fu 4)), (.int (fz 4))])) _
        refine XS.icmpNo X0.here hx rfl (hb hby d6_28) rfl (teq hk8).2 ?_
        refine XS.iconst X0.here hx rfl (hb hby d6_31) ?_
        refine XS.goto X0.here hx rfl (pc0 := 32) (pc' := 36) rfl (hb hby d6_32) (by decide) (by decide) ?_
        exact retN X0 hx (t := .boolean) Bd.returns (by simp) (hb hby d6_36) hr
      · show Q6l4 Z rp rs mm rq rt fq fu fp fz nn h0 n0 _ s₁.heap _
        rw [e0]
        have ev9 : (r6l4_v fq fu fp fz) = (1 : Int32) := by unfold r6l4_v; rw [if_pos hk4, if_pos hk8]
        exact ⟨(congrArg (fun z => some (Value.int z)) ev9.symm), N0, rfl⟩
    · obtain ⟨fs, hr, hrun, hended, hW, hsame⟩ := X0.leave (v := some (.int (0 : Int32))) (fun h => by rw [Bd.returns] at h; cases h) (hlocks := Bd.notSynchronized)
      refine ⟨_, _, pre7 _ ?_, hrun, hended, _, _, rfl, ?_, ⟨_, rfl⟩, hW, hsame.mono (by decide) (by decide)⟩
      · show Steps p.tables e below (s₁.setTop (mkF m 28 #[.val (.ref rp), .val (.ref rs), .val (.int mm), .val (.ref rq), .val (.ref rt), .val (.int (4 : Int32))] [(.int (fu 4)), (.int (fz 4))])) _
        refine XS.icmpYes X0.here hx rfl (pc0 := 28) (pc' := 35) rfl (hb hby d6_28) rfl (feq hk8).2 (by decide) (by decide) ?_
        refine XS.iconst X0.here hx rfl (hb hby d6_35) ?_
        exact retN X0 hx (t := .boolean) Bd.returns (by simp) (hb hby d6_36) hr
      · show Q6l4 Z rp rs mm rq rt fq fu fp fz nn h0 n0 _ s₁.heap _
        rw [e0]
        have ev10 : (r6l4_v fq fu fp fz) = (0 : Int32) := by unfold r6l4_v; rw [if_pos hk4, if_neg hk8]
        exact ⟨(congrArg (fun z => some (Value.int z)) ev10.symm), N0, rfl⟩
  · obtain ⟨fs, hr, hrun, hended, hW, hsame⟩ := X0.leave (v := some (.int (0 : Int32))) (fun h => by rw [Bd.returns] at h; cases h) (hlocks := Bd.notSynchronized)
    refine ⟨_, _, pre3 _ ?_, hrun, hended, _, _, rfl, ?_, ⟨_, rfl⟩, hW, hsame.mono (by decide) (by decide)⟩
    · show Steps p.tables e below (s₁.setTop (mkF m 16 #[.val (.ref rp), .val (.ref rs), .val (.int mm), .val (.ref rq), .val (.ref rt), .val (.int (4 : Int32))] [(.int (fq 4)), (.int (fp 4))])) _
      refine XS.icmpYes X0.here hx rfl (pc0 := 16) (pc' := 35) rfl (hb hby d6_16) rfl (feq hk4).2 (by decide) (by decide) ?_
      refine XS.iconst X0.here hx rfl (hb hby d6_35) ?_
      exact retN X0 hx (t := .boolean) Bd.returns (by simp) (hb hby d6_36) hr
    · show Q6l4 Z rp rs mm rq rt fq fu fp fz nn h0 n0 _ s₁.heap _
      rw [e0]
      have ev11 : (r6l4_v fq fu fp fz) = (0 : Int32) := by unfold r6l4_v; rw [if_neg hk4]
      exact ⟨(congrArg (fun z => some (Value.int z)) ev11.symm), N0, rfl⟩
theorem ef_6c (m : MethodId) (rp : Addr) (rs : Addr) (mm : Int32) (rq : Addr) (rt : Addr) (jj : Int32) : entryFrame m #[(.ref rp), (.ref rs), (.int mm), (.ref rq), (.ref rt), (.int jj)] 6 = mkF m 0 #[.val (.ref rp), .val (.ref rs), .val (.int mm), .val (.ref rq), .val (.ref rt), .val (.int jj)] [] := by first | (simp [entryFrame, mkF, argsToLocals, Value.category]; done) | rfl
theorem d6_6 : decode method_9_code 6 = .ok (.iconst 1, 1) := by decide +kernel
theorem d6_7 : decode method_9_code 7 = .ok (.ireturn, 1) := by decide +kernel
def Q6c (Z : State) (rp : Addr) (rs : Addr) (mm : Int32) (rq : Addr) (rt : Addr) (jj : Int32) (h0 : Heap) (n0 : Nat) (v : Option Value) (h : Heap) (L : List Loc) : Prop := v = some (.int (1 : Int32)) ∧ Fr n0 L ∧ h = h0
set_option maxRecDepth 65536 in
set_option maxHeartbeats 40000000 in
theorem rm6c (l : Launch) (Z : State) (a0 : Array Value) (hw : ∀ d ∈ tables_1, d.before a0 Z = true) (ws : List Jvm.Cond) (rp : Addr) (rs : Addr) (mm : Int32) (rq : Addr) (rt : Addr) (jj : Int32) (h0 : Heap) (n0 : Nat) (Z0 : n0 ≤ h0.size) (hc3 : ¬ (jj < mm)) :
    MetFree l (⟨"skipstitch/table/PrefixTableOptimisedPinLaw", "same", "([B[II[B[II)Z"⟩ : MethodName) (head1 (Jvm.Cond.code (⟨"skipstitch/table/PrefixTableOptimisedPinLaw", "same", "([B[II[B[II)Z"⟩ : MethodName) method_9_code 6 (some .boolean) :: ws) ({ frames := 0, cells := 0, slots := 0, locals := 0 } : Room)) (fun a U => a = #[(.ref rp), (.ref rs), (.int mm), (.ref rq), (.ref rt), (.int jj)] ∧ Z.Warmed39 U.vm ∧ U.heap = h0) (fun _ _ _ _ _ => True) (fun _ U o U' => ∃ v L, o = .returned v ∧ Q6c Z rp rs mm rq rt jj h0 n0 v U'.heap L ∧ FrameEnd U o U' L ({ frames := 0, cells := 0, slots := 0, locals := 0 } : Room).cells ({ frames := 0, cells := 0, slots := 0, locals := 0 } : Room).slots) := by
  refine MetFree.of_bodySF (plainFor_of_name pn_skipstitch_table_PrefixTableOptimisedPinLaw) hisR ?_
  intro p e s m args below meth c s₁ Bd hml0 hP hK
  obtain ⟨rfl, hZ, hh⟩ := hP
  have hx := Bd.exec
  have hby := Bd.bytes
  have hml : c.maxLocals = 6 := hml0
  have hown : s.vm.findClass "skipstitch/table/PrefixTableOptimisedPinLaw" = some m.cls := findClass_of_methodNamed Bd.named
  have hnm := (name_of_methodNamed Bd.named Bd.method).1
  have X0 : Stand p l e ({ frames := 0, cells := 0, slots := 0, locals := 0 } : Room) s m #[(.ref rp), (.ref rs), (.int mm), (.ref rq), (.ref rt), (.int jj)] below meth c s₁ [] 0 0 := Stand.of_body Bd
  have e0 : s₁.heap = h0 := by rw [← hh, Bd.state]; rfl
  have N0 := Fr.nil n0
  have K0 : Keep h0 h0 [] := Keep.refl h0 _
  have pre0 : ∀ t, Steps p.tables e below (s₁.setTop (mkF m 0 #[.val (.ref rp), .val (.ref rs), .val (.int mm), .val (.ref rq), .val (.ref rt), .val (.int jj)] [])) t → Steps p.tables e below (s₁.setTop (entryFrame m #[(.ref rp), (.ref rs), (.int mm), (.ref rq), (.ref rt), (.int jj)] 6)) t := fun t k => castTop (ef_6c m rp rs mm rq rt jj) k
  obtain ⟨fs, hr, hrun, hended, hW, hsame⟩ := X0.leave (v := some (.int (1 : Int32))) (fun h => by rw [Bd.returns] at h; cases h) (hlocks := Bd.notSynchronized)
  refine ⟨_, _, pre0 _ ?_, hrun, hended, _, _, rfl, ?_, ⟨_, rfl⟩, hW, hsame.mono (by decide) (by decide)⟩
  · show Steps p.tables e below (s₁.setTop (mkF m 0 #[.val (.ref rp), .val (.ref rs), .val (.int mm), .val (.ref rq), .val (.ref rt), .val (.int jj)] [])) _
    refine XS.iload X0.here hx rfl (hb hby d6_0) rfl ?_
    refine XS.iloadN X0.here hx rfl (hb hby d6_2) rfl ?_
    refine XS.icmpNo X0.here hx rfl (hb hby d6_3) rfl (flt hc3).1 ?_
    refine XS.iconst X0.here hx rfl (hb hby d6_6) ?_
    exact retN X0 hx (t := .boolean) Bd.returns (by simp) (hb hby d6_7) hr
  · show Q6c Z rp rs mm rq rt jj h0 n0 _ s₁.heap _
    rw [e0]
    exact ⟨rfl, N0, rfl⟩
theorem d4_10 : decode prog_35_method_6_code 10 = .ok (.iload 4, 2) := by decide +kernel
theorem d4_12 : decode prog_35_method_6_code 12 = .ok (.iconst 1, 1) := by decide +kernel
theorem d4_13 : decode prog_35_method_6_code 13 = .ok (.iadd, 1) := by decide +kernel
theorem d4_14 : decode prog_35_method_6_code 14 = .ok (.iload_n 2, 1) := by decide +kernel
theorem d4_15 : decode prog_35_method_6_code 15 = .ok (.if_icmp .ge 56, 3) := by decide +kernel
theorem d4_18 : decode prog_35_method_6_code 18 = .ok (.aload_n 1, 1) := by decide +kernel
theorem d4_19 : decode prog_35_method_6_code 19 = .ok (.iload 4, 2) := by decide +kernel
theorem d4_21 : decode prog_35_method_6_code 21 = .ok (.iaload, 1) := by decide +kernel
theorem d4_22 : decode prog_35_method_6_code 22 = .ok (.istore 5, 2) := by decide +kernel
theorem d4_24 : decode prog_35_method_6_code 24 = .ok (.aload_n 0, 1) := by decide +kernel
theorem d4_25 : decode prog_35_method_6_code 25 = .ok (.iload 5, 2) := by decide +kernel
theorem d4_27 : decode prog_35_method_6_code 27 = .ok (.baload, 1) := by decide +kernel
theorem d4_28 : decode prog_35_method_6_code 28 = .ok (.aload_n 0, 1) := by decide +kernel
theorem d4_29 : decode prog_35_method_6_code 29 = .ok (.iload 4, 2) := by decide +kernel
theorem d4_31 : decode prog_35_method_6_code 31 = .ok (.iconst 1, 1) := by decide +kernel
theorem d4_32 : decode prog_35_method_6_code 32 = .ok (.iadd, 1) := by decide +kernel
theorem d4_33 : decode prog_35_method_6_code 33 = .ok (.baload, 1) := by decide +kernel
theorem d4_34 : decode prog_35_method_6_code 34 = .ok (.if_icmp .eq 12, 3) := by decide +kernel
theorem d4_37 : decode prog_35_method_6_code 37 = .ok (.aload_n 3, 1) := by decide +kernel
theorem d4_38 : decode prog_35_method_6_code 38 = .ok (.iload 4, 2) := by decide +kernel
theorem d4_40 : decode prog_35_method_6_code 40 = .ok (.iload 5, 2) := by decide +kernel
theorem d4_42 : decode prog_35_method_6_code 42 = .ok (.iastore, 1) := by decide +kernel
theorem d4_43 : decode prog_35_method_6_code 43 = .ok (.goto 22, 3) := by decide +kernel
theorem d4_65 : decode prog_35_method_6_code 65 = .ok (.iinc 4 1, 3) := by decide +kernel
theorem d4_68 : decode prog_35_method_6_code 68 = .ok (.goto (-58), 3) := by decide +kernel
set_option maxRecDepth 65536 in
set_option maxHeartbeats 40000000 in
theorem tAu {p : Program} {l : Launch} {e : Env} {R : Room} {s : State} {m : MethodId} {args : Array Value} {below : List Frame} {meth : Method} {c : Code} {T0 : State} {locs : List Loc} {cells slots : Nat} {Z : State} {a0 : Array Value} {h0 : Heap} (rp : Addr) (rs : Addr) (nI : Int32) (rr : Addr) (ii : Int32) (nn : Nat) (fp : Nat → Int32) (fz : Nat → Int32) (fg : Nat → Int32) (inn : Nat) (kn : Nat)
    (X0 : Stand p l e R s m args below meth c T0 locs cells slots) (hx : p.tables.exec = Jvm.exec) (hZ : Z.Warmed39 s.vm) (hw : ∀ d ∈ tables_1, d.before a0 Z = true) (hby : c.code = prog_35_method_6_code) (hml : c.maxLocals = 6) (hown : s.vm.findClass "skipstitch/table/PrefixTable" = some m.cls) (e0 : T0.heap = h0) (A_rp : AI Z h0 rp .byte nn fp) (A_rs : AI Z h0 rs .int nn fz) (A_rr : AI Z h0 rr .int nn fg) (hii : ii.toInt = inn) (hi1 : (ii + (1 : Int32)).toInt = ((inn + 1 : Nat) : Int)) (hin : inn + 1 < nn) (hkn : (fz inn).toInt = kn) (hkl : kn ≤ inn) (hc15 : ((ii + (1 : Int32)) < nI)) (hc34 : ¬ ((fp kn) = (fp (inn + 1)))) :
    ∃ (T' : State) (h' : Heap), Stand p l e R s m args below meth c T' (locs ++ [⟨rr, ii.toNatClampNeg⟩]) cells slots ∧ T'.heap = h' ∧ Wr h0 h' rr ii.toNatClampNeg (.int (fz inn)) ∧ ∀ t, Steps p.tables e below (T'.setTop (mkF m 10 #[.val (.ref rp), .val (.ref rs), .val (.int nI), .val (.ref rr), .val (.int (ii + (1 : Int32))), .val (.int (fz inn))] [])) t → Steps p.tables e below (T0.setTop (mkF m 10 #[.val (.ref rp), .val (.ref rs), .val (.int nI), .val (.ref rr), .val (.int ii), .unset] [])) t := by
  have pre0 : ∀ t, Steps p.tables e below (T0.setTop (mkF m 10 #[.val (.ref rp), .val (.ref rs), .val (.int nI), .val (.ref rr), .val (.int ii), .unset] [])) t → Steps p.tables e below (T0.setTop (mkF m 10 #[.val (.ref rp), .val (.ref rs), .val (.int nI), .val (.ref rr), .val (.int ii), .unset] [])) t := fun t k => k
  obtain ⟨cl1, Arcl1, hincl1, hatcl1⟩ := AF.at A_rs (j := ii) inn hii (by omega)
  obtain ⟨cl2, Arcl2, hincl2, hatcl2⟩ := AF.at A_rp (j := (fz inn)) kn hkn (by omega)
  obtain ⟨cl3, Arcl3, hincl3, hatcl3⟩ := AF.at A_rp (j := (ii + (1 : Int32))) (inn + 1) hi1 hin
  obtain ⟨cl4, Arcl4, hincl4, -⟩ := AF.at A_rr (j := ii) inn hii (by omega)
  obtain ⟨T5, h5, X5, e5, W5, st5⟩ := stI X0 hx hZ e0 Arcl4 (j := ii) hincl4 (g := (mkF m 42 #[.val (.ref rp), .val (.ref rs), .val (.int nI), .val (.ref rr), .val (.int ii), .val (.int (fz inn))] [(.int (fz inn)), (.int ii), (.ref rr)])) rfl rfl (hb hby d4_42)
  have pre6 : ∀ t, Steps p.tables e below (T5.setTop (mkF m 10 #[.val (.ref rp), .val (.ref rs), .val (.int nI), .val (.ref rr), .val (.int (ii + (1 : Int32))), .val (.int (fz inn))] [])) t → Steps p.tables e below (T0.setTop (mkF m 10 #[.val (.ref rp), .val (.ref rs), .val (.int nI), .val (.ref rr), .val (.int ii), .unset] [])) t := by
    intro t k
    refine pre0 _ ?_
    refine XS.iload X0.here hx rfl (hb hby d4_10) rfl ?_
    refine XS.iconst X0.here hx rfl (hb hby d4_12) ?_
    refine XS.iadd X0.here hx rfl (hb hby d4_13) rfl ?_
    refine XS.iloadN X0.here hx rfl (hb hby d4_14) rfl ?_
    refine XS.icmpNo X0.here hx rfl (hb hby d4_15) rfl (tlt hc15).2.1 ?_
    refine XS.aloadN X0.here hx rfl (hb hby d4_18) rfl rfl ?_
    refine XS.iload X0.here hx rfl (hb hby d4_19) rfl ?_
    refine X0.iaload hx (j := ii) (v := (.int (fz inn))) (by rw [e0]; exact Arcl1.1) (State.isArrayOf_alike hZ.alike Arcl1.2.1) Arcl1.2.2 hincl1 hatcl1 (g := (mkF m 21 #[.val (.ref rp), .val (.ref rs), .val (.int nI), .val (.ref rr), .val (.int ii), .unset] [(.int ii), (.ref rs)])) rfl rfl (hb hby d4_21) _ ?_
    refine XS.istore X0.here hx rfl (hb hby d4_22) rfl (l' := #[.val (.ref rp), .val (.ref rs), .val (.int nI), .val (.ref rr), .val (.int ii), .val (.int (fz inn))]) rfl ?_
    refine XS.aloadN X0.here hx rfl (hb hby d4_24) rfl rfl ?_
    refine XS.iload X0.here hx rfl (hb hby d4_25) rfl ?_
    refine X0.baloadBytes hx (j := (fz inn)) (v := (.int (fp kn))) (by rw [e0]; exact Arcl2.1) (State.isArrayOf_alike hZ.alike Arcl2.2.1) Arcl2.2.2 hincl2 hatcl2 (g := (mkF m 27 #[.val (.ref rp), .val (.ref rs), .val (.int nI), .val (.ref rr), .val (.int ii), .val (.int (fz inn))] [(.int (fz inn)), (.ref rp)])) rfl rfl (hb hby d4_27) _ ?_
    refine XS.aloadN X0.here hx rfl (hb hby d4_28) rfl rfl ?_
    refine XS.iload X0.here hx rfl (hb hby d4_29) rfl ?_
    refine XS.iconst X0.here hx rfl (hb hby d4_31) ?_
    refine XS.iadd X0.here hx rfl (hb hby d4_32) rfl ?_
    refine X0.baloadBytes hx (j := (ii + (1 : Int32))) (v := (.int (fp (inn + 1)))) (by rw [e0]; exact Arcl3.1) (State.isArrayOf_alike hZ.alike Arcl3.2.1) Arcl3.2.2 hincl3 hatcl3 (g := (mkF m 33 #[.val (.ref rp), .val (.ref rs), .val (.int nI), .val (.ref rr), .val (.int ii), .val (.int (fz inn))] [(.int (ii + (1 : Int32))), (.ref rp), (.int (fp kn))])) rfl rfl (hb hby d4_33) _ ?_
    refine XS.icmpNo X0.here hx rfl (hb hby d4_34) rfl (feq hc34).1 ?_
    refine XS.aloadN X0.here hx rfl (hb hby d4_37) rfl rfl ?_
    refine XS.iload X0.here hx rfl (hb hby d4_38) rfl ?_
    refine XS.iload X0.here hx rfl (hb hby d4_40) rfl ?_
    refine st5 _ ?_
    refine XS.goto X5.here hx rfl (pc0 := 43) (pc' := 65) rfl (hb hby d4_43) (by decide) (by decide) ?_
    refine XS.iinc X5.here hx rfl (hb hby d4_65) rfl (l' := #[.val (.ref rp), .val (.ref rs), .val (.int nI), .val (.ref rr), .val (.int (ii + (1 : Int32))), .val (.int (fz inn))]) rfl ?_
    refine XS.goto X5.here hx rfl (pc0 := 68) (pc' := 10) rfl (hb hby d4_68) (by decide) (by decide) ?_
    exact k
  exact ⟨_, _, X5, e5, W5, pre6⟩
theorem d4_46 : decode prog_35_method_6_code 46 = .ok (.aload_n 3, 1) := by decide +kernel
theorem d4_47 : decode prog_35_method_6_code 47 = .ok (.iload 4, 2) := by decide +kernel
theorem d4_49 : decode prog_35_method_6_code 49 = .ok (.iload 5, 2) := by decide +kernel
theorem d4_51 : decode prog_35_method_6_code 51 = .ok (.ifCond .ne 7, 3) := by decide +kernel
theorem d4_54 : decode prog_35_method_6_code 54 = .ok (.iconst (-1), 1) := by decide +kernel
theorem d4_55 : decode prog_35_method_6_code 55 = .ok (.goto 9, 3) := by decide +kernel
theorem d4_64 : decode prog_35_method_6_code 64 = .ok (.iastore, 1) := by decide +kernel
set_option maxRecDepth 65536 in
set_option maxHeartbeats 40000000 in
theorem tBu {p : Program} {l : Launch} {e : Env} {R : Room} {s : State} {m : MethodId} {args : Array Value} {below : List Frame} {meth : Method} {c : Code} {T0 : State} {locs : List Loc} {cells slots : Nat} {Z : State} {a0 : Array Value} {h0 : Heap} (rp : Addr) (rs : Addr) (nI : Int32) (rr : Addr) (ii : Int32) (nn : Nat) (fp : Nat → Int32) (fz : Nat → Int32) (fg : Nat → Int32) (inn : Nat) (kn : Nat)
    (X0 : Stand p l e R s m args below meth c T0 locs cells slots) (hx : p.tables.exec = Jvm.exec) (hZ : Z.Warmed39 s.vm) (hw : ∀ d ∈ tables_1, d.before a0 Z = true) (hby : c.code = prog_35_method_6_code) (hml : c.maxLocals = 6) (hown : s.vm.findClass "skipstitch/table/PrefixTable" = some m.cls) (e0 : T0.heap = h0) (A_rp : AI Z h0 rp .byte nn fp) (A_rs : AI Z h0 rs .int nn fz) (A_rr : AI Z h0 rr .int nn fg) (hii : ii.toInt = inn) (hi1 : (ii + (1 : Int32)).toInt = ((inn + 1 : Nat) : Int)) (hin : inn + 1 < nn) (hkn : (fz inn).toInt = kn) (hkl : kn ≤ inn) (hc15 : ((ii + (1 : Int32)) < nI)) (hc34 : ((fp kn) = (fp (inn + 1)))) (hc51 : ((fz inn) = (0 : Int32))) :
    ∃ (T' : State) (h' : Heap), Stand p l e R s m args below meth c T' (locs ++ [⟨rr, ii.toNatClampNeg⟩]) cells slots ∧ T'.heap = h' ∧ Wr h0 h' rr ii.toNatClampNeg (.int (-1 : Int32)) ∧ ∀ t, Steps p.tables e below (T'.setTop (mkF m 10 #[.val (.ref rp), .val (.ref rs), .val (.int nI), .val (.ref rr), .val (.int (ii + (1 : Int32))), .val (.int (fz inn))] [])) t → Steps p.tables e below (T0.setTop (mkF m 10 #[.val (.ref rp), .val (.ref rs), .val (.int nI), .val (.ref rr), .val (.int ii), .unset] [])) t := by
  have pre0 : ∀ t, Steps p.tables e below (T0.setTop (mkF m 10 #[.val (.ref rp), .val (.ref rs), .val (.int nI), .val (.ref rr), .val (.int ii), .unset] [])) t → Steps p.tables e below (T0.setTop (mkF m 10 #[.val (.ref rp), .val (.ref rs), .val (.int nI), .val (.ref rr), .val (.int ii), .unset] [])) t := fun t k => k
  obtain ⟨cl1, Arcl1, hincl1, hatcl1⟩ := AF.at A_rs (j := ii) inn hii (by omega)
  obtain ⟨cl2, Arcl2, hincl2, hatcl2⟩ := AF.at A_rp (j := (fz inn)) kn hkn (by omega)
  obtain ⟨cl3, Arcl3, hincl3, hatcl3⟩ := AF.at A_rp (j := (ii + (1 : Int32))) (inn + 1) hi1 hin
  obtain ⟨cl4, Arcl4, hincl4, -⟩ := AF.at A_rr (j := ii) inn hii (by omega)
  obtain ⟨T5, h5, X5, e5, W5, st5⟩ := stI X0 hx hZ e0 Arcl4 (j := ii) hincl4 (g := (mkF m 64 #[.val (.ref rp), .val (.ref rs), .val (.int nI), .val (.ref rr), .val (.int ii), .val (.int (fz inn))] [(.int (-1 : Int32)), (.int ii), (.ref rr)])) rfl rfl (hb hby d4_64)
  have pre6 : ∀ t, Steps p.tables e below (T5.setTop (mkF m 10 #[.val (.ref rp), .val (.ref rs), .val (.int nI), .val (.ref rr), .val (.int (ii + (1 : Int32))), .val (.int (fz inn))] [])) t → Steps p.tables e below (T0.setTop (mkF m 10 #[.val (.ref rp), .val (.ref rs), .val (.int nI), .val (.ref rr), .val (.int ii), .unset] [])) t := by
    intro t k
    refine pre0 _ ?_
    refine XS.iload X0.here hx rfl (hb hby d4_10) rfl ?_
    refine XS.iconst X0.here hx rfl (hb hby d4_12) ?_
    refine XS.iadd X0.here hx rfl (hb hby d4_13) rfl ?_
    refine XS.iloadN X0.here hx rfl (hb hby d4_14) rfl ?_
    refine XS.icmpNo X0.here hx rfl (hb hby d4_15) rfl (tlt hc15).2.1 ?_
    refine XS.aloadN X0.here hx rfl (hb hby d4_18) rfl rfl ?_
    refine XS.iload X0.here hx rfl (hb hby d4_19) rfl ?_
    refine X0.iaload hx (j := ii) (v := (.int (fz inn))) (by rw [e0]; exact Arcl1.1) (State.isArrayOf_alike hZ.alike Arcl1.2.1) Arcl1.2.2 hincl1 hatcl1 (g := (mkF m 21 #[.val (.ref rp), .val (.ref rs), .val (.int nI), .val (.ref rr), .val (.int ii), .unset] [(.int ii), (.ref rs)])) rfl rfl (hb hby d4_21) _ ?_
    refine XS.istore X0.here hx rfl (hb hby d4_22) rfl (l' := #[.val (.ref rp), .val (.ref rs), .val (.int nI), .val (.ref rr), .val (.int ii), .val (.int (fz inn))]) rfl ?_
    refine XS.aloadN X0.here hx rfl (hb hby d4_24) rfl rfl ?_
    refine XS.iload X0.here hx rfl (hb hby d4_25) rfl ?_
    refine X0.baloadBytes hx (j := (fz inn)) (v := (.int (fp kn))) (by rw [e0]; exact Arcl2.1) (State.isArrayOf_alike hZ.alike Arcl2.2.1) Arcl2.2.2 hincl2 hatcl2 (g := (mkF m 27 #[.val (.ref rp), .val (.ref rs), .val (.int nI), .val (.ref rr), .val (.int ii), .val (.int (fz inn))] [(.int (fz inn)), (.ref rp)])) rfl rfl (hb hby d4_27) _ ?_
    refine XS.aloadN X0.here hx rfl (hb hby d4_28) rfl rfl ?_
    refine XS.iload X0.here hx rfl (hb hby d4_29) rfl ?_
    refine XS.iconst X0.here hx rfl (hb hby d4_31) ?_
    refine XS.iadd X0.here hx rfl (hb hby d4_32) rfl ?_
    refine X0.baloadBytes hx (j := (ii + (1 : Int32))) (v := (.int (fp (inn + 1)))) (by rw [e0]; exact Arcl3.1) (State.isArrayOf_alike hZ.alike Arcl3.2.1) Arcl3.2.2 hincl3 hatcl3 (g := (mkF m 33 #[.val (.ref rp), .val (.ref rs), .val (.int nI), .val (.ref rr), .val (.int ii), .val (.int (fz inn))] [(.int (ii + (1 : Int32))), (.ref rp), (.int (fp kn))])) rfl rfl (hb hby d4_33) _ ?_
    refine XS.icmpYes X0.here hx rfl (pc0 := 34) (pc' := 46) rfl (hb hby d4_34) rfl (teq hc34).1 (by decide) (by decide) ?_
    refine XS.aloadN X0.here hx rfl (hb hby d4_46) rfl rfl ?_
    refine XS.iload X0.here hx rfl (hb hby d4_47) rfl ?_
    refine XS.iload X0.here hx rfl (hb hby d4_49) rfl ?_
    refine XS.ifNo X0.here hx rfl (hb hby d4_51) rfl ((if0 _ _).trans (teq hc51).2) ?_
    refine XS.iconst X0.here hx rfl (hb hby d4_54) ?_
    refine XS.goto X0.here hx rfl (pc0 := 55) (pc' := 64) rfl (hb hby d4_55) (by decide) (by decide) ?_
    refine st5 _ ?_
    refine XS.iinc X5.here hx rfl (hb hby d4_65) rfl (l' := #[.val (.ref rp), .val (.ref rs), .val (.int nI), .val (.ref rr), .val (.int (ii + (1 : Int32))), .val (.int (fz inn))]) rfl ?_
    refine XS.goto X5.here hx rfl (pc0 := 68) (pc' := 10) rfl (hb hby d4_68) (by decide) (by decide) ?_
    exact k
  exact ⟨_, _, X5, e5, W5, pre6⟩
theorem d4_58 : decode prog_35_method_6_code 58 = .ok (.aload_n 3, 1) := by decide +kernel
theorem d4_59 : decode prog_35_method_6_code 59 = .ok (.iload 5, 2) := by decide +kernel
theorem d4_61 : decode prog_35_method_6_code 61 = .ok (.iconst 1, 1) := by decide +kernel
theorem d4_62 : decode prog_35_method_6_code 62 = .ok (.isub, 1) := by decide +kernel
theorem d4_63 : decode prog_35_method_6_code 63 = .ok (.iaload, 1) := by decide +kernel
set_option maxRecDepth 65536 in
set_option maxHeartbeats 40000000 in
theorem tCu {p : Program} {l : Launch} {e : Env} {R : Room} {s : State} {m : MethodId} {args : Array Value} {below : List Frame} {meth : Method} {c : Code} {T0 : State} {locs : List Loc} {cells slots : Nat} {Z : State} {a0 : Array Value} {h0 : Heap} (rp : Addr) (rs : Addr) (nI : Int32) (rr : Addr) (ii : Int32) (nn : Nat) (fp : Nat → Int32) (fz : Nat → Int32) (fg : Nat → Int32) (inn : Nat) (kn : Nat)
    (X0 : Stand p l e R s m args below meth c T0 locs cells slots) (hx : p.tables.exec = Jvm.exec) (hZ : Z.Warmed39 s.vm) (hw : ∀ d ∈ tables_1, d.before a0 Z = true) (hby : c.code = prog_35_method_6_code) (hml : c.maxLocals = 6) (hown : s.vm.findClass "skipstitch/table/PrefixTable" = some m.cls) (e0 : T0.heap = h0) (A_rp : AI Z h0 rp .byte nn fp) (A_rs : AI Z h0 rs .int nn fz) (A_rr : AI Z h0 rr .int nn fg) (hii : ii.toInt = inn) (hi1 : (ii + (1 : Int32)).toInt = ((inn + 1 : Nat) : Int)) (hin : inn + 1 < nn) (hkn : (fz inn).toInt = kn) (hkl : kn ≤ inn) (hk1 : ((fz inn) - (1 : Int32)).toInt = ((kn - 1 : Nat) : Int)) (hc15 : ((ii + (1 : Int32)) < nI)) (hc34 : ((fp kn) = (fp (inn + 1)))) (hc51 : ¬ ((fz inn) = (0 : Int32))) :
    ∃ (T' : State) (h' : Heap), Stand p l e R s m args below meth c T' (locs ++ [⟨rr, ii.toNatClampNeg⟩]) cells slots ∧ T'.heap = h' ∧ Wr h0 h' rr ii.toNatClampNeg (.int (fg (kn - 1))) ∧ ∀ t, Steps p.tables e below (T'.setTop (mkF m 10 #[.val (.ref rp), .val (.ref rs), .val (.int nI), .val (.ref rr), .val (.int (ii + (1 : Int32))), .val (.int (fz inn))] [])) t → Steps p.tables e below (T0.setTop (mkF m 10 #[.val (.ref rp), .val (.ref rs), .val (.int nI), .val (.ref rr), .val (.int ii), .unset] [])) t := by
  have pre0 : ∀ t, Steps p.tables e below (T0.setTop (mkF m 10 #[.val (.ref rp), .val (.ref rs), .val (.int nI), .val (.ref rr), .val (.int ii), .unset] [])) t → Steps p.tables e below (T0.setTop (mkF m 10 #[.val (.ref rp), .val (.ref rs), .val (.int nI), .val (.ref rr), .val (.int ii), .unset] [])) t := fun t k => k
  obtain ⟨cl1, Arcl1, hincl1, hatcl1⟩ := AF.at A_rs (j := ii) inn hii (by omega)
  obtain ⟨cl2, Arcl2, hincl2, hatcl2⟩ := AF.at A_rp (j := (fz inn)) kn hkn (by omega)
  obtain ⟨cl3, Arcl3, hincl3, hatcl3⟩ := AF.at A_rp (j := (ii + (1 : Int32))) (inn + 1) hi1 hin
  obtain ⟨cl4, Arcl4, hincl4, hatcl4⟩ := AF.at A_rr (j := ((fz inn) - (1 : Int32))) (kn - 1) hk1 (by omega)
  obtain ⟨cl5, Arcl5, hincl5, -⟩ := AF.at A_rr (j := ii) inn hii (by omega)
  obtain ⟨T6, h6, X6, e6, W6, st6⟩ := stI X0 hx hZ e0 Arcl5 (j := ii) hincl5 (g := (mkF m 64 #[.val (.ref rp), .val (.ref rs), .val (.int nI), .val (.ref rr), .val (.int ii), .val (.int (fz inn))] [(.int (fg (kn - 1))), (.int ii), (.ref rr)])) rfl rfl (hb hby d4_64)
  have pre7 : ∀ t, Steps p.tables e below (T6.setTop (mkF m 10 #[.val (.ref rp), .val (.ref rs), .val (.int nI), .val (.ref rr), .val (.int (ii + (1 : Int32))), .val (.int (fz inn))] [])) t → Steps p.tables e below (T0.setTop (mkF m 10 #[.val (.ref rp), .val (.ref rs), .val (.int nI), .val (.ref rr), .val (.int ii), .unset] [])) t := by
    intro t k
    refine pre0 _ ?_
    refine XS.iload X0.here hx rfl (hb hby d4_10) rfl ?_
    refine XS.iconst X0.here hx rfl (hb hby d4_12) ?_
    refine XS.iadd X0.here hx rfl (hb hby d4_13) rfl ?_
    refine XS.iloadN X0.here hx rfl (hb hby d4_14) rfl ?_
    refine XS.icmpNo X0.here hx rfl (hb hby d4_15) rfl (tlt hc15).2.1 ?_
    refine XS.aloadN X0.here hx rfl (hb hby d4_18) rfl rfl ?_
    refine XS.iload X0.here hx rfl (hb hby d4_19) rfl ?_
    refine X0.iaload hx (j := ii) (v := (.int (fz inn))) (by rw [e0]; exact Arcl1.1) (State.isArrayOf_alike hZ.alike Arcl1.2.1) Arcl1.2.2 hincl1 hatcl1 (g := (mkF m 21 #[.val (.ref rp), .val (.ref rs), .val (.int nI), .val (.ref rr), .val (.int ii), .unset] [(.int ii), (.ref rs)])) rfl rfl (hb hby d4_21) _ ?_
    refine XS.istore X0.here hx rfl (hb hby d4_22) rfl (l' := #[.val (.ref rp), .val (.ref rs), .val (.int nI), .val (.ref rr), .val (.int ii), .val (.int (fz inn))]) rfl ?_
    refine XS.aloadN X0.here hx rfl (hb hby d4_24) rfl rfl ?_
    refine XS.iload X0.here hx rfl (hb hby d4_25) rfl ?_
    refine X0.baloadBytes hx (j := (fz inn)) (v := (.int (fp kn))) (by rw [e0]; exact Arcl2.1) (State.isArrayOf_alike hZ.alike Arcl2.2.1) Arcl2.2.2 hincl2 hatcl2 (g := (mkF m 27 #[.val (.ref rp), .val (.ref rs), .val (.int nI), .val (.ref rr), .val (.int ii), .val (.int (fz inn))] [(.int (fz inn)), (.ref rp)])) rfl rfl (hb hby d4_27) _ ?_
    refine XS.aloadN X0.here hx rfl (hb hby d4_28) rfl rfl ?_
    refine XS.iload X0.here hx rfl (hb hby d4_29) rfl ?_
    refine XS.iconst X0.here hx rfl (hb hby d4_31) ?_
    refine XS.iadd X0.here hx rfl (hb hby d4_32) rfl ?_
    refine X0.baloadBytes hx (j := (ii + (1 : Int32))) (v := (.int (fp (inn + 1)))) (by rw [e0]; exact Arcl3.1) (State.isArrayOf_alike hZ.alike Arcl3.2.1) Arcl3.2.2 hincl3 hatcl3 (g := (mkF m 33 #[.val (.ref rp), .val (.ref rs), .val (.int nI), .val (.ref rr), .val (.int ii), .val (.int (fz inn))] [(.int (ii + (1 : Int32))), (.ref rp), (.int (fp kn))])) rfl rfl (hb hby d4_33) _ ?_
    refine XS.icmpYes X0.here hx rfl (pc0 := 34) (pc' := 46) rfl (hb hby d4_34) rfl (teq hc34).1 (by decide) (by decide) ?_
    refine XS.aloadN X0.here hx rfl (hb hby d4_46) rfl rfl ?_
    refine XS.iload X0.here hx rfl (hb hby d4_47) rfl ?_
    refine XS.iload X0.here hx rfl (hb hby d4_49) rfl ?_
    refine XS.ifYes X0.here hx rfl (pc0 := 51) (pc' := 58) rfl (hb hby d4_51) rfl ((if0 _ _).trans (feq hc51).2) (by decide) (by decide) ?_
    refine XS.aloadN X0.here hx rfl (hb hby d4_58) rfl rfl ?_
    refine XS.iload X0.here hx rfl (hb hby d4_59) rfl ?_
    refine XS.iconst X0.here hx rfl (hb hby d4_61) ?_
    refine XS.isub X0.here hx rfl (hb hby d4_62) rfl ?_
    refine X0.iaload hx (j := ((fz inn) - (1 : Int32))) (v := (.int (fg (kn - 1)))) (by rw [e0]; exact Arcl4.1) (State.isArrayOf_alike hZ.alike Arcl4.2.1) Arcl4.2.2 hincl4 hatcl4 (g := (mkF m 63 #[.val (.ref rp), .val (.ref rs), .val (.int nI), .val (.ref rr), .val (.int ii), .val (.int (fz inn))] [(.int ((fz inn) - (1 : Int32))), (.ref rr), (.int ii), (.ref rr)])) rfl rfl (hb hby d4_63) _ ?_
    refine st6 _ ?_
    refine XS.iinc X6.here hx rfl (hb hby d4_65) rfl (l' := #[.val (.ref rp), .val (.ref rs), .val (.int nI), .val (.ref rr), .val (.int (ii + (1 : Int32))), .val (.int (fz inn))]) rfl ?_
    refine XS.goto X6.here hx rfl (pc0 := 68) (pc' := 10) rfl (hb hby d4_68) (by decide) (by decide) ?_
    exact k
  exact ⟨_, _, X6, e6, W6, pre7⟩
set_option maxRecDepth 65536 in
set_option maxHeartbeats 40000000 in
theorem tAi {p : Program} {l : Launch} {e : Env} {R : Room} {s : State} {m : MethodId} {args : Array Value} {below : List Frame} {meth : Method} {c : Code} {T0 : State} {locs : List Loc} {cells slots : Nat} {Z : State} {a0 : Array Value} {h0 : Heap} (rp : Addr) (rs : Addr) (nI : Int32) (rr : Addr) (ii : Int32) (ko : Int32) (nn : Nat) (fp : Nat → Int32) (fz : Nat → Int32) (fg : Nat → Int32) (inn : Nat) (kn : Nat)
    (X0 : Stand p l e R s m args below meth c T0 locs cells slots) (hx : p.tables.exec = Jvm.exec) (hZ : Z.Warmed39 s.vm) (hw : ∀ d ∈ tables_1, d.before a0 Z = true) (hby : c.code = prog_35_method_6_code) (hml : c.maxLocals = 6) (hown : s.vm.findClass "skipstitch/table/PrefixTable" = some m.cls) (e0 : T0.heap = h0) (A_rp : AI Z h0 rp .byte nn fp) (A_rs : AI Z h0 rs .int nn fz) (A_rr : AI Z h0 rr .int nn fg) (hii : ii.toInt = inn) (hi1 : (ii + (1 : Int32)).toInt = ((inn + 1 : Nat) : Int)) (hin : inn + 1 < nn) (hkn : (fz inn).toInt = kn) (hkl : kn ≤ inn) (hc15 : ((ii + (1 : Int32)) < nI)) (hc34 : ¬ ((fp kn) = (fp (inn + 1)))) :
    ∃ (T' : State) (h' : Heap), Stand p l e R s m args below meth c T' (locs ++ [⟨rr, ii.toNatClampNeg⟩]) cells slots ∧ T'.heap = h' ∧ Wr h0 h' rr ii.toNatClampNeg (.int (fz inn)) ∧ ∀ t, Steps p.tables e below (T'.setTop (mkF m 10 #[.val (.ref rp), .val (.ref rs), .val (.int nI), .val (.ref rr), .val (.int (ii + (1 : Int32))), .val (.int (fz inn))] [])) t → Steps p.tables e below (T0.setTop (mkF m 10 #[.val (.ref rp), .val (.ref rs), .val (.int nI), .val (.ref rr), .val (.int ii), .val (.int ko)] [])) t := by
  have pre0 : ∀ t, Steps p.tables e below (T0.setTop (mkF m 10 #[.val (.ref rp), .val (.ref rs), .val (.int nI), .val (.ref rr), .val (.int ii), .val (.int ko)] [])) t → Steps p.tables e below (T0.setTop (mkF m 10 #[.val (.ref rp), .val (.ref rs), .val (.int nI), .val (.ref rr), .val (.int ii), .val (.int ko)] [])) t := fun t k => k
  obtain ⟨cl1, Arcl1, hincl1, hatcl1⟩ := AF.at A_rs (j := ii) inn hii (by omega)
  obtain ⟨cl2, Arcl2, hincl2, hatcl2⟩ := AF.at A_rp (j := (fz inn)) kn hkn (by omega)
  obtain ⟨cl3, Arcl3, hincl3, hatcl3⟩ := AF.at A_rp (j := (ii + (1 : Int32))) (inn + 1) hi1 hin
  obtain ⟨cl4, Arcl4, hincl4, -⟩ := AF.at A_rr (j := ii) inn hii (by omega)
  obtain ⟨T5, h5, X5, e5, W5, st5⟩ := stI X0 hx hZ e0 Arcl4 (j := ii) hincl4 (g := (mkF m 42 #[.val (.ref rp), .val (.ref rs), .val (.int nI), .val (.ref rr), .val (.int ii), .val (.int (fz inn))] [(.int (fz inn)), (.int ii), (.ref rr)])) rfl rfl (hb hby d4_42)
  have pre6 : ∀ t, Steps p.tables e below (T5.setTop (mkF m 10 #[.val (.ref rp), .val (.ref rs), .val (.int nI), .val (.ref rr), .val (.int (ii + (1 : Int32))), .val (.int (fz inn))] [])) t → Steps p.tables e below (T0.setTop (mkF m 10 #[.val (.ref rp), .val (.ref rs), .val (.int nI), .val (.ref rr), .val (.int ii), .val (.int ko)] [])) t := by
    intro t k
    refine pre0 _ ?_
    refine XS.iload X0.here hx rfl (hb hby d4_10) rfl ?_
    refine XS.iconst X0.here hx rfl (hb hby d4_12) ?_
    refine XS.iadd X0.here hx rfl (hb hby d4_13) rfl ?_
    refine XS.iloadN X0.here hx rfl (hb hby d4_14) rfl ?_
    refine XS.icmpNo X0.here hx rfl (hb hby d4_15) rfl (tlt hc15).2.1 ?_
    refine XS.aloadN X0.here hx rfl (hb hby d4_18) rfl rfl ?_
    refine XS.iload X0.here hx rfl (hb hby d4_19) rfl ?_
    refine X0.iaload hx (j := ii) (v := (.int (fz inn))) (by rw [e0]; exact Arcl1.1) (State.isArrayOf_alike hZ.alike Arcl1.2.1) Arcl1.2.2 hincl1 hatcl1 (g := (mkF m 21 #[.val (.ref rp), .val (.ref rs), .val (.int nI), .val (.ref rr), .val (.int ii), .val (.int ko)] [(.int ii), (.ref rs)])) rfl rfl (hb hby d4_21) _ ?_
    refine XS.istore X0.here hx rfl (hb hby d4_22) rfl (l' := #[.val (.ref rp), .val (.ref rs), .val (.int nI), .val (.ref rr), .val (.int ii), .val (.int (fz inn))]) rfl ?_
    refine XS.aloadN X0.here hx rfl (hb hby d4_24) rfl rfl ?_
    refine XS.iload X0.here hx rfl (hb hby d4_25) rfl ?_
    refine X0.baloadBytes hx (j := (fz inn)) (v := (.int (fp kn))) (by rw [e0]; exact Arcl2.1) (State.isArrayOf_alike hZ.alike Arcl2.2.1) Arcl2.2.2 hincl2 hatcl2 (g := (mkF m 27 #[.val (.ref rp), .val (.ref rs), .val (.int nI), .val (.ref rr), .val (.int ii), .val (.int (fz inn))] [(.int (fz inn)), (.ref rp)])) rfl rfl (hb hby d4_27) _ ?_
    refine XS.aloadN X0.here hx rfl (hb hby d4_28) rfl rfl ?_
    refine XS.iload X0.here hx rfl (hb hby d4_29) rfl ?_
    refine XS.iconst X0.here hx rfl (hb hby d4_31) ?_
    refine XS.iadd X0.here hx rfl (hb hby d4_32) rfl ?_
    refine X0.baloadBytes hx (j := (ii + (1 : Int32))) (v := (.int (fp (inn + 1)))) (by rw [e0]; exact Arcl3.1) (State.isArrayOf_alike hZ.alike Arcl3.2.1) Arcl3.2.2 hincl3 hatcl3 (g := (mkF m 33 #[.val (.ref rp), .val (.ref rs), .val (.int nI), .val (.ref rr), .val (.int ii), .val (.int (fz inn))] [(.int (ii + (1 : Int32))), (.ref rp), (.int (fp kn))])) rfl rfl (hb hby d4_33) _ ?_
    refine XS.icmpNo X0.here hx rfl (hb hby d4_34) rfl (feq hc34).1 ?_
    refine XS.aloadN X0.here hx rfl (hb hby d4_37) rfl rfl ?_
    refine XS.iload X0.here hx rfl (hb hby d4_38) rfl ?_
    refine XS.iload X0.here hx rfl (hb hby d4_40) rfl ?_
    refine st5 _ ?_
    refine XS.goto X5.here hx rfl (pc0 := 43) (pc' := 65) rfl (hb hby d4_43) (by decide) (by decide) ?_
    refine XS.iinc X5.here hx rfl (hb hby d4_65) rfl (l' := #[.val (.ref rp), .val (.ref rs), .val (.int nI), .val (.ref rr), .val (.int (ii + (1 : Int32))), .val (.int (fz inn))]) rfl ?_
    refine XS.goto X5.here hx rfl (pc0 := 68) (pc' := 10) rfl (hb hby d4_68) (by decide) (by decide) ?_
    exact k
  exact ⟨_, _, X5, e5, W5, pre6⟩
set_option maxRecDepth 65536 in
set_option maxHeartbeats 40000000 in
theorem tBi {p : Program} {l : Launch} {e : Env} {R : Room} {s : State} {m : MethodId} {args : Array Value} {below : List Frame} {meth : Method} {c : Code} {T0 : State} {locs : List Loc} {cells slots : Nat} {Z : State} {a0 : Array Value} {h0 : Heap} (rp : Addr) (rs : Addr) (nI : Int32) (rr : Addr) (ii : Int32) (ko : Int32) (nn : Nat) (fp : Nat → Int32) (fz : Nat → Int32) (fg : Nat → Int32) (inn : Nat) (kn : Nat)
    (X0 : Stand p l e R s m args below meth c T0 locs cells slots) (hx : p.tables.exec = Jvm.exec) (hZ : Z.Warmed39 s.vm) (hw : ∀ d ∈ tables_1, d.before a0 Z = true) (hby : c.code = prog_35_method_6_code) (hml : c.maxLocals = 6) (hown : s.vm.findClass "skipstitch/table/PrefixTable" = some m.cls) (e0 : T0.heap = h0) (A_rp : AI Z h0 rp .byte nn fp) (A_rs : AI Z h0 rs .int nn fz) (A_rr : AI Z h0 rr .int nn fg) (hii : ii.toInt = inn) (hi1 : (ii + (1 : Int32)).toInt = ((inn + 1 : Nat) : Int)) (hin : inn + 1 < nn) (hkn : (fz inn).toInt = kn) (hkl : kn ≤ inn) (hc15 : ((ii + (1 : Int32)) < nI)) (hc34 : ((fp kn) = (fp (inn + 1)))) (hc51 : ((fz inn) = (0 : Int32))) :
    ∃ (T' : State) (h' : Heap), Stand p l e R s m args below meth c T' (locs ++ [⟨rr, ii.toNatClampNeg⟩]) cells slots ∧ T'.heap = h' ∧ Wr h0 h' rr ii.toNatClampNeg (.int (-1 : Int32)) ∧ ∀ t, Steps p.tables e below (T'.setTop (mkF m 10 #[.val (.ref rp), .val (.ref rs), .val (.int nI), .val (.ref rr), .val (.int (ii + (1 : Int32))), .val (.int (fz inn))] [])) t → Steps p.tables e below (T0.setTop (mkF m 10 #[.val (.ref rp), .val (.ref rs), .val (.int nI), .val (.ref rr), .val (.int ii), .val (.int ko)] [])) t := by
  have pre0 : ∀ t, Steps p.tables e below (T0.setTop (mkF m 10 #[.val (.ref rp), .val (.ref rs), .val (.int nI), .val (.ref rr), .val (.int ii), .val (.int ko)] [])) t → Steps p.tables e below (T0.setTop (mkF m 10 #[.val (.ref rp), .val (.ref rs), .val (.int nI), .val (.ref rr), .val (.int ii), .val (.int ko)] [])) t := fun t k => k
  obtain ⟨cl1, Arcl1, hincl1, hatcl1⟩ := AF.at A_rs (j := ii) inn hii (by omega)
  obtain ⟨cl2, Arcl2, hincl2, hatcl2⟩ := AF.at A_rp (j := (fz inn)) kn hkn (by omega)
  obtain ⟨cl3, Arcl3, hincl3, hatcl3⟩ := AF.at A_rp (j := (ii + (1 : Int32))) (inn + 1) hi1 hin
  obtain ⟨cl4, Arcl4, hincl4, -⟩ := AF.at A_rr (j := ii) inn hii (by omega)
  obtain ⟨T5, h5, X5, e5, W5, st5⟩ := stI X0 hx hZ e0 Arcl4 (j := ii) hincl4 (g := (mkF m 64 #[.val (.ref rp), .val (.ref rs), .val (.int nI), .val (.ref rr), .val (.int ii), .val (.int (fz inn))] [(.int (-1 : Int32)), (.int ii), (.ref rr)])) rfl rfl (hb hby d4_64)
  have pre6 : ∀ t, Steps p.tables e below (T5.setTop (mkF m 10 #[.val (.ref rp), .val (.ref rs), .val (.int nI), .val (.ref rr), .val (.int (ii + (1 : Int32))), .val (.int (fz inn))] [])) t → Steps p.tables e below (T0.setTop (mkF m 10 #[.val (.ref rp), .val (.ref rs), .val (.int nI), .val (.ref rr), .val (.int ii), .val (.int ko)] [])) t := by
    intro t k
    refine pre0 _ ?_
    refine XS.iload X0.here hx rfl (hb hby d4_10) rfl ?_
    refine XS.iconst X0.here hx rfl (hb hby d4_12) ?_
    refine XS.iadd X0.here hx rfl (hb hby d4_13) rfl ?_
    refine XS.iloadN X0.here hx rfl (hb hby d4_14) rfl ?_
    refine XS.icmpNo X0.here hx rfl (hb hby d4_15) rfl (tlt hc15).2.1 ?_
    refine XS.aloadN X0.here hx rfl (hb hby d4_18) rfl rfl ?_
    refine XS.iload X0.here hx rfl (hb hby d4_19) rfl ?_
    refine X0.iaload hx (j := ii) (v := (.int (fz inn))) (by rw [e0]; exact Arcl1.1) (State.isArrayOf_alike hZ.alike Arcl1.2.1) Arcl1.2.2 hincl1 hatcl1 (g := (mkF m 21 #[.val (.ref rp), .val (.ref rs), .val (.int nI), .val (.ref rr), .val (.int ii), .val (.int ko)] [(.int ii), (.ref rs)])) rfl rfl (hb hby d4_21) _ ?_
    refine XS.istore X0.here hx rfl (hb hby d4_22) rfl (l' := #[.val (.ref rp), .val (.ref rs), .val (.int nI), .val (.ref rr), .val (.int ii), .val (.int (fz inn))]) rfl ?_
    refine XS.aloadN X0.here hx rfl (hb hby d4_24) rfl rfl ?_
    refine XS.iload X0.here hx rfl (hb hby d4_25) rfl ?_
    refine X0.baloadBytes hx (j := (fz inn)) (v := (.int (fp kn))) (by rw [e0]; exact Arcl2.1) (State.isArrayOf_alike hZ.alike Arcl2.2.1) Arcl2.2.2 hincl2 hatcl2 (g := (mkF m 27 #[.val (.ref rp), .val (.ref rs), .val (.int nI), .val (.ref rr), .val (.int ii), .val (.int (fz inn))] [(.int (fz inn)), (.ref rp)])) rfl rfl (hb hby d4_27) _ ?_
    refine XS.aloadN X0.here hx rfl (hb hby d4_28) rfl rfl ?_
    refine XS.iload X0.here hx rfl (hb hby d4_29) rfl ?_
    refine XS.iconst X0.here hx rfl (hb hby d4_31) ?_
    refine XS.iadd X0.here hx rfl (hb hby d4_32) rfl ?_
    refine X0.baloadBytes hx (j := (ii + (1 : Int32))) (v := (.int (fp (inn + 1)))) (by rw [e0]; exact Arcl3.1) (State.isArrayOf_alike hZ.alike Arcl3.2.1) Arcl3.2.2 hincl3 hatcl3 (g := (mkF m 33 #[.val (.ref rp), .val (.ref rs), .val (.int nI), .val (.ref rr), .val (.int ii), .val (.int (fz inn))] [(.int (ii + (1 : Int32))), (.ref rp), (.int (fp kn))])) rfl rfl (hb hby d4_33) _ ?_
    refine XS.icmpYes X0.here hx rfl (pc0 := 34) (pc' := 46) rfl (hb hby d4_34) rfl (teq hc34).1 (by decide) (by decide) ?_
    refine XS.aloadN X0.here hx rfl (hb hby d4_46) rfl rfl ?_
    refine XS.iload X0.here hx rfl (hb hby d4_47) rfl ?_
    refine XS.iload X0.here hx rfl (hb hby d4_49) rfl ?_
    refine XS.ifNo X0.here hx rfl (hb hby d4_51) rfl ((if0 _ _).trans (teq hc51).2) ?_
    refine XS.iconst X0.here hx rfl (hb hby d4_54) ?_
    refine XS.goto X0.here hx rfl (pc0 := 55) (pc' := 64) rfl (hb hby d4_55) (by decide) (by decide) ?_
    refine st5 _ ?_
    refine XS.iinc X5.here hx rfl (hb hby d4_65) rfl (l' := #[.val (.ref rp), .val (.ref rs), .val (.int nI), .val (.ref rr), .val (.int (ii + (1 : Int32))), .val (.int (fz inn))]) rfl ?_
    refine XS.goto X5.here hx rfl (pc0 := 68) (pc' := 10) rfl (hb hby d4_68) (by decide) (by decide) ?_
    exact k
  exact ⟨_, _, X5, e5, W5, pre6⟩
set_option maxRecDepth 65536 in
set_option maxHeartbeats 40000000 in
theorem tCi {p : Program} {l : Launch} {e : Env} {R : Room} {s : State} {m : MethodId} {args : Array Value} {below : List Frame} {meth : Method} {c : Code} {T0 : State} {locs : List Loc} {cells slots : Nat} {Z : State} {a0 : Array Value} {h0 : Heap} (rp : Addr) (rs : Addr) (nI : Int32) (rr : Addr) (ii : Int32) (ko : Int32) (nn : Nat) (fp : Nat → Int32) (fz : Nat → Int32) (fg : Nat → Int32) (inn : Nat) (kn : Nat)
    (X0 : Stand p l e R s m args below meth c T0 locs cells slots) (hx : p.tables.exec = Jvm.exec) (hZ : Z.Warmed39 s.vm) (hw : ∀ d ∈ tables_1, d.before a0 Z = true) (hby : c.code = prog_35_method_6_code) (hml : c.maxLocals = 6) (hown : s.vm.findClass "skipstitch/table/PrefixTable" = some m.cls) (e0 : T0.heap = h0) (A_rp : AI Z h0 rp .byte nn fp) (A_rs : AI Z h0 rs .int nn fz) (A_rr : AI Z h0 rr .int nn fg) (hii : ii.toInt = inn) (hi1 : (ii + (1 : Int32)).toInt = ((inn + 1 : Nat) : Int)) (hin : inn + 1 < nn) (hkn : (fz inn).toInt = kn) (hkl : kn ≤ inn) (hk1 : ((fz inn) - (1 : Int32)).toInt = ((kn - 1 : Nat) : Int)) (hc15 : ((ii + (1 : Int32)) < nI)) (hc34 : ((fp kn) = (fp (inn + 1)))) (hc51 : ¬ ((fz inn) = (0 : Int32))) :
    ∃ (T' : State) (h' : Heap), Stand p l e R s m args below meth c T' (locs ++ [⟨rr, ii.toNatClampNeg⟩]) cells slots ∧ T'.heap = h' ∧ Wr h0 h' rr ii.toNatClampNeg (.int (fg (kn - 1))) ∧ ∀ t, Steps p.tables e below (T'.setTop (mkF m 10 #[.val (.ref rp), .val (.ref rs), .val (.int nI), .val (.ref rr), .val (.int (ii + (1 : Int32))), .val (.int (fz inn))] [])) t → Steps p.tables e below (T0.setTop (mkF m 10 #[.val (.ref rp), .val (.ref rs), .val (.int nI), .val (.ref rr), .val (.int ii), .val (.int ko)] [])) t := by
  have pre0 : ∀ t, Steps p.tables e below (T0.setTop (mkF m 10 #[.val (.ref rp), .val (.ref rs), .val (.int nI), .val (.ref rr), .val (.int ii), .val (.int ko)] [])) t → Steps p.tables e below (T0.setTop (mkF m 10 #[.val (.ref rp), .val (.ref rs), .val (.int nI), .val (.ref rr), .val (.int ii), .val (.int ko)] [])) t := fun t k => k
  obtain ⟨cl1, Arcl1, hincl1, hatcl1⟩ := AF.at A_rs (j := ii) inn hii (by omega)
  obtain ⟨cl2, Arcl2, hincl2, hatcl2⟩ := AF.at A_rp (j := (fz inn)) kn hkn (by omega)
  obtain ⟨cl3, Arcl3, hincl3, hatcl3⟩ := AF.at A_rp (j := (ii + (1 : Int32))) (inn + 1) hi1 hin
  obtain ⟨cl4, Arcl4, hincl4, hatcl4⟩ := AF.at A_rr (j := ((fz inn) - (1 : Int32))) (kn - 1) hk1 (by omega)
  obtain ⟨cl5, Arcl5, hincl5, -⟩ := AF.at A_rr (j := ii) inn hii (by omega)
  obtain ⟨T6, h6, X6, e6, W6, st6⟩ := stI X0 hx hZ e0 Arcl5 (j := ii) hincl5 (g := (mkF m 64 #[.val (.ref rp), .val (.ref rs), .val (.int nI), .val (.ref rr), .val (.int ii), .val (.int (fz inn))] [(.int (fg (kn - 1))), (.int ii), (.ref rr)])) rfl rfl (hb hby d4_64)
  have pre7 : ∀ t, Steps p.tables e below (T6.setTop (mkF m 10 #[.val (.ref rp), .val (.ref rs), .val (.int nI), .val (.ref rr), .val (.int (ii + (1 : Int32))), .val (.int (fz inn))] [])) t → Steps p.tables e below (T0.setTop (mkF m 10 #[.val (.ref rp), .val (.ref rs), .val (.int nI), .val (.ref rr), .val (.int ii), .val (.int ko)] [])) t := by
    intro t k
    refine pre0 _ ?_
    refine XS.iload X0.here hx rfl (hb hby d4_10) rfl ?_
    refine XS.iconst X0.here hx rfl (hb hby d4_12) ?_
    refine XS.iadd X0.here hx rfl (hb hby d4_13) rfl ?_
    refine XS.iloadN X0.here hx rfl (hb hby d4_14) rfl ?_
    refine XS.icmpNo X0.here hx rfl (hb hby d4_15) rfl (tlt hc15).2.1 ?_
    refine XS.aloadN X0.here hx rfl (hb hby d4_18) rfl rfl ?_
    refine XS.iload X0.here hx rfl (hb hby d4_19) rfl ?_
    refine X0.iaload hx (j := ii) (v := (.int (fz inn))) (by rw [e0]; exact Arcl1.1) (State.isArrayOf_alike hZ.alike Arcl1.2.1) Arcl1.2.2 hincl1 hatcl1 (g := (mkF m 21 #[.val (.ref rp), .val (.ref rs), .val (.int nI), .val (.ref rr), .val (.int ii), .val (.int ko)] [(.int ii), (.ref rs)])) rfl rfl (hb hby d4_21) _ ?_
    refine XS.istore X0.here hx rfl (hb hby d4_22) rfl (l' := #[.val (.ref rp), .val (.ref rs), .val (.int nI), .val (.ref rr), .val (.int ii), .val (.int (fz inn))]) rfl ?_
    refine XS.aloadN X0.here hx rfl (hb hby d4_24) rfl rfl ?_
    refine XS.iload X0.here hx rfl (hb hby d4_25) rfl ?_
    refine X0.baloadBytes hx (j := (fz inn)) (v := (.int (fp kn))) (by rw [e0]; exact Arcl2.1) (State.isArrayOf_alike hZ.alike Arcl2.2.1) Arcl2.2.2 hincl2 hatcl2 (g := (mkF m 27 #[.val (.ref rp), .val (.ref rs), .val (.int nI), .val (.ref rr), .val (.int ii), .val (.int (fz inn))] [(.int (fz inn)), (.ref rp)])) rfl rfl (hb hby d4_27) _ ?_
    refine XS.aloadN X0.here hx rfl (hb hby d4_28) rfl rfl ?_
    refine XS.iload X0.here hx rfl (hb hby d4_29) rfl ?_
    refine XS.iconst X0.here hx rfl (hb hby d4_31) ?_
    refine XS.iadd X0.here hx rfl (hb hby d4_32) rfl ?_
    refine X0.baloadBytes hx (j := (ii + (1 : Int32))) (v := (.int (fp (inn + 1)))) (by rw [e0]; exact Arcl3.1) (State.isArrayOf_alike hZ.alike Arcl3.2.1) Arcl3.2.2 hincl3 hatcl3 (g := (mkF m 33 #[.val (.ref rp), .val (.ref rs), .val (.int nI), .val (.ref rr), .val (.int ii), .val (.int (fz inn))] [(.int (ii + (1 : Int32))), (.ref rp), (.int (fp kn))])) rfl rfl (hb hby d4_33) _ ?_
    refine XS.icmpYes X0.here hx rfl (pc0 := 34) (pc' := 46) rfl (hb hby d4_34) rfl (teq hc34).1 (by decide) (by decide) ?_
    refine XS.aloadN X0.here hx rfl (hb hby d4_46) rfl rfl ?_
    refine XS.iload X0.here hx rfl (hb hby d4_47) rfl ?_
    refine XS.iload X0.here hx rfl (hb hby d4_49) rfl ?_
    refine XS.ifYes X0.here hx rfl (pc0 := 51) (pc' := 58) rfl (hb hby d4_51) rfl ((if0 _ _).trans (feq hc51).2) (by decide) (by decide) ?_
    refine XS.aloadN X0.here hx rfl (hb hby d4_58) rfl rfl ?_
    refine XS.iload X0.here hx rfl (hb hby d4_59) rfl ?_
    refine XS.iconst X0.here hx rfl (hb hby d4_61) ?_
    refine XS.isub X0.here hx rfl (hb hby d4_62) rfl ?_
    refine X0.iaload hx (j := ((fz inn) - (1 : Int32))) (v := (.int (fg (kn - 1)))) (by rw [e0]; exact Arcl4.1) (State.isArrayOf_alike hZ.alike Arcl4.2.1) Arcl4.2.2 hincl4 hatcl4 (g := (mkF m 63 #[.val (.ref rp), .val (.ref rs), .val (.int nI), .val (.ref rr), .val (.int ii), .val (.int (fz inn))] [(.int ((fz inn) - (1 : Int32))), (.ref rr), (.int ii), (.ref rr)])) rfl rfl (hb hby d4_63) _ ?_
    refine st6 _ ?_
    refine XS.iinc X6.here hx rfl (hb hby d4_65) rfl (l' := #[.val (.ref rp), .val (.ref rs), .val (.int nI), .val (.ref rr), .val (.int (ii + (1 : Int32))), .val (.int (fz inn))]) rfl ?_
    refine XS.goto X6.here hx rfl (pc0 := 68) (pc' := 10) rfl (hb hby d4_68) (by decide) (by decide) ?_
    exact k
  exact ⟨_, _, X6, e6, W6, pre7⟩
def own_val (fp fz fg : Nat → Int32) (i : Nat) : Int32 := if fp (fz i).toInt.toNat = fp (i + 1) then (if (fz i) = (0 : Int32) then (-1 : Int32) else fg ((fz i).toInt.toNat - 1)) else fz i
def own_g (fp fz : Nat → Int32) : Nat → (Nat → Int32)
  | 0 => zI
  | i + 1 => up (own_g fp fz i) i (own_val fp fz (own_g fp fz i) i)
set_option maxRecDepth 65536 in
set_option maxHeartbeats 40000000 in
theorem turnu {p : Program} {l : Launch} {e : Env} {R : Room} {s : State} {m : MethodId} {args : Array Value} {below : List Frame} {meth : Method} {c : Code} {T0 : State} {locs : List Loc} {cells slots : Nat} {Z : State} {a0 : Array Value} {h0 : Heap} (rp rs : Addr) (nI : Int32) (rr : Addr) (ii : Int32) (nn : Nat) (fp fz fg : Nat → Int32) (inn : Nat)
    (X0 : Stand p l e R s m args below meth c T0 locs cells slots) (hx : p.tables.exec = Jvm.exec) (hZ : Z.Warmed39 s.vm) (hw : ∀ d ∈ tables_1, d.before a0 Z = true) (hby : c.code = prog_35_method_6_code) (hml : c.maxLocals = 6) (hown : s.vm.findClass "skipstitch/table/PrefixTable" = some m.cls) (e0 : T0.heap = h0) (A_rp : AI Z h0 rp .byte nn fp) (A_rs : AI Z h0 rs .int nn fz) (A_rr : AI Z h0 rr .int nn fg) (hnI : nI.toInt = nn) (hii : ii.toInt = inn) (hn5 : nn ≤ 5) (hin : inn + 1 < nn) (hfz : 0 ≤ (fz inn).toInt ∧ (fz inn).toInt ≤ inn) :
    ∃ (T' : State) (h' : Heap), Stand p l e R s m args below meth c T' (locs ++ [⟨rr, ii.toNatClampNeg⟩]) cells slots ∧ T'.heap = h' ∧ Wr h0 h' rr ii.toNatClampNeg (.int (own_val fp fz fg inn)) ∧ ∀ t, Steps p.tables e below (T'.setTop (mkF m 10 #[.val (.ref rp), .val (.ref rs), .val (.int nI), .val (.ref rr), .val (.int (ii + (1 : Int32))), .val (.int (fz inn))] [])) t → Steps p.tables e below (T0.setTop (mkF m 10 #[.val (.ref rp), .val (.ref rs), .val (.int nI), .val (.ref rr), .val (.int ii), .unset] [])) t := by
  have e1 : (1 : Int32).toInt = 1 := rfl
  have hi1 : (ii + (1 : Int32)).toInt = ((inn + 1 : Nat) : Int) := by rw [own_iadd rfl rfl (by omega) (by omega) (x := ii) (y := 1), hii, e1]; rfl
  have hlt : (ii + (1 : Int32)) < nI := by rw [Int32.lt_iff_toInt_lt]; omega
  have hkn : (fz inn).toInt = ((fz inn).toInt.toNat : Nat) := by omega
  have hkl : (fz inn).toInt.toNat ≤ inn := by omega
  unfold own_val
  by_cases q : fp (fz inn).toInt.toNat = fp (inn + 1)
  · rw [if_pos q]
    by_cases q0 : (fz inn) = (0 : Int32)
    · rw [if_pos q0]
      exact tBu rp rs nI rr ii nn fp fz fg inn _ X0 hx hZ hw hby hml hown e0 A_rp A_rs A_rr hii hi1 hin hkn hkl hlt q q0
    · rw [if_neg q0]
      have hk1 : ((fz inn) - (1 : Int32)).toInt = (((fz inn).toInt.toNat - 1 : Nat) : Int) := by
        have q1 : ¬ (fz inn).toInt = 0 := fun z => q0 (Int32.toInt_inj.mp z)
        rw [own_isub rfl rfl (by omega) (by omega) (x := fz inn) (y := 1), e1]
        omega
      exact tCu rp rs nI rr ii nn fp fz fg inn _ X0 hx hZ hw hby hml hown e0 A_rp A_rs A_rr hii hi1 hin hkn hkl hk1 hlt q q0
  · rw [if_neg q]
    exact tAu rp rs nI rr ii nn fp fz fg inn _ X0 hx hZ hw hby hml hown e0 A_rp A_rs A_rr hii hi1 hin hkn hkl hlt q
set_option maxRecDepth 65536 in
set_option maxHeartbeats 40000000 in
theorem turni {p : Program} {l : Launch} {e : Env} {R : Room} {s : State} {m : MethodId} {args : Array Value} {below : List Frame} {meth : Method} {c : Code} {T0 : State} {locs : List Loc} {cells slots : Nat} {Z : State} {a0 : Array Value} {h0 : Heap} (rp rs : Addr) (nI : Int32) (rr : Addr) (ii : Int32) (ko : Int32) (nn : Nat) (fp fz fg : Nat → Int32) (inn : Nat)
    (X0 : Stand p l e R s m args below meth c T0 locs cells slots) (hx : p.tables.exec = Jvm.exec) (hZ : Z.Warmed39 s.vm) (hw : ∀ d ∈ tables_1, d.before a0 Z = true) (hby : c.code = prog_35_method_6_code) (hml : c.maxLocals = 6) (hown : s.vm.findClass "skipstitch/table/PrefixTable" = some m.cls) (e0 : T0.heap = h0) (A_rp : AI Z h0 rp .byte nn fp) (A_rs : AI Z h0 rs .int nn fz) (A_rr : AI Z h0 rr .int nn fg) (hnI : nI.toInt = nn) (hii : ii.toInt = inn) (hn5 : nn ≤ 5) (hin : inn + 1 < nn) (hfz : 0 ≤ (fz inn).toInt ∧ (fz inn).toInt ≤ inn) :
    ∃ (T' : State) (h' : Heap), Stand p l e R s m args below meth c T' (locs ++ [⟨rr, ii.toNatClampNeg⟩]) cells slots ∧ T'.heap = h' ∧ Wr h0 h' rr ii.toNatClampNeg (.int (own_val fp fz fg inn)) ∧ ∀ t, Steps p.tables e below (T'.setTop (mkF m 10 #[.val (.ref rp), .val (.ref rs), .val (.int nI), .val (.ref rr), .val (.int (ii + (1 : Int32))), .val (.int (fz inn))] [])) t → Steps p.tables e below (T0.setTop (mkF m 10 #[.val (.ref rp), .val (.ref rs), .val (.int nI), .val (.ref rr), .val (.int ii), .val (.int ko)] [])) t := by
  have e1 : (1 : Int32).toInt = 1 := rfl
  have hi1 : (ii + (1 : Int32)).toInt = ((inn + 1 : Nat) : Int) := by rw [own_iadd rfl rfl (by omega) (by omega) (x := ii) (y := 1), hii, e1]; rfl
  have hlt : (ii + (1 : Int32)) < nI := by rw [Int32.lt_iff_toInt_lt]; omega
  have hkn : (fz inn).toInt = ((fz inn).toInt.toNat : Nat) := by omega
  have hkl : (fz inn).toInt.toNat ≤ inn := by omega
  unfold own_val
  by_cases q : fp (fz inn).toInt.toNat = fp (inn + 1)
  · rw [if_pos q]
    by_cases q0 : (fz inn) = (0 : Int32)
    · rw [if_pos q0]
      exact tBi rp rs nI rr ii ko nn fp fz fg inn _ X0 hx hZ hw hby hml hown e0 A_rp A_rs A_rr hii hi1 hin hkn hkl hlt q q0
    · rw [if_neg q0]
      have hk1 : ((fz inn) - (1 : Int32)).toInt = (((fz inn).toInt.toNat - 1 : Nat) : Int) := by
        have q1 : ¬ (fz inn).toInt = 0 := fun z => q0 (Int32.toInt_inj.mp z)
        rw [own_isub rfl rfl (by omega) (by omega) (x := fz inn) (y := 1), e1]
        omega
      exact tCi rp rs nI rr ii ko nn fp fz fg inn _ X0 hx hZ hw hby hml hown e0 A_rp A_rs A_rr hii hi1 hin hkn hkl hk1 hlt q q0
  · rw [if_neg q]
    exact tAi rp rs nI rr ii ko nn fp fz fg inn _ X0 hx hZ hw hby hml hown e0 A_rp A_rs A_rr hii hi1 hin hkn hkl hlt q
theorem ef_4k0 (m : MethodId) (rp : Addr) (rs : Addr) : entryFrame m #[(.ref rp), (.ref rs)] 6 = mkF m 0 #[.val (.ref rp), .val (.ref rs), .unset, .unset, .unset, .unset] [] := by first | (simp [entryFrame, mkF, argsToLocals, Value.category]; done) | rfl
theorem d4_0 : decode prog_35_method_6_code 0 = .ok (.aload_n 0, 1) := by decide +kernel
theorem d4_1 : decode prog_35_method_6_code 1 = .ok (.arraylength, 1) := by decide +kernel
theorem d4_2 : decode prog_35_method_6_code 2 = .ok (.istore_n 2, 1) := by decide +kernel
theorem d4_3 : decode prog_35_method_6_code 3 = .ok (.iload_n 2, 1) := by decide +kernel
theorem d4_4 : decode prog_35_method_6_code 4 = .ok (.newarray .int, 2) := by decide +kernel
theorem d4_6 : decode prog_35_method_6_code 6 = .ok (.astore_n 3, 1) := by decide +kernel
theorem d4_7 : decode prog_35_method_6_code 7 = .ok (.iconst 0, 1) := by decide +kernel
theorem d4_8 : decode prog_35_method_6_code 8 = .ok (.istore 4, 2) := by decide +kernel
theorem d4_71 : decode prog_35_method_6_code 71 = .ok (.iload_n 2, 1) := by decide +kernel
theorem d4_72 : decode prog_35_method_6_code 72 = .ok (.ifCond .le 13, 3) := by decide +kernel
theorem d4_85 : decode prog_35_method_6_code 85 = .ok (.aload_n 3, 1) := by decide +kernel
theorem d4_86 : decode prog_35_method_6_code 86 = .ok (.areturn, 1) := by decide +kernel
theorem pn_skipstitch_table_PrefixTable : plainName "skipstitch/table/PrefixTable" = true := by first | (simp [plainName, overriddenIn]; done) | decide +kernel
def Q4k0 (Z : State) (rp : Addr) (rs : Addr) (fp : Nat → Int32) (fz : Nat → Int32) (h0 : Heap) (n0 : Nat) (v : Option Value) (h : Heap) (L : List Loc) : Prop := ∃ fr0 : Addr, n0 ≤ fr0 ∧ h0.size ≤ fr0 ∧ v = some (.ref fr0) ∧ Fr n0 L ∧ Keep h0 h [] ∧ AI Z h fr0 .int 0 (own_g fp fz 0)
set_option maxRecDepth 65536 in
set_option maxHeartbeats 40000000 in
theorem rm4k0 (l : Launch) (Z : State) (a0 : Array Value) (hw : ∀ d ∈ tables_1, d.before a0 Z = true) (ws : List Jvm.Cond) (rp : Addr) (rs : Addr) (fp : Nat → Int32) (fz : Nat → Int32) (h0 : Heap) (n0 : Nat) (Z0 : n0 ≤ h0.size) (A_rp : AI Z h0 rp .byte 0 fp) (A_rs : AI Z h0 rs .int 0 fz) (hfz : ∀ j, j < 0 → 0 ≤ (fz j).toInt ∧ (fz j).toInt ≤ j) :
    MetFree l (⟨"skipstitch/table/PrefixTable", "optimised", "([B[I)[I"⟩ : MethodName) (head1 (Jvm.Cond.code (⟨"skipstitch/table/PrefixTable", "optimised", "([B[I)[I"⟩ : MethodName) prog_35_method_6_code 6 (some (.array .int)) :: ws) ({ frames := 0, cells := 1, slots := 0, locals := 0 } : Room)) (fun a U => a = #[(.ref rp), (.ref rs)] ∧ Z.Warmed39 U.vm ∧ U.heap = h0) (fun _ _ _ _ _ => True) (fun _ U o U' => ∃ v L, o = .returned v ∧ Q4k0 Z rp rs fp fz h0 n0 v U'.heap L ∧ FrameEnd U o U' L ({ frames := 0, cells := 1, slots := 0, locals := 0 } : Room).cells ({ frames := 0, cells := 1, slots := 0, locals := 0 } : Room).slots) := by
  refine MetFree.of_bodySF (plainFor_of_name pn_skipstitch_table_PrefixTable) hisR ?_
  intro p e s m args below meth c s₁ Bd hml0 hP hK
  obtain ⟨rfl, hZ, hh⟩ := hP
  have hx := Bd.exec
  have hby := Bd.bytes
  have hml : c.maxLocals = 6 := hml0
  have hown : s.vm.findClass "skipstitch/table/PrefixTable" = some m.cls := findClass_of_methodNamed Bd.named
  have hnm := (name_of_methodNamed Bd.named Bd.method).1
  have X0 : Stand p l e ({ frames := 0, cells := 1, slots := 0, locals := 0 } : Room) s m #[(.ref rp), (.ref rs)] below meth c s₁ [] 0 0 := Stand.of_body Bd
  have e0 : s₁.heap = h0 := by rw [← hh, Bd.state]; rfl
  have N0 := Fr.nil n0
  have K0 : Keep h0 h0 [] := Keep.refl h0 _
  have pre0 : ∀ t, Steps p.tables e below (s₁.setTop (mkF m 0 #[.val (.ref rp), .val (.ref rs), .unset, .unset, .unset, .unset] [])) t → Steps p.tables e below (s₁.setTop (entryFrame m #[(.ref rp), (.ref rs)] 6)) t := fun t k => castTop (ef_4k0 m rp rs) k
  obtain ⟨cl1, Arcl1, Szcl1⟩ := AF.len A_rp
  obtain ⟨T2, h2, k2, X2, e2, E2, A2, st2⟩ := newP X0 hx hZ (hw _ (List.mem_of_getElem? (i := 6) rfl)) e0 (g := (mkF m 4 #[.val (.ref rp), .val (.ref rs), .val (.int (0 : Int32)), .unset, .unset, .unset] [(.int (0 : Int32))])) rfl (hb hby d4_4) rfl (by decide) (cap := 0) (by decide) (by decide) (by decide) (by decide)
  obtain ⟨b2, g2⟩ : ∃ z, z = h0.size := ⟨_, rfl⟩
  rw [← g2] at A2 st2
  have ne3 : rp ≠ b2 := Nat.ne_of_lt (Nat.lt_of_lt_of_le A_rp.lt (Nat.le_of_eq g2.symm))
  have ne4 : rs ≠ b2 := Nat.ne_of_lt (Nat.lt_of_lt_of_le A_rs.lt (Nat.le_of_eq g2.symm))
  have gg2 : n0 ≤ b2 := Nat.le_trans Z0 (Nat.le_of_eq g2.symm)
  have sz2 : h0.size ≤ b2 := Nat.le_trans K0.1 (Nat.le_of_eq g2.symm)
  have f5 : AI Z h2 rp .byte 0 fp := A_rp.ext E2
  have f6 : AI Z h2 rs .int 0 fz := A_rs.ext E2
  have Z2 : n0 ≤ h2.size := Nat.le_trans Z0 E2.1
  have K2 : Keep h0 h2 [] := K0.ext E2
  have f7 : AI Z h2 b2 .int 0 zI := AF.new A2 (by decide)
  have f8 : AI Z h2 b2 .int 0 (own_g fp fz 0) := f7
  obtain ⟨fs, hr, hrun, hended, hW, hsame⟩ := X2.leave (v := some (.ref b2)) (fun h => by rw [Bd.returns] at h; cases h) (hlocks := Bd.notSynchronized)
  refine ⟨_, _, pre0 _ ?_, hrun, hended, _, _, rfl, ?_, ⟨_, rfl⟩, hW, hsame.mono (by decide) (by decide)⟩
  · show Steps p.tables e below (s₁.setTop (mkF m 0 #[.val (.ref rp), .val (.ref rs), .unset, .unset, .unset, .unset] [])) _
    refine XS.aloadN X0.here hx rfl (hb hby d4_0) rfl rfl ?_
    refine X0.arraylength hx (by rw [e0]; exact Arcl1.1) (State.isArrayOf_alike hZ.alike Arcl1.2.1) (g := (mkF m 1 #[.val (.ref rp), .val (.ref rs), .unset, .unset, .unset, .unset] [(.ref rp)])) rfl rfl (hb hby d4_1) _ ?_
    rw [Szcl1]
    refine XS.istoreN X0.here hx rfl (hb hby d4_2) rfl (l' := #[.val (.ref rp), .val (.ref rs), .val (.int (0 : Int32)), .unset, .unset, .unset]) rfl ?_
    refine XS.iloadN X0.here hx rfl (hb hby d4_3) rfl ?_
    refine st2 _ ?_
    refine XS.astoreN X2.here hx rfl (hb hby d4_6) rfl rfl (l' := #[.val (.ref rp), .val (.ref rs), .val (.int (0 : Int32)), .val (.ref b2), .unset, .unset]) rfl ?_
    refine XS.iconst X2.here hx rfl (hb hby d4_7) ?_
    refine XS.istore X2.here hx rfl (hb hby d4_8) rfl (l' := #[.val (.ref rp), .val (.ref rs), .val (.int (0 : Int32)), .val (.ref b2), .val (.int (0 : Int32)), .unset]) rfl ?_
    refine XS.iload X2.here hx rfl (hb hby d4_10) rfl ?_
    refine XS.iconst X2.here hx rfl (hb hby d4_12) ?_
    refine XS.iadd X2.here hx rfl (hb hby d4_13) rfl ?_
    refine XS.iloadN X2.here hx rfl (hb hby d4_14) rfl ?_
    refine XS.icmpYes X2.here hx rfl (pc0 := 15) (pc' := 71) rfl (hb hby d4_15) rfl (flt (by decide : ¬ ((1 : Int32) < (0 : Int32)))).2.1 (by decide) (by decide) ?_
    refine XS.iloadN X2.here hx rfl (hb hby d4_71) rfl ?_
    refine XS.ifYes X2.here hx rfl (pc0 := 72) (pc' := 85) rfl (hb hby d4_72) rfl ((if0 _ _).trans (flt (by decide : ¬ ((0 : Int32) < (0 : Int32)))).2.2.2) (by decide) (by decide) ?_
    refine XS.aloadN X2.here hx rfl (hb hby d4_85) rfl rfl ?_
    exact retOut X2 hx Bd.returns rfl (Or.inr (Or.inr (Or.inr (Or.inr ⟨rfl, rfl, rfl⟩)))) (hb hby d4_86) hr
  · show Q4k0 Z rp rs fp fz h0 n0 _ T2.heap _
    rw [e2]
    exact ⟨b2, gg2, sz2, rfl, N0, K2, f8⟩
theorem ef_4k1 (m : MethodId) (rp : Addr) (rs : Addr) : entryFrame m #[(.ref rp), (.ref rs)] 6 = mkF m 0 #[.val (.ref rp), .val (.ref rs), .unset, .unset, .unset, .unset] [] := by first | (simp [entryFrame, mkF, argsToLocals, Value.category]; done) | rfl
theorem d4_75 : decode prog_35_method_6_code 75 = .ok (.aload_n 3, 1) := by decide +kernel
theorem d4_76 : decode prog_35_method_6_code 76 = .ok (.iload_n 2, 1) := by decide +kernel
theorem d4_77 : decode prog_35_method_6_code 77 = .ok (.iconst 1, 1) := by decide +kernel
theorem d4_78 : decode prog_35_method_6_code 78 = .ok (.isub, 1) := by decide +kernel
theorem d4_79 : decode prog_35_method_6_code 79 = .ok (.aload_n 1, 1) := by decide +kernel
theorem d4_80 : decode prog_35_method_6_code 80 = .ok (.iload_n 2, 1) := by decide +kernel
theorem d4_81 : decode prog_35_method_6_code 81 = .ok (.iconst 1, 1) := by decide +kernel
theorem d4_82 : decode prog_35_method_6_code 82 = .ok (.isub, 1) := by decide +kernel
theorem d4_83 : decode prog_35_method_6_code 83 = .ok (.iaload, 1) := by decide +kernel
theorem d4_84 : decode prog_35_method_6_code 84 = .ok (.iastore, 1) := by decide +kernel
def Q4k1 (Z : State) (rp : Addr) (rs : Addr) (fp : Nat → Int32) (fz : Nat → Int32) (h0 : Heap) (n0 : Nat) (v : Option Value) (h : Heap) (L : List Loc) : Prop := ∃ fr0 : Addr, n0 ≤ fr0 ∧ h0.size ≤ fr0 ∧ v = some (.ref fr0) ∧ Fr n0 L ∧ Keep h0 h [] ∧ AI Z h fr0 .int 1 (up (own_g fp fz 0) 0 (fz 0))
set_option maxRecDepth 65536 in
set_option maxHeartbeats 40000000 in
theorem rm4k1 (l : Launch) (Z : State) (a0 : Array Value) (hw : ∀ d ∈ tables_1, d.before a0 Z = true) (ws : List Jvm.Cond) (rp : Addr) (rs : Addr) (fp : Nat → Int32) (fz : Nat → Int32) (h0 : Heap) (n0 : Nat) (Z0 : n0 ≤ h0.size) (A_rp : AI Z h0 rp .byte 1 fp) (A_rs : AI Z h0 rs .int 1 fz) (hfz : ∀ j, j < 1 → 0 ≤ (fz j).toInt ∧ (fz j).toInt ≤ j) :
    MetFree l (⟨"skipstitch/table/PrefixTable", "optimised", "([B[I)[I"⟩ : MethodName) (head1 (Jvm.Cond.code (⟨"skipstitch/table/PrefixTable", "optimised", "([B[I)[I"⟩ : MethodName) prog_35_method_6_code 6 (some (.array .int)) :: ws) ({ frames := 0, cells := 1, slots := 1, locals := 0 } : Room)) (fun a U => a = #[(.ref rp), (.ref rs)] ∧ Z.Warmed39 U.vm ∧ U.heap = h0) (fun _ _ _ _ _ => True) (fun _ U o U' => ∃ v L, o = .returned v ∧ Q4k1 Z rp rs fp fz h0 n0 v U'.heap L ∧ FrameEnd U o U' L ({ frames := 0, cells := 1, slots := 1, locals := 0 } : Room).cells ({ frames := 0, cells := 1, slots := 1, locals := 0 } : Room).slots) := by
  refine MetFree.of_bodySF (plainFor_of_name pn_skipstitch_table_PrefixTable) hisR ?_
  intro p e s m args below meth c s₁ Bd hml0 hP hK
  obtain ⟨rfl, hZ, hh⟩ := hP
  have hx := Bd.exec
  have hby := Bd.bytes
  have hml : c.maxLocals = 6 := hml0
  have hown : s.vm.findClass "skipstitch/table/PrefixTable" = some m.cls := findClass_of_methodNamed Bd.named
  have hnm := (name_of_methodNamed Bd.named Bd.method).1
  have X0 : Stand p l e ({ frames := 0, cells := 1, slots := 1, locals := 0 } : Room) s m #[(.ref rp), (.ref rs)] below meth c s₁ [] 0 0 := Stand.of_body Bd
  have e0 : s₁.heap = h0 := by rw [← hh, Bd.state]; rfl
  have N0 := Fr.nil n0
  have K0 : Keep h0 h0 [] := Keep.refl h0 _
  have pre0 : ∀ t, Steps p.tables e below (s₁.setTop (mkF m 0 #[.val (.ref rp), .val (.ref rs), .unset, .unset, .unset, .unset] [])) t → Steps p.tables e below (s₁.setTop (entryFrame m #[(.ref rp), (.ref rs)] 6)) t := fun t k => castTop (ef_4k1 m rp rs) k
  obtain ⟨cl1, Arcl1, Szcl1⟩ := AF.len A_rp
  obtain ⟨T2, h2, k2, X2, e2, E2, A2, st2⟩ := newP X0 hx hZ (hw _ (List.mem_of_getElem? (i := 6) rfl)) e0 (g := (mkF m 4 #[.val (.ref rp), .val (.ref rs), .val (.int (1 : Int32)), .unset, .unset, .unset] [(.int (1 : Int32))])) rfl (hb hby d4_4) rfl (by decide) (cap := 1) (by decide) (by decide) (by decide) (by decide)
  obtain ⟨b2, g2⟩ : ∃ z, z = h0.size := ⟨_, rfl⟩
  rw [← g2] at A2 st2
  have ne3 : rp ≠ b2 := Nat.ne_of_lt (Nat.lt_of_lt_of_le A_rp.lt (Nat.le_of_eq g2.symm))
  have ne4 : rs ≠ b2 := Nat.ne_of_lt (Nat.lt_of_lt_of_le A_rs.lt (Nat.le_of_eq g2.symm))
  have gg2 : n0 ≤ b2 := Nat.le_trans Z0 (Nat.le_of_eq g2.symm)
  have sz2 : h0.size ≤ b2 := Nat.le_trans K0.1 (Nat.le_of_eq g2.symm)
  have f5 : AI Z h2 rp .byte 1 fp := A_rp.ext E2
  have f6 : AI Z h2 rs .int 1 fz := A_rs.ext E2
  have Z2 : n0 ≤ h2.size := Nat.le_trans Z0 E2.1
  have K2 : Keep h0 h2 [] := K0.ext E2
  have f7 : AI Z h2 b2 .int 1 zI := AF.new A2 (by decide)
  have f8 : AI Z h2 b2 .int 1 (own_g fp fz 0) := f7
  obtain ⟨cl9, Arcl9, hincl9, hatcl9⟩ := AF.at f6 (j := (0 : Int32)) 0 (by decide) (by decide)
  obtain ⟨cl10, Arcl10, hincl10, -⟩ := AF.at f8 (j := (0 : Int32)) 0 (by decide) (by decide)
  obtain ⟨T11, h11, X11, e11, W11, st11⟩ := stI X2 hx hZ e2 Arcl10 (j := (0 : Int32)) hincl10 (g := (mkF m 84 #[.val (.ref rp), .val (.ref rs), .val (.int (1 : Int32)), .val (.ref b2), .val (.int (0 : Int32)), .unset] [(.int (fz 0)), (.int (0 : Int32)), (.ref b2)])) rfl rfl (hb hby d4_84)
  have N11 := Fr.snoc X11 N0 gg2
  have Z11 : n0 ≤ h11.size := Nat.le_trans Z2 (Keep.of_wr W11).1
  have K11 : Keep h0 h11 [] := K2.wr W11 (Or.inr sz2)
  have f12 : AI Z h11 b2 .int 1 (up (own_g fp fz 0) 0 (fz 0)) := AF.setI f8 W11 0 (by decide)
  have f13 : AI Z h11 rp .byte 1 fp := f5.other W11 ne3
  have f14 : AI Z h11 rs .int 1 fz := f6.other W11 ne4
  obtain ⟨fs, hr, hrun, hended, hW, hsame⟩ := X11.leave (v := some (.ref b2)) (fun h => by rw [Bd.returns] at h; cases h) (hlocks := Bd.notSynchronized)
  refine ⟨_, _, pre0 _ ?_, hrun, hended, _, _, rfl, ?_, ⟨_, rfl⟩, hW, hsame.mono (by decide) (by decide)⟩
  · show Steps p.tables e below (s₁.setTop (mkF m 0 #[.val (.ref rp), .val (.ref rs), .unset, .unset, .unset, .unset] [])) _
    refine XS.aloadN X0.here hx rfl (hb hby d4_0) rfl rfl ?_
    refine X0.arraylength hx (by rw [e0]; exact Arcl1.1) (State.isArrayOf_alike hZ.alike Arcl1.2.1) (g := (mkF m 1 #[.val (.ref rp), .val (.ref rs), .unset, .unset, .unset, .unset] [(.ref rp)])) rfl rfl (hb hby d4_1) _ ?_
    rw [Szcl1]
    refine XS.istoreN X0.here hx rfl (hb hby d4_2) rfl (l' := #[.val (.ref rp), .val (.ref rs), .val (.int (1 : Int32)), .unset, .unset, .unset]) rfl ?_
    refine XS.iloadN X0.here hx rfl (hb hby d4_3) rfl ?_
    refine st2 _ ?_
    refine XS.astoreN X2.here hx rfl (hb hby d4_6) rfl rfl (l' := #[.val (.ref rp), .val (.ref rs), .val (.int (1 : Int32)), .val (.ref b2), .unset, .unset]) rfl ?_
    refine XS.iconst X2.here hx rfl (hb hby d4_7) ?_
    refine XS.istore X2.here hx rfl (hb hby d4_8) rfl (l' := #[.val (.ref rp), .val (.ref rs), .val (.int (1 : Int32)), .val (.ref b2), .val (.int (0 : Int32)), .unset]) rfl ?_
    refine XS.iload X2.here hx rfl (hb hby d4_10) rfl ?_
    refine XS.iconst X2.here hx rfl (hb hby d4_12) ?_
    refine XS.iadd X2.here hx rfl (hb hby d4_13) rfl ?_
    refine XS.iloadN X2.here hx rfl (hb hby d4_14) rfl ?_
    refine XS.icmpYes X2.here hx rfl (pc0 := 15) (pc' := 71) rfl (hb hby d4_15) rfl (flt (by decide : ¬ ((1 : Int32) < (1 : Int32)))).2.1 (by decide) (by decide) ?_
    refine XS.iloadN X2.here hx rfl (hb hby d4_71) rfl ?_
    refine XS.ifNo X2.here hx rfl (hb hby d4_72) rfl ((if0 _ _).trans (tlt (by decide : ((0 : Int32) < (1 : Int32)))).2.2.2) ?_
    refine XS.aloadN X2.here hx rfl (hb hby d4_75) rfl rfl ?_
    refine XS.iloadN X2.here hx rfl (hb hby d4_76) rfl ?_
    refine XS.iconst X2.here hx rfl (hb hby d4_77) ?_
    refine XS.isub X2.here hx rfl (hb hby d4_78) rfl ?_
    refine XS.aloadN X2.here hx rfl (hb hby d4_79) rfl rfl ?_
    refine XS.iloadN X2.here hx rfl (hb hby d4_80) rfl ?_
    refine XS.iconst X2.here hx rfl (hb hby d4_81) ?_
    refine XS.isub X2.here hx rfl (hb hby d4_82) rfl ?_
    refine X2.iaload hx (j := (0 : Int32)) (v := (.int (fz 0))) (by rw [e2]; exact Arcl9.1) (State.isArrayOf_alike hZ.alike Arcl9.2.1) Arcl9.2.2 hincl9 hatcl9 (g := (mkF m 83 #[.val (.ref rp), .val (.ref rs), .val (.int (1 : Int32)), .val (.ref b2), .val (.int (0 : Int32)), .unset] [(.int (0 : Int32)), (.ref rs), (.int (0 : Int32)), (.ref b2)])) rfl rfl (hb hby d4_83) _ ?_
    refine st11 _ ?_
    refine XS.aloadN X11.here hx rfl (hb hby d4_85) rfl rfl ?_
    exact retOut X11 hx Bd.returns rfl (Or.inr (Or.inr (Or.inr (Or.inr ⟨rfl, rfl, rfl⟩)))) (hb hby d4_86) hr
  · show Q4k1 Z rp rs fp fz h0 n0 _ T11.heap _
    rw [e11]
    exact ⟨b2, gg2, sz2, rfl, N11, K11, f12⟩
theorem ef_4k2 (m : MethodId) (rp : Addr) (rs : Addr) : entryFrame m #[(.ref rp), (.ref rs)] 6 = mkF m 0 #[.val (.ref rp), .val (.ref rs), .unset, .unset, .unset, .unset] [] := by first | (simp [entryFrame, mkF, argsToLocals, Value.category]; done) | rfl
def Q4k2 (Z : State) (rp : Addr) (rs : Addr) (fp : Nat → Int32) (fz : Nat → Int32) (h0 : Heap) (n0 : Nat) (v : Option Value) (h : Heap) (L : List Loc) : Prop := ∃ fr0 : Addr, n0 ≤ fr0 ∧ h0.size ≤ fr0 ∧ v = some (.ref fr0) ∧ Fr n0 L ∧ Keep h0 h [] ∧ AI Z h fr0 .int 2 (up (own_g fp fz 1) 1 (fz 1))
set_option maxRecDepth 65536 in
set_option maxHeartbeats 40000000 in
theorem rm4k2 (l : Launch) (Z : State) (a0 : Array Value) (hw : ∀ d ∈ tables_1, d.before a0 Z = true) (ws : List Jvm.Cond) (rp : Addr) (rs : Addr) (fp : Nat → Int32) (fz : Nat → Int32) (h0 : Heap) (n0 : Nat) (Z0 : n0 ≤ h0.size) (A_rp : AI Z h0 rp .byte 2 fp) (A_rs : AI Z h0 rs .int 2 fz) (hfz : ∀ j, j < 2 → 0 ≤ (fz j).toInt ∧ (fz j).toInt ≤ j) :
    MetFree l (⟨"skipstitch/table/PrefixTable", "optimised", "([B[I)[I"⟩ : MethodName) (head1 (Jvm.Cond.code (⟨"skipstitch/table/PrefixTable", "optimised", "([B[I)[I"⟩ : MethodName) prog_35_method_6_code 6 (some (.array .int)) :: ws) ({ frames := 0, cells := 1, slots := 2, locals := 0 } : Room)) (fun a U => a = #[(.ref rp), (.ref rs)] ∧ Z.Warmed39 U.vm ∧ U.heap = h0) (fun _ _ _ _ _ => True) (fun _ U o U' => ∃ v L, o = .returned v ∧ Q4k2 Z rp rs fp fz h0 n0 v U'.heap L ∧ FrameEnd U o U' L ({ frames := 0, cells := 1, slots := 2, locals := 0 } : Room).cells ({ frames := 0, cells := 1, slots := 2, locals := 0 } : Room).slots) := by
  refine MetFree.of_bodySF (plainFor_of_name pn_skipstitch_table_PrefixTable) hisR ?_
  intro p e s m args below meth c s₁ Bd hml0 hP hK
  obtain ⟨rfl, hZ, hh⟩ := hP
  have hx := Bd.exec
  have hby := Bd.bytes
  have hml : c.maxLocals = 6 := hml0
  have hown : s.vm.findClass "skipstitch/table/PrefixTable" = some m.cls := findClass_of_methodNamed Bd.named
  have hnm := (name_of_methodNamed Bd.named Bd.method).1
  have X0 : Stand p l e ({ frames := 0, cells := 1, slots := 2, locals := 0 } : Room) s m #[(.ref rp), (.ref rs)] below meth c s₁ [] 0 0 := Stand.of_body Bd
  have e0 : s₁.heap = h0 := by rw [← hh, Bd.state]; rfl
  have N0 := Fr.nil n0
  have K0 : Keep h0 h0 [] := Keep.refl h0 _
  have pre0 : ∀ t, Steps p.tables e below (s₁.setTop (mkF m 0 #[.val (.ref rp), .val (.ref rs), .unset, .unset, .unset, .unset] [])) t → Steps p.tables e below (s₁.setTop (entryFrame m #[(.ref rp), (.ref rs)] 6)) t := fun t k => castTop (ef_4k2 m rp rs) k
  obtain ⟨cl1, Arcl1, Szcl1⟩ := AF.len A_rp
  obtain ⟨T2, h2, k2, X2, e2, E2, A2, st2⟩ := newP X0 hx hZ (hw _ (List.mem_of_getElem? (i := 6) rfl)) e0 (g := (mkF m 4 #[.val (.ref rp), .val (.ref rs), .val (.int (2 : Int32)), .unset, .unset, .unset] [(.int (2 : Int32))])) rfl (hb hby d4_4) rfl (by decide) (cap := 2) (by decide) (by decide) (by decide) (by decide)
  obtain ⟨b2, g2⟩ : ∃ z, z = h0.size := ⟨_, rfl⟩
  rw [← g2] at A2 st2
  have ne3 : rp ≠ b2 := Nat.ne_of_lt (Nat.lt_of_lt_of_le A_rp.lt (Nat.le_of_eq g2.symm))
  have ne4 : rs ≠ b2 := Nat.ne_of_lt (Nat.lt_of_lt_of_le A_rs.lt (Nat.le_of_eq g2.symm))
  have gg2 : n0 ≤ b2 := Nat.le_trans Z0 (Nat.le_of_eq g2.symm)
  have sz2 : h0.size ≤ b2 := Nat.le_trans K0.1 (Nat.le_of_eq g2.symm)
  have f5 : AI Z h2 rp .byte 2 fp := A_rp.ext E2
  have f6 : AI Z h2 rs .int 2 fz := A_rs.ext E2
  have Z2 : n0 ≤ h2.size := Nat.le_trans Z0 E2.1
  have K2 : Keep h0 h2 [] := K0.ext E2
  have f7 : AI Z h2 b2 .int 2 zI := AF.new A2 (by decide)
  have f8 : AI Z h2 b2 .int 2 (own_g fp fz 0) := f7
  obtain ⟨T9, h9, X9, e9, W9, st9⟩ := turnu rp rs (2 : Int32) b2 (0 : Int32) 2 fp fz (own_g fp fz 0) 0 X2 hx hZ hw hby hml hown e2 f5 f6 f8 rfl rfl (by decide) (by decide) (hfz 0 (by decide))
  have N9 := Fr.snoc X9 N0 gg2
  have Z9 : n0 ≤ h9.size := Nat.le_trans Z2 (Keep.of_wr W9).1
  have K9 : Keep h0 h9 [] := K2.wr W9 (Or.inr sz2)
  have f10 : AI Z h9 b2 .int 2 (own_g fp fz 1) := AF.setI f8 W9 0 rfl
  have f11 : AI Z h9 rp .byte 2 fp := f5.other W9 ne3
  have f12 : AI Z h9 rs .int 2 fz := f6.other W9 ne4
  obtain ⟨cl13, Arcl13, hincl13, hatcl13⟩ := AF.at f12 (j := (1 : Int32)) 1 (by decide) (by decide)
  obtain ⟨cl14, Arcl14, hincl14, -⟩ := AF.at f10 (j := (1 : Int32)) 1 (by decide) (by decide)
  obtain ⟨T15, h15, X15, e15, W15, st15⟩ := stI X9 hx hZ e9 Arcl14 (j := (1 : Int32)) hincl14 (g := (mkF m 84 #[.val (.ref rp), .val (.ref rs), .val (.int (2 : Int32)), .val (.ref b2), .val (.int (1 : Int32)), .val (.int (fz 0))] [(.int (fz 1)), (.int (1 : Int32)), (.ref b2)])) rfl rfl (hb hby d4_84)
  have N15 := Fr.snoc X15 N9 gg2
  have Z15 : n0 ≤ h15.size := Nat.le_trans Z9 (Keep.of_wr W15).1
  have K15 : Keep h0 h15 [] := K9.wr W15 (Or.inr sz2)
  have f16 : AI Z h15 b2 .int 2 (up (own_g fp fz 1) 1 (fz 1)) := AF.setI f10 W15 1 (by decide)
  have f17 : AI Z h15 rp .byte 2 fp := f11.other W15 ne3
  have f18 : AI Z h15 rs .int 2 fz := f12.other W15 ne4
  obtain ⟨fs, hr, hrun, hended, hW, hsame⟩ := X15.leave (v := some (.ref b2)) (fun h => by rw [Bd.returns] at h; cases h) (hlocks := Bd.notSynchronized)
  refine ⟨_, _, pre0 _ ?_, hrun, hended, _, _, rfl, ?_, ⟨_, rfl⟩, hW, hsame.mono (by decide) (by decide)⟩
  · show Steps p.tables e below (s₁.setTop (mkF m 0 #[.val (.ref rp), .val (.ref rs), .unset, .unset, .unset, .unset] [])) _
    refine XS.aloadN X0.here hx rfl (hb hby d4_0) rfl rfl ?_
    refine X0.arraylength hx (by rw [e0]; exact Arcl1.1) (State.isArrayOf_alike hZ.alike Arcl1.2.1) (g := (mkF m 1 #[.val (.ref rp), .val (.ref rs), .unset, .unset, .unset, .unset] [(.ref rp)])) rfl rfl (hb hby d4_1) _ ?_
    rw [Szcl1]
    refine XS.istoreN X0.here hx rfl (hb hby d4_2) rfl (l' := #[.val (.ref rp), .val (.ref rs), .val (.int (2 : Int32)), .unset, .unset, .unset]) rfl ?_
    refine XS.iloadN X0.here hx rfl (hb hby d4_3) rfl ?_
    refine st2 _ ?_
    refine XS.astoreN X2.here hx rfl (hb hby d4_6) rfl rfl (l' := #[.val (.ref rp), .val (.ref rs), .val (.int (2 : Int32)), .val (.ref b2), .unset, .unset]) rfl ?_
    refine XS.iconst X2.here hx rfl (hb hby d4_7) ?_
    refine XS.istore X2.here hx rfl (hb hby d4_8) rfl (l' := #[.val (.ref rp), .val (.ref rs), .val (.int (2 : Int32)), .val (.ref b2), .val (.int (0 : Int32)), .unset]) rfl ?_
    refine st9 _ ?_
    refine XS.iload X9.here hx rfl (hb hby d4_10) rfl ?_
    refine XS.iconst X9.here hx rfl (hb hby d4_12) ?_
    refine XS.iadd X9.here hx rfl (hb hby d4_13) rfl ?_
    refine XS.iloadN X9.here hx rfl (hb hby d4_14) rfl ?_
    refine XS.icmpYes X9.here hx rfl (pc0 := 15) (pc' := 71) rfl (hb hby d4_15) rfl (flt (by decide : ¬ ((2 : Int32) < (2 : Int32)))).2.1 (by decide) (by decide) ?_
    refine XS.iloadN X9.here hx rfl (hb hby d4_71) rfl ?_
    refine XS.ifNo X9.here hx rfl (hb hby d4_72) rfl ((if0 _ _).trans (tlt (by decide : ((0 : Int32) < (2 : Int32)))).2.2.2) ?_
    refine XS.aloadN X9.here hx rfl (hb hby d4_75) rfl rfl ?_
    refine XS.iloadN X9.here hx rfl (hb hby d4_76) rfl ?_
    refine XS.iconst X9.here hx rfl (hb hby d4_77) ?_
    refine XS.isub X9.here hx rfl (hb hby d4_78) rfl ?_
    refine XS.aloadN X9.here hx rfl (hb hby d4_79) rfl rfl ?_
    refine XS.iloadN X9.here hx rfl (hb hby d4_80) rfl ?_
    refine XS.iconst X9.here hx rfl (hb hby d4_81) ?_
    refine XS.isub X9.here hx rfl (hb hby d4_82) rfl ?_
    refine X9.iaload hx (j := (1 : Int32)) (v := (.int (fz 1))) (by rw [e9]; exact Arcl13.1) (State.isArrayOf_alike hZ.alike Arcl13.2.1) Arcl13.2.2 hincl13 hatcl13 (g := (mkF m 83 #[.val (.ref rp), .val (.ref rs), .val (.int (2 : Int32)), .val (.ref b2), .val (.int (1 : Int32)), .val (.int (fz 0))] [(.int (1 : Int32)), (.ref rs), (.int (1 : Int32)), (.ref b2)])) rfl rfl (hb hby d4_83) _ ?_
    refine st15 _ ?_
    refine XS.aloadN X15.here hx rfl (hb hby d4_85) rfl rfl ?_
    exact retOut X15 hx Bd.returns rfl (Or.inr (Or.inr (Or.inr (Or.inr ⟨rfl, rfl, rfl⟩)))) (hb hby d4_86) hr
  · show Q4k2 Z rp rs fp fz h0 n0 _ T15.heap _
    rw [e15]
    exact ⟨b2, gg2, sz2, rfl, N15, K15, f16⟩
theorem ef_4k3 (m : MethodId) (rp : Addr) (rs : Addr) : entryFrame m #[(.ref rp), (.ref rs)] 6 = mkF m 0 #[.val (.ref rp), .val (.ref rs), .unset, .unset, .unset, .unset] [] := by first | (simp [entryFrame, mkF, argsToLocals, Value.category]; done) | rfl
def Q4k3 (Z : State) (rp : Addr) (rs : Addr) (fp : Nat → Int32) (fz : Nat → Int32) (h0 : Heap) (n0 : Nat) (v : Option Value) (h : Heap) (L : List Loc) : Prop := ∃ fr0 : Addr, n0 ≤ fr0 ∧ h0.size ≤ fr0 ∧ v = some (.ref fr0) ∧ Fr n0 L ∧ Keep h0 h [] ∧ AI Z h fr0 .int 3 (up (own_g fp fz 2) 2 (fz 2))
set_option maxRecDepth 65536 in
set_option maxHeartbeats 40000000 in
theorem rm4k3 (l : Launch) (Z : State) (a0 : Array Value) (hw : ∀ d ∈ tables_1, d.before a0 Z = true) (ws : List Jvm.Cond) (rp : Addr) (rs : Addr) (fp : Nat → Int32) (fz : Nat → Int32) (h0 : Heap) (n0 : Nat) (Z0 : n0 ≤ h0.size) (A_rp : AI Z h0 rp .byte 3 fp) (A_rs : AI Z h0 rs .int 3 fz) (hfz : ∀ j, j < 3 → 0 ≤ (fz j).toInt ∧ (fz j).toInt ≤ j) :
    MetFree l (⟨"skipstitch/table/PrefixTable", "optimised", "([B[I)[I"⟩ : MethodName) (head1 (Jvm.Cond.code (⟨"skipstitch/table/PrefixTable", "optimised", "([B[I)[I"⟩ : MethodName) prog_35_method_6_code 6 (some (.array .int)) :: ws) ({ frames := 0, cells := 1, slots := 3, locals := 0 } : Room)) (fun a U => a = #[(.ref rp), (.ref rs)] ∧ Z.Warmed39 U.vm ∧ U.heap = h0) (fun _ _ _ _ _ => True) (fun _ U o U' => ∃ v L, o = .returned v ∧ Q4k3 Z rp rs fp fz h0 n0 v U'.heap L ∧ FrameEnd U o U' L ({ frames := 0, cells := 1, slots := 3, locals := 0 } : Room).cells ({ frames := 0, cells := 1, slots := 3, locals := 0 } : Room).slots) := by
  refine MetFree.of_bodySF (plainFor_of_name pn_skipstitch_table_PrefixTable) hisR ?_
  intro p e s m args below meth c s₁ Bd hml0 hP hK
  obtain ⟨rfl, hZ, hh⟩ := hP
  have hx := Bd.exec
  have hby := Bd.bytes
  have hml : c.maxLocals = 6 := hml0
  have hown : s.vm.findClass "skipstitch/table/PrefixTable" = some m.cls := findClass_of_methodNamed Bd.named
  have hnm := (name_of_methodNamed Bd.named Bd.method).1
  have X0 : Stand p l e ({ frames := 0, cells := 1, slots := 3, locals := 0 } : Room) s m #[(.ref rp), (.ref rs)] below meth c s₁ [] 0 0 := Stand.of_body Bd
  have e0 : s₁.heap = h0 := by rw [← hh, Bd.state]; rfl
  have N0 := Fr.nil n0
  have K0 : Keep h0 h0 [] := Keep.refl h0 _
  have pre0 : ∀ t, Steps p.tables e below (s₁.setTop (mkF m 0 #[.val (.ref rp), .val (.ref rs), .unset, .unset, .unset, .unset] [])) t → Steps p.tables e below (s₁.setTop (entryFrame m #[(.ref rp), (.ref rs)] 6)) t := fun t k => castTop (ef_4k3 m rp rs) k
  obtain ⟨cl1, Arcl1, Szcl1⟩ := AF.len A_rp
  obtain ⟨T2, h2, k2, X2, e2, E2, A2, st2⟩ := newP X0 hx hZ (hw _ (List.mem_of_getElem? (i := 6) rfl)) e0 (g := (mkF m 4 #[.val (.ref rp), .val (.ref rs), .val (.int (3 : Int32)), .unset, .unset, .unset] [(.int (3 : Int32))])) rfl (hb hby d4_4) rfl (by decide) (cap := 3) (by decide) (by decide) (by decide) (by decide)
  obtain ⟨b2, g2⟩ : ∃ z, z = h0.size := ⟨_, rfl⟩
  rw [← g2] at A2 st2
  have ne3 : rp ≠ b2 := Nat.ne_of_lt (Nat.lt_of_lt_of_le A_rp.lt (Nat.le_of_eq g2.symm))
  have ne4 : rs ≠ b2 := Nat.ne_of_lt (Nat.lt_of_lt_of_le A_rs.lt (Nat.le_of_eq g2.symm))
  have gg2 : n0 ≤ b2 := Nat.le_trans Z0 (Nat.le_of_eq g2.symm)
  have sz2 : h0.size ≤ b2 := Nat.le_trans K0.1 (Nat.le_of_eq g2.symm)
  have f5 : AI Z h2 rp .byte 3 fp := A_rp.ext E2
  have f6 : AI Z h2 rs .int 3 fz := A_rs.ext E2
  have Z2 : n0 ≤ h2.size := Nat.le_trans Z0 E2.1
  have K2 : Keep h0 h2 [] := K0.ext E2
  have f7 : AI Z h2 b2 .int 3 zI := AF.new A2 (by decide)
  have f8 : AI Z h2 b2 .int 3 (own_g fp fz 0) := f7
  obtain ⟨T9, h9, X9, e9, W9, st9⟩ := turnu rp rs (3 : Int32) b2 (0 : Int32) 3 fp fz (own_g fp fz 0) 0 X2 hx hZ hw hby hml hown e2 f5 f6 f8 rfl rfl (by decide) (by decide) (hfz 0 (by decide))
  have N9 := Fr.snoc X9 N0 gg2
  have Z9 : n0 ≤ h9.size := Nat.le_trans Z2 (Keep.of_wr W9).1
  have K9 : Keep h0 h9 [] := K2.wr W9 (Or.inr sz2)
  have f10 : AI Z h9 b2 .int 3 (own_g fp fz 1) := AF.setI f8 W9 0 rfl
  have f11 : AI Z h9 rp .byte 3 fp := f5.other W9 ne3
  have f12 : AI Z h9 rs .int 3 fz := f6.other W9 ne4
  obtain ⟨T13, h13, X13, e13, W13, st13⟩ := turni rp rs (3 : Int32) b2 (1 : Int32) (fz 0) 3 fp fz (own_g fp fz 1) 1 X9 hx hZ hw hby hml hown e9 f11 f12 f10 rfl rfl (by decide) (by decide) (hfz 1 (by decide))
  have N13 := Fr.snoc X13 N9 gg2
  have Z13 : n0 ≤ h13.size := Nat.le_trans Z9 (Keep.of_wr W13).1
  have K13 : Keep h0 h13 [] := K9.wr W13 (Or.inr sz2)
  have f14 : AI Z h13 b2 .int 3 (own_g fp fz 2) := AF.setI f10 W13 1 rfl
  have f15 : AI Z h13 rp .byte 3 fp := f11.other W13 ne3
  have f16 : AI Z h13 rs .int 3 fz := f12.other W13 ne4
  obtain ⟨cl17, Arcl17, hincl17, hatcl17⟩ := AF.at f16 (j := (2 : Int32)) 2 (by decide) (by decide)
  obtain ⟨cl18, Arcl18, hincl18, -⟩ := AF.at f14 (j := (2 : Int32)) 2 (by decide) (by decide)
  obtain ⟨T19, h19, X19, e19, W19, st19⟩ := stI X13 hx hZ e13 Arcl18 (j := (2 : Int32)) hincl18 (g := (mkF m 84 #[.val (.ref rp), .val (.ref rs), .val (.int (3 : Int32)), .val (.ref b2), .val (.int (2 : Int32)), .val (.int (fz 1))] [(.int (fz 2)), (.int (2 : Int32)), (.ref b2)])) rfl rfl (hb hby d4_84)
  have N19 := Fr.snoc X19 N13 gg2
  have Z19 : n0 ≤ h19.size := Nat.le_trans Z13 (Keep.of_wr W19).1
  have K19 : Keep h0 h19 [] := K13.wr W19 (Or.inr sz2)
  have f20 : AI Z h19 b2 .int 3 (up (own_g fp fz 2) 2 (fz 2)) := AF.setI f14 W19 2 (by decide)
  have f21 : AI Z h19 rp .byte 3 fp := f15.other W19 ne3
  have f22 : AI Z h19 rs .int 3 fz := f16.other W19 ne4
  obtain ⟨fs, hr, hrun, hended, hW, hsame⟩ := X19.leave (v := some (.ref b2)) (fun h => by rw [Bd.returns] at h; cases h) (hlocks := Bd.notSynchronized)
  refine ⟨_, _, pre0 _ ?_, hrun, hended, _, _, rfl, ?_, ⟨_, rfl⟩, hW, hsame.mono (by decide) (by decide)⟩
  · show Steps p.tables e below (s₁.setTop (mkF m 0 #[.val (.ref rp), .val (.ref rs), .unset, .unset, .unset, .unset] [])) _
    refine XS.aloadN X0.here hx rfl (hb hby d4_0) rfl rfl ?_
    refine X0.arraylength hx (by rw [e0]; exact Arcl1.1) (State.isArrayOf_alike hZ.alike Arcl1.2.1) (g := (mkF m 1 #[.val (.ref rp), .val (.ref rs), .unset, .unset, .unset, .unset] [(.ref rp)])) rfl rfl (hb hby d4_1) _ ?_
    rw [Szcl1]
    refine XS.istoreN X0.here hx rfl (hb hby d4_2) rfl (l' := #[.val (.ref rp), .val (.ref rs), .val (.int (3 : Int32)), .unset, .unset, .unset]) rfl ?_
    refine XS.iloadN X0.here hx rfl (hb hby d4_3) rfl ?_
    refine st2 _ ?_
    refine XS.astoreN X2.here hx rfl (hb hby d4_6) rfl rfl (l' := #[.val (.ref rp), .val (.ref rs), .val (.int (3 : Int32)), .val (.ref b2), .unset, .unset]) rfl ?_
    refine XS.iconst X2.here hx rfl (hb hby d4_7) ?_
    refine XS.istore X2.here hx rfl (hb hby d4_8) rfl (l' := #[.val (.ref rp), .val (.ref rs), .val (.int (3 : Int32)), .val (.ref b2), .val (.int (0 : Int32)), .unset]) rfl ?_
    refine st9 _ ?_
    refine st13 _ ?_
    refine XS.iload X13.here hx rfl (hb hby d4_10) rfl ?_
    refine XS.iconst X13.here hx rfl (hb hby d4_12) ?_
    refine XS.iadd X13.here hx rfl (hb hby d4_13) rfl ?_
    refine XS.iloadN X13.here hx rfl (hb hby d4_14) rfl ?_
    refine XS.icmpYes X13.here hx rfl (pc0 := 15) (pc' := 71) rfl (hb hby d4_15) rfl (flt (by decide : ¬ ((3 : Int32) < (3 : Int32)))).2.1 (by decide) (by decide) ?_
    refine XS.iloadN X13.here hx rfl (hb hby d4_71) rfl ?_
    refine XS.ifNo X13.here hx rfl (hb hby d4_72) rfl ((if0 _ _).trans (tlt (by decide : ((0 : Int32) < (3 : Int32)))).2.2.2) ?_
    refine XS.aloadN X13.here hx rfl (hb hby d4_75) rfl rfl ?_
    refine XS.iloadN X13.here hx rfl (hb hby d4_76) rfl ?_
    refine XS.iconst X13.here hx rfl (hb hby d4_77) ?_
    refine XS.isub X13.here hx rfl (hb hby d4_78) rfl ?_
    refine XS.aloadN X13.here hx rfl (hb hby d4_79) rfl rfl ?_
    refine XS.iloadN X13.here hx rfl (hb hby d4_80) rfl ?_
    refine XS.iconst X13.here hx rfl (hb hby d4_81) ?_
    refine XS.isub X13.here hx rfl (hb hby d4_82) rfl ?_
    refine X13.iaload hx (j := (2 : Int32)) (v := (.int (fz 2))) (by rw [e13]; exact Arcl17.1) (State.isArrayOf_alike hZ.alike Arcl17.2.1) Arcl17.2.2 hincl17 hatcl17 (g := (mkF m 83 #[.val (.ref rp), .val (.ref rs), .val (.int (3 : Int32)), .val (.ref b2), .val (.int (2 : Int32)), .val (.int (fz 1))] [(.int (2 : Int32)), (.ref rs), (.int (2 : Int32)), (.ref b2)])) rfl rfl (hb hby d4_83) _ ?_
    refine st19 _ ?_
    refine XS.aloadN X19.here hx rfl (hb hby d4_85) rfl rfl ?_
    exact retOut X19 hx Bd.returns rfl (Or.inr (Or.inr (Or.inr (Or.inr ⟨rfl, rfl, rfl⟩)))) (hb hby d4_86) hr
  · show Q4k3 Z rp rs fp fz h0 n0 _ T19.heap _
    rw [e19]
    exact ⟨b2, gg2, sz2, rfl, N19, K19, f20⟩
theorem ef_4k4 (m : MethodId) (rp : Addr) (rs : Addr) : entryFrame m #[(.ref rp), (.ref rs)] 6 = mkF m 0 #[.val (.ref rp), .val (.ref rs), .unset, .unset, .unset, .unset] [] := by first | (simp [entryFrame, mkF, argsToLocals, Value.category]; done) | rfl
def Q4k4 (Z : State) (rp : Addr) (rs : Addr) (fp : Nat → Int32) (fz : Nat → Int32) (h0 : Heap) (n0 : Nat) (v : Option Value) (h : Heap) (L : List Loc) : Prop := ∃ fr0 : Addr, n0 ≤ fr0 ∧ h0.size ≤ fr0 ∧ v = some (.ref fr0) ∧ Fr n0 L ∧ Keep h0 h [] ∧ AI Z h fr0 .int 4 (up (own_g fp fz 3) 3 (fz 3))
set_option maxRecDepth 65536 in
set_option maxHeartbeats 40000000 in
theorem rm4k4 (l : Launch) (Z : State) (a0 : Array Value) (hw : ∀ d ∈ tables_1, d.before a0 Z = true) (ws : List Jvm.Cond) (rp : Addr) (rs : Addr) (fp : Nat → Int32) (fz : Nat → Int32) (h0 : Heap) (n0 : Nat) (Z0 : n0 ≤ h0.size) (A_rp : AI Z h0 rp .byte 4 fp) (A_rs : AI Z h0 rs .int 4 fz) (hfz : ∀ j, j < 4 → 0 ≤ (fz j).toInt ∧ (fz j).toInt ≤ j) :
    MetFree l (⟨"skipstitch/table/PrefixTable", "optimised", "([B[I)[I"⟩ : MethodName) (head1 (Jvm.Cond.code (⟨"skipstitch/table/PrefixTable", "optimised", "([B[I)[I"⟩ : MethodName) prog_35_method_6_code 6 (some (.array .int)) :: ws) ({ frames := 0, cells := 1, slots := 4, locals := 0 } : Room)) (fun a U => a = #[(.ref rp), (.ref rs)] ∧ Z.Warmed39 U.vm ∧ U.heap = h0) (fun _ _ _ _ _ => True) (fun _ U o U' => ∃ v L, o = .returned v ∧ Q4k4 Z rp rs fp fz h0 n0 v U'.heap L ∧ FrameEnd U o U' L ({ frames := 0, cells := 1, slots := 4, locals := 0 } : Room).cells ({ frames := 0, cells := 1, slots := 4, locals := 0 } : Room).slots) := by
  refine MetFree.of_bodySF (plainFor_of_name pn_skipstitch_table_PrefixTable) hisR ?_
  intro p e s m args below meth c s₁ Bd hml0 hP hK
  obtain ⟨rfl, hZ, hh⟩ := hP
  have hx := Bd.exec
  have hby := Bd.bytes
  have hml : c.maxLocals = 6 := hml0
  have hown : s.vm.findClass "skipstitch/table/PrefixTable" = some m.cls := findClass_of_methodNamed Bd.named
  have hnm := (name_of_methodNamed Bd.named Bd.method).1
  have X0 : Stand p l e ({ frames := 0, cells := 1, slots := 4, locals := 0 } : Room) s m #[(.ref rp), (.ref rs)] below meth c s₁ [] 0 0 := Stand.of_body Bd
  have e0 : s₁.heap = h0 := by rw [← hh, Bd.state]; rfl
  have N0 := Fr.nil n0
  have K0 : Keep h0 h0 [] := Keep.refl h0 _
  have pre0 : ∀ t, Steps p.tables e below (s₁.setTop (mkF m 0 #[.val (.ref rp), .val (.ref rs), .unset, .unset, .unset, .unset] [])) t → Steps p.tables e below (s₁.setTop (entryFrame m #[(.ref rp), (.ref rs)] 6)) t := fun t k => castTop (ef_4k4 m rp rs) k
  obtain ⟨cl1, Arcl1, Szcl1⟩ := AF.len A_rp
  obtain ⟨T2, h2, k2, X2, e2, E2, A2, st2⟩ := newP X0 hx hZ (hw _ (List.mem_of_getElem? (i := 6) rfl)) e0 (g := (mkF m 4 #[.val (.ref rp), .val (.ref rs), .val (.int (4 : Int32)), .unset, .unset, .unset] [(.int (4 : Int32))])) rfl (hb hby d4_4) rfl (by decide) (cap := 4) (by decide) (by decide) (by decide) (by decide)
  obtain ⟨b2, g2⟩ : ∃ z, z = h0.size := ⟨_, rfl⟩
  rw [← g2] at A2 st2
  have ne3 : rp ≠ b2 := Nat.ne_of_lt (Nat.lt_of_lt_of_le A_rp.lt (Nat.le_of_eq g2.symm))
  have ne4 : rs ≠ b2 := Nat.ne_of_lt (Nat.lt_of_lt_of_le A_rs.lt (Nat.le_of_eq g2.symm))
  have gg2 : n0 ≤ b2 := Nat.le_trans Z0 (Nat.le_of_eq g2.symm)
  have sz2 : h0.size ≤ b2 := Nat.le_trans K0.1 (Nat.le_of_eq g2.symm)
  have f5 : AI Z h2 rp .byte 4 fp := A_rp.ext E2
  have f6 : AI Z h2 rs .int 4 fz := A_rs.ext E2
  have Z2 : n0 ≤ h2.size := Nat.le_trans Z0 E2.1
  have K2 : Keep h0 h2 [] := K0.ext E2
  have f7 : AI Z h2 b2 .int 4 zI := AF.new A2 (by decide)
  have f8 : AI Z h2 b2 .int 4 (own_g fp fz 0) := f7
  obtain ⟨T9, h9, X9, e9, W9, st9⟩ := turnu rp rs (4 : Int32) b2 (0 : Int32) 4 fp fz (own_g fp fz 0) 0 X2 hx hZ hw hby hml hown e2 f5 f6 f8 rfl rfl (by decide) (by decide) (hfz 0 (by decide))
  have N9 := Fr.snoc X9 N0 gg2
  have Z9 : n0 ≤ h9.size := Nat.le_trans Z2 (Keep.of_wr W9).1
  have K9 : Keep h0 h9 [] := K2.wr W9 (Or.inr sz2)
  have f10 : AI Z h9 b2 .int 4 (own_g fp fz 1) := AF.setI f8 W9 0 rfl
  have f11 : AI Z h9 rp .byte 4 fp := f5.other W9 ne3
  have f12 : AI Z h9 rs .int 4 fz := f6.other W9 ne4
  obtain ⟨T13, h13, X13, e13, W13, st13⟩ := turni rp rs (4 : Int32) b2 (1 : Int32) (fz 0) 4 fp fz (own_g fp fz 1) 1 X9 hx hZ hw hby hml hown e9 f11 f12 f10 rfl rfl (by decide) (by decide) (hfz 1 (by decide))
  have N13 := Fr.snoc X13 N9 gg2
  have Z13 : n0 ≤ h13.size := Nat.le_trans Z9 (Keep.of_wr W13).1
  have K13 : Keep h0 h13 [] := K9.wr W13 (Or.inr sz2)
  have f14 : AI Z h13 b2 .int 4 (own_g fp fz 2) := AF.setI f10 W13 1 rfl
  have f15 : AI Z h13 rp .byte 4 fp := f11.other W13 ne3
  have f16 : AI Z h13 rs .int 4 fz := f12.other W13 ne4
  obtain ⟨T17, h17, X17, e17, W17, st17⟩ := turni rp rs (4 : Int32) b2 (2 : Int32) (fz 1) 4 fp fz (own_g fp fz 2) 2 X13 hx hZ hw hby hml hown e13 f15 f16 f14 rfl rfl (by decide) (by decide) (hfz 2 (by decide))
  have N17 := Fr.snoc X17 N13 gg2
  have Z17 : n0 ≤ h17.size := Nat.le_trans Z13 (Keep.of_wr W17).1
  have K17 : Keep h0 h17 [] := K13.wr W17 (Or.inr sz2)
  have f18 : AI Z h17 b2 .int 4 (own_g fp fz 3) := AF.setI f14 W17 2 rfl
  have f19 : AI Z h17 rp .byte 4 fp := f15.other W17 ne3
  have f20 : AI Z h17 rs .int 4 fz := f16.other W17 ne4
  obtain ⟨cl21, Arcl21, hincl21, hatcl21⟩ := AF.at f20 (j := (3 : Int32)) 3 (by decide) (by decide)
  obtain ⟨cl22, Arcl22, hincl22, -⟩ := AF.at f18 (j := (3 : Int32)) 3 (by decide) (by decide)
  obtain ⟨T23, h23, X23, e23, W23, st23⟩ := stI X17 hx hZ e17 Arcl22 (j := (3 : Int32)) hincl22 (g := (mkF m 84 #[.val (.ref rp), .val (.ref rs), .val (.int (4 : Int32)), .val (.ref b2), .val (.int (3 : Int32)), .val (.int (fz 2))] [(.int (fz 3)), (.int (3 : Int32)), (.ref b2)])) rfl rfl (hb hby d4_84)
  have N23 := Fr.snoc X23 N17 gg2
  have Z23 : n0 ≤ h23.size := Nat.le_trans Z17 (Keep.of_wr W23).1
  have K23 : Keep h0 h23 [] := K17.wr W23 (Or.inr sz2)
  have f24 : AI Z h23 b2 .int 4 (up (own_g fp fz 3) 3 (fz 3)) := AF.setI f18 W23 3 (by decide)
  have f25 : AI Z h23 rp .byte 4 fp := f19.other W23 ne3
  have f26 : AI Z h23 rs .int 4 fz := f20.other W23 ne4
  obtain ⟨fs, hr, hrun, hended, hW, hsame⟩ := X23.leave (v := some (.ref b2)) (fun h => by rw [Bd.returns] at h; cases h) (hlocks := Bd.notSynchronized)
  refine ⟨_, _, pre0 _ ?_, hrun, hended, _, _, rfl, ?_, ⟨_, rfl⟩, hW, hsame.mono (by decide) (by decide)⟩
  · show Steps p.tables e below (s₁.setTop (mkF m 0 #[.val (.ref rp), .val (.ref rs), .unset, .unset, .unset, .unset] [])) _
    refine XS.aloadN X0.here hx rfl (hb hby d4_0) rfl rfl ?_
    refine X0.arraylength hx (by rw [e0]; exact Arcl1.1) (State.isArrayOf_alike hZ.alike Arcl1.2.1) (g := (mkF m 1 #[.val (.ref rp), .val (.ref rs), .unset, .unset, .unset, .unset] [(.ref rp)])) rfl rfl (hb hby d4_1) _ ?_
    rw [Szcl1]
    refine XS.istoreN X0.here hx rfl (hb hby d4_2) rfl (l' := #[.val (.ref rp), .val (.ref rs), .val (.int (4 : Int32)), .unset, .unset, .unset]) rfl ?_
    refine XS.iloadN X0.here hx rfl (hb hby d4_3) rfl ?_
    refine st2 _ ?_
    refine XS.astoreN X2.here hx rfl (hb hby d4_6) rfl rfl (l' := #[.val (.ref rp), .val (.ref rs), .val (.int (4 : Int32)), .val (.ref b2), .unset, .unset]) rfl ?_
    refine XS.iconst X2.here hx rfl (hb hby d4_7) ?_
    refine XS.istore X2.here hx rfl (hb hby d4_8) rfl (l' := #[.val (.ref rp), .val (.ref rs), .val (.int (4 : Int32)), .val (.ref b2), .val (.int (0 : Int32)), .unset]) rfl ?_
    refine st9 _ ?_
    refine st13 _ ?_
    refine st17 _ ?_
    refine XS.iload X17.here hx rfl (hb hby d4_10) rfl ?_
    refine XS.iconst X17.here hx rfl (hb hby d4_12) ?_
    refine XS.iadd X17.here hx rfl (hb hby d4_13) rfl ?_
    refine XS.iloadN X17.here hx rfl (hb hby d4_14) rfl ?_
    refine XS.icmpYes X17.here hx rfl (pc0 := 15) (pc' := 71) rfl (hb hby d4_15) rfl (flt (by decide : ¬ ((4 : Int32) < (4 : Int32)))).2.1 (by decide) (by decide) ?_
    refine XS.iloadN X17.here hx rfl (hb hby d4_71) rfl ?_
    refine XS.ifNo X17.here hx rfl (hb hby d4_72) rfl ((if0 _ _).trans (tlt (by decide : ((0 : Int32) < (4 : Int32)))).2.2.2) ?_
    refine XS.aloadN X17.here hx rfl (hb hby d4_75) rfl rfl ?_
    refine XS.iloadN X17.here hx rfl (hb hby d4_76) rfl ?_
    refine XS.iconst X17.here hx rfl (hb hby d4_77) ?_
    refine XS.isub X17.here hx rfl (hb hby d4_78) rfl ?_
    refine XS.aloadN X17.here hx rfl (hb hby d4_79) rfl rfl ?_
    refine XS.iloadN X17.here hx rfl (hb hby d4_80) rfl ?_
    refine XS.iconst X17.here hx rfl (hb hby d4_81) ?_
    refine XS.isub X17.here hx rfl (hb hby d4_82) rfl ?_
    refine X17.iaload hx (j := (3 : Int32)) (v := (.int (fz 3))) (by rw [e17]; exact Arcl21.1) (State.isArrayOf_alike hZ.alike Arcl21.2.1) Arcl21.2.2 hincl21 hatcl21 (g := (mkF m 83 #[.val (.ref rp), .val (.ref rs), .val (.int (4 : Int32)), .val (.ref b2), .val (.int (3 : Int32)), .val (.int (fz 2))] [(.int (3 : Int32)), (.ref rs), (.int (3 : Int32)), (.ref b2)])) rfl rfl (hb hby d4_83) _ ?_
    refine st23 _ ?_
    refine XS.aloadN X23.here hx rfl (hb hby d4_85) rfl rfl ?_
    exact retOut X23 hx Bd.returns rfl (Or.inr (Or.inr (Or.inr (Or.inr ⟨rfl, rfl, rfl⟩)))) (hb hby d4_86) hr
  · show Q4k4 Z rp rs fp fz h0 n0 _ T23.heap _
    rw [e23]
    exact ⟨b2, gg2, sz2, rfl, N23, K23, f24⟩
theorem ef_4k5 (m : MethodId) (rp : Addr) (rs : Addr) : entryFrame m #[(.ref rp), (.ref rs)] 6 = mkF m 0 #[.val (.ref rp), .val (.ref rs), .unset, .unset, .unset, .unset] [] := by first | (simp [entryFrame, mkF, argsToLocals, Value.category]; done) | rfl
def Q4k5 (Z : State) (rp : Addr) (rs : Addr) (fp : Nat → Int32) (fz : Nat → Int32) (h0 : Heap) (n0 : Nat) (v : Option Value) (h : Heap) (L : List Loc) : Prop := ∃ fr0 : Addr, n0 ≤ fr0 ∧ h0.size ≤ fr0 ∧ v = some (.ref fr0) ∧ Fr n0 L ∧ Keep h0 h [] ∧ AI Z h fr0 .int 5 (up (own_g fp fz 4) 4 (fz 4))
set_option maxRecDepth 65536 in
set_option maxHeartbeats 40000000 in
theorem rm4k5 (l : Launch) (Z : State) (a0 : Array Value) (hw : ∀ d ∈ tables_1, d.before a0 Z = true) (ws : List Jvm.Cond) (rp : Addr) (rs : Addr) (fp : Nat → Int32) (fz : Nat → Int32) (h0 : Heap) (n0 : Nat) (Z0 : n0 ≤ h0.size) (A_rp : AI Z h0 rp .byte 5 fp) (A_rs : AI Z h0 rs .int 5 fz) (hfz : ∀ j, j < 5 → 0 ≤ (fz j).toInt ∧ (fz j).toInt ≤ j) :
    MetFree l (⟨"skipstitch/table/PrefixTable", "optimised", "([B[I)[I"⟩ : MethodName) (head1 (Jvm.Cond.code (⟨"skipstitch/table/PrefixTable", "optimised", "([B[I)[I"⟩ : MethodName) prog_35_method_6_code 6 (some (.array .int)) :: ws) ({ frames := 0, cells := 1, slots := 5, locals := 0 } : Room)) (fun a U => a = #[(.ref rp), (.ref rs)] ∧ Z.Warmed39 U.vm ∧ U.heap = h0) (fun _ _ _ _ _ => True) (fun _ U o U' => ∃ v L, o = .returned v ∧ Q4k5 Z rp rs fp fz h0 n0 v U'.heap L ∧ FrameEnd U o U' L ({ frames := 0, cells := 1, slots := 5, locals := 0 } : Room).cells ({ frames := 0, cells := 1, slots := 5, locals := 0 } : Room).slots) := by
  refine MetFree.of_bodySF (plainFor_of_name pn_skipstitch_table_PrefixTable) hisR ?_
  intro p e s m args below meth c s₁ Bd hml0 hP hK
  obtain ⟨rfl, hZ, hh⟩ := hP
  have hx := Bd.exec
  have hby := Bd.bytes
  have hml : c.maxLocals = 6 := hml0
  have hown : s.vm.findClass "skipstitch/table/PrefixTable" = some m.cls := findClass_of_methodNamed Bd.named
  have hnm := (name_of_methodNamed Bd.named Bd.method).1
  have X0 : Stand p l e ({ frames := 0, cells := 1, slots := 5, locals := 0 } : Room) s m #[(.ref rp), (.ref rs)] below meth c s₁ [] 0 0 := Stand.of_body Bd
  have e0 : s₁.heap = h0 := by rw [← hh, Bd.state]; rfl
  have N0 := Fr.nil n0
  have K0 : Keep h0 h0 [] := Keep.refl h0 _
  have pre0 : ∀ t, Steps p.tables e below (s₁.setTop (mkF m 0 #[.val (.ref rp), .val (.ref rs), .unset, .unset, .unset, .unset] [])) t → Steps p.tables e below (s₁.setTop (entryFrame m #[(.ref rp), (.ref rs)] 6)) t := fun t k => castTop (ef_4k5 m rp rs) k
  obtain ⟨cl1, Arcl1, Szcl1⟩ := AF.len A_rp
  obtain ⟨T2, h2, k2, X2, e2, E2, A2, st2⟩ := newP X0 hx hZ (hw _ (List.mem_of_getElem? (i := 6) rfl)) e0 (g := (mkF m 4 #[.val (.ref rp), .val (.ref rs), .val (.int (5 : Int32)), .unset, .unset, .unset] [(.int (5 : Int32))])) rfl (hb hby d4_4) rfl (by decide) (cap := 5) (by decide) (by decide) (by decide) (by decide)
  obtain ⟨b2, g2⟩ : ∃ z, z = h0.size := ⟨_, rfl⟩
  rw [← g2] at A2 st2
  have ne3 : rp ≠ b2 := Nat.ne_of_lt (Nat.lt_of_lt_of_le A_rp.lt (Nat.le_of_eq g2.symm))
  have ne4 : rs ≠ b2 := Nat.ne_of_lt (Nat.lt_of_lt_of_le A_rs.lt (Nat.le_of_eq g2.symm))
  have gg2 : n0 ≤ b2 := Nat.le_trans Z0 (Nat.le_of_eq g2.symm)
  have sz2 : h0.size ≤ b2 := Nat.le_trans K0.1 (Nat.le_of_eq g2.symm)
  have f5 : AI Z h2 rp .byte 5 fp := A_rp.ext E2
  have f6 : AI Z h2 rs .int 5 fz := A_rs.ext E2
  have Z2 : n0 ≤ h2.size := Nat.le_trans Z0 E2.1
  have K2 : Keep h0 h2 [] := K0.ext E2
  have f7 : AI Z h2 b2 .int 5 zI := AF.new A2 (by decide)
  have f8 : AI Z h2 b2 .int 5 (own_g fp fz 0) := f7
  obtain ⟨T9, h9, X9, e9, W9, st9⟩ := turnu rp rs (5 : Int32) b2 (0 : Int32) 5 fp fz (own_g fp fz 0) 0 X2 hx hZ hw hby hml hown e2 f5 f6 f8 rfl rfl (by decide) (by decide) (hfz 0 (by decide))
  have N9 := Fr.snoc X9 N0 gg2
  have Z9 : n0 ≤ h9.size := Nat.le_trans Z2 (Keep.of_wr W9).1
  have K9 : Keep h0 h9 [] := K2.wr W9 (Or.inr sz2)
  have f10 : AI Z h9 b2 .int 5 (own_g fp fz 1) := AF.setI f8 W9 0 rfl
  have f11 : AI Z h9 rp .byte 5 fp := f5.other W9 ne3
  have f12 : AI Z h9 rs .int 5 fz := f6.other W9 ne4
  obtain ⟨T13, h13, X13, e13, W13, st13⟩ := turni rp rs (5 : Int32) b2 (1 : Int32) (fz 0) 5 fp fz (own_g fp fz 1) 1 X9 hx hZ hw hby hml hown e9 f11 f12 f10 rfl rfl (by decide) (by decide) (hfz 1 (by decide))
  have N13 := Fr.snoc X13 N9 gg2
  have Z13 : n0 ≤ h13.size := Nat.le_trans Z9 (Keep.of_wr W13).1
  have K13 : Keep h0 h13 [] := K9.wr W13 (Or.inr sz2)
  have f14 : AI Z h13 b2 .int 5 (own_g fp fz 2) := AF.setI f10 W13 1 rfl
  have f15 : AI Z h13 rp .byte 5 fp := f11.other W13 ne3
  have f16 : AI Z h13 rs .int 5 fz := f12.other W13 ne4
  obtain ⟨T17, h17, X17, e17, W17, st17⟩ := turni rp rs (5 : Int32) b2 (2 : Int32) (fz 1) 5 fp fz (own_g fp fz 2) 2 X13 hx hZ hw hby hml hown e13 f15 f16 f14 rfl rfl (by decide) (by decide) (hfz 2 (by decide))
  have N17 := Fr.snoc X17 N13 gg2
  have Z17 : n0 ≤ h17.size := Nat.le_trans Z13 (Keep.of_wr W17).1
  have K17 : Keep h0 h17 [] := K13.wr W17 (Or.inr sz2)
  have f18 : AI Z h17 b2 .int 5 (own_g fp fz 3) := AF.setI f14 W17 2 rfl
  have f19 : AI Z h17 rp .byte 5 fp := f15.other W17 ne3
  have f20 : AI Z h17 rs .int 5 fz := f16.other W17 ne4
  obtain ⟨T21, h21, X21, e21, W21, st21⟩ := turni rp rs (5 : Int32) b2 (3 : Int32) (fz 2) 5 fp fz (own_g fp fz 3) 3 X17 hx hZ hw hby hml hown e17 f19 f20 f18 rfl rfl (by decide) (by decide) (hfz 3 (by decide))
  have N21 := Fr.snoc X21 N17 gg2
  have Z21 : n0 ≤ h21.size := Nat.le_trans Z17 (Keep.of_wr W21).1
  have K21 : Keep h0 h21 [] := K17.wr W21 (Or.inr sz2)
  have f22 : AI Z h21 b2 .int 5 (own_g fp fz 4) := AF.setI f18 W21 3 rfl
  have f23 : AI Z h21 rp .byte 5 fp := f19.other W21 ne3
  have f24 : AI Z h21 rs .int 5 fz := f20.other W21 ne4
  obtain ⟨cl25, Arcl25, hincl25, hatcl25⟩ := AF.at f24 (j := (4 : Int32)) 4 (by decide) (by decide)
  obtain ⟨cl26, Arcl26, hincl26, -⟩ := AF.at f22 (j := (4 : Int32)) 4 (by decide) (by decide)
  obtain ⟨T27, h27, X27, e27, W27, st27⟩ := stI X21 hx hZ e21 Arcl26 (j := (4 : Int32)) hincl26 (g := (mkF m 84 #[.val (.ref rp), .val (.ref rs), .val (.int (5 : Int32)), .val (.ref b2), .val (.int (4 : Int32)), .val (.int (fz 3))] [(.int (fz 4)), (.int (4 : Int32)), (.ref b2)])) rfl rfl (hb hby d4_84)
  have N27 := Fr.snoc X27 N21 gg2
  have Z27 : n0 ≤ h27.size := Nat.le_trans Z21 (Keep.of_wr W27).1
  have K27 : Keep h0 h27 [] := K21.wr W27 (Or.inr sz2)
  have f28 : AI Z h27 b2 .int 5 (up (own_g fp fz 4) 4 (fz 4)) := AF.setI f22 W27 4 (by decide)
  have f29 : AI Z h27 rp .byte 5 fp := f23.other W27 ne3
  have f30 : AI Z h27 rs .int 5 fz := f24.other W27 ne4
  obtain ⟨fs, hr, hrun, hended, hW, hsame⟩ := X27.leave (v := some (.ref b2)) (fun h => by rw [Bd.returns] at h; cases h) (hlocks := Bd.notSynchronized)
  refine ⟨_, _, pre0 _ ?_, hrun, hended, _, _, rfl, ?_, ⟨_, rfl⟩, hW, hsame.mono (by decide) (by decide)⟩
  · show Steps p.tables e below (s₁.setTop (mkF m 0 #[.val (.ref rp), .val (.ref rs), .unset, .unset, .unset, .unset] [])) _
    refine XS.aloadN X0.here hx rfl (hb hby d4_0) rfl rfl ?_
    refine X0.arraylength hx (by rw [e0]; exact Arcl1.1) (State.isArrayOf_alike hZ.alike Arcl1.2.1) (g := (mkF m 1 #[.val (.ref rp), .val (.ref rs), .unset, .unset, .unset, .unset] [(.ref rp)])) rfl rfl (hb hby d4_1) _ ?_
    rw [Szcl1]
    refine XS.istoreN X0.here hx rfl (hb hby d4_2) rfl (l' := #[.val (.ref rp), .val (.ref rs), .val (.int (5 : Int32)), .unset, .unset, .unset]) rfl ?_
    refine XS.iloadN X0.here hx rfl (hb hby d4_3) rfl ?_
    refine st2 _ ?_
    refine XS.astoreN X2.here hx rfl (hb hby d4_6) rfl rfl (l' := #[.val (.ref rp), .val (.ref rs), .val (.int (5 : Int32)), .val (.ref b2), .unset, .unset]) rfl ?_
    refine XS.iconst X2.here hx rfl (hb hby d4_7) ?_
    refine XS.istore X2.here hx rfl (hb hby d4_8) rfl (l' := #[.val (.ref rp), .val (.ref rs), .val (.int (5 : Int32)), .val (.ref b2), .val (.int (0 : Int32)), .unset]) rfl ?_
    refine st9 _ ?_
    refine st13 _ ?_
    refine st17 _ ?_
    refine st21 _ ?_
    refine XS.iload X21.here hx rfl (hb hby d4_10) rfl ?_
    refine XS.iconst X21.here hx rfl (hb hby d4_12) ?_
    refine XS.iadd X21.here hx rfl (hb hby d4_13) rfl ?_
    refine XS.iloadN X21.here hx rfl (hb hby d4_14) rfl ?_
    refine XS.icmpYes X21.here hx rfl (pc0 := 15) (pc' := 71) rfl (hb hby d4_15) rfl (flt (by decide : ¬ ((5 : Int32) < (5 : Int32)))).2.1 (by decide) (by decide) ?_
    refine XS.iloadN X21.here hx rfl (hb hby d4_71) rfl ?_
    refine XS.ifNo X21.here hx rfl (hb hby d4_72) rfl ((if0 _ _).trans (tlt (by decide : ((0 : Int32) < (5 : Int32)))).2.2.2) ?_
    refine XS.aloadN X21.here hx rfl (hb hby d4_75) rfl rfl ?_
    refine XS.iloadN X21.here hx rfl (hb hby d4_76) rfl ?_
    refine XS.iconst X21.here hx rfl (hb hby d4_77) ?_
    refine XS.isub X21.here hx rfl (hb hby d4_78) rfl ?_
    refine XS.aloadN X21.here hx rfl (hb hby d4_79) rfl rfl ?_
    refine XS.iloadN X21.here hx rfl (hb hby d4_80) rfl ?_
    refine XS.iconst X21.here hx rfl (hb hby d4_81) ?_
    refine XS.isub X21.here hx rfl (hb hby d4_82) rfl ?_
    refine X21.iaload hx (j := (4 : Int32)) (v := (.int (fz 4))) (by rw [e21]; exact Arcl25.1) (State.isArrayOf_alike hZ.alike Arcl25.2.1) Arcl25.2.2 hincl25 hatcl25 (g := (mkF m 83 #[.val (.ref rp), .val (.ref rs), .val (.int (5 : Int32)), .val (.ref b2), .val (.int (4 : Int32)), .val (.int (fz 3))] [(.int (4 : Int32)), (.ref rs), (.int (4 : Int32)), (.ref b2)])) rfl rfl (hb hby d4_83) _ ?_
    refine st27 _ ?_
    refine XS.aloadN X27.here hx rfl (hb hby d4_85) rfl rfl ?_
    exact retOut X27 hx Bd.returns rfl (Or.inr (Or.inr (Or.inr (Or.inr ⟨rfl, rfl, rfl⟩)))) (hb hby d4_86) hr
  · show Q4k5 Z rp rs fp fz h0 n0 _ T27.heap _
    rw [e27]
    exact ⟨b2, gg2, sz2, rfl, N27, K27, f28⟩
theorem ef_0 (m : MethodId) (nv : Int32) (aa : Int32) (bb : Int32) : entryFrame m #[(.int nv), (.int aa), (.int bb)] maxLocals = mkF m 0 #[.val (.int nv), .val (.int aa), .val (.int bb), .unset, .unset, .unset, .unset, .unset, .unset, .unset] [] := by first | (simp [entryFrame, mkF, argsToLocals, Value.category, maxLocals]; done) | rfl
theorem pd_3 : parseMethodDescriptor "(III)B" = some ⟨[.int, .int, .int], some .byte⟩ := by decide +kernel
theorem pd_4 : parseMethodDescriptor "([BI)I" = some ⟨[(.array .byte), .int], some .int⟩ := by decide +kernel
theorem pd_5 : parseMethodDescriptor "([B[I)[I" = some ⟨[(.array .byte), (.array .int)], some (.array .int)⟩ := by decide +kernel
theorem pd_6 : parseMethodDescriptor "([II[B[II)Z" = some ⟨[(.array .int), .int, (.array .byte), (.array .int), .int], some .boolean⟩ := by decide +kernel
theorem pd_7 : parseMethodDescriptor "([B[II[B[II)Z" = some ⟨[(.array .byte), (.array .int), .int, (.array .byte), (.array .int), .int], some .boolean⟩ := by decide +kernel
def own_FQ (aa : Int32) (bb : Int32) : Nat → Int32 := (up (up (up (up (up zI 0 (r1_v aa bb (0 : Int32))) 1 (r1_v aa bb (1 : Int32))) 2 (r1_v aa bb (2 : Int32))) 3 (r1_v aa bb (3 : Int32))) 4 (r1_v aa bb (4 : Int32)))
def own_FT (aa : Int32) (bb : Int32) : Nat → Int32 := (up (up (up (up (up zI 0 (0 : Int32)) 1 (r2k1_v (own_FQ aa bb))) 2 (r2k2_v (own_FQ aa bb))) 3 (r2k3_v (own_FQ aa bb))) 4 (r2k4_v (own_FQ aa bb)))
def own_FP0  : Nat → Int32 := zI
def own_FS0  : Nat → Int32 := zI
def own_FP1 (aa : Int32) (bb : Int32) : Nat → Int32 := (up zI 0 ((own_FQ aa bb) 0))
def own_FS1 (aa : Int32) (bb : Int32) : Nat → Int32 := (up zI 0 ((own_FT aa bb) 0))
def own_FP2 (aa : Int32) (bb : Int32) : Nat → Int32 := (up (up zI 0 ((own_FQ aa bb) 0)) 1 ((own_FQ aa bb) 1))
def own_FS2 (aa : Int32) (bb : Int32) : Nat → Int32 := (up (up zI 0 ((own_FT aa bb) 0)) 1 ((own_FT aa bb) 1))
def own_FP3 (aa : Int32) (bb : Int32) : Nat → Int32 := (up (up (up zI 0 ((own_FQ aa bb) 0)) 1 ((own_FQ aa bb) 1)) 2 ((own_FQ aa bb) 2))
def own_FS3 (aa : Int32) (bb : Int32) : Nat → Int32 := (up (up (up zI 0 ((own_FT aa bb) 0)) 1 ((own_FT aa bb) 1)) 2 ((own_FT aa bb) 2))
def own_FP4 (aa : Int32) (bb : Int32) : Nat → Int32 := (up (up (up (up zI 0 ((own_FQ aa bb) 0)) 1 ((own_FQ aa bb) 1)) 2 ((own_FQ aa bb) 2)) 3 ((own_FQ aa bb) 3))
def own_FS4 (aa : Int32) (bb : Int32) : Nat → Int32 := (up (up (up (up zI 0 ((own_FT aa bb) 0)) 1 ((own_FT aa bb) 1)) 2 ((own_FT aa bb) 2)) 3 ((own_FT aa bb) 3))
def own_FP5 (aa : Int32) (bb : Int32) : Nat → Int32 := (up (up (up (up (up zI 0 ((own_FQ aa bb) 0)) 1 ((own_FQ aa bb) 1)) 2 ((own_FQ aa bb) 2)) 3 ((own_FQ aa bb) 3)) 4 ((own_FQ aa bb) 4))
def own_FS5 (aa : Int32) (bb : Int32) : Nat → Int32 := (up (up (up (up (up zI 0 ((own_FT aa bb) 0)) 1 ((own_FT aa bb) 1)) 2 ((own_FT aa bb) 2)) 3 ((own_FT aa bb) 3)) 4 ((own_FT aa bb) 4))
theorem own_m (nv : Int32) : ((nv &&& (2147483647 : Int32)) % (6 : Int32)) = (0 : Int32) ∨ ((nv &&& (2147483647 : Int32)) % (6 : Int32)) = (1 : Int32) ∨ ((nv &&& (2147483647 : Int32)) % (6 : Int32)) = (2 : Int32) ∨ ((nv &&& (2147483647 : Int32)) % (6 : Int32)) = (3 : Int32) ∨ ((nv &&& (2147483647 : Int32)) % (6 : Int32)) = (4 : Int32) ∨ ((nv &&& (2147483647 : Int32)) % (6 : Int32)) = (5 : Int32) := by
  have : 0 ≤ (nv &&& (2147483647 : Int32)).toInt ∧ (nv &&& (2147483647 : Int32)).toInt ≤ 2147483647 := c_and nv (2147483647 : Int32) (by decide)
  generalize (nv &&& (2147483647 : Int32)) = u1_ at *
  first | have : (u1_ % (6 : Int32)).toInt = u1_.toInt % 6 := (c_irem u1_ (6 : Int32) 6 rfl).1 (by omega) | (have := c_irem u1_ (6 : Int32) 6 rfl; have := rng32 (u1_ % (6 : Int32)))
  generalize (u1_ % (6 : Int32)) = u2_ at *
  try simp only [Int32.reduceToInt, Int64.reduceToInt] at *
  simp only [← Int32.toInt_inj, Int32.reduceToInt, Int64.reduceToInt]
  omega
theorem own_lb (aa bb kk : Int32) : nar .byte (r1_v aa bb kk) = r1_v aa bb kk := own_nb _
def own_it (fq fu : Nat → Int32) (cn : Nat) : Nat → Int32 → Int32
  | 0, k => k
  | n + 1, k => own_it fq fu cn n (r8_v k fq fu cn)
theorem own_fix {fq fu : Nat → Int32} {cn : Nat} {k : Int32} (h : r8_v k fq fu cn = k) : ∀ n, own_it fq fu cn n k = k
  | 0 => rfl
  | n + 1 => by show own_it fq fu cn n (r8_v k fq fu cn) = k; rw [h]; exact own_fix h n
theorem own_itc {fq fu : Nat → Int32} {c d : Nat} (h : fq c = fq d) : ∀ n k, own_it fq fu c n k = own_it fq fu d n k
  | 0, _ => rfl
  | n + 1, k => by
    have e : r8_v k fq fu c = r8_v k fq fu d := by unfold r8_v; rw [h]
    show own_it fq fu c n (r8_v k fq fu c) = own_it fq fu d n (r8_v k fq fu d)
    rw [e]; exact own_itc h n _
theorem own_gv (fp fz : Nat → Int32) : ∀ i j, j < i → own_g fp fz i j = own_val fp fz (own_g fp fz j) j := by
  intro i
  induction i with
  | zero => intro j h; omega
  | succ i ih =>
    intro j h
    show (if j = i then own_val fp fz (own_g fp fz i) i else own_g fp fz i j) = _
    by_cases q : j = i
    · rw [if_pos q, q]
    · rw [if_neg q]; exact ih j (by omega)
theorem own_main (fq ft : Nat → Int32) (B : Nat) (hft : ∀ j, j < B → 0 ≤ (ft j).toInt ∧ (ft j).toInt ≤ j) : ∀ i, i < B → ∀ n, (ft i).toInt.toNat < n → own_it fq ft (i + 1) n (ft i) = own_val fq ft (own_g fq ft i) i := by
  intro i
  induction i using Nat.strongRecOn with
  | _ i ih =>
    intro hi n hn
    have h0 := hft i hi
    have e0 : (0 : Int32).toInt = 0 := rfl
    have hneg : ¬ (ft i) < (0 : Int32) := by rw [Int32.lt_iff_toInt_lt]; omega
    unfold own_val
    by_cases q : fq (ft i).toInt.toNat = fq (i + 1)
    · rw [if_pos q]
      obtain ⟨m, rfl⟩ : ∃ m, n = m + 1 := ⟨n - 1, by omega⟩
      show own_it fq ft (i + 1) m (r8_v (ft i) fq ft (i + 1)) = _
      have er : r8_v (ft i) fq ft (i + 1) = if (ft i) = (0 : Int32) then (-1 : Int32) else ft ((ft i).toInt.toNat - 1) := by unfold r8_v; rw [if_neg hneg, if_pos q]
      rw [er]
      by_cases q0 : (ft i) = (0 : Int32)
      · rw [if_pos q0, if_pos q0]
        exact own_fix (by unfold r8_v; rw [if_pos (by decide)]) m
      · rw [if_neg q0, if_neg q0]
        have q1 : ¬ (ft i).toInt = 0 := fun z => q0 (Int32.toInt_inj.mp z)
        have hk : (ft i).toInt.toNat - 1 < i := by omega
        have hk2 := hft ((ft i).toInt.toNat - 1) (by omega)
        have := ih _ hk (by omega) m (by omega)
        rw [show (ft i).toInt.toNat - 1 + 1 = (ft i).toInt.toNat by omega] at this
        rw [own_itc q.symm, this]
        exact (own_gv fq ft i _ hk).symm
    · rw [if_neg q]
      exact own_fix (by unfold r8_v; rw [if_neg hneg, if_neg q]) n
theorem own_gcong {fp fz fq ft : Nat → Int32} {m : Nat} (hft : ∀ j, j < 5 → 0 ≤ (ft j).toInt ∧ (ft j).toInt ≤ j) (hm : m ≤ 5) (hP : ∀ j, j < m → fp j = fq j) (hS : ∀ j, j < m → fz j = ft j) : ∀ i, i + 1 ≤ m → own_g fp fz i = own_g fq ft i := by
  intro i
  induction i with
  | zero => intro _; rfl
  | succ i ih =>
    intro h
    have e := ih (by omega)
    have h1 := hft i (by omega)
    show up (own_g fp fz i) i (own_val fp fz (own_g fp fz i) i) = up (own_g fq ft i) i (own_val fq ft (own_g fq ft i) i)
    rw [e]
    unfold own_val
    rw [hS i (by omega), hP _ (by omega : (ft i).toInt.toNat < m), hP (i + 1) (by omega)]
theorem own_key (fq ft fp fz : Nat → Int32) (m i n c : Nat) (hn : m = n + 1) (hc : c = i + 1) (hi : i + 1 < m) (hm : m ≤ 5) (hft : ∀ j, j < 5 → 0 ≤ (ft j).toInt ∧ (ft j).toInt ≤ j) (hP : ∀ j, j < m → fp j = fq j) (hS : ∀ j, j < m → fz j = ft j) :
    (up (own_g fp fz n) n (fz n)) i = own_it fq ft c 5 (ft i) := by
  subst hc
  show (if i = n then fz n else own_g fp fz n i) = _
  have h1 := hft i (by omega)
  rw [if_neg (by omega), own_gcong hft hm hP hS n (by omega), own_gv fq ft n i (by omega)]
  exact (own_main fq ft 5 hft i (by omega) 5 (by omega)).symm
theorem own_us {f : Nat → Int32} {i : Nat} {v : Int32} : up f i v i = v := if_pos rfl
theorem own_un {f : Nat → Int32} {i j : Nat} {v : Int32} (h : j ≠ i) : up f i v j = f j := if_neg h
theorem own_c7_0 (fq fu : Nat → Int32) : r7k0_v fq fu = own_it fq fu 1 5 (fu 0) := rfl
theorem own_c7_1 (fq fu : Nat → Int32) : r7k1_v fq fu = own_it fq fu 2 5 (fu 1) := rfl
theorem own_c7_2 (fq fu : Nat → Int32) : r7k2_v fq fu = own_it fq fu 3 5 (fu 2) := rfl
theorem own_c7_3 (fq fu : Nat → Int32) : r7k3_v fq fu = own_it fq fu 4 5 (fu 3) := rfl
theorem own_b1 (fq : Nat → Int32) : 0 ≤ (r2k1_v fq).toInt ∧ (r2k1_v fq).toInt ≤ 1 := by
  unfold r2k1_v
  repeat' split
  all_goals exact ⟨by decide, by decide⟩
theorem own_b2 (fq : Nat → Int32) : 0 ≤ (r2k2_v fq).toInt ∧ (r2k2_v fq).toInt ≤ 2 := by
  unfold r2k2_v
  repeat' split
  all_goals exact ⟨by decide, by decide⟩
theorem own_b3 (fq : Nat → Int32) : 0 ≤ (r2k3_v fq).toInt ∧ (r2k3_v fq).toInt ≤ 3 := by
  unfold r2k3_v
  repeat' split
  all_goals exact ⟨by decide, by decide⟩
theorem own_b4 (fq : Nat → Int32) : 0 ≤ (r2k4_v fq).toInt ∧ (r2k4_v fq).toInt ≤ 4 := by
  unfold r2k4_v
  repeat' split
  all_goals exact ⟨by decide, by decide⟩
theorem own_FQv0 (aa bb : Int32) : own_FQ aa bb 0 = r1_v aa bb (0 : Int32) := by unfold own_FQ; rw [own_un (by decide), own_un (by decide), own_un (by decide), own_un (by decide), own_us]
theorem own_lq0 (aa bb : Int32) : nar .byte (own_FQ aa bb 0) = own_FQ aa bb 0 := by rw [own_FQv0]; exact own_lb _ _ _
theorem own_FTv0 (aa bb : Int32) : own_FT aa bb 0 = (0 : Int32) := by unfold own_FT; rw [own_un (by decide), own_un (by decide), own_un (by decide), own_un (by decide), own_us]
theorem own_FQv1 (aa bb : Int32) : own_FQ aa bb 1 = r1_v aa bb (1 : Int32) := by unfold own_FQ; rw [own_un (by decide), own_un (by decide), own_un (by decide), own_us]
theorem own_lq1 (aa bb : Int32) : nar .byte (own_FQ aa bb 1) = own_FQ aa bb 1 := by rw [own_FQv1]; exact own_lb _ _ _
theorem own_FTv1 (aa bb : Int32) : own_FT aa bb 1 = r2k1_v (own_FQ aa bb) := by unfold own_FT; rw [own_un (by decide), own_un (by decide), own_un (by decide), own_us]
theorem own_FQv2 (aa bb : Int32) : own_FQ aa bb 2 = r1_v aa bb (2 : Int32) := by unfold own_FQ; rw [own_un (by decide), own_un (by decide), own_us]
theorem own_lq2 (aa bb : Int32) : nar .byte (own_FQ aa bb 2) = own_FQ aa bb 2 := by rw [own_FQv2]; exact own_lb _ _ _
theorem own_FTv2 (aa bb : Int32) : own_FT aa bb 2 = r2k2_v (own_FQ aa bb) := by unfold own_FT; rw [own_un (by decide), own_un (by decide), own_us]
theorem own_FQv3 (aa bb : Int32) : own_FQ aa bb 3 = r1_v aa bb (3 : Int32) := by unfold own_FQ; rw [own_un (by decide), own_us]
theorem own_lq3 (aa bb : Int32) : nar .byte (own_FQ aa bb 3) = own_FQ aa bb 3 := by rw [own_FQv3]; exact own_lb _ _ _
theorem own_FTv3 (aa bb : Int32) : own_FT aa bb 3 = r2k3_v (own_FQ aa bb) := by unfold own_FT; rw [own_un (by decide), own_us]
theorem own_FQv4 (aa bb : Int32) : own_FQ aa bb 4 = r1_v aa bb (4 : Int32) := by unfold own_FQ; rw [own_us]
theorem own_lq4 (aa bb : Int32) : nar .byte (own_FQ aa bb 4) = own_FQ aa bb 4 := by rw [own_FQv4]; exact own_lb _ _ _
theorem own_FTv4 (aa bb : Int32) : own_FT aa bb 4 = r2k4_v (own_FQ aa bb) := by unfold own_FT; rw [own_us]
theorem own_rng (aa bb : Int32) : ∀ j, j < 5 → 0 ≤ (own_FT aa bb j).toInt ∧ (own_FT aa bb j).toInt ≤ j := by
  intro j hj
  have hc : j = 0 ∨ j = 1 ∨ j = 2 ∨ j = 3 ∨ j = 4 := by omega
  rcases hc with rfl | rfl | rfl | rfl | rfl
  · rw [own_FTv0]; exact ⟨by decide, by decide⟩
  · rw [own_FTv1]; exact own_b1 _
  · rw [own_FTv2]; exact own_b2 _
  · rw [own_FTv3]; exact own_b3 _
  · rw [own_FTv4]; exact own_b4 _
theorem own_hfu (aa bb : Int32) : ∀ j, j < 5 → 0 ≤ (own_FT aa bb j).toInt ∧ (own_FT aa bb j).toInt < 5 := by
  intro j hj
  have := own_rng aa bb j hj
  omega
theorem own_cP1 (aa bb : Int32) : ∀ j, j < 1 → own_FP1 aa bb j = own_FQ aa bb j := by
  intro j hj
  have hc : j = 0 := by omega
  subst hc
  unfold own_FP1; rw [own_us]
theorem own_cS1 (aa bb : Int32) : ∀ j, j < 1 → own_FS1 aa bb j = own_FT aa bb j := by
  intro j hj
  have hc : j = 0 := by omega
  subst hc
  unfold own_FS1; rw [own_us]
theorem own_hfz1 (aa bb : Int32) : ∀ j, j < 1 → 0 ≤ (own_FS1 aa bb j).toInt ∧ (own_FS1 aa bb j).toInt ≤ j := by
  intro j hj
  rw [own_cS1 aa bb j hj]
  exact own_rng aa bb j (by omega)
theorem own_cP2 (aa bb : Int32) : ∀ j, j < 2 → own_FP2 aa bb j = own_FQ aa bb j := by
  intro j hj
  have hc : j = 0 ∨ j = 1 := by omega
  rcases hc with rfl | rfl
  · unfold own_FP2; rw [own_un (by decide), own_us]
  · unfold own_FP2; rw [own_us]
theorem own_cS2 (aa bb : Int32) : ∀ j, j < 2 → own_FS2 aa bb j = own_FT aa bb j := by
  intro j hj
  have hc : j = 0 ∨ j = 1 := by omega
  rcases hc with rfl | rfl
  · unfold own_FS2; rw [own_un (by decide), own_us]
  · unfold own_FS2; rw [own_us]
theorem own_hfz2 (aa bb : Int32) : ∀ j, j < 2 → 0 ≤ (own_FS2 aa bb j).toInt ∧ (own_FS2 aa bb j).toInt ≤ j := by
  intro j hj
  rw [own_cS2 aa bb j hj]
  exact own_rng aa bb j (by omega)
theorem own_cP3 (aa bb : Int32) : ∀ j, j < 3 → own_FP3 aa bb j = own_FQ aa bb j := by
  intro j hj
  have hc : j = 0 ∨ j = 1 ∨ j = 2 := by omega
  rcases hc with rfl | rfl | rfl
  · unfold own_FP3; rw [own_un (by decide), own_un (by decide), own_us]
  · unfold own_FP3; rw [own_un (by decide), own_us]
  · unfold own_FP3; rw [own_us]
theorem own_cS3 (aa bb : Int32) : ∀ j, j < 3 → own_FS3 aa bb j = own_FT aa bb j := by
  intro j hj
  have hc : j = 0 ∨ j = 1 ∨ j = 2 := by omega
  rcases hc with rfl | rfl | rfl
  · unfold own_FS3; rw [own_un (by decide), own_un (by decide), own_us]
  · unfold own_FS3; rw [own_un (by decide), own_us]
  · unfold own_FS3; rw [own_us]
theorem own_hfz3 (aa bb : Int32) : ∀ j, j < 3 → 0 ≤ (own_FS3 aa bb j).toInt ∧ (own_FS3 aa bb j).toInt ≤ j := by
  intro j hj
  rw [own_cS3 aa bb j hj]
  exact own_rng aa bb j (by omega)
theorem own_cP4 (aa bb : Int32) : ∀ j, j < 4 → own_FP4 aa bb j = own_FQ aa bb j := by
  intro j hj
  have hc : j = 0 ∨ j = 1 ∨ j = 2 ∨ j = 3 := by omega
  rcases hc with rfl | rfl | rfl | rfl
  · unfold own_FP4; rw [own_un (by decide), own_un (by decide), own_un (by decide), own_us]
  · unfold own_FP4; rw [own_un (by decide), own_un (by decide), own_us]
  · unfold own_FP4; rw [own_un (by decide), own_us]
  · unfold own_FP4; rw [own_us]
theorem own_cS4 (aa bb : Int32) : ∀ j, j < 4 → own_FS4 aa bb j = own_FT aa bb j := by
  intro j hj
  have hc : j = 0 ∨ j = 1 ∨ j = 2 ∨ j = 3 := by omega
  rcases hc with rfl | rfl | rfl | rfl
  · unfold own_FS4; rw [own_un (by decide), own_un (by decide), own_un (by decide), own_us]
  · unfold own_FS4; rw [own_un (by decide), own_un (by decide), own_us]
  · unfold own_FS4; rw [own_un (by decide), own_us]
  · unfold own_FS4; rw [own_us]
theorem own_hfz4 (aa bb : Int32) : ∀ j, j < 4 → 0 ≤ (own_FS4 aa bb j).toInt ∧ (own_FS4 aa bb j).toInt ≤ j := by
  intro j hj
  rw [own_cS4 aa bb j hj]
  exact own_rng aa bb j (by omega)
theorem own_cP5 (aa bb : Int32) : ∀ j, j < 5 → own_FP5 aa bb j = own_FQ aa bb j := by
  intro j hj
  have hc : j = 0 ∨ j = 1 ∨ j = 2 ∨ j = 3 ∨ j = 4 := by omega
  rcases hc with rfl | rfl | rfl | rfl | rfl
  · unfold own_FP5; rw [own_un (by decide), own_un (by decide), own_un (by decide), own_un (by decide), own_us]
  · unfold own_FP5; rw [own_un (by decide), own_un (by decide), own_un (by decide), own_us]
  · unfold own_FP5; rw [own_un (by decide), own_un (by decide), own_us]
  · unfold own_FP5; rw [own_un (by decide), own_us]
  · unfold own_FP5; rw [own_us]
theorem own_cS5 (aa bb : Int32) : ∀ j, j < 5 → own_FS5 aa bb j = own_FT aa bb j := by
  intro j hj
  have hc : j = 0 ∨ j = 1 ∨ j = 2 ∨ j = 3 ∨ j = 4 := by omega
  rcases hc with rfl | rfl | rfl | rfl | rfl
  · unfold own_FS5; rw [own_un (by decide), own_un (by decide), own_un (by decide), own_un (by decide), own_us]
  · unfold own_FS5; rw [own_un (by decide), own_un (by decide), own_un (by decide), own_us]
  · unfold own_FS5; rw [own_un (by decide), own_un (by decide), own_us]
  · unfold own_FS5; rw [own_un (by decide), own_us]
  · unfold own_FS5; rw [own_us]
theorem own_hfz5 (aa bb : Int32) : ∀ j, j < 5 → 0 ≤ (own_FS5 aa bb j).toInt ∧ (own_FS5 aa bb j).toInt ≤ j := by
  intro j hj
  rw [own_cS5 aa bb j hj]
  exact own_rng aa bb j (by omega)
theorem own_hfz0 (aa bb : Int32) : ∀ j, j < 0 → 0 ≤ (own_FS0 j).toInt ∧ (own_FS0 j).toInt ≤ j := by
  intro j hj; omega
theorem own_a1_0 (aa bb : Int32) : (r5b0_v (own_FT aa bb) (up (own_g (own_FP1 aa bb) (own_FS1 aa bb) 0) 0 ((own_FS1 aa bb) 0))) = (1 : Int32) := by
  unfold r5b0_v
  rw [own_us, if_pos (own_cS1 aa bb 0 (by decide))]
theorem own_a2_0 (aa bb : Int32) : (r5a0_v (own_FQ aa bb) (own_FT aa bb) (up (own_g (own_FP2 aa bb) (own_FS2 aa bb) 1) 1 ((own_FS2 aa bb) 1))) = (1 : Int32) := by
  unfold r5a0_v
  rw [own_c7_0, if_pos (own_key (own_FQ aa bb) (own_FT aa bb) (own_FP2 aa bb) (own_FS2 aa bb) 2 0 1 1 rfl rfl (by decide) (by decide) (own_rng aa bb) (own_cP2 aa bb) (own_cS2 aa bb))]
theorem own_a2_1 (aa bb : Int32) : (r5b1_v (own_FT aa bb) (up (own_g (own_FP2 aa bb) (own_FS2 aa bb) 1) 1 ((own_FS2 aa bb) 1))) = (1 : Int32) := by
  unfold r5b1_v
  rw [own_us, if_pos (own_cS2 aa bb 1 (by decide))]
theorem own_a3_0 (aa bb : Int32) : (r5a0_v (own_FQ aa bb) (own_FT aa bb) (up (own_g (own_FP3 aa bb) (own_FS3 aa bb) 2) 2 ((own_FS3 aa bb) 2))) = (1 : Int32) := by
  unfold r5a0_v
  rw [own_c7_0, if_pos (own_key (own_FQ aa bb) (own_FT aa bb) (own_FP3 aa bb) (own_FS3 aa bb) 3 0 2 1 rfl rfl (by decide) (by decide) (own_rng aa bb) (own_cP3 aa bb) (own_cS3 aa bb))]
theorem own_a3_1 (aa bb : Int32) : (r5a1_v (own_FQ aa bb) (own_FT aa bb) (up (own_g (own_FP3 aa bb) (own_FS3 aa bb) 2) 2 ((own_FS3 aa bb) 2))) = (1 : Int32) := by
  unfold r5a1_v
  rw [own_c7_1, if_pos (own_key (own_FQ aa bb) (own_FT aa bb) (own_FP3 aa bb) (own_FS3 aa bb) 3 1 2 2 rfl rfl (by decide) (by decide) (own_rng aa bb) (own_cP3 aa bb) (own_cS3 aa bb))]
theorem own_a3_2 (aa bb : Int32) : (r5b2_v (own_FT aa bb) (up (own_g (own_FP3 aa bb) (own_FS3 aa bb) 2) 2 ((own_FS3 aa bb) 2))) = (1 : Int32) := by
  unfold r5b2_v
  rw [own_us, if_pos (own_cS3 aa bb 2 (by decide))]
theorem own_a4_0 (aa bb : Int32) : (r5a0_v (own_FQ aa bb) (own_FT aa bb) (up (own_g (own_FP4 aa bb) (own_FS4 aa bb) 3) 3 ((own_FS4 aa bb) 3))) = (1 : Int32) := by
  unfold r5a0_v
  rw [own_c7_0, if_pos (own_key (own_FQ aa bb) (own_FT aa bb) (own_FP4 aa bb) (own_FS4 aa bb) 4 0 3 1 rfl rfl (by decide) (by decide) (own_rng aa bb) (own_cP4 aa bb) (own_cS4 aa bb))]
theorem own_a4_1 (aa bb : Int32) : (r5a1_v (own_FQ aa bb) (own_FT aa bb) (up (own_g (own_FP4 aa bb) (own_FS4 aa bb) 3) 3 ((own_FS4 aa bb) 3))) = (1 : Int32) := by
  unfold r5a1_v
  rw [own_c7_1, if_pos (own_key (own_FQ aa bb) (own_FT aa bb) (own_FP4 aa bb) (own_FS4 aa bb) 4 1 3 2 rfl rfl (by decide) (by decide) (own_rng aa bb) (own_cP4 aa bb) (own_cS4 aa bb))]
theorem own_a4_2 (aa bb : Int32) : (r5a2_v (own_FQ aa bb) (own_FT aa bb) (up (own_g (own_FP4 aa bb) (own_FS4 aa bb) 3) 3 ((own_FS4 aa bb) 3))) = (1 : Int32) := by
  unfold r5a2_v
  rw [own_c7_2, if_pos (own_key (own_FQ aa bb) (own_FT aa bb) (own_FP4 aa bb) (own_FS4 aa bb) 4 2 3 3 rfl rfl (by decide) (by decide) (own_rng aa bb) (own_cP4 aa bb) (own_cS4 aa bb))]
theorem own_a4_3 (aa bb : Int32) : (r5b3_v (own_FT aa bb) (up (own_g (own_FP4 aa bb) (own_FS4 aa bb) 3) 3 ((own_FS4 aa bb) 3))) = (1 : Int32) := by
  unfold r5b3_v
  rw [own_us, if_pos (own_cS4 aa bb 3 (by decide))]
theorem own_a5_0 (aa bb : Int32) : (r5a0_v (own_FQ aa bb) (own_FT aa bb) (up (own_g (own_FP5 aa bb) (own_FS5 aa bb) 4) 4 ((own_FS5 aa bb) 4))) = (1 : Int32) := by
  unfold r5a0_v
  rw [own_c7_0, if_pos (own_key (own_FQ aa bb) (own_FT aa bb) (own_FP5 aa bb) (own_FS5 aa bb) 5 0 4 1 rfl rfl (by decide) (by decide) (own_rng aa bb) (own_cP5 aa bb) (own_cS5 aa bb))]
theorem own_a5_1 (aa bb : Int32) : (r5a1_v (own_FQ aa bb) (own_FT aa bb) (up (own_g (own_FP5 aa bb) (own_FS5 aa bb) 4) 4 ((own_FS5 aa bb) 4))) = (1 : Int32) := by
  unfold r5a1_v
  rw [own_c7_1, if_pos (own_key (own_FQ aa bb) (own_FT aa bb) (own_FP5 aa bb) (own_FS5 aa bb) 5 1 4 2 rfl rfl (by decide) (by decide) (own_rng aa bb) (own_cP5 aa bb) (own_cS5 aa bb))]
theorem own_a5_2 (aa bb : Int32) : (r5a2_v (own_FQ aa bb) (own_FT aa bb) (up (own_g (own_FP5 aa bb) (own_FS5 aa bb) 4) 4 ((own_FS5 aa bb) 4))) = (1 : Int32) := by
  unfold r5a2_v
  rw [own_c7_2, if_pos (own_key (own_FQ aa bb) (own_FT aa bb) (own_FP5 aa bb) (own_FS5 aa bb) 5 2 4 3 rfl rfl (by decide) (by decide) (own_rng aa bb) (own_cP5 aa bb) (own_cS5 aa bb))]
theorem own_a5_3 (aa bb : Int32) : (r5a3_v (own_FQ aa bb) (own_FT aa bb) (up (own_g (own_FP5 aa bb) (own_FS5 aa bb) 4) 4 ((own_FS5 aa bb) 4))) = (1 : Int32) := by
  unfold r5a3_v
  rw [own_c7_3, if_pos (own_key (own_FQ aa bb) (own_FT aa bb) (own_FP5 aa bb) (own_FS5 aa bb) 5 3 4 4 rfl rfl (by decide) (by decide) (own_rng aa bb) (own_cP5 aa bb) (own_cS5 aa bb))]
theorem own_a5_4 (aa bb : Int32) : (r5b4_v (own_FT aa bb) (up (own_g (own_FP5 aa bb) (own_FS5 aa bb) 4) 4 ((own_FS5 aa bb) 4))) = (1 : Int32) := by
  unfold r5b4_v
  rw [own_us, if_pos (own_cS5 aa bb 4 (by decide))]
theorem own_s1_0 (aa bb : Int32) : (r6l0_v (own_FQ aa bb) (own_FT aa bb) (own_FP1 aa bb) (own_FS1 aa bb)) = (1 : Int32) := by
  unfold r6l0_v
  rw [if_pos (own_cP1 aa bb 0 (by decide)), if_pos (own_cS1 aa bb 0 (by decide))]
theorem own_s2_0 (aa bb : Int32) : (r6l0_v (own_FQ aa bb) (own_FT aa bb) (own_FP2 aa bb) (own_FS2 aa bb)) = (1 : Int32) := by
  unfold r6l0_v
  rw [if_pos (own_cP2 aa bb 0 (by decide)), if_pos (own_cS2 aa bb 0 (by decide))]
theorem own_s2_1 (aa bb : Int32) : (r6l1_v (own_FQ aa bb) (own_FT aa bb) (own_FP2 aa bb) (own_FS2 aa bb)) = (1 : Int32) := by
  unfold r6l1_v
  rw [if_pos (own_cP2 aa bb 1 (by decide)), if_pos (own_cS2 aa bb 1 (by decide))]
theorem own_s3_0 (aa bb : Int32) : (r6l0_v (own_FQ aa bb) (own_FT aa bb) (own_FP3 aa bb) (own_FS3 aa bb)) = (1 : Int32) := by
  unfold r6l0_v
  rw [if_pos (own_cP3 aa bb 0 (by decide)), if_pos (own_cS3 aa bb 0 (by decide))]
theorem own_s3_1 (aa bb : Int32) : (r6l1_v (own_FQ aa bb) (own_FT aa bb) (own_FP3 aa bb) (own_FS3 aa bb)) = (1 : Int32) := by
  unfold r6l1_v
  rw [if_pos (own_cP3 aa bb 1 (by decide)), if_pos (own_cS3 aa bb 1 (by decide))]
theorem own_s3_2 (aa bb : Int32) : (r6l2_v (own_FQ aa bb) (own_FT aa bb) (own_FP3 aa bb) (own_FS3 aa bb)) = (1 : Int32) := by
  unfold r6l2_v
  rw [if_pos (own_cP3 aa bb 2 (by decide)), if_pos (own_cS3 aa bb 2 (by decide))]
theorem own_s4_0 (aa bb : Int32) : (r6l0_v (own_FQ aa bb) (own_FT aa bb) (own_FP4 aa bb) (own_FS4 aa bb)) = (1 : Int32) := by
  unfold r6l0_v
  rw [if_pos (own_cP4 aa bb 0 (by decide)), if_pos (own_cS4 aa bb 0 (by decide))]
theorem own_s4_1 (aa bb : Int32) : (r6l1_v (own_FQ aa bb) (own_FT aa bb) (own_FP4 aa bb) (own_FS4 aa bb)) = (1 : Int32) := by
  unfold r6l1_v
  rw [if_pos (own_cP4 aa bb 1 (by decide)), if_pos (own_cS4 aa bb 1 (by decide))]
theorem own_s4_2 (aa bb : Int32) : (r6l2_v (own_FQ aa bb) (own_FT aa bb) (own_FP4 aa bb) (own_FS4 aa bb)) = (1 : Int32) := by
  unfold r6l2_v
  rw [if_pos (own_cP4 aa bb 2 (by decide)), if_pos (own_cS4 aa bb 2 (by decide))]
theorem own_s4_3 (aa bb : Int32) : (r6l3_v (own_FQ aa bb) (own_FT aa bb) (own_FP4 aa bb) (own_FS4 aa bb)) = (1 : Int32) := by
  unfold r6l3_v
  rw [if_pos (own_cP4 aa bb 3 (by decide)), if_pos (own_cS4 aa bb 3 (by decide))]
theorem own_s5_0 (aa bb : Int32) : (r6l0_v (own_FQ aa bb) (own_FT aa bb) (own_FP5 aa bb) (own_FS5 aa bb)) = (1 : Int32) := by
  unfold r6l0_v
  rw [if_pos (own_cP5 aa bb 0 (by decide)), if_pos (own_cS5 aa bb 0 (by decide))]
theorem own_s5_1 (aa bb : Int32) : (r6l1_v (own_FQ aa bb) (own_FT aa bb) (own_FP5 aa bb) (own_FS5 aa bb)) = (1 : Int32) := by
  unfold r6l1_v
  rw [if_pos (own_cP5 aa bb 1 (by decide)), if_pos (own_cS5 aa bb 1 (by decide))]
theorem own_s5_2 (aa bb : Int32) : (r6l2_v (own_FQ aa bb) (own_FT aa bb) (own_FP5 aa bb) (own_FS5 aa bb)) = (1 : Int32) := by
  unfold r6l2_v
  rw [if_pos (own_cP5 aa bb 2 (by decide)), if_pos (own_cS5 aa bb 2 (by decide))]
theorem own_s5_3 (aa bb : Int32) : (r6l3_v (own_FQ aa bb) (own_FT aa bb) (own_FP5 aa bb) (own_FS5 aa bb)) = (1 : Int32) := by
  unfold r6l3_v
  rw [if_pos (own_cP5 aa bb 3 (by decide)), if_pos (own_cS5 aa bb 3 (by decide))]
theorem own_s5_4 (aa bb : Int32) : (r6l4_v (own_FQ aa bb) (own_FT aa bb) (own_FP5 aa bb) (own_FS5 aa bb)) = (1 : Int32) := by
  unfold r6l4_v
  rw [if_pos (own_cP5 aa bb 4 (by decide)), if_pos (own_cS5 aa bb 4 (by decide))]
def Q0 (Z : State) (nv : Int32) (aa : Int32) (bb : Int32) (h0 : Heap) (n0 : Nat) (v : Option Value) (h : Heap) (L : List Loc) : Prop := v = some (.int (1 : Int32)) ∧ Fr n0 L
set_option maxRecDepth 65536 in
set_option maxHeartbeats 40000000 in
theorem rm0 (l : Launch) (Z : State) (a0 : Array Value) (hw : ∀ d ∈ tables_1, d.before a0 Z = true) (ws : List Jvm.Cond) (nv : Int32) (aa : Int32) (bb : Int32) (h0 : Heap) (n0 : Nat) (Z0 : n0 ≤ h0.size) :
    MetFree l x (head1 (Jvm.Cond.code x code maxLocals ret :: ws) room_1) (fun a U => a = #[(.int nv), (.int aa), (.int bb)] ∧ Z.Warmed39 U.vm ∧ U.heap = h0) (fun _ _ _ _ _ => True) (fun _ U o U' => ∃ v L, o = .returned v ∧ Q0 Z nv aa bb h0 n0 v U'.heap L ∧ FrameEnd U o U' L room_1.cells room_1.slots) := by
  refine MetFree.of_bodySF (plainFor_of_name pn_skipstitch_table_PrefixTableOptimisedPinLaw) hisR ?_
  intro p e s m args below meth c s₁ Bd hml0 hP hK
  obtain ⟨rfl, hZ, hh⟩ := hP
  have hx := Bd.exec
  have hby := Bd.bytes
  have hml : c.maxLocals = 10 := hml0
  have hown : s.vm.findClass "skipstitch/table/PrefixTableOptimisedPinLaw" = some m.cls := findClass_of_methodNamed Bd.named
  have hnm := (name_of_methodNamed Bd.named Bd.method).1
  have X0 : Stand p l e room_1 s m #[(.int nv), (.int aa), (.int bb)] below meth c s₁ [] 0 0 := Stand.of_body Bd
  have e0 : s₁.heap = h0 := by rw [← hh, Bd.state]; rfl
  have N0 := Fr.nil n0
  have K0 : Keep h0 h0 [] := Keep.refl h0 _
  have pre0 : ∀ t, Steps p.tables e below (s₁.setTop (mkF m 0 #[.val (.int nv), .val (.int aa), .val (.int bb), .unset, .unset, .unset, .unset, .unset, .unset, .unset] [])) t → Steps p.tables e below (s₁.setTop (entryFrame m #[(.int nv), (.int aa), (.int bb)] maxLocals)) t := fun t k => castTop (ef_0 m nv aa bb) k
  obtain ⟨T1, h1, k1, X1, e1, E1, A1, st1⟩ := newP X0 hx hZ (hw _ (List.mem_of_getElem? (i := 1) rfl)) e0 (g := (mkF m 9 #[.val (.int nv), .val (.int aa), .val (.int bb), .val (.int ((nv &&& (2147483647 : Int32)) % (6 : Int32))), .unset, .unset, .unset, .unset, .unset, .unset] [(.int (5 : Int32))])) rfl (hb hby at_9) rfl (by decide) (cap := 5) (by decide) (by decide) (by decide) (by decide)
  obtain ⟨b1, g1⟩ : ∃ z, z = h0.size := ⟨_, rfl⟩
  rw [← g1] at A1 st1
  have gg1 : n0 ≤ b1 := Nat.le_trans Z0 (Nat.le_of_eq g1.symm)
  have Z1 : n0 ≤ h1.size := Nat.le_trans Z0 E1.1
  have f2 : AI Z h1 b1 .byte 5 zI := AF.new A1 (by decide)
  obtain ⟨_, _, ⟨T3, L3, k3, n3⟩, -, X3, ⟨Lc3, hQ3, l3, y3, z3⟩, st3⟩ := Jvm.LawKit.callS X1 hx (y := (⟨"skipstitch/table/PrefixTableOptimisedPinLaw", "letter", "(III)B"⟩ : MethodName)) hown (mvT hZ (hw _ (List.mem_of_getElem? (i := 2) rfl))) (mvT hZ (hw _ (List.mem_of_getElem? (i := 3) rfl))) (mvT hZ (hw _ (List.mem_of_getElem? (i := 4) rfl))) (mvT hZ (hw _ (List.mem_of_getElem? (i := 5) rfl))) (by decide) (backOf (W := 2) (rm1 l Z a0 hw [] aa bb (0 : Int32) h1 n0 Z1 ) hZ (hw _ (List.mem_of_getElem? (i := 5) rfl)) (hw _ (List.mem_of_getElem? (i := 4) rfl)) (by decide) (by decide)) (g := (mkF m 19 #[.val (.int nv), .val (.int aa), .val (.int bb), .val (.int ((nv &&& (2147483647 : Int32)) % (6 : Int32))), .val (.ref b1), .unset, .unset, .unset, .unset, .unset] [(.int (0 : Int32)), (.int bb), (.int aa), (.int (0 : Int32)), (.ref b1)])) rfl (by rw [hml]; rfl) (argsL := [(.int aa), (.int bb), (.int (0 : Int32))]) (rest := [(.int (0 : Int32)), (.ref b1)]) (lenOf pd_3 rfl) rfl (by show 2 * 0 + _ ≤ _; exact Nat.le_of_eq rfl) (hb hby at_19) (fun _ _ => ⟨rfl, e1, (by decide : 1 + 0 ≤ _), (by decide : 5 + 0 ≤ _)⟩)
  dsimp only [Pt.U, Pt.locs, Pt.cells, Pt.slots] at X3 l3 y3 z3 st3 hQ3
  subst y3 z3
  obtain ⟨rfl, N3q, e3⟩ := hQ3
  have N3 : Fr n0 L3 := by rw [l3]; exact Fr.app N0 N3q
  obtain ⟨cl4, Arcl4, hincl4, -⟩ := AF.at f2 (j := (0 : Int32)) 0 (by decide) (by decide)
  obtain ⟨T5, h5, X5, e5, W5, st5⟩ := stB X3 hx hZ e3 Arcl4 (j := (0 : Int32)) hincl4 (g := (mkF m 22 #[.val (.int nv), .val (.int aa), .val (.int bb), .val (.int ((nv &&& (2147483647 : Int32)) % (6 : Int32))), .val (.ref b1), .unset, .unset, .unset, .unset, .unset] [(.int (r1_v aa bb (0 : Int32))), (.int (0 : Int32)), (.ref b1)])) rfl rfl (hb hby at_22)
  rw [own_lb aa bb (0 : Int32)] at W5
  have N5 := Fr.snoc X5 N3 gg1
  have Z5 : n0 ≤ h5.size := Nat.le_trans Z1 (Keep.of_wr W5).1
  have f6 : AI Z h5 b1 .byte 5 (up zI 0 (r1_v aa bb (0 : Int32))) := AF.setI f2 W5 0 (by decide)
  obtain ⟨_, _, ⟨T7, L7, k7, n7⟩, -, X7, ⟨Lc7, hQ7, l7, y7, z7⟩, st7⟩ := Jvm.LawKit.callS X5 hx (y := (⟨"skipstitch/table/PrefixTableOptimisedPinLaw", "letter", "(III)B"⟩ : MethodName)) hown (mvT hZ (hw _ (List.mem_of_getElem? (i := 2) rfl))) (mvT hZ (hw _ (List.mem_of_getElem? (i := 3) rfl))) (mvT hZ (hw _ (List.mem_of_getElem? (i := 4) rfl))) (mvT hZ (hw _ (List.mem_of_getElem? (i := 5) rfl))) (by decide) (backOf (W := 2) (rm1 l Z a0 hw [] aa bb (1 : Int32) h5 n0 Z5 ) hZ (hw _ (List.mem_of_getElem? (i := 5) rfl)) (hw _ (List.mem_of_getElem? (i := 4) rfl)) (by decide) (by decide)) (g := (mkF m 29 #[.val (.int nv), .val (.int aa), .val (.int bb), .val (.int ((nv &&& (2147483647 : Int32)) % (6 : Int32))), .val (.ref b1), .unset, .unset, .unset, .unset, .unset] [(.int (1 : Int32)), (.int bb), (.int aa), (.int (1 : Int32)), (.ref b1)])) rfl (by rw [hml]; rfl) (argsL := [(.int aa), (.int bb), (.int (1 : Int32))]) (rest := [(.int (1 : Int32)), (.ref b1)]) (lenOf pd_3 rfl) rfl (by show 2 * 0 + _ ≤ _; exact Nat.le_of_eq rfl) (hb hby at_29) (fun _ _ => ⟨rfl, e5, (by decide : 1 + 0 ≤ _), (by decide : 5 + 0 ≤ _)⟩)
  dsimp only [Pt.U, Pt.locs, Pt.cells, Pt.slots] at X7 l7 y7 z7 st7 hQ7
  subst y7 z7
  obtain ⟨rfl, N7q, e7⟩ := hQ7
  have N7 : Fr n0 L7 := by rw [l7]; exact Fr.app N5 N7q
  obtain ⟨cl8, Arcl8, hincl8, -⟩ := AF.at f6 (j := (1 : Int32)) 1 (by decide) (by decide)
  obtain ⟨T9, h9, X9, e9, W9, st9⟩ := stB X7 hx hZ e7 Arcl8 (j := (1 : Int32)) hincl8 (g := (mkF m 32 #[.val (.int nv), .val (.int aa), .val (.int bb), .val (.int ((nv &&& (2147483647 : Int32)) % (6 : Int32))), .val (.ref b1), .unset, .unset, .unset, .unset, .unset] [(.int (r1_v aa bb (1 : Int32))), (.int (1 : Int32)), (.ref b1)])) rfl rfl (hb hby at_32)
  rw [own_lb aa bb (1 : Int32)] at W9
  have N9 := Fr.snoc X9 N7 gg1
  have Z9 : n0 ≤ h9.size := Nat.le_trans Z5 (Keep.of_wr W9).1
  have f10 : AI Z h9 b1 .byte 5 (up (up zI 0 (r1_v aa bb (0 : Int32))) 1 (r1_v aa bb (1 : Int32))) := AF.setI f6 W9 1 (by decide)
  obtain ⟨_, _, ⟨T11, L11, k11, n11⟩, -, X11, ⟨Lc11, hQ11, l11, y11, z11⟩, st11⟩ := Jvm.LawKit.callS X9 hx (y := (⟨"skipstitch/table/PrefixTableOptimisedPinLaw", "letter", "(III)B"⟩ : MethodName)) hown (mvT hZ (hw _ (List.mem_of_getElem? (i := 2) rfl))) (mvT hZ (hw _ (List.mem_of_getElem? (i := 3) rfl))) (mvT hZ (hw _ (List.mem_of_getElem? (i := 4) rfl))) (mvT hZ (hw _ (List.mem_of_getElem? (i := 5) rfl))) (by decide) (backOf (W := 2) (rm1 l Z a0 hw [] aa bb (2 : Int32) h9 n0 Z9 ) hZ (hw _ (List.mem_of_getElem? (i := 5) rfl)) (hw _ (List.mem_of_getElem? (i := 4) rfl)) (by decide) (by decide)) (g := (mkF m 39 #[.val (.int nv), .val (.int aa), .val (.int bb), .val (.int ((nv &&& (2147483647 : Int32)) % (6 : Int32))), .val (.ref b1), .unset, .unset, .unset, .unset, .unset] [(.int (2 : Int32)), (.int bb), (.int aa), (.int (2 : Int32)), (.ref b1)])) rfl (by rw [hml]; rfl) (argsL := [(.int aa), (.int bb), (.int (2 : Int32))]) (rest := [(.int (2 : Int32)), (.ref b1)]) (lenOf pd_3 rfl) rfl (by show 2 * 0 + _ ≤ _; exact Nat.le_of_eq rfl) (hb hby at_39) (fun _ _ => ⟨rfl, e9, (by decide : 1 + 0 ≤ _), (by decide : 5 + 0 ≤ _)⟩)
  dsimp only [Pt.U, Pt.locs, Pt.cells, Pt.slots] at X11 l11 y11 z11 st11 hQ11
  subst y11 z11
  obtain ⟨rfl, N11q, e11⟩ := hQ11
  have N11 : Fr n0 L11 := by rw [l11]; exact Fr.app N9 N11q
  obtain ⟨cl12, Arcl12, hincl12, -⟩ := AF.at f10 (j := (2 : Int32)) 2 (by decide) (by decide)
  obtain ⟨T13, h13, X13, e13, W13, st13⟩ := stB X11 hx hZ e11 Arcl12 (j := (2 : Int32)) hincl12 (g := (mkF m 42 #[.val (.int nv), .val (.int aa), .val (.int bb), .val (.int ((nv &&& (2147483647 : Int32)) % (6 : Int32))), .val (.ref b1), .unset, .unset, .unset, .unset, .unset] [(.int (r1_v aa bb (2 : Int32))), (.int (2 : Int32)), (.ref b1)])) rfl rfl (hb hby at_42)
  rw [own_lb aa bb (2 : Int32)] at W13
  have N13 := Fr.snoc X13 N11 gg1
  have Z13 : n0 ≤ h13.size := Nat.le_trans Z9 (Keep.of_wr W13).1
  have f14 : AI Z h13 b1 .byte 5 (up (up (up zI 0 (r1_v aa bb (0 : Int32))) 1 (r1_v aa bb (1 : Int32))) 2 (r1_v aa bb (2 : Int32))) := AF.setI f10 W13 2 (by decide)
  obtain ⟨_, _, ⟨T15, L15, k15, n15⟩, -, X15, ⟨Lc15, hQ15, l15, y15, z15⟩, st15⟩ := Jvm.LawKit.callS X13 hx (y := (⟨"skipstitch/table/PrefixTableOptimisedPinLaw", "letter", "(III)B"⟩ : MethodName)) hown (mvT hZ (hw _ (List.mem_of_getElem? (i := 2) rfl))) (mvT hZ (hw _ (List.mem_of_getElem? (i := 3) rfl))) (mvT hZ (hw _ (List.mem_of_getElem? (i := 4) rfl))) (mvT hZ (hw _ (List.mem_of_getElem? (i := 5) rfl))) (by decide) (backOf (W := 2) (rm1 l Z a0 hw [] aa bb (3 : Int32) h13 n0 Z13 ) hZ (hw _ (List.mem_of_getElem? (i := 5) rfl)) (hw _ (List.mem_of_getElem? (i := 4) rfl)) (by decide) (by decide)) (g := (mkF m 49 #[.val (.int nv), .val (.int aa), .val (.int bb), .val (.int ((nv &&& (2147483647 : Int32)) % (6 : Int32))), .val (.ref b1), .unset, .unset, .unset, .unset, .unset] [(.int (3 : Int32)), (.int bb), (.int aa), (.int (3 : Int32)), (.ref b1)])) rfl (by rw [hml]; rfl) (argsL := [(.int aa), (.int bb), (.int (3 : Int32))]) (rest := [(.int (3 : Int32)), (.ref b1)]) (lenOf pd_3 rfl) rfl (by show 2 * 0 + _ ≤ _; exact Nat.le_of_eq rfl) (hb hby at_49) (fun _ _ => ⟨rfl, e13, (by decide : 1 + 0 ≤ _), (by decide : 5 + 0 ≤ _)⟩)
  dsimp only [Pt.U, Pt.locs, Pt.cells, Pt.slots] at X15 l15 y15 z15 st15 hQ15
  subst y15 z15
  obtain ⟨rfl, N15q, e15⟩ := hQ15
  have N15 : Fr n0 L15 := by rw [l15]; exact Fr.app N13 N15q
  obtain ⟨cl16, Arcl16, hincl16, -⟩ := AF.at f14 (j := (3 : Int32)) 3 (by decide) (by decide)
  obtain ⟨T17, h17, X17, e17, W17, st17⟩ := stB X15 hx hZ e15 Arcl16 (j := (3 : Int32)) hincl16 (g := (mkF m 52 #[.val (.int nv), .val (.int aa), .val (.int bb), .val (.int ((nv &&& (2147483647 : Int32)) % (6 : Int32))), .val (.ref b1), .unset, .unset, .unset, .unset, .unset] [(.int (r1_v aa bb (3 : Int32))), (.int (3 : Int32)), (.ref b1)])) rfl rfl (hb hby at_52)
  rw [own_lb aa bb (3 : Int32)] at W17
  have N17 := Fr.snoc X17 N15 gg1
  have Z17 : n0 ≤ h17.size := Nat.le_trans Z13 (Keep.of_wr W17).1
  have f18 : AI Z h17 b1 .byte 5 (up (up (up (up zI 0 (r1_v aa bb (0 : Int32))) 1 (r1_v aa bb (1 : Int32))) 2 (r1_v aa bb (2 : Int32))) 3 (r1_v aa bb (3 : Int32))) := AF.setI f14 W17 3 (by decide)
  obtain ⟨_, _, ⟨T19, L19, k19, n19⟩, -, X19, ⟨Lc19, hQ19, l19, y19, z19⟩, st19⟩ := Jvm.LawKit.callS X17 hx (y := (⟨"skipstitch/table/PrefixTableOptimisedPinLaw", "letter", "(III)B"⟩ : MethodName)) hown (mvT hZ (hw _ (List.mem_of_getElem? (i := 2) rfl))) (mvT hZ (hw _ (List.mem_of_getElem? (i := 3) rfl))) (mvT hZ (hw _ (List.mem_of_getElem? (i := 4) rfl))) (mvT hZ (hw _ (List.mem_of_getElem? (i := 5) rfl))) (by decide) (backOf (W := 2) (rm1 l Z a0 hw [] aa bb (4 : Int32) h17 n0 Z17 ) hZ (hw _ (List.mem_of_getElem? (i := 5) rfl)) (hw _ (List.mem_of_getElem? (i := 4) rfl)) (by decide) (by decide)) (g := (mkF m 59 #[.val (.int nv), .val (.int aa), .val (.int bb), .val (.int ((nv &&& (2147483647 : Int32)) % (6 : Int32))), .val (.ref b1), .unset, .unset, .unset, .unset, .unset] [(.int (4 : Int32)), (.int bb), (.int aa), (.int (4 : Int32)), (.ref b1)])) rfl (by rw [hml]; rfl) (argsL := [(.int aa), (.int bb), (.int (4 : Int32))]) (rest := [(.int (4 : Int32)), (.ref b1)]) (lenOf pd_3 rfl) rfl (by show 2 * 0 + _ ≤ _; exact Nat.le_of_eq rfl) (hb hby at_59) (fun _ _ => ⟨rfl, e17, (by decide : 1 + 0 ≤ _), (by decide : 5 + 0 ≤ _)⟩)
  dsimp only [Pt.U, Pt.locs, Pt.cells, Pt.slots] at X19 l19 y19 z19 st19 hQ19
  subst y19 z19
  obtain ⟨rfl, N19q, e19⟩ := hQ19
  have N19 : Fr n0 L19 := by rw [l19]; exact Fr.app N17 N19q
  obtain ⟨cl20, Arcl20, hincl20, -⟩ := AF.at f18 (j := (4 : Int32)) 4 (by decide) (by decide)
  obtain ⟨T21, h21, X21, e21, W21, st21⟩ := stB X19 hx hZ e19 Arcl20 (j := (4 : Int32)) hincl20 (g := (mkF m 62 #[.val (.int nv), .val (.int aa), .val (.int bb), .val (.int ((nv &&& (2147483647 : Int32)) % (6 : Int32))), .val (.ref b1), .unset, .unset, .unset, .unset, .unset] [(.int (r1_v aa bb (4 : Int32))), (.int (4 : Int32)), (.ref b1)])) rfl rfl (hb hby at_62)
  rw [own_lb aa bb (4 : Int32)] at W21
  have N21 := Fr.snoc X21 N19 gg1
  have Z21 : n0 ≤ h21.size := Nat.le_trans Z17 (Keep.of_wr W21).1
  have f22 : AI Z h21 b1 .byte 5 (up (up (up (up (up zI 0 (r1_v aa bb (0 : Int32))) 1 (r1_v aa bb (1 : Int32))) 2 (r1_v aa bb (2 : Int32))) 3 (r1_v aa bb (3 : Int32))) 4 (r1_v aa bb (4 : Int32))) := AF.setI f18 W21 4 (by decide)
  have f23 : AI Z h21 b1 .byte 5 (own_FQ aa bb) := f22
  obtain ⟨T24, h24, k24, X24, e24, E24, A24, st24⟩ := newP X21 hx hZ (hw _ (List.mem_of_getElem? (i := 6) rfl)) e21 (g := (mkF m 64 #[.val (.int nv), .val (.int aa), .val (.int bb), .val (.int ((nv &&& (2147483647 : Int32)) % (6 : Int32))), .val (.ref b1), .unset, .unset, .unset, .unset, .unset] [(.int (5 : Int32))])) rfl (hb hby at_64) rfl (by decide) (cap := 5) (by decide) (by decide) (by decide) (by decide)
  obtain ⟨b24, g24⟩ : ∃ z, z = h21.size := ⟨_, rfl⟩
  rw [← g24] at A24 st24
  have ne25 : b1 ≠ b24 := Nat.ne_of_lt (Nat.lt_of_lt_of_le f23.lt (Nat.le_of_eq g24.symm))
  have gg24 : n0 ≤ b24 := Nat.le_trans Z21 (Nat.le_of_eq g24.symm)
  have f26 : AI Z h24 b1 .byte 5 (own_FQ aa bb) := f23.ext E24
  have Z24 : n0 ≤ h24.size := Nat.le_trans Z21 E24.1
  have f27 : AI Z h24 b24 .int 5 zI := AF.new A24 (by decide)
  obtain ⟨_, _, ⟨T28, L28, k28, n28⟩, -, X28, ⟨Lc28, hQ28, l28, y28, z28⟩, st28⟩ := Jvm.LawKit.callS X24 hx (y := (⟨"skipstitch/table/PrefixTableOptimisedPinLaw", "border", "([BI)I"⟩ : MethodName)) hown (mvT hZ (hw _ (List.mem_of_getElem? (i := 7) rfl))) (mvT hZ (hw _ (List.mem_of_getElem? (i := 8) rfl))) (mvT hZ (hw _ (List.mem_of_getElem? (i := 4) rfl))) (mvT hZ (hw _ (List.mem_of_getElem? (i := 9) rfl))) (by decide) (backOf (W := 2) (rm2k0 l Z a0 hw [] b1 (own_FQ aa bb) h24 n0 Z24 f26) hZ (hw _ (List.mem_of_getElem? (i := 9) rfl)) (hw _ (List.mem_of_getElem? (i := 4) rfl)) (by decide) (by decide)) (g := (mkF m 74 #[.val (.int nv), .val (.int aa), .val (.int bb), .val (.int ((nv &&& (2147483647 : Int32)) % (6 : Int32))), .val (.ref b1), .val (.ref b24), .unset, .unset, .unset, .unset] [(.int (0 : Int32)), (.ref b1), (.int (0 : Int32)), (.ref b24)])) rfl (by rw [hml]; rfl) (argsL := [(.ref b1), (.int (0 : Int32))]) (rest := [(.int (0 : Int32)), (.ref b24)]) (lenOf pd_4 rfl) rfl (by show 2 * 0 + _ ≤ _; exact Nat.le_of_eq rfl) (hb hby at_74) (fun _ _ => ⟨rfl, e24, (by decide : 2 + 0 ≤ _), (by decide : 10 + 0 ≤ _)⟩)
  dsimp only [Pt.U, Pt.locs, Pt.cells, Pt.slots] at X28 l28 y28 z28 st28 hQ28
  subst y28 z28
  obtain ⟨rfl, N28q, e28⟩ := hQ28
  have N28 : Fr n0 L28 := by rw [l28]; exact Fr.app N21 N28q
  obtain ⟨cl29, Arcl29, hincl29, -⟩ := AF.at f27 (j := (0 : Int32)) 0 (by decide) (by decide)
  obtain ⟨T30, h30, X30, e30, W30, st30⟩ := stI X28 hx hZ e28 Arcl29 (j := (0 : Int32)) hincl29 (g := (mkF m 77 #[.val (.int nv), .val (.int aa), .val (.int bb), .val (.int ((nv &&& (2147483647 : Int32)) % (6 : Int32))), .val (.ref b1), .val (.ref b24), .unset, .unset, .unset, .unset] [(.int (0 : Int32)), (.int (0 : Int32)), (.ref b24)])) rfl rfl (hb hby at_77)
  have N30 := Fr.snoc X30 N28 gg24
  have Z30 : n0 ≤ h30.size := Nat.le_trans Z24 (Keep.of_wr W30).1
  have f31 : AI Z h30 b24 .int 5 (up zI 0 (0 : Int32)) := AF.setI f27 W30 0 (by decide)
  have f32 : AI Z h30 b1 .byte 5 (own_FQ aa bb) := f26.other W30 ne25
  obtain ⟨_, _, ⟨T33, L33, k33, n33⟩, -, X33, ⟨Lc33, hQ33, l33, y33, z33⟩, st33⟩ := Jvm.LawKit.callS X30 hx (y := (⟨"skipstitch/table/PrefixTableOptimisedPinLaw", "border", "([BI)I"⟩ : MethodName)) hown (mvT hZ (hw _ (List.mem_of_getElem? (i := 7) rfl))) (mvT hZ (hw _ (List.mem_of_getElem? (i := 8) rfl))) (mvT hZ (hw _ (List.mem_of_getElem? (i := 4) rfl))) (mvT hZ (hw _ (List.mem_of_getElem? (i := 9) rfl))) (by decide) (backOf (W := 2) (rm2k1 l Z a0 hw [] b1 (own_FQ aa bb) h30 n0 Z30 f32) hZ (hw _ (List.mem_of_getElem? (i := 9) rfl)) (hw _ (List.mem_of_getElem? (i := 4) rfl)) (by decide) (by decide)) (g := (mkF m 84 #[.val (.int nv), .val (.int aa), .val (.int bb), .val (.int ((nv &&& (2147483647 : Int32)) % (6 : Int32))), .val (.ref b1), .val (.ref b24), .unset, .unset, .unset, .unset] [(.int (1 : Int32)), (.ref b1), (.int (1 : Int32)), (.ref b24)])) rfl (by rw [hml]; rfl) (argsL := [(.ref b1), (.int (1 : Int32))]) (rest := [(.int (1 : Int32)), (.ref b24)]) (lenOf pd_4 rfl) rfl (by show 2 * 0 + _ ≤ _; exact Nat.le_of_eq rfl) (hb hby at_84) (fun _ _ => ⟨rfl, e30, (by decide : 2 + 0 ≤ _), (by decide : 10 + 0 ≤ _)⟩)
  dsimp only [Pt.U, Pt.locs, Pt.cells, Pt.slots] at X33 l33 y33 z33 st33 hQ33
  subst y33 z33
  obtain ⟨rfl, N33q, e33⟩ := hQ33
  have N33 : Fr n0 L33 := by rw [l33]; exact Fr.app N30 N33q
  obtain ⟨cl34, Arcl34, hincl34, -⟩ := AF.at f31 (j := (1 : Int32)) 1 (by decide) (by decide)
  obtain ⟨T35, h35, X35, e35, W35, st35⟩ := stI X33 hx hZ e33 Arcl34 (j := (1 : Int32)) hincl34 (g := (mkF m 87 #[.val (.int nv), .val (.int aa), .val (.int bb), .val (.int ((nv &&& (2147483647 : Int32)) % (6 : Int32))), .val (.ref b1), .val (.ref b24), .unset, .unset, .unset, .unset] [(.int (r2k1_v (own_FQ aa bb))), (.int (1 : Int32)), (.ref b24)])) rfl rfl (hb hby at_87)
  have N35 := Fr.snoc X35 N33 gg24
  have Z35 : n0 ≤ h35.size := Nat.le_trans Z30 (Keep.of_wr W35).1
  have f36 : AI Z h35 b24 .int 5 (up (up zI 0 (0 : Int32)) 1 (r2k1_v (own_FQ aa bb))) := AF.setI f31 W35 1 (by decide)
  have f37 : AI Z h35 b1 .byte 5 (own_FQ aa bb) := f32.other W35 ne25
  obtain ⟨_, _, ⟨T38, L38, k38, n38⟩, -, X38, ⟨Lc38, hQ38, l38, y38, z38⟩, st38⟩ := Jvm.LawKit.callS X35 hx (y := (⟨"skipstitch/table/PrefixTableOptimisedPinLaw", "border", "([BI)I"⟩ : MethodName)) hown (mvT hZ (hw _ (List.mem_of_getElem? (i := 7) rfl))) (mvT hZ (hw _ (List.mem_of_getElem? (i := 8) rfl))) (mvT hZ (hw _ (List.mem_of_getElem? (i := 4) rfl))) (mvT hZ (hw _ (List.mem_of_getElem? (i := 9) rfl))) (by decide) (backOf (W := 2) (rm2k2 l Z a0 hw [] b1 (own_FQ aa bb) h35 n0 Z35 f37) hZ (hw _ (List.mem_of_getElem? (i := 9) rfl)) (hw _ (List.mem_of_getElem? (i := 4) rfl)) (by decide) (by decide)) (g := (mkF m 94 #[.val (.int nv), .val (.int aa), .val (.int bb), .val (.int ((nv &&& (2147483647 : Int32)) % (6 : Int32))), .val (.ref b1), .val (.ref b24), .unset, .unset, .unset, .unset] [(.int (2 : Int32)), (.ref b1), (.int (2 : Int32)), (.ref b24)])) rfl (by rw [hml]; rfl) (argsL := [(.ref b1), (.int (2 : Int32))]) (rest := [(.int (2 : Int32)), (.ref b24)]) (lenOf pd_4 rfl) rfl (by show 2 * 0 + _ ≤ _; exact Nat.le_of_eq rfl) (hb hby at_94) (fun _ _ => ⟨rfl, e35, (by decide : 2 + 0 ≤ _), (by decide : 10 + 0 ≤ _)⟩)
  dsimp only [Pt.U, Pt.locs, Pt.cells, Pt.slots] at X38 l38 y38 z38 st38 hQ38
  subst y38 z38
  obtain ⟨rfl, N38q, e38⟩ := hQ38
  have N38 : Fr n0 L38 := by rw [l38]; exact Fr.app N35 N38q
  obtain ⟨cl39, Arcl39, hincl39, -⟩ := AF.at f36 (j := (2 : Int32)) 2 (by decide) (by decide)
  obtain ⟨T40, h40, X40, e40, W40, st40⟩ := stI X38 hx hZ e38 Arcl39 (j := (2 : Int32)) hincl39 (g := (mkF m 97 #[.val (.int nv), .val (.int aa), .val (.int bb), .val (.int ((nv &&& (2147483647 : Int32)) % (6 : Int32))), .val (.ref b1), .val (.ref b24), .unset, .unset, .unset, .unset] [(.int (r2k2_v (own_FQ aa bb))), (.int (2 : Int32)), (.ref b24)])) rfl rfl (hb hby at_97)
  have N40 := Fr.snoc X40 N38 gg24
  have Z40 : n0 ≤ h40.size := Nat.le_trans Z35 (Keep.of_wr W40).1
  have f41 : AI Z h40 b24 .int 5 (up (up (up zI 0 (0 : Int32)) 1 (r2k1_v (own_FQ aa bb))) 2 (r2k2_v (own_FQ aa bb))) := AF.setI f36 W40 2 (by decide)
  have f42 : AI Z h40 b1 .byte 5 (own_FQ aa bb) := f37.other W40 ne25
  obtain ⟨_, _, ⟨T43, L43, k43, n43⟩, -, X43, ⟨Lc43, hQ43, l43, y43, z43⟩, st43⟩ := Jvm.LawKit.callS X40 hx (y := (⟨"skipstitch/table/PrefixTableOptimisedPinLaw", "border", "([BI)I"⟩ : MethodName)) hown (mvT hZ (hw _ (List.mem_of_getElem? (i := 7) rfl))) (mvT hZ (hw _ (List.mem_of_getElem? (i := 8) rfl))) (mvT hZ (hw _ (List.mem_of_getElem? (i := 4) rfl))) (mvT hZ (hw _ (List.mem_of_getElem? (i := 9) rfl))) (by decide) (backOf (W := 2) (rm2k3 l Z a0 hw [] b1 (own_FQ aa bb) h40 n0 Z40 f42) hZ (hw _ (List.mem_of_getElem? (i := 9) rfl)) (hw _ (List.mem_of_getElem? (i := 4) rfl)) (by decide) (by decide)) (g := (mkF m 104 #[.val (.int nv), .val (.int aa), .val (.int bb), .val (.int ((nv &&& (2147483647 : Int32)) % (6 : Int32))), .val (.ref b1), .val (.ref b24), .unset, .unset, .unset, .unset] [(.int (3 : Int32)), (.ref b1), (.int (3 : Int32)), (.ref b24)])) rfl (by rw [hml]; rfl) (argsL := [(.ref b1), (.int (3 : Int32))]) (rest := [(.int (3 : Int32)), (.ref b24)]) (lenOf pd_4 rfl) rfl (by show 2 * 0 + _ ≤ _; exact Nat.le_of_eq rfl) (hb hby at_104) (fun _ _ => ⟨rfl, e40, (by decide : 2 + 0 ≤ _), (by decide : 10 + 0 ≤ _)⟩)
  dsimp only [Pt.U, Pt.locs, Pt.cells, Pt.slots] at X43 l43 y43 z43 st43 hQ43
  subst y43 z43
  obtain ⟨rfl, N43q, e43⟩ := hQ43
  have N43 : Fr n0 L43 := by rw [l43]; exact Fr.app N40 N43q
  obtain ⟨cl44, Arcl44, hincl44, -⟩ := AF.at f41 (j := (3 : Int32)) 3 (by decide) (by decide)
  obtain ⟨T45, h45, X45, e45, W45, st45⟩ := stI X43 hx hZ e43 Arcl44 (j := (3 : Int32)) hincl44 (g := (mkF m 107 #[.val (.int nv), .val (.int aa), .val (.int bb), .val (.int ((nv &&& (2147483647 : Int32)) % (6 : Int32))), .val (.ref b1), .val (.ref b24), .unset, .unset, .unset, .unset] [(.int (r2k3_v (own_FQ aa bb))), (.int (3 : Int32)), (.ref b24)])) rfl rfl (hb hby at_107)
  have N45 := Fr.snoc X45 N43 gg24
  have Z45 : n0 ≤ h45.size := Nat.le_trans Z40 (Keep.of_wr W45).1
  have f46 : AI Z h45 b24 .int 5 (up (up (up (up zI 0 (0 : Int32)) 1 (r2k1_v (own_FQ aa bb))) 2 (r2k2_v (own_FQ aa bb))) 3 (r2k3_v (own_FQ aa bb))) := AF.setI f41 W45 3 (by decide)
  have f47 : AI Z h45 b1 .byte 5 (own_FQ aa bb) := f42.other W45 ne25
  obtain ⟨_, _, ⟨T48, L48, k48, n48⟩, -, X48, ⟨Lc48, hQ48, l48, y48, z48⟩, st48⟩ := Jvm.LawKit.callS X45 hx (y := (⟨"skipstitch/table/PrefixTableOptimisedPinLaw", "border", "([BI)I"⟩ : MethodName)) hown (mvT hZ (hw _ (List.mem_of_getElem? (i := 7) rfl))) (mvT hZ (hw _ (List.mem_of_getElem? (i := 8) rfl))) (mvT hZ (hw _ (List.mem_of_getElem? (i := 4) rfl))) (mvT hZ (hw _ (List.mem_of_getElem? (i := 9) rfl))) (by decide) (backOf (W := 2) (rm2k4 l Z a0 hw [] b1 (own_FQ aa bb) h45 n0 Z45 f47) hZ (hw _ (List.mem_of_getElem? (i := 9) rfl)) (hw _ (List.mem_of_getElem? (i := 4) rfl)) (by decide) (by decide)) (g := (mkF m 114 #[.val (.int nv), .val (.int aa), .val (.int bb), .val (.int ((nv &&& (2147483647 : Int32)) % (6 : Int32))), .val (.ref b1), .val (.ref b24), .unset, .unset, .unset, .unset] [(.int (4 : Int32)), (.ref b1), (.int (4 : Int32)), (.ref b24)])) rfl (by rw [hml]; rfl) (argsL := [(.ref b1), (.int (4 : Int32))]) (rest := [(.int (4 : Int32)), (.ref b24)]) (lenOf pd_4 rfl) rfl (by show 2 * 0 + _ ≤ _; exact Nat.le_of_eq rfl) (hb hby at_114) (fun _ _ => ⟨rfl, e45, (by decide : 2 + 0 ≤ _), (by decide : 10 + 0 ≤ _)⟩)
  dsimp only [Pt.U, Pt.locs, Pt.cells, Pt.slots] at X48 l48 y48 z48 st48 hQ48
  subst y48 z48
  obtain ⟨rfl, N48q, e48⟩ := hQ48
  have N48 : Fr n0 L48 := by rw [l48]; exact Fr.app N45 N48q
  obtain ⟨cl49, Arcl49, hincl49, -⟩ := AF.at f46 (j := (4 : Int32)) 4 (by decide) (by decide)
  obtain ⟨T50, h50, X50, e50, W50, st50⟩ := stI X48 hx hZ e48 Arcl49 (j := (4 : Int32)) hincl49 (g := (mkF m 117 #[.val (.int nv), .val (.int aa), .val (.int bb), .val (.int ((nv &&& (2147483647 : Int32)) % (6 : Int32))), .val (.ref b1), .val (.ref b24), .unset, .unset, .unset, .unset] [(.int (r2k4_v (own_FQ aa bb))), (.int (4 : Int32)), (.ref b24)])) rfl rfl (hb hby at_117)
  have N50 := Fr.snoc X50 N48 gg24
  have Z50 : n0 ≤ h50.size := Nat.le_trans Z45 (Keep.of_wr W50).1
  have f51 : AI Z h50 b24 .int 5 (up (up (up (up (up zI 0 (0 : Int32)) 1 (r2k1_v (own_FQ aa bb))) 2 (r2k2_v (own_FQ aa bb))) 3 (r2k3_v (own_FQ aa bb))) 4 (r2k4_v (own_FQ aa bb))) := AF.setI f46 W50 4 (by decide)
  have f52 : AI Z h50 b1 .byte 5 (own_FQ aa bb) := f47.other W50 ne25
  have f53 : AI Z h50 b24 .int 5 (own_FT aa bb) := f51
  have pre54 : ∀ t, Steps p.tables e below (T50.setTop (mkF m 119 #[.val (.int nv), .val (.int aa), .val (.int bb), .val (.int ((nv &&& (2147483647 : Int32)) % (6 : Int32))), .val (.ref b1), .val (.ref b24), .unset, .unset, .unset, .unset] [(.int ((nv &&& (2147483647 : Int32)) % (6 : Int32)))])) t → Steps p.tables e below (s₁.setTop (entryFrame m #[(.int nv), (.int aa), (.int bb)] maxLocals)) t := by
    intro t k
    refine pre0 _ ?_
    refine XS.iloadN X0.here hx rfl (hb hby at_0) rfl ?_
    refine X0.ldcInt hx hown (mvT hZ (hw _ (List.mem_of_getElem? (i := 0) rfl))) (g := (mkF m 1 #[.val (.int nv), .val (.int aa), .val (.int bb), .unset, .unset, .unset, .unset, .unset, .unset, .unset] [(.int nv)])) rfl (hb hby at_1) _ ?_
    refine XS.iand X0.here hx rfl (hb hby at_3) rfl ?_
    refine XS.bipush X0.here hx rfl (hb hby at_4) ?_
    refine iremM X0 hx rfl (hb hby at_6) rfl (by decide) ?_
    refine XS.istoreN X0.here hx rfl (hb hby at_7) rfl (l' := #[.val (.int nv), .val (.int aa), .val (.int bb), .val (.int ((nv &&& (2147483647 : Int32)) % (6 : Int32))), .unset, .unset, .unset, .unset, .unset, .unset]) rfl ?_
    refine XS.iconst X0.here hx rfl (hb hby at_8) ?_
    refine st1 _ ?_
    refine XS.astore X1.here hx rfl (hb hby at_11) rfl rfl (l' := #[.val (.int nv), .val (.int aa), .val (.int bb), .val (.int ((nv &&& (2147483647 : Int32)) % (6 : Int32))), .val (.ref b1), .unset, .unset, .unset, .unset, .unset]) rfl ?_
    refine XS.aload X1.here hx rfl (hb hby at_13) rfl rfl ?_
    refine XS.iconst X1.here hx rfl (hb hby at_15) ?_
    refine XS.iloadN X1.here hx rfl (hb hby at_16) rfl ?_
    refine XS.iloadN X1.here hx rfl (hb hby at_17) rfl ?_
    refine XS.iconst X1.here hx rfl (hb hby at_18) ?_
    refine st3 _ ?_
    refine st5 _ ?_
    refine XS.aload X5.here hx rfl (hb hby at_23) rfl rfl ?_
    refine XS.iconst X5.here hx rfl (hb hby at_25) ?_
    refine XS.iloadN X5.here hx rfl (hb hby at_26) rfl ?_
    refine XS.iloadN X5.here hx rfl (hb hby at_27) rfl ?_
    refine XS.iconst X5.here hx rfl (hb hby at_28) ?_
    refine st7 _ ?_
    refine st9 _ ?_
    refine XS.aload X9.here hx rfl (hb hby at_33) rfl rfl ?_
    refine XS.iconst X9.here hx rfl (hb hby at_35) ?_
    refine XS.iloadN X9.here hx rfl (hb hby at_36) rfl ?_
    refine XS.iloadN X9.here hx rfl (hb hby at_37) rfl ?_
    refine XS.iconst X9.here hx rfl (hb hby at_38) ?_
    refine st11 _ ?_
    refine st13 _ ?_
    refine XS.aload X13.here hx rfl (hb hby at_43) rfl rfl ?_
    refine XS.iconst X13.here hx rfl (hb hby at_45) ?_
    refine XS.iloadN X13.here hx rfl (hb hby at_46) rfl ?_
    refine XS.iloadN X13.here hx rfl (hb hby at_47) rfl ?_
    refine XS.iconst X13.here hx rfl (hb hby at_48) ?_
    refine st15 _ ?_
    refine st17 _ ?_
    refine XS.aload X17.here hx rfl (hb hby at_53) rfl rfl ?_
    refine XS.iconst X17.here hx rfl (hb hby at_55) ?_
    refine XS.iloadN X17.here hx rfl (hb hby at_56) rfl ?_
    refine XS.iloadN X17.here hx rfl (hb hby at_57) rfl ?_
    refine XS.iconst X17.here hx rfl (hb hby at_58) ?_
    refine st19 _ ?_
    refine st21 _ ?_
    refine XS.iconst X21.here hx rfl (hb hby at_63) ?_
    refine st24 _ ?_
    refine XS.astore X24.here hx rfl (hb hby at_66) rfl rfl (l' := #[.val (.int nv), .val (.int aa), .val (.int bb), .val (.int ((nv &&& (2147483647 : Int32)) % (6 : Int32))), .val (.ref b1), .val (.ref b24), .unset, .unset, .unset, .unset]) rfl ?_
    refine XS.aload X24.here hx rfl (hb hby at_68) rfl rfl ?_
    refine XS.iconst X24.here hx rfl (hb hby at_70) ?_
    refine XS.aload X24.here hx rfl (hb hby at_71) rfl rfl ?_
    refine XS.iconst X24.here hx rfl (hb hby at_73) ?_
    refine st28 _ ?_
    refine st30 _ ?_
    refine XS.aload X30.here hx rfl (hb hby at_78) rfl rfl ?_
    refine XS.iconst X30.here hx rfl (hb hby at_80) ?_
    refine XS.aload X30.here hx rfl (hb hby at_81) rfl rfl ?_
    refine XS.iconst X30.here hx rfl (hb hby at_83) ?_
    refine st33 _ ?_
    refine st35 _ ?_
    refine XS.aload X35.here hx rfl (hb hby at_88) rfl rfl ?_
    refine XS.iconst X35.here hx rfl (hb hby at_90) ?_
    refine XS.aload X35.here hx rfl (hb hby at_91) rfl rfl ?_
    refine XS.iconst X35.here hx rfl (hb hby at_93) ?_
    refine st38 _ ?_
    refine st40 _ ?_
    refine XS.aload X40.here hx rfl (hb hby at_98) rfl rfl ?_
    refine XS.iconst X40.here hx rfl (hb hby at_100) ?_
    refine XS.aload X40.here hx rfl (hb hby at_101) rfl rfl ?_
    refine XS.iconst X40.here hx rfl (hb hby at_103) ?_
    refine st43 _ ?_
    refine st45 _ ?_
    refine XS.aload X45.here hx rfl (hb hby at_108) rfl rfl ?_
    refine XS.iconst X45.here hx rfl (hb hby at_110) ?_
    refine XS.aload X45.here hx rfl (hb hby at_111) rfl rfl ?_
    refine XS.iconst X45.here hx rfl (hb hby at_113) ?_
    refine st48 _ ?_
    refine st50 _ ?_
    refine XS.iloadN X50.here hx rfl (hb hby at_118) rfl ?_
    exact k
  rcases own_m nv with hk55 | hk55 | hk55 | hk55 | hk55 | hk55
  · have pre56 : ∀ t, Steps p.tables e below (T50.setTop (mkF m 119 #[.val (.int nv), .val (.int aa), .val (.int bb), .val (.int (0 : Int32)), .val (.ref b1), .val (.ref b24), .unset, .unset, .unset, .unset] [(.int (0 : Int32))])) t → Steps p.tables e below (s₁.setTop (entryFrame m #[(.int nv), (.int aa), (.int bb)] maxLocals)) t := by
      intro t k
      refine pre54 _ ?_
      rw [hk55]
      exact k
    obtain ⟨T57, h57, k57, X57, e57, E57, A57, st57⟩ := newP X50 hx hZ (hw _ (List.mem_of_getElem? (i := 1) rfl)) e50 (g := (mkF m 119 #[.val (.int nv), .val (.int aa), .val (.int bb), .val (.int (0 : Int32)), .val (.ref b1), .val (.ref b24), .unset, .unset, .unset, .unset] [(.int (0 : Int32))])) rfl (hb hby at_119) rfl (by decide) (cap := 0) (by decide) (by decide) (by decide) (by decide)
    obtain ⟨b57, g57⟩ : ∃ z, z = h50.size := ⟨_, rfl⟩
    rw [← g57] at A57 st57
    have ne58 : b1 ≠ b57 := Nat.ne_of_lt (Nat.lt_of_lt_of_le f52.lt (Nat.le_of_eq g57.symm))
    have ne59 : b24 ≠ b57 := Nat.ne_of_lt (Nat.lt_of_lt_of_le f53.lt (Nat.le_of_eq g57.symm))
    have gg57 : n0 ≤ b57 := Nat.le_trans Z50 (Nat.le_of_eq g57.symm)
    have f60 : AI Z h57 b1 .byte 5 (own_FQ aa bb) := f52.ext E57
    have f61 : AI Z h57 b24 .int 5 (own_FT aa bb) := f53.ext E57
    have Z57 : n0 ≤ h57.size := Nat.le_trans Z50 E57.1
    have f62 : AI Z h57 b57 .byte 0 zI := AF.new A57 (by decide)
    obtain ⟨T63, h63, k63, X63, e63, E63, A63, st63⟩ := newP X57 hx hZ (hw _ (List.mem_of_getElem? (i := 6) rfl)) e57 (g := (mkF m 124 #[.val (.int nv), .val (.int aa), .val (.int bb), .val (.int (0 : Int32)), .val (.ref b1), .val (.ref b24), .val (.ref b57), .unset, .unset, .unset] [(.int (0 : Int32))])) rfl (hb hby at_124) rfl (by decide) (cap := 0) (by decide) (by decide) (by decide) (by decide)
    obtain ⟨b63, g63⟩ : ∃ z, z = h57.size := ⟨_, rfl⟩
    rw [← g63] at A63 st63
    have ne64 : b1 ≠ b63 := Nat.ne_of_lt (Nat.lt_of_lt_of_le f60.lt (Nat.le_of_eq g63.symm))
    have ne65 : b24 ≠ b63 := Nat.ne_of_lt (Nat.lt_of_lt_of_le f61.lt (Nat.le_of_eq g63.symm))
    have ne66 : b57 ≠ b63 := Nat.ne_of_lt (Nat.lt_of_lt_of_le f62.lt (Nat.le_of_eq g63.symm))
    have gg63 : n0 ≤ b63 := Nat.le_trans Z57 (Nat.le_of_eq g63.symm)
    have f67 : AI Z h63 b1 .byte 5 (own_FQ aa bb) := f60.ext E63
    have f68 : AI Z h63 b24 .int 5 (own_FT aa bb) := f61.ext E63
    have f69 : AI Z h63 b57 .byte 0 zI := f62.ext E63
    have Z63 : n0 ≤ h63.size := Nat.le_trans Z57 E63.1
    have f70 : AI Z h63 b63 .int 0 zI := AF.new A63 (by decide)
    have f71 : AI Z h63 b57 .byte 0 (own_FP0) := f69
    have f72 : AI Z h63 b63 .int 0 (own_FS0) := f70
    obtain ⟨_, _, ⟨T73, L73, k73, n73⟩, -, X73, ⟨Lc73, hQ73, l73, y73, z73⟩, st73⟩ := Jvm.LawKit.callS X63 hx (y := (⟨"skipstitch/table/PrefixTable", "optimised", "([B[I)[I"⟩ : MethodName)) hown (mvT hZ (hw _ (List.mem_of_getElem? (i := 13) rfl))) (mvT hZ (hw _ (List.mem_of_getElem? (i := 14) rfl))) (mvT hZ (hw _ (List.mem_of_getElem? (i := 15) rfl))) (mvT hZ (hw _ (List.mem_of_getElem? (i := 16) rfl))) (by decide) (backOf (W := 0) (rm4k0 l Z a0 hw [] b57 b63 (own_FP0) (own_FS0) h63 n0 Z63 f71 f72 (own_hfz0 aa bb)) hZ (hw _ (List.mem_of_getElem? (i := 16) rfl)) (hw _ (List.mem_of_getElem? (i := 15) rfl)) (by decide) (by decide)) (g := (mkF m 236 #[.val (.int nv), .val (.int aa), .val (.int bb), .val (.int (0 : Int32)), .val (.ref b1), .val (.ref b24), .val (.ref b57), .val (.ref b63), .unset, .unset] [(.ref b63), (.ref b57)])) rfl (by rw [hml]; rfl) (argsL := [(.ref b57), (.ref b63)]) (rest := []) (lenOf pd_5 rfl) rfl (by show 2 * 0 + _ ≤ _; exact Nat.le_of_eq rfl) (hb hby at_236) (fun _ _ => ⟨rfl, e63, (by decide : 4 + 1 ≤ _), (by decide : 10 + 0 ≤ _)⟩)
    dsimp only [Pt.U, Pt.locs, Pt.cells, Pt.slots] at X73 l73 y73 z73 st73 hQ73
    subst y73 z73
    obtain ⟨b74, ggb74, szb74, rfl, N73q, K73c, f75⟩ := hQ73
    have N73 : Fr n0 L73 := by rw [l73]; exact Fr.app N50 N73q
    have ne76 : b1 ≠ b74 := Nat.ne_of_lt (Nat.lt_of_lt_of_le f67.lt szb74)
    have ne77 : b24 ≠ b74 := Nat.ne_of_lt (Nat.lt_of_lt_of_le f68.lt szb74)
    have ne78 : b57 ≠ b74 := Nat.ne_of_lt (Nat.lt_of_lt_of_le f71.lt szb74)
    have ne79 : b63 ≠ b74 := Nat.ne_of_lt (Nat.lt_of_lt_of_le f72.lt szb74)
    have f80 : AI Z T73.heap b1 .byte 5 (own_FQ aa bb) := f67.keep K73c nin0
    have f81 : AI Z T73.heap b24 .int 5 (own_FT aa bb) := f68.keep K73c nin0
    have f82 : AI Z T73.heap b57 .byte 0 (own_FP0) := f71.keep K73c nin0
    have f83 : AI Z T73.heap b63 .int 0 (own_FS0) := f72.keep K73c nin0
    have Z73 : n0 ≤ T73.heap.size := Nat.le_trans Z63 K73c.1
    obtain ⟨cl84, Arcl84, Szcl84⟩ := AF.len f75
    obtain ⟨_, _, ⟨T85, L85, k85, n85⟩, -, X85, ⟨Lc85, hQ85, l85, y85, z85⟩, st85⟩ := Jvm.LawKit.callS X73 hx (y := (⟨"skipstitch/table/PrefixTableOptimisedPinLaw", "at", "([II[B[II)Z"⟩ : MethodName)) hown (mvT hZ (hw _ (List.mem_of_getElem? (i := 17) rfl))) (mvT hZ (hw _ (List.mem_of_getElem? (i := 18) rfl))) (mvT hZ (hw _ (List.mem_of_getElem? (i := 4) rfl))) (mvT hZ (hw _ (List.mem_of_getElem? (i := 19) rfl))) (by decide) (backOf (W := 1) (rm5c l Z a0 hw [] b74 (0 : Int32) b1 b24 (0 : Int32) T73.heap n0 Z73 (by decide)) hZ (hw _ (List.mem_of_getElem? (i := 19) rfl)) (hw _ (List.mem_of_getElem? (i := 4) rfl)) (by decide) (by decide)) (g := (mkF m 275 #[.val (.int nv), .val (.int aa), .val (.int bb), .val (.int (0 : Int32)), .val (.ref b1), .val (.ref b24), .val (.ref b57), .val (.ref b63), .val (.ref b74), .val (.int (1 : Int32))] [(.int (0 : Int32)), (.ref b24), (.ref b1), (.int (0 : Int32)), (.ref b74), (.int (1 : Int32))])) rfl (by rw [hml]; rfl) (argsL := [(.ref b74), (.int (0 : Int32)), (.ref b1), (.ref b24), (.int (0 : Int32))]) (rest := [(.int (1 : Int32))]) (lenOf pd_6 rfl) rfl (by show 2 * 0 + _ ≤ _; exact Nat.le_of_eq rfl) (hb hby at_275) (fun _ _ => ⟨rfl, rfl, (by decide : 5 + 0 ≤ _), (by decide : 10 + 0 ≤ _)⟩)
    dsimp only [Pt.U, Pt.locs, Pt.cells, Pt.slots] at X85 l85 y85 z85 st85 hQ85
    subst y85 z85
    obtain ⟨rfl, N85q, e85⟩ := hQ85
    have N85 : Fr n0 L85 := by rw [l85]; exact Fr.app N73 N85q
    obtain ⟨_, _, ⟨T86, L86, k86, n86⟩, -, X86, ⟨Lc86, hQ86, l86, y86, z86⟩, st86⟩ := Jvm.LawKit.callS X85 hx (y := (⟨"skipstitch/table/PrefixTableOptimisedPinLaw", "at", "([II[B[II)Z"⟩ : MethodName)) hown (mvT hZ (hw _ (List.mem_of_getElem? (i := 17) rfl))) (mvT hZ (hw _ (List.mem_of_getElem? (i := 18) rfl))) (mvT hZ (hw _ (List.mem_of_getElem? (i := 4) rfl))) (mvT hZ (hw _ (List.mem_of_getElem? (i := 19) rfl))) (by decide) (backOf (W := 1) (rm5c l Z a0 hw [] b74 (0 : Int32) b1 b24 (1 : Int32) T73.heap n0 Z73 (by decide)) hZ (hw _ (List.mem_of_getElem? (i := 19) rfl)) (hw _ (List.mem_of_getElem? (i := 4) rfl)) (by decide) (by decide)) (g := (mkF m 291 #[.val (.int nv), .val (.int aa), .val (.int bb), .val (.int (0 : Int32)), .val (.ref b1), .val (.ref b24), .val (.ref b57), .val (.ref b63), .val (.ref b74), .val (.int (1 : Int32))] [(.int (1 : Int32)), (.ref b24), (.ref b1), (.int (0 : Int32)), (.ref b74), (.int (1 : Int32))])) rfl (by rw [hml]; rfl) (argsL := [(.ref b74), (.int (0 : Int32)), (.ref b1), (.ref b24), (.int (1 : Int32))]) (rest := [(.int (1 : Int32))]) (lenOf pd_6 rfl) rfl (by show 2 * 0 + _ ≤ _; exact Nat.le_of_eq rfl) (hb hby at_291) (fun _ _ => ⟨rfl, e85, (by decide : 5 + 0 ≤ _), (by decide : 10 + 0 ≤ _)⟩)
    dsimp only [Pt.U, Pt.locs, Pt.cells, Pt.slots] at X86 l86 y86 z86 st86 hQ86
    subst y86 z86
    obtain ⟨rfl, N86q, e86⟩ := hQ86
    have N86 : Fr n0 L86 := by rw [l86]; exact Fr.app N85 N86q
    obtain ⟨_, _, ⟨T87, L87, k87, n87⟩, -, X87, ⟨Lc87, hQ87, l87, y87, z87⟩, st87⟩ := Jvm.LawKit.callS X86 hx (y := (⟨"skipstitch/table/PrefixTableOptimisedPinLaw", "at", "([II[B[II)Z"⟩ : MethodName)) hown (mvT hZ (hw _ (List.mem_of_getElem? (i := 17) rfl))) (mvT hZ (hw _ (List.mem_of_getElem? (i := 18) rfl))) (mvT hZ (hw _ (List.mem_of_getElem? (i := 4) rfl))) (mvT hZ (hw _ (List.mem_of_getElem? (i := 19) rfl))) (by decide) (backOf (W := 1) (rm5c l Z a0 hw [] b74 (0 : Int32) b1 b24 (2 : Int32) T73.heap n0 Z73 (by decide)) hZ (hw _ (List.mem_of_getElem? (i := 19) rfl)) (hw _ (List.mem_of_getElem? (i := 4) rfl)) (by decide) (by decide)) (g := (mkF m 307 #[.val (.int nv), .val (.int aa), .val (.int bb), .val (.int (0 : Int32)), .val (.ref b1), .val (.ref b24), .val (.ref b57), .val (.ref b63), .val (.ref b74), .val (.int (1 : Int32))] [(.int (2 : Int32)), (.ref b24), (.ref b1), (.int (0 : Int32)), (.ref b74), (.int (1 : Int32))])) rfl (by rw [hml]; rfl) (argsL := [(.ref b74), (.int (0 : Int32)), (.ref b1), (.ref b24), (.int (2 : Int32))]) (rest := [(.int (1 : Int32))]) (lenOf pd_6 rfl) rfl (by show 2 * 0 + _ ≤ _; exact Nat.le_of_eq rfl) (hb hby at_307) (fun _ _ => ⟨rfl, e86, (by decide : 5 + 0 ≤ _), (by decide : 10 + 0 ≤ _)⟩)
    dsimp only [Pt.U, Pt.locs, Pt.cells, Pt.slots] at X87 l87 y87 z87 st87 hQ87
    subst y87 z87
    obtain ⟨rfl, N87q, e87⟩ := hQ87
    have N87 : Fr n0 L87 := by rw [l87]; exact Fr.app N86 N87q
    obtain ⟨_, _, ⟨T88, L88, k88, n88⟩, -, X88, ⟨Lc88, hQ88, l88, y88, z88⟩, st88⟩ := Jvm.LawKit.callS X87 hx (y := (⟨"skipstitch/table/PrefixTableOptimisedPinLaw", "at", "([II[B[II)Z"⟩ : MethodName)) hown (mvT hZ (hw _ (List.mem_of_getElem? (i := 17) rfl))) (mvT hZ (hw _ (List.mem_of_getElem? (i := 18) rfl))) (mvT hZ (hw _ (List.mem_of_getElem? (i := 4) rfl))) (mvT hZ (hw _ (List.mem_of_getElem? (i := 19) rfl))) (by decide) (backOf (W := 1) (rm5c l Z a0 hw [] b74 (0 : Int32) b1 b24 (3 : Int32) T73.heap n0 Z73 (by decide)) hZ (hw _ (List.mem_of_getElem? (i := 19) rfl)) (hw _ (List.mem_of_getElem? (i := 4) rfl)) (by decide) (by decide)) (g := (mkF m 323 #[.val (.int nv), .val (.int aa), .val (.int bb), .val (.int (0 : Int32)), .val (.ref b1), .val (.ref b24), .val (.ref b57), .val (.ref b63), .val (.ref b74), .val (.int (1 : Int32))] [(.int (3 : Int32)), (.ref b24), (.ref b1), (.int (0 : Int32)), (.ref b74), (.int (1 : Int32))])) rfl (by rw [hml]; rfl) (argsL := [(.ref b74), (.int (0 : Int32)), (.ref b1), (.ref b24), (.int (3 : Int32))]) (rest := [(.int (1 : Int32))]) (lenOf pd_6 rfl) rfl (by show 2 * 0 + _ ≤ _; exact Nat.le_of_eq rfl) (hb hby at_323) (fun _ _ => ⟨rfl, e87, (by decide : 5 + 0 ≤ _), (by decide : 10 + 0 ≤ _)⟩)
    dsimp only [Pt.U, Pt.locs, Pt.cells, Pt.slots] at X88 l88 y88 z88 st88 hQ88
    subst y88 z88
    obtain ⟨rfl, N88q, e88⟩ := hQ88
    have N88 : Fr n0 L88 := by rw [l88]; exact Fr.app N87 N88q
    obtain ⟨_, _, ⟨T89, L89, k89, n89⟩, -, X89, ⟨Lc89, hQ89, l89, y89, z89⟩, st89⟩ := Jvm.LawKit.callS X88 hx (y := (⟨"skipstitch/table/PrefixTableOptimisedPinLaw", "at", "([II[B[II)Z"⟩ : MethodName)) hown (mvT hZ (hw _ (List.mem_of_getElem? (i := 17) rfl))) (mvT hZ (hw _ (List.mem_of_getElem? (i := 18) rfl))) (mvT hZ (hw _ (List.mem_of_getElem? (i := 4) rfl))) (mvT hZ (hw _ (List.mem_of_getElem? (i := 19) rfl))) (by decide) (backOf (W := 1) (rm5c l Z a0 hw [] b74 (0 : Int32) b1 b24 (4 : Int32) T73.heap n0 Z73 (by decide)) hZ (hw _ (List.mem_of_getElem? (i := 19) rfl)) (hw _ (List.mem_of_getElem? (i := 4) rfl)) (by decide) (by decide)) (g := (mkF m 339 #[.val (.int nv), .val (.int aa), .val (.int bb), .val (.int (0 : Int32)), .val (.ref b1), .val (.ref b24), .val (.ref b57), .val (.ref b63), .val (.ref b74), .val (.int (1 : Int32))] [(.int (4 : Int32)), (.ref b24), (.ref b1), (.int (0 : Int32)), (.ref b74), (.int (1 : Int32))])) rfl (by rw [hml]; rfl) (argsL := [(.ref b74), (.int (0 : Int32)), (.ref b1), (.ref b24), (.int (4 : Int32))]) (rest := [(.int (1 : Int32))]) (lenOf pd_6 rfl) rfl (by show 2 * 0 + _ ≤ _; exact Nat.le_of_eq rfl) (hb hby at_339) (fun _ _ => ⟨rfl, e88, (by decide : 5 + 0 ≤ _), (by decide : 10 + 0 ≤ _)⟩)
    dsimp only [Pt.U, Pt.locs, Pt.cells, Pt.slots] at X89 l89 y89 z89 st89 hQ89
    subst y89 z89
    obtain ⟨rfl, N89q, e89⟩ := hQ89
    have N89 : Fr n0 L89 := by rw [l89]; exact Fr.app N88 N89q
    obtain ⟨_, _, ⟨T90, L90, k90, n90⟩, -, X90, ⟨Lc90, hQ90, l90, y90, z90⟩, st90⟩ := Jvm.LawKit.callS X89 hx (y := (⟨"skipstitch/table/PrefixTableOptimisedPinLaw", "same", "([B[II[B[II)Z"⟩ : MethodName)) hown (mvT hZ (hw _ (List.mem_of_getElem? (i := 20) rfl))) (mvT hZ (hw _ (List.mem_of_getElem? (i := 21) rfl))) (mvT hZ (hw _ (List.mem_of_getElem? (i := 4) rfl))) (mvT hZ (hw _ (List.mem_of_getElem? (i := 22) rfl))) (by decide) (backOf (W := 1) (rm6c l Z a0 hw [] b57 b63 (0 : Int32) b1 b24 (0 : Int32) T73.heap n0 Z73 (by decide)) hZ (hw _ (List.mem_of_getElem? (i := 22) rfl)) (hw _ (List.mem_of_getElem? (i := 4) rfl)) (by decide) (by decide)) (g := (mkF m 357 #[.val (.int nv), .val (.int aa), .val (.int bb), .val (.int (0 : Int32)), .val (.ref b1), .val (.ref b24), .val (.ref b57), .val (.ref b63), .val (.ref b74), .val (.int (1 : Int32))] [(.int (0 : Int32)), (.ref b24), (.ref b1), (.int (0 : Int32)), (.ref b63), (.ref b57), (.int (1 : Int32))])) rfl (by rw [hml]; rfl) (argsL := [(.ref b57), (.ref b63), (.int (0 : Int32)), (.ref b1), (.ref b24), (.int (0 : Int32))]) (rest := [(.int (1 : Int32))]) (lenOf pd_7 rfl) rfl (by show 2 * 0 + _ ≤ _; exact Nat.le_of_eq rfl) (hb hby at_357) (fun _ _ => ⟨rfl, e89, (by decide : 5 + 0 ≤ _), (by decide : 10 + 0 ≤ _)⟩)
    dsimp only [Pt.U, Pt.locs, Pt.cells, Pt.slots] at X90 l90 y90 z90 st90 hQ90
    subst y90 z90
    obtain ⟨rfl, N90q, e90⟩ := hQ90
    have N90 : Fr n0 L90 := by rw [l90]; exact Fr.app N89 N90q
    obtain ⟨_, _, ⟨T91, L91, k91, n91⟩, -, X91, ⟨Lc91, hQ91, l91, y91, z91⟩, st91⟩ := Jvm.LawKit.callS X90 hx (y := (⟨"skipstitch/table/PrefixTableOptimisedPinLaw", "same", "([B[II[B[II)Z"⟩ : MethodName)) hown (mvT hZ (hw _ (List.mem_of_getElem? (i := 20) rfl))) (mvT hZ (hw _ (List.mem_of_getElem? (i := 21) rfl))) (mvT hZ (hw _ (List.mem_of_getElem? (i := 4) rfl))) (mvT hZ (hw _ (List.mem_of_getElem? (i := 22) rfl))) (by decide) (backOf (W := 1) (rm6c l Z a0 hw [] b57 b63 (0 : Int32) b1 b24 (1 : Int32) T73.heap n0 Z73 (by decide)) hZ (hw _ (List.mem_of_getElem? (i := 22) rfl)) (hw _ (List.mem_of_getElem? (i := 4) rfl)) (by decide) (by decide)) (g := (mkF m 375 #[.val (.int nv), .val (.int aa), .val (.int bb), .val (.int (0 : Int32)), .val (.ref b1), .val (.ref b24), .val (.ref b57), .val (.ref b63), .val (.ref b74), .val (.int (1 : Int32))] [(.int (1 : Int32)), (.ref b24), (.ref b1), (.int (0 : Int32)), (.ref b63), (.ref b57), (.int (1 : Int32))])) rfl (by rw [hml]; rfl) (argsL := [(.ref b57), (.ref b63), (.int (0 : Int32)), (.ref b1), (.ref b24), (.int (1 : Int32))]) (rest := [(.int (1 : Int32))]) (lenOf pd_7 rfl) rfl (by show 2 * 0 + _ ≤ _; exact Nat.le_of_eq rfl) (hb hby at_375) (fun _ _ => ⟨rfl, e90, (by decide : 5 + 0 ≤ _), (by decide : 10 + 0 ≤ _)⟩)
    dsimp only [Pt.U, Pt.locs, Pt.cells, Pt.slots] at X91 l91 y91 z91 st91 hQ91
    subst y91 z91
    obtain ⟨rfl, N91q, e91⟩ := hQ91
    have N91 : Fr n0 L91 := by rw [l91]; exact Fr.app N90 N91q
    obtain ⟨_, _, ⟨T92, L92, k92, n92⟩, -, X92, ⟨Lc92, hQ92, l92, y92, z92⟩, st92⟩ := Jvm.LawKit.callS X91 hx (y := (⟨"skipstitch/table/PrefixTableOptimisedPinLaw", "same", "([B[II[B[II)Z"⟩ : MethodName)) hown (mvT hZ (hw _ (List.mem_of_getElem? (i := 20) rfl))) (mvT hZ (hw _ (List.mem_of_getElem? (i := 21) rfl))) (mvT hZ (hw _ (List.mem_of_getElem? (i := 4) rfl))) (mvT hZ (hw _ (List.mem_of_getElem? (i := 22) rfl))) (by decide) (backOf (W := 1) (rm6c l Z a0 hw [] b57 b63 (0 : Int32) b1 b24 (2 : Int32) T73.heap n0 Z73 (by decide)) hZ (hw _ (List.mem_of_getElem? (i := 22) rfl)) (hw _ (List.mem_of_getElem? (i := 4) rfl)) (by decide) (by decide)) (g := (mkF m 393 #[.val (.int nv), .val (.int aa), .val (.int bb), .val (.int (0 : Int32)), .val (.ref b1), .val (.ref b24), .val (.ref b57), .val (.ref b63), .val (.ref b74), .val (.int (1 : Int32))] [(.int (2 : Int32)), (.ref b24), (.ref b1), (.int (0 : Int32)), (.ref b63), (.ref b57), (.int (1 : Int32))])) rfl (by rw [hml]; rfl) (argsL := [(.ref b57), (.ref b63), (.int (0 : Int32)), (.ref b1), (.ref b24), (.int (2 : Int32))]) (rest := [(.int (1 : Int32))]) (lenOf pd_7 rfl) rfl (by show 2 * 0 + _ ≤ _; exact Nat.le_of_eq rfl) (hb hby at_393) (fun _ _ => ⟨rfl, e91, (by decide : 5 + 0 ≤ _), (by decide : 10 + 0 ≤ _)⟩)
    dsimp only [Pt.U, Pt.locs, Pt.cells, Pt.slots] at X92 l92 y92 z92 st92 hQ92
    subst y92 z92
    obtain ⟨rfl, N92q, e92⟩ := hQ92
    have N92 : Fr n0 L92 := by rw [l92]; exact Fr.app N91 N92q
    obtain ⟨_, _, ⟨T93, L93, k93, n93⟩, -, X93, ⟨Lc93, hQ93, l93, y93, z93⟩, st93⟩ := Jvm.LawKit.callS X92 hx (y := (⟨"skipstitch/table/PrefixTableOptimisedPinLaw", "same", "([B[II[B[II)Z"⟩ : MethodName)) hown (mvT hZ (hw _ (List.mem_of_getElem? (i := 20) rfl))) (mvT hZ (hw _ (List.mem_of_getElem? (i := 21) rfl))) (mvT hZ (hw _ (List.mem_of_getElem? (i := 4) rfl))) (mvT hZ (hw _ (List.mem_of_getElem? (i := 22) rfl))) (by decide) (backOf (W := 1) (rm6c l Z a0 hw [] b57 b63 (0 : Int32) b1 b24 (3 : Int32) T73.heap n0 Z73 (by decide)) hZ (hw _ (List.mem_of_getElem? (i := 22) rfl)) (hw _ (List.mem_of_getElem? (i := 4) rfl)) (by decide) (by decide)) (g := (mkF m 411 #[.val (.int nv), .val (.int aa), .val (.int bb), .val (.int (0 : Int32)), .val (.ref b1), .val (.ref b24), .val (.ref b57), .val (.ref b63), .val (.ref b74), .val (.int (1 : Int32))] [(.int (3 : Int32)), (.ref b24), (.ref b1), (.int (0 : Int32)), (.ref b63), (.ref b57), (.int (1 : Int32))])) rfl (by rw [hml]; rfl) (argsL := [(.ref b57), (.ref b63), (.int (0 : Int32)), (.ref b1), (.ref b24), (.int (3 : Int32))]) (rest := [(.int (1 : Int32))]) (lenOf pd_7 rfl) rfl (by show 2 * 0 + _ ≤ _; exact Nat.le_of_eq rfl) (hb hby at_411) (fun _ _ => ⟨rfl, e92, (by decide : 5 + 0 ≤ _), (by decide : 10 + 0 ≤ _)⟩)
    dsimp only [Pt.U, Pt.locs, Pt.cells, Pt.slots] at X93 l93 y93 z93 st93 hQ93
    subst y93 z93
    obtain ⟨rfl, N93q, e93⟩ := hQ93
    have N93 : Fr n0 L93 := by rw [l93]; exact Fr.app N92 N93q
    obtain ⟨_, _, ⟨T94, L94, k94, n94⟩, -, X94, ⟨Lc94, hQ94, l94, y94, z94⟩, st94⟩ := Jvm.LawKit.callS X93 hx (y := (⟨"skipstitch/table/PrefixTableOptimisedPinLaw", "same", "([B[II[B[II)Z"⟩ : MethodName)) hown (mvT hZ (hw _ (List.mem_of_getElem? (i := 20) rfl))) (mvT hZ (hw _ (List.mem_of_getElem? (i := 21) rfl))) (mvT hZ (hw _ (List.mem_of_getElem? (i := 4) rfl))) (mvT hZ (hw _ (List.mem_of_getElem? (i := 22) rfl))) (by decide) (backOf (W := 1) (rm6c l Z a0 hw [] b57 b63 (0 : Int32) b1 b24 (4 : Int32) T73.heap n0 Z73 (by decide)) hZ (hw _ (List.mem_of_getElem? (i := 22) rfl)) (hw _ (List.mem_of_getElem? (i := 4) rfl)) (by decide) (by decide)) (g := (mkF m 429 #[.val (.int nv), .val (.int aa), .val (.int bb), .val (.int (0 : Int32)), .val (.ref b1), .val (.ref b24), .val (.ref b57), .val (.ref b63), .val (.ref b74), .val (.int (1 : Int32))] [(.int (4 : Int32)), (.ref b24), (.ref b1), (.int (0 : Int32)), (.ref b63), (.ref b57), (.int (1 : Int32))])) rfl (by rw [hml]; rfl) (argsL := [(.ref b57), (.ref b63), (.int (0 : Int32)), (.ref b1), (.ref b24), (.int (4 : Int32))]) (rest := [(.int (1 : Int32))]) (lenOf pd_7 rfl) rfl (by show 2 * 0 + _ ≤ _; exact Nat.le_of_eq rfl) (hb hby at_429) (fun _ _ => ⟨rfl, e93, (by decide : 5 + 0 ≤ _), (by decide : 10 + 0 ≤ _)⟩)
    dsimp only [Pt.U, Pt.locs, Pt.cells, Pt.slots] at X94 l94 y94 z94 st94 hQ94
    subst y94 z94
    obtain ⟨rfl, N94q, e94⟩ := hQ94
    have N94 : Fr n0 L94 := by rw [l94]; exact Fr.app N93 N94q
    obtain ⟨fs, hr, hrun, hended, hW, hsame⟩ := X94.leave (v := some (.int (1 : Int32))) (fun h => by rw [Bd.returns] at h; cases h) (hlocks := Bd.notSynchronized)
    refine ⟨_, _, pre56 _ ?_, hrun, hended, _, _, rfl, ?_, ⟨_, rfl⟩, hW, hsame.mono (by decide) (by decide)⟩
    · show Steps p.tables e below (T50.setTop (mkF m 119 #[.val (.int nv), .val (.int aa), .val (.int bb), .val (.int (0 : Int32)), .val (.ref b1), .val (.ref b24), .unset, .unset, .unset, .unset] [(.int (0 : Int32))])) _
      refine st57 _ ?_
      refine XS.astore X57.here hx rfl (hb hby at_121) rfl rfl (l' := #[.val (.int nv), .val (.int aa), .val (.int bb), .val (.int (0 : Int32)), .val (.ref b1), .val (.ref b24), .val (.ref b57), .unset, .unset, .unset]) rfl ?_
      refine XS.iloadN X57.here hx rfl (hb hby at_123) rfl ?_
      refine st63 _ ?_
      refine XS.astore X63.here hx rfl (hb hby at_126) rfl rfl (l' := #[.val (.int nv), .val (.int aa), .val (.int bb), .val (.int (0 : Int32)), .val (.ref b1), .val (.ref b24), .val (.ref b57), .val (.ref b63), .unset, .unset]) rfl ?_
      refine XS.iloadN X63.here hx rfl (hb hby at_128) rfl ?_
      refine XS.ifYes X63.here hx rfl (pc0 := 129) (pc' := 148) rfl (hb hby at_129) rfl ((if0 _ _).trans (flt (by decide : ¬ ((0 : Int32) < (0 : Int32)))).2.2.2) (by decide) (by decide) ?_
      refine XS.iloadN X63.here hx rfl (hb hby at_148) rfl ?_
      refine XS.iconst X63.here hx rfl (hb hby at_149) ?_
      refine XS.icmpYes X63.here hx rfl (pc0 := 150) (pc' := 169) rfl (hb hby at_150) rfl (flt (by decide : ¬ ((1 : Int32) < (0 : Int32)))).2.2.2 (by decide) (by decide) ?_
      refine XS.iloadN X63.here hx rfl (hb hby at_169) rfl ?_
      refine XS.iconst X63.here hx rfl (hb hby at_170) ?_
      refine XS.icmpYes X63.here hx rfl (pc0 := 171) (pc' := 190) rfl (hb hby at_171) rfl (flt (by decide : ¬ ((2 : Int32) < (0 : Int32)))).2.2.2 (by decide) (by decide) ?_
      refine XS.iloadN X63.here hx rfl (hb hby at_190) rfl ?_
      refine XS.iconst X63.here hx rfl (hb hby at_191) ?_
      refine XS.icmpYes X63.here hx rfl (pc0 := 192) (pc' := 211) rfl (hb hby at_192) rfl (flt (by decide : ¬ ((3 : Int32) < (0 : Int32)))).2.2.2 (by decide) (by decide) ?_
      refine XS.iloadN X63.here hx rfl (hb hby at_211) rfl ?_
      refine XS.iconst X63.here hx rfl (hb hby at_212) ?_
      refine XS.icmpYes X63.here hx rfl (pc0 := 213) (pc' := 232) rfl (hb hby at_213) rfl (flt (by decide : ¬ ((4 : Int32) < (0 : Int32)))).2.2.2 (by decide) (by decide) ?_
      refine XS.aload X63.here hx rfl (hb hby at_232) rfl rfl ?_
      refine XS.aload X63.here hx rfl (hb hby at_234) rfl rfl ?_
      refine st73 _ ?_
      refine XS.astore X73.here hx rfl (hb hby at_239) rfl rfl (l' := #[.val (.int nv), .val (.int aa), .val (.int bb), .val (.int (0 : Int32)), .val (.ref b1), .val (.ref b24), .val (.ref b57), .val (.ref b63), .val (.ref b74), .unset]) rfl ?_
      refine XS.aload X73.here hx rfl (hb hby at_241) rfl rfl ?_
      refine XS.ifnullNo X73.here hx rfl (hb hby at_243) rfl ?_
      refine XS.aload X73.here hx rfl (hb hby at_246) rfl rfl ?_
      refine X73.arraylength hx Arcl84.1 (State.isArrayOf_alike hZ.alike Arcl84.2.1) (g := (mkF m 248 #[.val (.int nv), .val (.int aa), .val (.int bb), .val (.int (0 : Int32)), .val (.ref b1), .val (.ref b24), .val (.ref b57), .val (.ref b63), .val (.ref b74), .unset] [(.ref b74)])) rfl rfl (hb hby at_248) _ ?_
      rw [Szcl84]
      refine XS.iloadN X73.here hx rfl (hb hby at_249) rfl ?_
      refine XS.icmpNo X73.here hx rfl (hb hby at_250) rfl (teq (by decide : ((0 : Int32) = (0 : Int32)))).2 ?_
      refine XS.aload X73.here hx rfl (hb hby at_253) rfl rfl ?_
      refine XS.aload X73.here hx rfl (hb hby at_255) rfl rfl ?_
      refine Jvm.RoadKit.acmp (g := (mkF m 257 #[.val (.int nv), .val (.int aa), .val (.int bb), .val (.int (0 : Int32)), .val (.ref b1), .val (.ref b24), .val (.ref b57), .val (.ref b63), .val (.ref b74), .unset] [(.ref b63), (.ref b74)])) X73 hx rfl rfl rfl (pc0 := 257) (pc' := 262) (same := false) rfl (hb hby at_257) rfl (decide_eq_false fun q => (Ne.symm ne79) (Value.ref.inj q)) (by decide) (by decide) ?_
      refine XS.iconst X73.here hx rfl (hb hby at_262) ?_
      refine XS.istore X73.here hx rfl (hb hby at_263) rfl (l' := #[.val (.int nv), .val (.int aa), .val (.int bb), .val (.int (0 : Int32)), .val (.ref b1), .val (.ref b24), .val (.ref b57), .val (.ref b63), .val (.ref b74), .val (.int (1 : Int32))]) rfl ?_
      refine XS.iload X73.here hx rfl (hb hby at_265) rfl ?_
      refine XS.aload X73.here hx rfl (hb hby at_267) rfl rfl ?_
      refine XS.iloadN X73.here hx rfl (hb hby at_269) rfl ?_
      refine XS.aload X73.here hx rfl (hb hby at_270) rfl rfl ?_
      refine XS.aload X73.here hx rfl (hb hby at_272) rfl rfl ?_
      refine XS.iconst X73.here hx rfl (hb hby at_274) ?_
      refine st85 _ ?_
      refine XS.iand X85.here hx rfl (hb hby at_278) rfl ?_
      refine XS.istore X85.here hx rfl (hb hby at_279) rfl (l' := #[.val (.int nv), .val (.int aa), .val (.int bb), .val (.int (0 : Int32)), .val (.ref b1), .val (.ref b24), .val (.ref b57), .val (.ref b63), .val (.ref b74), .val (.int (1 : Int32))]) rfl ?_
      refine XS.iload X85.here hx rfl (hb hby at_281) rfl ?_
      refine XS.aload X85.here hx rfl (hb hby at_283) rfl rfl ?_
      refine XS.iloadN X85.here hx rfl (hb hby at_285) rfl ?_
      refine XS.aload X85.here hx rfl (hb hby at_286) rfl rfl ?_
      refine XS.aload X85.here hx rfl (hb hby at_288) rfl rfl ?_
      refine XS.iconst X85.here hx rfl (hb hby at_290) ?_
      refine st86 _ ?_
      refine XS.iand X86.here hx rfl (hb hby at_294) rfl ?_
      refine XS.istore X86.here hx rfl (hb hby at_295) rfl (l' := #[.val (.int nv), .val (.int aa), .val (.int bb), .val (.int (0 : Int32)), .val (.ref b1), .val (.ref b24), .val (.ref b57), .val (.ref b63), .val (.ref b74), .val (.int (1 : Int32))]) rfl ?_
      refine XS.iload X86.here hx rfl (hb hby at_297) rfl ?_
      refine XS.aload X86.here hx rfl (hb hby at_299) rfl rfl ?_
      refine XS.iloadN X86.here hx rfl (hb hby at_301) rfl ?_
      refine XS.aload X86.here hx rfl (hb hby at_302) rfl rfl ?_
      refine XS.aload X86.here hx rfl (hb hby at_304) rfl rfl ?_
      refine XS.iconst X86.here hx rfl (hb hby at_306) ?_
      refine st87 _ ?_
      refine XS.iand X87.here hx rfl (hb hby at_310) rfl ?_
      refine XS.istore X87.here hx rfl (hb hby at_311) rfl (l' := #[.val (.int nv), .val (.int aa), .val (.int bb), .val (.int (0 : Int32)), .val (.ref b1), .val (.ref b24), .val (.ref b57), .val (.ref b63), .val (.ref b74), .val (.int (1 : Int32))]) rfl ?_
      refine XS.iload X87.here hx rfl (hb hby at_313) rfl ?_
      refine XS.aload X87.here hx rfl (hb hby at_315) rfl rfl ?_
      refine XS.iloadN X87.here hx rfl (hb hby at_317) rfl ?_
      refine XS.aload X87.here hx rfl (hb hby at_318) rfl rfl ?_
      refine XS.aload X87.here hx rfl (hb hby at_320) rfl rfl ?_
      refine XS.iconst X87.here hx rfl (hb hby at_322) ?_
      refine st88 _ ?_
      refine XS.iand X88.here hx rfl (hb hby at_326) rfl ?_
      refine XS.istore X88.here hx rfl (hb hby at_327) rfl (l' := #[.val (.int nv), .val (.int aa), .val (.int bb), .val (.int (0 : Int32)), .val (.ref b1), .val (.ref b24), .val (.ref b57), .val (.ref b63), .val (.ref b74), .val (.int (1 : Int32))]) rfl ?_
      refine XS.iload X88.here hx rfl (hb hby at_329) rfl ?_
      refine XS.aload X88.here hx rfl (hb hby at_331) rfl rfl ?_
      refine XS.iloadN X88.here hx rfl (hb hby at_333) rfl ?_
      refine XS.aload X88.here hx rfl (hb hby at_334) rfl rfl ?_
      refine XS.aload X88.here hx rfl (hb hby at_336) rfl rfl ?_
      refine XS.iconst X88.here hx rfl (hb hby at_338) ?_
      refine st89 _ ?_
      refine XS.iand X89.here hx rfl (hb hby at_342) rfl ?_
      refine XS.istore X89.here hx rfl (hb hby at_343) rfl (l' := #[.val (.int nv), .val (.int aa), .val (.int bb), .val (.int (0 : Int32)), .val (.ref b1), .val (.ref b24), .val (.ref b57), .val (.ref b63), .val (.ref b74), .val (.int (1 : Int32))]) rfl ?_
      refine XS.iload X89.here hx rfl (hb hby at_345) rfl ?_
      refine XS.aload X89.here hx rfl (hb hby at_347) rfl rfl ?_
      refine XS.aload X89.here hx rfl (hb hby at_349) rfl rfl ?_
      refine XS.iloadN X89.here hx rfl (hb hby at_351) rfl ?_
      refine XS.aload X89.here hx rfl (hb hby at_352) rfl rfl ?_
      refine XS.aload X89.here hx rfl (hb hby at_354) rfl rfl ?_
      refine XS.iconst X89.here hx rfl (hb hby at_356) ?_
      refine st90 _ ?_
      refine XS.iand X90.here hx rfl (hb hby at_360) rfl ?_
      refine XS.istore X90.here hx rfl (hb hby at_361) rfl (l' := #[.val (.int nv), .val (.int aa), .val (.int bb), .val (.int (0 : Int32)), .val (.ref b1), .val (.ref b24), .val (.ref b57), .val (.ref b63), .val (.ref b74), .val (.int (1 : Int32))]) rfl ?_
      refine XS.iload X90.here hx rfl (hb hby at_363) rfl ?_
      refine XS.aload X90.here hx rfl (hb hby at_365) rfl rfl ?_
      refine XS.aload X90.here hx rfl (hb hby at_367) rfl rfl ?_
      refine XS.iloadN X90.here hx rfl (hb hby at_369) rfl ?_
      refine XS.aload X90.here hx rfl (hb hby at_370) rfl rfl ?_
      refine XS.aload X90.here hx rfl (hb hby at_372) rfl rfl ?_
      refine XS.iconst X90.here hx rfl (hb hby at_374) ?_
      refine st91 _ ?_
      refine XS.iand X91.here hx rfl (hb hby at_378) rfl ?_
      refine XS.istore X91.here hx rfl (hb hby at_379) rfl (l' := #[.val (.int nv), .val (.int aa), .val (.int bb), .val (.int (0 : Int32)), .val (.ref b1), .val (.ref b24), .val (.ref b57), .val (.ref b63), .val (.ref b74), .val (.int (1 : Int32))]) rfl ?_
      refine XS.iload X91.here hx rfl (hb hby at_381) rfl ?_
      refine XS.aload X91.here hx rfl (hb hby at_383) rfl rfl ?_
      refine XS.aload X91.here hx rfl (hb hby at_385) rfl rfl ?_
      refine XS.iloadN X91.here hx rfl (hb hby at_387) rfl ?_
      refine XS.aload X91.here hx rfl (hb hby at_388) rfl rfl ?_
      refine XS.aload X91.here hx rfl (hb hby at_390) rfl rfl ?_
      refine XS.iconst X91.here hx rfl (hb hby at_392) ?_
      refine st92 _ ?_
      refine XS.iand X92.here hx rfl (hb hby at_396) rfl ?_
      refine XS.istore X92.here hx rfl (hb hby at_397) rfl (l' := #[.val (.int nv), .val (.int aa), .val (.int bb), .val (.int (0 : Int32)), .val (.ref b1), .val (.ref b24), .val (.ref b57), .val (.ref b63), .val (.ref b74), .val (.int (1 : Int32))]) rfl ?_
      refine XS.iload X92.here hx rfl (hb hby at_399) rfl ?_
      refine XS.aload X92.here hx rfl (hb hby at_401) rfl rfl ?_
      refine XS.aload X92.here hx rfl (hb hby at_403) rfl rfl ?_
      refine XS.iloadN X92.here hx rfl (hb hby at_405) rfl ?_
      refine XS.aload X92.here hx rfl (hb hby at_406) rfl rfl ?_
      refine XS.aload X92.here hx rfl (hb hby at_408) rfl rfl ?_
      refine XS.iconst X92.here hx rfl (hb hby at_410) ?_
      refine st93 _ ?_
      refine XS.iand X93.here hx rfl (hb hby at_414) rfl ?_
      refine XS.istore X93.here hx rfl (hb hby at_415) rfl (l' := #[.val (.int nv), .val (.int aa), .val (.int bb), .val (.int (0 : Int32)), .val (.ref b1), .val (.ref b24), .val (.ref b57), .val (.ref b63), .val (.ref b74), .val (.int (1 : Int32))]) rfl ?_
      refine XS.iload X93.here hx rfl (hb hby at_417) rfl ?_
      refine XS.aload X93.here hx rfl (hb hby at_419) rfl rfl ?_
      refine XS.aload X93.here hx rfl (hb hby at_421) rfl rfl ?_
      refine XS.iloadN X93.here hx rfl (hb hby at_423) rfl ?_
      refine XS.aload X93.here hx rfl (hb hby at_424) rfl rfl ?_
      refine XS.aload X93.here hx rfl (hb hby at_426) rfl rfl ?_
      refine XS.iconst X93.here hx rfl (hb hby at_428) ?_
      refine st94 _ ?_
      refine XS.iand X94.here hx rfl (hb hby at_432) rfl ?_
      refine XS.istore X94.here hx rfl (hb hby at_433) rfl (l' := #[.val (.int nv), .val (.int aa), .val (.int bb), .val (.int (0 : Int32)), .val (.ref b1), .val (.ref b24), .val (.ref b57), .val (.ref b63), .val (.ref b74), .val (.int (1 : Int32))]) rfl ?_
      refine XS.iload X94.here hx rfl (hb hby at_435) rfl ?_
      exact retN X94 hx (t := .boolean) Bd.returns (by simp) (hb hby at_437) hr
    · show Q0 Z nv aa bb h0 n0 _ T94.heap _
      rw [e94]
      exact ⟨rfl, N94⟩
  · have pre95 : ∀ t, Steps p.tables e below (T50.setTop (mkF m 119 #[.val (.int nv), .val (.int aa), .val (.int bb), .val (.int (1 : Int32)), .val (.ref b1), .val (.ref b24), .unset, .unset, .unset, .unset] [(.int (1 : Int32))])) t → Steps p.tables e below (s₁.setTop (entryFrame m #[(.int nv), (.int aa), (.int bb)] maxLocals)) t := by
      intro t k
      refine pre54 _ ?_
      rw [hk55]
      exact k
    obtain ⟨T96, h96, k96, X96, e96, E96, A96, st96⟩ := newP X50 hx hZ (hw _ (List.mem_of_getElem? (i := 1) rfl)) e50 (g := (mkF m 119 #[.val (.int nv), .val (.int aa), .val (.int bb), .val (.int (1 : Int32)), .val (.ref b1), .val (.ref b24), .unset, .unset, .unset, .unset] [(.int (1 : Int32))])) rfl (hb hby at_119) rfl (by decide) (cap := 1) (by decide) (by decide) (by decide) (by decide)
    obtain ⟨b96, g96⟩ : ∃ z, z = h50.size := ⟨_, rfl⟩
    rw [← g96] at A96 st96
    have ne97 : b1 ≠ b96 := Nat.ne_of_lt (Nat.lt_of_lt_of_le f52.lt (Nat.le_of_eq g96.symm))
    have ne98 : b24 ≠ b96 := Nat.ne_of_lt (Nat.lt_of_lt_of_le f53.lt (Nat.le_of_eq g96.symm))
    have gg96 : n0 ≤ b96 := Nat.le_trans Z50 (Nat.le_of_eq g96.symm)
    have f99 : AI Z h96 b1 .byte 5 (own_FQ aa bb) := f52.ext E96
    have f100 : AI Z h96 b24 .int 5 (own_FT aa bb) := f53.ext E96
    have Z96 : n0 ≤ h96.size := Nat.le_trans Z50 E96.1
    have f101 : AI Z h96 b96 .byte 1 zI := AF.new A96 (by decide)
    obtain ⟨T102, h102, k102, X102, e102, E102, A102, st102⟩ := newP X96 hx hZ (hw _ (List.mem_of_getElem? (i := 6) rfl)) e96 (g := (mkF m 124 #[.val (.int nv), .val (.int aa), .val (.int bb), .val (.int (1 : Int32)), .val (.ref b1), .val (.ref b24), .val (.ref b96), .unset, .unset, .unset] [(.int (1 : Int32))])) rfl (hb hby at_124) rfl (by decide) (cap := 1) (by decide) (by decide) (by decide) (by decide)
    obtain ⟨b102, g102⟩ : ∃ z, z = h96.size := ⟨_, rfl⟩
    rw [← g102] at A102 st102
    have ne103 : b1 ≠ b102 := Nat.ne_of_lt (Nat.lt_of_lt_of_le f99.lt (Nat.le_of_eq g102.symm))
    have ne104 : b24 ≠ b102 := Nat.ne_of_lt (Nat.lt_of_lt_of_le f100.lt (Nat.le_of_eq g102.symm))
    have ne105 : b96 ≠ b102 := Nat.ne_of_lt (Nat.lt_of_lt_of_le f101.lt (Nat.le_of_eq g102.symm))
    have gg102 : n0 ≤ b102 := Nat.le_trans Z96 (Nat.le_of_eq g102.symm)
    have f106 : AI Z h102 b1 .byte 5 (own_FQ aa bb) := f99.ext E102
    have f107 : AI Z h102 b24 .int 5 (own_FT aa bb) := f100.ext E102
    have f108 : AI Z h102 b96 .byte 1 zI := f101.ext E102
    have Z102 : n0 ≤ h102.size := Nat.le_trans Z96 E102.1
    have f109 : AI Z h102 b102 .int 1 zI := AF.new A102 (by decide)
    obtain ⟨cl110, Arcl110, hincl110, hatcl110⟩ := AF.at f106 (j := (0 : Int32)) 0 (by decide) (by decide)
    obtain ⟨cl111, Arcl111, hincl111, -⟩ := AF.at f108 (j := (0 : Int32)) 0 (by decide) (by decide)
    obtain ⟨T112, h112, X112, e112, W112, st112⟩ := stB X102 hx hZ e102 Arcl111 (j := (0 : Int32)) hincl111 (g := (mkF m 139 #[.val (.int nv), .val (.int aa), .val (.int bb), .val (.int (1 : Int32)), .val (.ref b1), .val (.ref b24), .val (.ref b96), .val (.ref b102), .unset, .unset] [(.int ((own_FQ aa bb) 0)), (.int (0 : Int32)), (.ref b96)])) rfl rfl (hb hby at_139)
    rw [own_lq0 aa bb] at W112
    have N112 := Fr.snoc X112 N50 gg96
    have Z112 : n0 ≤ h112.size := Nat.le_trans Z102 (Keep.of_wr W112).1
    have f113 : AI Z h112 b96 .byte 1 (up zI 0 ((own_FQ aa bb) 0)) := AF.setI f108 W112 0 (by decide)
    have f114 : AI Z h112 b1 .byte 5 (own_FQ aa bb) := f106.other W112 ne97
    have f115 : AI Z h112 b24 .int 5 (own_FT aa bb) := f107.other W112 ne98
    have f116 : AI Z h112 b102 .int 1 zI := f109.other W112 (Ne.symm ne105)
    obtain ⟨cl117, Arcl117, hincl117, hatcl117⟩ := AF.at f115 (j := (0 : Int32)) 0 (by decide) (by decide)
    obtain ⟨cl118, Arcl118, hincl118, -⟩ := AF.at f116 (j := (0 : Int32)) 0 (by decide) (by decide)
    obtain ⟨T119, h119, X119, e119, W119, st119⟩ := stI X112 hx hZ e112 Arcl118 (j := (0 : Int32)) hincl118 (g := (mkF m 147 #[.val (.int nv), .val (.int aa), .val (.int bb), .val (.int (1 : Int32)), .val (.ref b1), .val (.ref b24), .val (.ref b96), .val (.ref b102), .unset, .unset] [(.int ((own_FT aa bb) 0)), (.int (0 : Int32)), (.ref b102)])) rfl rfl (hb hby at_147)
    have N119 := Fr.snoc X119 N112 gg102
    have Z119 : n0 ≤ h119.size := Nat.le_trans Z112 (Keep.of_wr W119).1
    have f120 : AI Z h119 b102 .int 1 (up zI 0 ((own_FT aa bb) 0)) := AF.setI f116 W119 0 (by decide)
    have f121 : AI Z h119 b1 .byte 5 (own_FQ aa bb) := f114.other W119 ne103
    have f122 : AI Z h119 b24 .int 5 (own_FT aa bb) := f115.other W119 ne104
    have f123 : AI Z h119 b96 .byte 1 (up zI 0 ((own_FQ aa bb) 0)) := f113.other W119 ne105
    have f124 : AI Z h119 b96 .byte 1 (own_FP1 aa bb) := f123
    have f125 : AI Z h119 b102 .int 1 (own_FS1 aa bb) := f120
    obtain ⟨_, _, ⟨T126, L126, k126, n126⟩, -, X126, ⟨Lc126, hQ126, l126, y126, z126⟩, st126⟩ := Jvm.LawKit.callS X119 hx (y := (⟨"skipstitch/table/PrefixTable", "optimised", "([B[I)[I"⟩ : MethodName)) hown (mvT hZ (hw _ (List.mem_of_getElem? (i := 13) rfl))) (mvT hZ (hw _ (List.mem_of_getElem? (i := 14) rfl))) (mvT hZ (hw _ (List.mem_of_getElem? (i := 15) rfl))) (mvT hZ (hw _ (List.mem_of_getElem? (i := 16) rfl))) (by decide) (backOf (W := 0) (rm4k1 l Z a0 hw [] b96 b102 (own_FP1 aa bb) (own_FS1 aa bb) h119 n0 Z119 f124 f125 (own_hfz1 aa bb)) hZ (hw _ (List.mem_of_getElem? (i := 16) rfl)) (hw _ (List.mem_of_getElem? (i := 15) rfl)) (by decide) (by decide)) (g := (mkF m 236 #[.val (.int nv), .val (.int aa), .val (.int bb), .val (.int (1 : Int32)), .val (.ref b1), .val (.ref b24), .val (.ref b96), .val (.ref b102), .unset, .unset] [(.ref b102), (.ref b96)])) rfl (by rw [hml]; rfl) (argsL := [(.ref b96), (.ref b102)]) (rest := []) (lenOf pd_5 rfl) rfl (by show 2 * 0 + _ ≤ _; exact Nat.le_of_eq rfl) (hb hby at_236) (fun _ _ => ⟨rfl, e119, (by decide : 4 + 1 ≤ _), (by decide : 12 + 1 ≤ _)⟩)
    dsimp only [Pt.U, Pt.locs, Pt.cells, Pt.slots] at X126 l126 y126 z126 st126 hQ126
    subst y126 z126
    obtain ⟨b127, ggb127, szb127, rfl, N126q, K126c, f128⟩ := hQ126
    have N126 : Fr n0 L126 := by rw [l126]; exact Fr.app N119 N126q
    have ne129 : b1 ≠ b127 := Nat.ne_of_lt (Nat.lt_of_lt_of_le f121.lt szb127)
    have ne130 : b102 ≠ b127 := Nat.ne_of_lt (Nat.lt_of_lt_of_le f125.lt szb127)
    have ne131 : b24 ≠ b127 := Nat.ne_of_lt (Nat.lt_of_lt_of_le f122.lt szb127)
    have ne132 : b96 ≠ b127 := Nat.ne_of_lt (Nat.lt_of_lt_of_le f124.lt szb127)
    have f133 : AI Z T126.heap b1 .byte 5 (own_FQ aa bb) := f121.keep K126c nin0
    have f134 : AI Z T126.heap b24 .int 5 (own_FT aa bb) := f122.keep K126c nin0
    have f135 : AI Z T126.heap b96 .byte 1 (own_FP1 aa bb) := f124.keep K126c nin0
    have f136 : AI Z T126.heap b102 .int 1 (own_FS1 aa bb) := f125.keep K126c nin0
    have Z126 : n0 ≤ T126.heap.size := Nat.le_trans Z119 K126c.1
    obtain ⟨cl137, Arcl137, Szcl137⟩ := AF.len f128
    obtain ⟨_, _, ⟨T138, L138, k138, n138⟩, -, X138, ⟨Lc138, hQ138, l138, y138, z138⟩, st138⟩ := Jvm.LawKit.callS X126 hx (y := (⟨"skipstitch/table/PrefixTableOptimisedPinLaw", "at", "([II[B[II)Z"⟩ : MethodName)) hown (mvT hZ (hw _ (List.mem_of_getElem? (i := 17) rfl))) (mvT hZ (hw _ (List.mem_of_getElem? (i := 18) rfl))) (mvT hZ (hw _ (List.mem_of_getElem? (i := 4) rfl))) (mvT hZ (hw _ (List.mem_of_getElem? (i := 19) rfl))) (by decide) (backOf (W := 1) (rm5b0 l Z a0 hw [] b127 (1 : Int32) b1 b24 (own_FT aa bb) (up (own_g (own_FP1 aa bb) (own_FS1 aa bb) 0) 0 ((own_FS1 aa bb) 0)) 1 T126.heap n0 Z126 f128 f134 (by decide) (by decide) (by decide)) hZ (hw _ (List.mem_of_getElem? (i := 19) rfl)) (hw _ (List.mem_of_getElem? (i := 4) rfl)) (by decide) (by decide)) (g := (mkF m 275 #[.val (.int nv), .val (.int aa), .val (.int bb), .val (.int (1 : Int32)), .val (.ref b1), .val (.ref b24), .val (.ref b96), .val (.ref b102), .val (.ref b127), .val (.int (1 : Int32))] [(.int (0 : Int32)), (.ref b24), (.ref b1), (.int (1 : Int32)), (.ref b127), (.int (1 : Int32))])) rfl (by rw [hml]; rfl) (argsL := [(.ref b127), (.int (1 : Int32)), (.ref b1), (.ref b24), (.int (0 : Int32))]) (rest := [(.int (1 : Int32))]) (lenOf pd_6 rfl) rfl (by show 2 * 0 + _ ≤ _; exact Nat.le_of_eq rfl) (hb hby at_275) (fun _ _ => ⟨rfl, rfl, (by decide : 5 + 0 ≤ _), (by decide : 13 + 0 ≤ _)⟩)
    dsimp only [Pt.U, Pt.locs, Pt.cells, Pt.slots] at X138 l138 y138 z138 st138 hQ138
    subst y138 z138
    obtain ⟨rfl, N138q, e138⟩ := hQ138
    have N138 : Fr n0 L138 := by rw [l138]; exact Fr.app N126 N138q
    have hres138 : (r5b0_v (own_FT aa bb) (up (own_g (own_FP1 aa bb) (own_FS1 aa bb) 0) 0 ((own_FS1 aa bb) 0))) = (1 : Int32) := own_a1_0 aa bb
    obtain ⟨_, _, ⟨T139, L139, k139, n139⟩, -, X139, ⟨Lc139, hQ139, l139, y139, z139⟩, st139⟩ := Jvm.LawKit.callS X138 hx (y := (⟨"skipstitch/table/PrefixTableOptimisedPinLaw", "at", "([II[B[II)Z"⟩ : MethodName)) hown (mvT hZ (hw _ (List.mem_of_getElem? (i := 17) rfl))) (mvT hZ (hw _ (List.mem_of_getElem? (i := 18) rfl))) (mvT hZ (hw _ (List.mem_of_getElem? (i := 4) rfl))) (mvT hZ (hw _ (List.mem_of_getElem? (i := 19) rfl))) (by decide) (backOf (W := 1) (rm5c l Z a0 hw [] b127 (1 : Int32) b1 b24 (1 : Int32) T126.heap n0 Z126 (by decide)) hZ (hw _ (List.mem_of_getElem? (i := 19) rfl)) (hw _ (List.mem_of_getElem? (i := 4) rfl)) (by decide) (by decide)) (g := (mkF m 291 #[.val (.int nv), .val (.int aa), .val (.int bb), .val (.int (1 : Int32)), .val (.ref b1), .val (.ref b24), .val (.ref b96), .val (.ref b102), .val (.ref b127), .val (.int (1 : Int32))] [(.int (1 : Int32)), (.ref b24), (.ref b1), (.int (1 : Int32)), (.ref b127), (.int (1 : Int32))])) rfl (by rw [hml]; rfl) (argsL := [(.ref b127), (.int (1 : Int32)), (.ref b1), (.ref b24), (.int (1 : Int32))]) (rest := [(.int (1 : Int32))]) (lenOf pd_6 rfl) rfl (by show 2 * 0 + _ ≤ _; exact Nat.le_of_eq rfl) (hb hby at_291) (fun _ _ => ⟨rfl, e138, (by decide : 5 + 0 ≤ _), (by decide : 13 + 0 ≤ _)⟩)
    dsimp only [Pt.U, Pt.locs, Pt.cells, Pt.slots] at X139 l139 y139 z139 st139 hQ139
    subst y139 z139
    obtain ⟨rfl, N139q, e139⟩ := hQ139
    have N139 : Fr n0 L139 := by rw [l139]; exact Fr.app N138 N139q
    obtain ⟨_, _, ⟨T140, L140, k140, n140⟩, -, X140, ⟨Lc140, hQ140, l140, y140, z140⟩, st140⟩ := Jvm.LawKit.callS X139 hx (y := (⟨"skipstitch/table/PrefixTableOptimisedPinLaw", "at", "([II[B[II)Z"⟩ : MethodName)) hown (mvT hZ (hw _ (List.mem_of_getElem? (i := 17) rfl))) (mvT hZ (hw _ (List.mem_of_getElem? (i := 18) rfl))) (mvT hZ (hw _ (List.mem_of_getElem? (i := 4) rfl))) (mvT hZ (hw _ (List.mem_of_getElem? (i := 19) rfl))) (by decide) (backOf (W := 1) (rm5c l Z a0 hw [] b127 (1 : Int32) b1 b24 (2 : Int32) T126.heap n0 Z126 (by decide)) hZ (hw _ (List.mem_of_getElem? (i := 19) rfl)) (hw _ (List.mem_of_getElem? (i := 4) rfl)) (by decide) (by decide)) (g := (mkF m 307 #[.val (.int nv), .val (.int aa), .val (.int bb), .val (.int (1 : Int32)), .val (.ref b1), .val (.ref b24), .val (.ref b96), .val (.ref b102), .val (.ref b127), .val (.int (1 : Int32))] [(.int (2 : Int32)), (.ref b24), (.ref b1), (.int (1 : Int32)), (.ref b127), (.int (1 : Int32))])) rfl (by rw [hml]; rfl) (argsL := [(.ref b127), (.int (1 : Int32)), (.ref b1), (.ref b24), (.int (2 : Int32))]) (rest := [(.int (1 : Int32))]) (lenOf pd_6 rfl) rfl (by show 2 * 0 + _ ≤ _; exact Nat.le_of_eq rfl) (hb hby at_307) (fun _ _ => ⟨rfl, e139, (by decide : 5 + 0 ≤ _), (by decide : 13 + 0 ≤ _)⟩)
    dsimp only [Pt.U, Pt.locs, Pt.cells, Pt.slots] at X140 l140 y140 z140 st140 hQ140
    subst y140 z140
    obtain ⟨rfl, N140q, e140⟩ := hQ140
    have N140 : Fr n0 L140 := by rw [l140]; exact Fr.app N139 N140q
    obtain ⟨_, _, ⟨T141, L141, k141, n141⟩, -, X141, ⟨Lc141, hQ141, l141, y141, z141⟩, st141⟩ := Jvm.LawKit.callS X140 hx (y := (⟨"skipstitch/table/PrefixTableOptimisedPinLaw", "at", "([II[B[II)Z"⟩ : MethodName)) hown (mvT hZ (hw _ (List.mem_of_getElem? (i := 17) rfl))) (mvT hZ (hw _ (List.mem_of_getElem? (i := 18) rfl))) (mvT hZ (hw _ (List.mem_of_getElem? (i := 4) rfl))) (mvT hZ (hw _ (List.mem_of_getElem? (i := 19) rfl))) (by decide) (backOf (W := 1) (rm5c l Z a0 hw [] b127 (1 : Int32) b1 b24 (3 : Int32) T126.heap n0 Z126 (by decide)) hZ (hw _ (List.mem_of_getElem? (i := 19) rfl)) (hw _ (List.mem_of_getElem? (i := 4) rfl)) (by decide) (by decide)) (g := (mkF m 323 #[.val (.int nv), .val (.int aa), .val (.int bb), .val (.int (1 : Int32)), .val (.ref b1), .val (.ref b24), .val (.ref b96), .val (.ref b102), .val (.ref b127), .val (.int (1 : Int32))] [(.int (3 : Int32)), (.ref b24), (.ref b1), (.int (1 : Int32)), (.ref b127), (.int (1 : Int32))])) rfl (by rw [hml]; rfl) (argsL := [(.ref b127), (.int (1 : Int32)), (.ref b1), (.ref b24), (.int (3 : Int32))]) (rest := [(.int (1 : Int32))]) (lenOf pd_6 rfl) rfl (by show 2 * 0 + _ ≤ _; exact Nat.le_of_eq rfl) (hb hby at_323) (fun _ _ => ⟨rfl, e140, (by decide : 5 + 0 ≤ _), (by decide : 13 + 0 ≤ _)⟩)
    dsimp only [Pt.U, Pt.locs, Pt.cells, Pt.slots] at X141 l141 y141 z141 st141 hQ141
    subst y141 z141
    obtain ⟨rfl, N141q, e141⟩ := hQ141
    have N141 : Fr n0 L141 := by rw [l141]; exact Fr.app N140 N141q
    obtain ⟨_, _, ⟨T142, L142, k142, n142⟩, -, X142, ⟨Lc142, hQ142, l142, y142, z142⟩, st142⟩ := Jvm.LawKit.callS X141 hx (y := (⟨"skipstitch/table/PrefixTableOptimisedPinLaw", "at", "([II[B[II)Z"⟩ : MethodName)) hown (mvT hZ (hw _ (List.mem_of_getElem? (i := 17) rfl))) (mvT hZ (hw _ (List.mem_of_getElem? (i := 18) rfl))) (mvT hZ (hw _ (List.mem_of_getElem? (i := 4) rfl))) (mvT hZ (hw _ (List.mem_of_getElem? (i := 19) rfl))) (by decide) (backOf (W := 1) (rm5c l Z a0 hw [] b127 (1 : Int32) b1 b24 (4 : Int32) T126.heap n0 Z126 (by decide)) hZ (hw _ (List.mem_of_getElem? (i := 19) rfl)) (hw _ (List.mem_of_getElem? (i := 4) rfl)) (by decide) (by decide)) (g := (mkF m 339 #[.val (.int nv), .val (.int aa), .val (.int bb), .val (.int (1 : Int32)), .val (.ref b1), .val (.ref b24), .val (.ref b96), .val (.ref b102), .val (.ref b127), .val (.int (1 : Int32))] [(.int (4 : Int32)), (.ref b24), (.ref b1), (.int (1 : Int32)), (.ref b127), (.int (1 : Int32))])) rfl (by rw [hml]; rfl) (argsL := [(.ref b127), (.int (1 : Int32)), (.ref b1), (.ref b24), (.int (4 : Int32))]) (rest := [(.int (1 : Int32))]) (lenOf pd_6 rfl) rfl (by show 2 * 0 + _ ≤ _; exact Nat.le_of_eq rfl) (hb hby at_339) (fun _ _ => ⟨rfl, e141, (by decide : 5 + 0 ≤ _), (by decide : 13 + 0 ≤ _)⟩)
    dsimp only [Pt.U, Pt.locs, Pt.cells, Pt.slots] at X142 l142 y142 z142 st142 hQ142
    subst y142 z142
    obtain ⟨rfl, N142q, e142⟩ := hQ142
    have N142 : Fr n0 L142 := by rw [l142]; exact Fr.app N141 N142q
    obtain ⟨_, _, ⟨T143, L143, k143, n143⟩, -, X143, ⟨Lc143, hQ143, l143, y143, z143⟩, st143⟩ := Jvm.LawKit.callS X142 hx (y := (⟨"skipstitch/table/PrefixTableOptimisedPinLaw", "same", "([B[II[B[II)Z"⟩ : MethodName)) hown (mvT hZ (hw _ (List.mem_of_getElem? (i := 20) rfl))) (mvT hZ (hw _ (List.mem_of_getElem? (i := 21) rfl))) (mvT hZ (hw _ (List.mem_of_getElem? (i := 4) rfl))) (mvT hZ (hw _ (List.mem_of_getElem? (i := 22) rfl))) (by decide) (backOf (W := 1) (rm6l0 l Z a0 hw [] b96 b102 (1 : Int32) b1 b24 (own_FQ aa bb) (own_FT aa bb) (own_FP1 aa bb) (own_FS1 aa bb) 1 T126.heap n0 Z126 f135 f136 f133 f134 (by decide) (by decide)) hZ (hw _ (List.mem_of_getElem? (i := 22) rfl)) (hw _ (List.mem_of_getElem? (i := 4) rfl)) (by decide) (by decide)) (g := (mkF m 357 #[.val (.int nv), .val (.int aa), .val (.int bb), .val (.int (1 : Int32)), .val (.ref b1), .val (.ref b24), .val (.ref b96), .val (.ref b102), .val (.ref b127), .val (.int (1 : Int32))] [(.int (0 : Int32)), (.ref b24), (.ref b1), (.int (1 : Int32)), (.ref b102), (.ref b96), (.int (1 : Int32))])) rfl (by rw [hml]; rfl) (argsL := [(.ref b96), (.ref b102), (.int (1 : Int32)), (.ref b1), (.ref b24), (.int (0 : Int32))]) (rest := [(.int (1 : Int32))]) (lenOf pd_7 rfl) rfl (by show 2 * 0 + _ ≤ _; exact Nat.le_of_eq rfl) (hb hby at_357) (fun _ _ => ⟨rfl, e142, (by decide : 5 + 0 ≤ _), (by decide : 13 + 0 ≤ _)⟩)
    dsimp only [Pt.U, Pt.locs, Pt.cells, Pt.slots] at X143 l143 y143 z143 st143 hQ143
    subst y143 z143
    obtain ⟨rfl, N143q, e143⟩ := hQ143
    have N143 : Fr n0 L143 := by rw [l143]; exact Fr.app N142 N143q
    have hres143 : (r6l0_v (own_FQ aa bb) (own_FT aa bb) (own_FP1 aa bb) (own_FS1 aa bb)) = (1 : Int32) := own_s1_0 aa bb
    obtain ⟨_, _, ⟨T144, L144, k144, n144⟩, -, X144, ⟨Lc144, hQ144, l144, y144, z144⟩, st144⟩ := Jvm.LawKit.callS X143 hx (y := (⟨"skipstitch/table/PrefixTableOptimisedPinLaw", "same", "([B[II[B[II)Z"⟩ : MethodName)) hown (mvT hZ (hw _ (List.mem_of_getElem? (i := 20) rfl))) (mvT hZ (hw _ (List.mem_of_getElem? (i := 21) rfl))) (mvT hZ (hw _ (List.mem_of_getElem? (i := 4) rfl))) (mvT hZ (hw _ (List.mem_of_getElem? (i := 22) rfl))) (by decide) (backOf (W := 1) (rm6c l Z a0 hw [] b96 b102 (1 : Int32) b1 b24 (1 : Int32) T126.heap n0 Z126 (by decide)) hZ (hw _ (List.mem_of_getElem? (i := 22) rfl)) (hw _ (List.mem_of_getElem? (i := 4) rfl)) (by decide) (by decide)) (g := (mkF m 375 #[.val (.int nv), .val (.int aa), .val (.int bb), .val (.int (1 : Int32)), .val (.ref b1), .val (.ref b24), .val (.ref b96), .val (.ref b102), .val (.ref b127), .val (.int (1 : Int32))] [(.int (1 : Int32)), (.ref b24), (.ref b1), (.int (1 : Int32)), (.ref b102), (.ref b96), (.int (1 : Int32))])) rfl (by rw [hml]; rfl) (argsL := [(.ref b96), (.ref b102), (.int (1 : Int32)), (.ref b1), (.ref b24), (.int (1 : Int32))]) (rest := [(.int (1 : Int32))]) (lenOf pd_7 rfl) rfl (by show 2 * 0 + _ ≤ _; exact Nat.le_of_eq rfl) (hb hby at_375) (fun _ _ => ⟨rfl, e143, (by decide : 5 + 0 ≤ _), (by decide : 13 + 0 ≤ _)⟩)
    dsimp only [Pt.U, Pt.locs, Pt.cells, Pt.slots] at X144 l144 y144 z144 st144 hQ144
    subst y144 z144
    obtain ⟨rfl, N144q, e144⟩ := hQ144
    have N144 : Fr n0 L144 := by rw [l144]; exact Fr.app N143 N144q
    obtain ⟨_, _, ⟨T145, L145, k145, n145⟩, -, X145, ⟨Lc145, hQ145, l145, y145, z145⟩, st145⟩ := Jvm.LawKit.callS X144 hx (y := (⟨"skipstitch/table/PrefixTableOptimisedPinLaw", "same", "([B[II[B[II)Z"⟩ : MethodName)) hown (mvT hZ (hw _ (List.mem_of_getElem? (i := 20) rfl))) (mvT hZ (hw _ (List.mem_of_getElem? (i := 21) rfl))) (mvT hZ (hw _ (List.mem_of_getElem? (i := 4) rfl))) (mvT hZ (hw _ (List.mem_of_getElem? (i := 22) rfl))) (by decide) (backOf (W := 1) (rm6c l Z a0 hw [] b96 b102 (1 : Int32) b1 b24 (2 : Int32) T126.heap n0 Z126 (by decide)) hZ (hw _ (List.mem_of_getElem? (i := 22) rfl)) (hw _ (List.mem_of_getElem? (i := 4) rfl)) (by decide) (by decide)) (g := (mkF m 393 #[.val (.int nv), .val (.int aa), .val (.int bb), .val (.int (1 : Int32)), .val (.ref b1), .val (.ref b24), .val (.ref b96), .val (.ref b102), .val (.ref b127), .val (.int (1 : Int32))] [(.int (2 : Int32)), (.ref b24), (.ref b1), (.int (1 : Int32)), (.ref b102), (.ref b96), (.int (1 : Int32))])) rfl (by rw [hml]; rfl) (argsL := [(.ref b96), (.ref b102), (.int (1 : Int32)), (.ref b1), (.ref b24), (.int (2 : Int32))]) (rest := [(.int (1 : Int32))]) (lenOf pd_7 rfl) rfl (by show 2 * 0 + _ ≤ _; exact Nat.le_of_eq rfl) (hb hby at_393) (fun _ _ => ⟨rfl, e144, (by decide : 5 + 0 ≤ _), (by decide : 13 + 0 ≤ _)⟩)
    dsimp only [Pt.U, Pt.locs, Pt.cells, Pt.slots] at X145 l145 y145 z145 st145 hQ145
    subst y145 z145
    obtain ⟨rfl, N145q, e145⟩ := hQ145
    have N145 : Fr n0 L145 := by rw [l145]; exact Fr.app N144 N145q
    obtain ⟨_, _, ⟨T146, L146, k146, n146⟩, -, X146, ⟨Lc146, hQ146, l146, y146, z146⟩, st146⟩ := Jvm.LawKit.callS X145 hx (y := (⟨"skipstitch/table/PrefixTableOptimisedPinLaw", "same", "([B[II[B[II)Z"⟩ : MethodName)) hown (mvT hZ (hw _ (List.mem_of_getElem? (i := 20) rfl))) (mvT hZ (hw _ (List.mem_of_getElem? (i := 21) rfl))) (mvT hZ (hw _ (List.mem_of_getElem? (i := 4) rfl))) (mvT hZ (hw _ (List.mem_of_getElem? (i := 22) rfl))) (by decide) (backOf (W := 1) (rm6c l Z a0 hw [] b96 b102 (1 : Int32) b1 b24 (3 : Int32) T126.heap n0 Z126 (by decide)) hZ (hw _ (List.mem_of_getElem? (i := 22) rfl)) (hw _ (List.mem_of_getElem? (i := 4) rfl)) (by decide) (by decide)) (g := (mkF m 411 #[.val (.int nv), .val (.int aa), .val (.int bb), .val (.int (1 : Int32)), .val (.ref b1), .val (.ref b24), .val (.ref b96), .val (.ref b102), .val (.ref b127), .val (.int (1 : Int32))] [(.int (3 : Int32)), (.ref b24), (.ref b1), (.int (1 : Int32)), (.ref b102), (.ref b96), (.int (1 : Int32))])) rfl (by rw [hml]; rfl) (argsL := [(.ref b96), (.ref b102), (.int (1 : Int32)), (.ref b1), (.ref b24), (.int (3 : Int32))]) (rest := [(.int (1 : Int32))]) (lenOf pd_7 rfl) rfl (by show 2 * 0 + _ ≤ _; exact Nat.le_of_eq rfl) (hb hby at_411) (fun _ _ => ⟨rfl, e145, (by decide : 5 + 0 ≤ _), (by decide : 13 + 0 ≤ _)⟩)
    dsimp only [Pt.U, Pt.locs, Pt.cells, Pt.slots] at X146 l146 y146 z146 st146 hQ146
    subst y146 z146
    obtain ⟨rfl, N146q, e146⟩ := hQ146
    have N146 : Fr n0 L146 := by rw [l146]; exact Fr.app N145 N146q
    obtain ⟨_, _, ⟨T147, L147, k147, n147⟩, -, X147, ⟨Lc147, hQ147, l147, y147, z147⟩, st147⟩ := Jvm.LawKit.callS X146 hx (y := (⟨"skipstitch/table/PrefixTableOptimisedPinLaw", "same", "([B[II[B[II)Z"⟩ : MethodName)) hown (mvT hZ (hw _ (List.mem_of_getElem? (i := 20) rfl))) (mvT hZ (hw _ (List.mem_of_getElem? (i := 21) rfl))) (mvT hZ (hw _ (List.mem_of_getElem? (i := 4) rfl))) (mvT hZ (hw _ (List.mem_of_getElem? (i := 22) rfl))) (by decide) (backOf (W := 1) (rm6c l Z a0 hw [] b96 b102 (1 : Int32) b1 b24 (4 : Int32) T126.heap n0 Z126 (by decide)) hZ (hw _ (List.mem_of_getElem? (i := 22) rfl)) (hw _ (List.mem_of_getElem? (i := 4) rfl)) (by decide) (by decide)) (g := (mkF m 429 #[.val (.int nv), .val (.int aa), .val (.int bb), .val (.int (1 : Int32)), .val (.ref b1), .val (.ref b24), .val (.ref b96), .val (.ref b102), .val (.ref b127), .val (.int (1 : Int32))] [(.int (4 : Int32)), (.ref b24), (.ref b1), (.int (1 : Int32)), (.ref b102), (.ref b96), (.int (1 : Int32))])) rfl (by rw [hml]; rfl) (argsL := [(.ref b96), (.ref b102), (.int (1 : Int32)), (.ref b1), (.ref b24), (.int (4 : Int32))]) (rest := [(.int (1 : Int32))]) (lenOf pd_7 rfl) rfl (by show 2 * 0 + _ ≤ _; exact Nat.le_of_eq rfl) (hb hby at_429) (fun _ _ => ⟨rfl, e146, (by decide : 5 + 0 ≤ _), (by decide : 13 + 0 ≤ _)⟩)
    dsimp only [Pt.U, Pt.locs, Pt.cells, Pt.slots] at X147 l147 y147 z147 st147 hQ147
    subst y147 z147
    obtain ⟨rfl, N147q, e147⟩ := hQ147
    have N147 : Fr n0 L147 := by rw [l147]; exact Fr.app N146 N147q
    obtain ⟨fs, hr, hrun, hended, hW, hsame⟩ := X147.leave (v := some (.int (1 : Int32))) (fun h => by rw [Bd.returns] at h; cases h) (hlocks := Bd.notSynchronized)
    refine ⟨_, _, pre95 _ ?_, hrun, hended, _, _, rfl, ?_, ⟨_, rfl⟩, hW, hsame.mono (by decide) (by decide)⟩
    · show Steps p.tables e below (T50.setTop (mkF m 119 #[.val (.int nv), .val (.int aa), .val (.int bb), .val (.int (1 : Int32)), .val (.ref b1), .val (.ref b24), .unset, .unset, .unset, .unset] [(.int (1 : Int32))])) _
      refine st96 _ ?_
      refine XS.astore X96.here hx rfl (hb hby at_121) rfl rfl (l' := #[.val (.int nv), .val (.int aa), .val (.int bb), .val (.int (1 : Int32)), .val (.ref b1), .val (.ref b24), .val (.ref b96), .unset, .unset, .unset]) rfl ?_
      refine XS.iloadN X96.here hx rfl (hb hby at_123) rfl ?_
      refine st102 _ ?_
      refine XS.astore X102.here hx rfl (hb hby at_126) rfl rfl (l' := #[.val (.int nv), .val (.int aa), .val (.int bb), .val (.int (1 : Int32)), .val (.ref b1), .val (.ref b24), .val (.ref b96), .val (.ref b102), .unset, .unset]) rfl ?_
      refine XS.iloadN X102.here hx rfl (hb hby at_128) rfl ?_
      refine XS.ifNo X102.here hx rfl (hb hby at_129) rfl ((if0 _ _).trans (tlt (by decide : ((0 : Int32) < (1 : Int32)))).2.2.2) ?_
      refine XS.aload X102.here hx rfl (hb hby at_132) rfl rfl ?_
      refine XS.iconst X102.here hx rfl (hb hby at_134) ?_
      refine XS.aload X102.here hx rfl (hb hby at_135) rfl rfl ?_
      refine XS.iconst X102.here hx rfl (hb hby at_137) ?_
      refine X102.baloadBytes hx (j := (0 : Int32)) (v := (.int ((own_FQ aa bb) 0))) (by rw [e102]; exact Arcl110.1) (State.isArrayOf_alike hZ.alike Arcl110.2.1) Arcl110.2.2 hincl110 hatcl110 (g := (mkF m 138 #[.val (.int nv), .val (.int aa), .val (.int bb), .val (.int (1 : Int32)), .val (.ref b1), .val (.ref b24), .val (.ref b96), .val (.ref b102), .unset, .unset] [(.int (0 : Int32)), (.ref b1), (.int (0 : Int32)), (.ref b96)])) rfl rfl (hb hby at_138) _ ?_
      refine st112 _ ?_
      refine XS.aload X112.here hx rfl (hb hby at_140) rfl rfl ?_
      refine XS.iconst X112.here hx rfl (hb hby at_142) ?_
      refine XS.aload X112.here hx rfl (hb hby at_143) rfl rfl ?_
      refine XS.iconst X112.here hx rfl (hb hby at_145) ?_
      refine X112.iaload hx (j := (0 : Int32)) (v := (.int ((own_FT aa bb) 0))) (by rw [e112]; exact Arcl117.1) (State.isArrayOf_alike hZ.alike Arcl117.2.1) Arcl117.2.2 hincl117 hatcl117 (g := (mkF m 146 #[.val (.int nv), .val (.int aa), .val (.int bb), .val (.int (1 : Int32)), .val (.ref b1), .val (.ref b24), .val (.ref b96), .val (.ref b102), .unset, .unset] [(.int (0 : Int32)), (.ref b24), (.int (0 : Int32)), (.ref b102)])) rfl rfl (hb hby at_146) _ ?_
      refine st119 _ ?_
      refine XS.iloadN X119.here hx rfl (hb hby at_148) rfl ?_
      refine XS.iconst X119.here hx rfl (hb hby at_149) ?_
      refine XS.icmpYes X119.here hx rfl (pc0 := 150) (pc' := 169) rfl (hb hby at_150) rfl (flt (by decide : ¬ ((1 : Int32) < (1 : Int32)))).2.2.2 (by decide) (by decide) ?_
      refine XS.iloadN X119.here hx rfl (hb hby at_169) rfl ?_
      refine XS.iconst X119.here hx rfl (hb hby at_170) ?_
      refine XS.icmpYes X119.here hx rfl (pc0 := 171) (pc' := 190) rfl (hb hby at_171) rfl (flt (by decide : ¬ ((2 : Int32) < (1 : Int32)))).2.2.2 (by decide) (by decide) ?_
      refine XS.iloadN X119.here hx rfl (hb hby at_190) rfl ?_
      refine XS.iconst X119.here hx rfl (hb hby at_191) ?_
      refine XS.icmpYes X119.here hx rfl (pc0 := 192) (pc' := 211) rfl (hb hby at_192) rfl (flt (by decide : ¬ ((3 : Int32) < (1 : Int32)))).2.2.2 (by decide) (by decide) ?_
      refine XS.iloadN X119.here hx rfl (hb hby at_211) rfl ?_
      refine XS.iconst X119.here hx rfl (hb hby at_212) ?_
      refine XS.icmpYes X119.here hx rfl (pc0 := 213) (pc' := 232) rfl (hb hby at_213) rfl (flt (by decide : ¬ ((4 : Int32) < (1 : Int32)))).2.2.2 (by decide) (by decide) ?_
      refine XS.aload X119.here hx rfl (hb hby at_232) rfl rfl ?_
      refine XS.aload X119.here hx rfl (hb hby at_234) rfl rfl ?_
      refine st126 _ ?_
      refine XS.astore X126.here hx rfl (hb hby at_239) rfl rfl (l' := #[.val (.int nv), .val (.int aa), .val (.int bb), .val (.int (1 : Int32)), .val (.ref b1), .val (.ref b24), .val (.ref b96), .val (.ref b102), .val (.ref b127), .unset]) rfl ?_
      refine XS.aload X126.here hx rfl (hb hby at_241) rfl rfl ?_
      refine XS.ifnullNo X126.here hx rfl (hb hby at_243) rfl ?_
      refine XS.aload X126.here hx rfl (hb hby at_246) rfl rfl ?_
      refine X126.arraylength hx Arcl137.1 (State.isArrayOf_alike hZ.alike Arcl137.2.1) (g := (mkF m 248 #[.val (.int nv), .val (.int aa), .val (.int bb), .val (.int (1 : Int32)), .val (.ref b1), .val (.ref b24), .val (.ref b96), .val (.ref b102), .val (.ref b127), .unset] [(.ref b127)])) rfl rfl (hb hby at_248) _ ?_
      rw [Szcl137]
      refine XS.iloadN X126.here hx rfl (hb hby at_249) rfl ?_
      refine XS.icmpNo X126.here hx rfl (hb hby at_250) rfl (teq (by decide : ((1 : Int32) = (1 : Int32)))).2 ?_
      refine XS.aload X126.here hx rfl (hb hby at_253) rfl rfl ?_
      refine XS.aload X126.here hx rfl (hb hby at_255) rfl rfl ?_
      refine Jvm.RoadKit.acmp (g := (mkF m 257 #[.val (.int nv), .val (.int aa), .val (.int bb), .val (.int (1 : Int32)), .val (.ref b1), .val (.ref b24), .val (.ref b96), .val (.ref b102), .val (.ref b127), .unset] [(.ref b102), (.ref b127)])) X126 hx rfl rfl rfl (pc0 := 257) (pc' := 262) (same := false) rfl (hb hby at_257) rfl (decide_eq_false fun q => (Ne.symm ne130) (Value.ref.inj q)) (by decide) (by decide) ?_
      refine XS.iconst X126.here hx rfl (hb hby at_262) ?_
      refine XS.istore X126.here hx rfl (hb hby at_263) rfl (l' := #[.val (.int nv), .val (.int aa), .val (.int bb), .val (.int (1 : Int32)), .val (.ref b1), .val (.ref b24), .val (.ref b96), .val (.ref b102), .val (.ref b127), .val (.int (1 : Int32))]) rfl ?_
      refine XS.iload X126.here hx rfl (hb hby at_265) rfl ?_
      refine XS.aload X126.here hx rfl (hb hby at_267) rfl rfl ?_
      refine XS.iloadN X126.here hx rfl (hb hby at_269) rfl ?_
      refine XS.aload X126.here hx rfl (hb hby at_270) rfl rfl ?_
      refine XS.aload X126.here hx rfl (hb hby at_272) rfl rfl ?_
      refine XS.iconst X126.here hx rfl (hb hby at_274) ?_
      refine st138 _ ?_
      rw [hres138]
      refine XS.iand X138.here hx rfl (hb hby at_278) rfl ?_
      refine XS.istore X138.here hx rfl (hb hby at_279) rfl (l' := #[.val (.int nv), .val (.int aa), .val (.int bb), .val (.int (1 : Int32)), .val (.ref b1), .val (.ref b24), .val (.ref b96), .val (.ref b102), .val (.ref b127), .val (.int (1 : Int32))]) rfl ?_
      refine XS.iload X138.here hx rfl (hb hby at_281) rfl ?_
      refine XS.aload X138.here hx rfl (hb hby at_283) rfl rfl ?_
      refine XS.iloadN X138.here hx rfl (hb hby at_285) rfl ?_
      refine XS.aload X138.here hx rfl (hb hby at_286) rfl rfl ?_
      refine XS.aload X138.here hx rfl (hb hby at_288) rfl rfl ?_
      refine XS.iconst X138.here hx rfl (hb hby at_290) ?_
      refine st139 _ ?_
      refine XS.iand X139.here hx rfl (hb hby at_294) rfl ?_
      refine XS.istore X139.here hx rfl (hb hby at_295) rfl (l' := #[.val (.int nv), .val (.int aa), .val (.int bb), .val (.int (1 : Int32)), .val (.ref b1), .val (.ref b24), .val (.ref b96), .val (.ref b102), .val (.ref b127), .val (.int (1 : Int32))]) rfl ?_
      refine XS.iload X139.here hx rfl (hb hby at_297) rfl ?_
      refine XS.aload X139.here hx rfl (hb hby at_299) rfl rfl ?_
      refine XS.iloadN X139.here hx rfl (hb hby at_301) rfl ?_
      refine XS.aload X139.here hx rfl (hb hby at_302) rfl rfl ?_
      refine XS.aload X139.here hx rfl (hb hby at_304) rfl rfl ?_
      refine XS.iconst X139.here hx rfl (hb hby at_306) ?_
      refine st140 _ ?_
      refine XS.iand X140.here hx rfl (hb hby at_310) rfl ?_
      refine XS.istore X140.here hx rfl (hb hby at_311) rfl (l' := #[.val (.int nv), .val (.int aa), .val (.int bb), .val (.int (1 : Int32)), .val (.ref b1), .val (.ref b24), .val (.ref b96), .val (.ref b102), .val (.ref b127), .val (.int (1 : Int32))]) rfl ?_
      refine XS.iload X140.here hx rfl (hb hby at_313) rfl ?_
      refine XS.aload X140.here hx rfl (hb hby at_315) rfl rfl ?_
      refine XS.iloadN X140.here hx rfl (hb hby at_317) rfl ?_
      refine XS.aload X140.here hx rfl (hb hby at_318) rfl rfl ?_
      refine XS.aload X140.here hx rfl (hb hby at_320) rfl rfl ?_
      refine XS.iconst X140.here hx rfl (hb hby at_322) ?_
      refine st141 _ ?_
      refine XS.iand X141.here hx rfl (hb hby at_326) rfl ?_
      refine XS.istore X141.here hx rfl (hb hby at_327) rfl (l' := #[.val (.int nv), .val (.int aa), .val (.int bb), .val (.int (1 : Int32)), .val (.ref b1), .val (.ref b24), .val (.ref b96), .val (.ref b102), .val (.ref b127), .val (.int (1 : Int32))]) rfl ?_
      refine XS.iload X141.here hx rfl (hb hby at_329) rfl ?_
      refine XS.aload X141.here hx rfl (hb hby at_331) rfl rfl ?_
      refine XS.iloadN X141.here hx rfl (hb hby at_333) rfl ?_
      refine XS.aload X141.here hx rfl (hb hby at_334) rfl rfl ?_
      refine XS.aload X141.here hx rfl (hb hby at_336) rfl rfl ?_
      refine XS.iconst X141.here hx rfl (hb hby at_338) ?_
      refine st142 _ ?_
      refine XS.iand X142.here hx rfl (hb hby at_342) rfl ?_
      refine XS.istore X142.here hx rfl (hb hby at_343) rfl (l' := #[.val (.int nv), .val (.int aa), .val (.int bb), .val (.int (1 : Int32)), .val (.ref b1), .val (.ref b24), .val (.ref b96), .val (.ref b102), .val (.ref b127), .val (.int (1 : Int32))]) rfl ?_
      refine XS.iload X142.here hx rfl (hb hby at_345) rfl ?_
      refine XS.aload X142.here hx rfl (hb hby at_347) rfl rfl ?_
      refine XS.aload X142.here hx rfl (hb hby at_349) rfl rfl ?_
      refine XS.iloadN X142.here hx rfl (hb hby at_351) rfl ?_
      refine XS.aload X142.here hx rfl (hb hby at_352) rfl rfl ?_
      refine XS.aload X142.here hx rfl (hb hby at_354) rfl rfl ?_
      refine XS.iconst X142.here hx rfl (hb hby at_356) ?_
      refine st143 _ ?_
      rw [hres143]
      refine XS.iand X143.here hx rfl (hb hby at_360) rfl ?_
      refine XS.istore X143.here hx rfl (hb hby at_361) rfl (l' := #[.val (.int nv), .val (.int aa), .val (.int bb), .val (.int (1 : Int32)), .val (.ref b1), .val (.ref b24), .val (.ref b96), .val (.ref b102), .val (.ref b127), .val (.int (1 : Int32))]) rfl ?_
      refine XS.iload X143.here hx rfl (hb hby at_363) rfl ?_
      refine XS.aload X143.here hx rfl (hb hby at_365) rfl rfl ?_
      refine XS.aload X143.here hx rfl (hb hby at_367) rfl rfl ?_
      refine XS.iloadN X143.here hx rfl (hb hby at_369) rfl ?_
      refine XS.aload X143.here hx rfl (hb hby at_370) rfl rfl ?_
      refine XS.aload X143.here hx rfl (hb hby at_372) rfl rfl ?_
      refine XS.iconst X143.here hx rfl (hb hby at_374) ?_
      refine st144 _ ?_
      refine XS.iand X144.here hx rfl (hb hby at_378) rfl ?_
      refine XS.istore X144.here hx rfl (hb hby at_379) rfl (l' := #[.val (.int nv), .val (.int aa), .val (.int bb), .val (.int (1 : Int32)), .val (.ref b1), .val (.ref b24), .val (.ref b96), .val (.ref b102), .val (.ref b127), .val (.int (1 : Int32))]) rfl ?_
      refine XS.iload X144.here hx rfl (hb hby at_381) rfl ?_
      refine XS.aload X144.here hx rfl (hb hby at_383) rfl rfl ?_
      refine XS.aload X144.here hx rfl (hb hby at_385) rfl rfl ?_
      refine XS.iloadN X144.here hx rfl (hb hby at_387) rfl ?_
      refine XS.aload X144.here hx rfl (hb hby at_388) rfl rfl ?_
      refine XS.aload X144.here hx rfl (hb hby at_390) rfl rfl ?_
      refine XS.iconst X144.here hx rfl (hb hby at_392) ?_
      refine st145 _ ?_
      refine XS.iand X145.here hx rfl (hb hby at_396) rfl ?_
      refine XS.istore X145.here hx rfl (hb hby at_397) rfl (l' := #[.val (.int nv), .val (.int aa), .val (.int bb), .val (.int (1 : Int32)), .val (.ref b1), .val (.ref b24), .val (.ref b96), .val (.ref b102), .val (.ref b127), .val (.int (1 : Int32))]) rfl ?_
      refine XS.iload X145.here hx rfl (hb hby at_399) rfl ?_
      refine XS.aload X145.here hx rfl (hb hby at_401) rfl rfl ?_
      refine XS.aload X145.here hx rfl (hb hby at_403) rfl rfl ?_
      refine XS.iloadN X145.here hx rfl (hb hby at_405) rfl ?_
      refine XS.aload X145.here hx rfl (hb hby at_406) rfl rfl ?_
      refine XS.aload X145.here hx rfl (hb hby at_408) rfl rfl ?_
      refine XS.iconst X145.here hx rfl (hb hby at_410) ?_
      refine st146 _ ?_
      refine XS.iand X146.here hx rfl (hb hby at_414) rfl ?_
      refine XS.istore X146.here hx rfl (hb hby at_415) rfl (l' := #[.val (.int nv), .val (.int aa), .val (.int bb), .val (.int (1 : Int32)), .val (.ref b1), .val (.ref b24), .val (.ref b96), .val (.ref b102), .val (.ref b127), .val (.int (1 : Int32))]) rfl ?_
      refine XS.iload X146.here hx rfl (hb hby at_417) rfl ?_
      refine XS.aload X146.here hx rfl (hb hby at_419) rfl rfl ?_
      refine XS.aload X146.here hx rfl (hb hby at_421) rfl rfl ?_
      refine XS.iloadN X146.here hx rfl (hb hby at_423) rfl ?_
      refine XS.aload X146.here hx rfl (hb hby at_424) rfl rfl ?_
      refine XS.aload X146.here hx rfl (hb hby at_426) rfl rfl ?_
      refine XS.iconst X146.here hx rfl (hb hby at_428) ?_
      refine st147 _ ?_
      refine XS.iand X147.here hx rfl (hb hby at_432) rfl ?_
      refine XS.istore X147.here hx rfl (hb hby at_433) rfl (l' := #[.val (.int nv), .val (.int aa), .val (.int bb), .val (.int (1 : Int32)), .val (.ref b1), .val (.ref b24), .val (.ref b96), .val (.ref b102), .val (.ref b127), .val (.int (1 : Int32))]) rfl ?_
      refine XS.iload X147.here hx rfl (hb hby at_435) rfl ?_
      exact retN X147 hx (t := .boolean) Bd.returns (by simp) (hb hby at_437) hr
    · show Q0 Z nv aa bb h0 n0 _ T147.heap _
      rw [e147]
      exact ⟨rfl, N147⟩
  · have pre148 : ∀ t, Steps p.tables e below (T50.setTop (mkF m 119 #[.val (.int nv), .val (.int aa), .val (.int bb), .val (.int (2 : Int32)), .val (.ref b1), .val (.ref b24), .unset, .unset, .unset, .unset] [(.int (2 : Int32))])) t → Steps p.tables e below (s₁.setTop (entryFrame m #[(.int nv), (.int aa), (.int bb)] maxLocals)) t := by
      intro t k
      refine pre54 _ ?_
      rw [hk55]
      exact k
    obtain ⟨T149, h149, k149, X149, e149, E149, A149, st149⟩ := newP X50 hx hZ (hw _ (List.mem_of_getElem? (i := 1) rfl)) e50 (g := (mkF m 119 #[.val (.int nv), .val (.int aa), .val (.int bb), .val (.int (2 : Int32)), .val (.ref b1), .val (.ref b24), .unset, .unset, .unset, .unset] [(.int (2 : Int32))])) rfl (hb hby at_119) rfl (by decide) (cap := 2) (by decide) (by decide) (by decide) (by decide)
    obtain ⟨b149, g149⟩ : ∃ z, z = h50.size := ⟨_, rfl⟩
    rw [← g149] at A149 st149
    have ne150 : b1 ≠ b149 := Nat.ne_of_lt (Nat.lt_of_lt_of_le f52.lt (Nat.le_of_eq g149.symm))
    have ne151 : b24 ≠ b149 := Nat.ne_of_lt (Nat.lt_of_lt_of_le f53.lt (Nat.le_of_eq g149.symm))
    have gg149 : n0 ≤ b149 := Nat.le_trans Z50 (Nat.le_of_eq g149.symm)
    have f152 : AI Z h149 b1 .byte 5 (own_FQ aa bb) := f52.ext E149
    have f153 : AI Z h149 b24 .int 5 (own_FT aa bb) := f53.ext E149
    have Z149 : n0 ≤ h149.size := Nat.le_trans Z50 E149.1
    have f154 : AI Z h149 b149 .byte 2 zI := AF.new A149 (by decide)
    obtain ⟨T155, h155, k155, X155, e155, E155, A155, st155⟩ := newP X149 hx hZ (hw _ (List.mem_of_getElem? (i := 6) rfl)) e149 (g := (mkF m 124 #[.val (.int nv), .val (.int aa), .val (.int bb), .val (.int (2 : Int32)), .val (.ref b1), .val (.ref b24), .val (.ref b149), .unset, .unset, .unset] [(.int (2 : Int32))])) rfl (hb hby at_124) rfl (by decide) (cap := 2) (by decide) (by decide) (by decide) (by decide)
    obtain ⟨b155, g155⟩ : ∃ z, z = h149.size := ⟨_, rfl⟩
    rw [← g155] at A155 st155
    have ne156 : b1 ≠ b155 := Nat.ne_of_lt (Nat.lt_of_lt_of_le f152.lt (Nat.le_of_eq g155.symm))
    have ne157 : b149 ≠ b155 := Nat.ne_of_lt (Nat.lt_of_lt_of_le f154.lt (Nat.le_of_eq g155.symm))
    have ne158 : b24 ≠ b155 := Nat.ne_of_lt (Nat.lt_of_lt_of_le f153.lt (Nat.le_of_eq g155.symm))
    have gg155 : n0 ≤ b155 := Nat.le_trans Z149 (Nat.le_of_eq g155.symm)
    have f159 : AI Z h155 b1 .byte 5 (own_FQ aa bb) := f152.ext E155
    have f160 : AI Z h155 b24 .int 5 (own_FT aa bb) := f153.ext E155
    have f161 : AI Z h155 b149 .byte 2 zI := f154.ext E155
    have Z155 : n0 ≤ h155.size := Nat.le_trans Z149 E155.1
    have f162 : AI Z h155 b155 .int 2 zI := AF.new A155 (by decide)
    obtain ⟨cl163, Arcl163, hincl163, hatcl163⟩ := AF.at f159 (j := (0 : Int32)) 0 (by decide) (by decide)
    obtain ⟨cl164, Arcl164, hincl164, -⟩ := AF.at f161 (j := (0 : Int32)) 0 (by decide) (by decide)
    obtain ⟨T165, h165, X165, e165, W165, st165⟩ := stB X155 hx hZ e155 Arcl164 (j := (0 : Int32)) hincl164 (g := (mkF m 139 #[.val (.int nv), .val (.int aa), .val (.int bb), .val (.int (2 : Int32)), .val (.ref b1), .val (.ref b24), .val (.ref b149), .val (.ref b155), .unset, .unset] [(.int ((own_FQ aa bb) 0)), (.int (0 : Int32)), (.ref b149)])) rfl rfl (hb hby at_139)
    rw [own_lq0 aa bb] at W165
    have N165 := Fr.snoc X165 N50 gg149
    have Z165 : n0 ≤ h165.size := Nat.le_trans Z155 (Keep.of_wr W165).1
    have f166 : AI Z h165 b149 .byte 2 (up zI 0 ((own_FQ aa bb) 0)) := AF.setI f161 W165 0 (by decide)
    have f167 : AI Z h165 b1 .byte 5 (own_FQ aa bb) := f159.other W165 ne150
    have f168 : AI Z h165 b24 .int 5 (own_FT aa bb) := f160.other W165 ne151
    have f169 : AI Z h165 b155 .int 2 zI := f162.other W165 (Ne.symm ne157)
    obtain ⟨cl170, Arcl170, hincl170, hatcl170⟩ := AF.at f168 (j := (0 : Int32)) 0 (by decide) (by decide)
    obtain ⟨cl171, Arcl171, hincl171, -⟩ := AF.at f169 (j := (0 : Int32)) 0 (by decide) (by decide)
    obtain ⟨T172, h172, X172, e172, W172, st172⟩ := stI X165 hx hZ e165 Arcl171 (j := (0 : Int32)) hincl171 (g := (mkF m 147 #[.val (.int nv), .val (.int aa), .val (.int bb), .val (.int (2 : Int32)), .val (.ref b1), .val (.ref b24), .val (.ref b149), .val (.ref b155), .unset, .unset] [(.int ((own_FT aa bb) 0)), (.int (0 : Int32)), (.ref b155)])) rfl rfl (hb hby at_147)
    have N172 := Fr.snoc X172 N165 gg155
    have Z172 : n0 ≤ h172.size := Nat.le_trans Z165 (Keep.of_wr W172).1
    have f173 : AI Z h172 b155 .int 2 (up zI 0 ((own_FT aa bb) 0)) := AF.setI f169 W172 0 (by decide)
    have f174 : AI Z h172 b1 .byte 5 (own_FQ aa bb) := f167.other W172 ne156
    have f175 : AI Z h172 b24 .int 5 (own_FT aa bb) := f168.other W172 ne158
    have f176 : AI Z h172 b149 .byte 2 (up zI 0 ((own_FQ aa bb) 0)) := f166.other W172 ne157
    obtain ⟨cl177, Arcl177, hincl177, hatcl177⟩ := AF.at f174 (j := (1 : Int32)) 1 (by decide) (by decide)
    obtain ⟨cl178, Arcl178, hincl178, -⟩ := AF.at f176 (j := (1 : Int32)) 1 (by decide) (by decide)
    obtain ⟨T179, h179, X179, e179, W179, st179⟩ := stB X172 hx hZ e172 Arcl178 (j := (1 : Int32)) hincl178 (g := (mkF m 160 #[.val (.int nv), .val (.int aa), .val (.int bb), .val (.int (2 : Int32)), .val (.ref b1), .val (.ref b24), .val (.ref b149), .val (.ref b155), .unset, .unset] [(.int ((own_FQ aa bb) 1)), (.int (1 : Int32)), (.ref b149)])) rfl rfl (hb hby at_160)
    rw [own_lq1 aa bb] at W179
    have N179 := Fr.snoc X179 N172 gg149
    have Z179 : n0 ≤ h179.size := Nat.le_trans Z172 (Keep.of_wr W179).1
    have f180 : AI Z h179 b149 .byte 2 (up (up zI 0 ((own_FQ aa bb) 0)) 1 ((own_FQ aa bb) 1)) := AF.setI f176 W179 1 (by decide)
    have f181 : AI Z h179 b1 .byte 5 (own_FQ aa bb) := f174.other W179 ne150
    have f182 : AI Z h179 b24 .int 5 (own_FT aa bb) := f175.other W179 ne151
    have f183 : AI Z h179 b155 .int 2 (up zI 0 ((own_FT aa bb) 0)) := f173.other W179 (Ne.symm ne157)
    obtain ⟨cl184, Arcl184, hincl184, hatcl184⟩ := AF.at f182 (j := (1 : Int32)) 1 (by decide) (by decide)
    obtain ⟨cl185, Arcl185, hincl185, -⟩ := AF.at f183 (j := (1 : Int32)) 1 (by decide) (by decide)
    obtain ⟨T186, h186, X186, e186, W186, st186⟩ := stI X179 hx hZ e179 Arcl185 (j := (1 : Int32)) hincl185 (g := (mkF m 168 #[.val (.int nv), .val (.int aa), .val (.int bb), .val (.int (2 : Int32)), .val (.ref b1), .val (.ref b24), .val (.ref b149), .val (.ref b155), .unset, .unset] [(.int ((own_FT aa bb) 1)), (.int (1 : Int32)), (.ref b155)])) rfl rfl (hb hby at_168)
    have N186 := Fr.snoc X186 N179 gg155
    have Z186 : n0 ≤ h186.size := Nat.le_trans Z179 (Keep.of_wr W186).1
    have f187 : AI Z h186 b155 .int 2 (up (up zI 0 ((own_FT aa bb) 0)) 1 ((own_FT aa bb) 1)) := AF.setI f183 W186 1 (by decide)
    have f188 : AI Z h186 b1 .byte 5 (own_FQ aa bb) := f181.other W186 ne156
    have f189 : AI Z h186 b24 .int 5 (own_FT aa bb) := f182.other W186 ne158
    have f190 : AI Z h186 b149 .byte 2 (up (up zI 0 ((own_FQ aa bb) 0)) 1 ((own_FQ aa bb) 1)) := f180.other W186 ne157
    have f191 : AI Z h186 b149 .byte 2 (own_FP2 aa bb) := f190
    have f192 : AI Z h186 b155 .int 2 (own_FS2 aa bb) := f187
    obtain ⟨_, _, ⟨T193, L193, k193, n193⟩, -, X193, ⟨Lc193, hQ193, l193, y193, z193⟩, st193⟩ := Jvm.LawKit.callS X186 hx (y := (⟨"skipstitch/table/PrefixTable", "optimised", "([B[I)[I"⟩ : MethodName)) hown (mvT hZ (hw _ (List.mem_of_getElem? (i := 13) rfl))) (mvT hZ (hw _ (List.mem_of_getElem? (i := 14) rfl))) (mvT hZ (hw _ (List.mem_of_getElem? (i := 15) rfl))) (mvT hZ (hw _ (List.mem_of_getElem? (i := 16) rfl))) (by decide) (backOf (W := 0) (rm4k2 l Z a0 hw [] b149 b155 (own_FP2 aa bb) (own_FS2 aa bb) h186 n0 Z186 f191 f192 (own_hfz2 aa bb)) hZ (hw _ (List.mem_of_getElem? (i := 16) rfl)) (hw _ (List.mem_of_getElem? (i := 15) rfl)) (by decide) (by decide)) (g := (mkF m 236 #[.val (.int nv), .val (.int aa), .val (.int bb), .val (.int (2 : Int32)), .val (.ref b1), .val (.ref b24), .val (.ref b149), .val (.ref b155), .unset, .unset] [(.ref b155), (.ref b149)])) rfl (by rw [hml]; rfl) (argsL := [(.ref b149), (.ref b155)]) (rest := []) (lenOf pd_5 rfl) rfl (by show 2 * 0 + _ ≤ _; exact Nat.le_of_eq rfl) (hb hby at_236) (fun _ _ => ⟨rfl, e186, (by decide : 4 + 1 ≤ _), (by decide : 14 + 2 ≤ _)⟩)
    dsimp only [Pt.U, Pt.locs, Pt.cells, Pt.slots] at X193 l193 y193 z193 st193 hQ193
    subst y193 z193
    obtain ⟨b194, ggb194, szb194, rfl, N193q, K193c, f195⟩ := hQ193
    have N193 : Fr n0 L193 := by rw [l193]; exact Fr.app N186 N193q
    have ne196 : b1 ≠ b194 := Nat.ne_of_lt (Nat.lt_of_lt_of_le f188.lt szb194)
    have ne197 : b149 ≠ b194 := Nat.ne_of_lt (Nat.lt_of_lt_of_le f191.lt szb194)
    have ne198 : b155 ≠ b194 := Nat.ne_of_lt (Nat.lt_of_lt_of_le f192.lt szb194)
    have ne199 : b24 ≠ b194 := Nat.ne_of_lt (Nat.lt_of_lt_of_le f189.lt szb194)
    have f200 : AI Z T193.heap b1 .byte 5 (own_FQ aa bb) := f188.keep K193c nin0
    have f201 : AI Z T193.heap b24 .int 5 (own_FT aa bb) := f189.keep K193c nin0
    have f202 : AI Z T193.heap b149 .byte 2 (own_FP2 aa bb) := f191.keep K193c nin0
    have f203 : AI Z T193.heap b155 .int 2 (own_FS2 aa bb) := f192.keep K193c nin0
    have Z193 : n0 ≤ T193.heap.size := Nat.le_trans Z186 K193c.1
    obtain ⟨cl204, Arcl204, Szcl204⟩ := AF.len f195
    obtain ⟨_, _, ⟨T205, L205, k205, n205⟩, -, X205, ⟨Lc205, hQ205, l205, y205, z205⟩, st205⟩ := Jvm.LawKit.callS X193 hx (y := (⟨"skipstitch/table/PrefixTableOptimisedPinLaw", "at", "([II[B[II)Z"⟩ : MethodName)) hown (mvT hZ (hw _ (List.mem_of_getElem? (i := 17) rfl))) (mvT hZ (hw _ (List.mem_of_getElem? (i := 18) rfl))) (mvT hZ (hw _ (List.mem_of_getElem? (i := 4) rfl))) (mvT hZ (hw _ (List.mem_of_getElem? (i := 19) rfl))) (by decide) (backOf (W := 1) (rm5a0 l Z a0 hw [] b194 (2 : Int32) b1 b24 (own_FQ aa bb) (own_FT aa bb) (up (own_g (own_FP2 aa bb) (own_FS2 aa bb) 1) 1 ((own_FS2 aa bb) 1)) 2 T193.heap n0 Z193 f195 f200 f201 (own_hfu aa bb) (by decide) (by decide) (by decide)) hZ (hw _ (List.mem_of_getElem? (i := 19) rfl)) (hw _ (List.mem_of_getElem? (i := 4) rfl)) (by decide) (by decide)) (g := (mkF m 275 #[.val (.int nv), .val (.int aa), .val (.int bb), .val (.int (2 : Int32)), .val (.ref b1), .val (.ref b24), .val (.ref b149), .val (.ref b155), .val (.ref b194), .val (.int (1 : Int32))] [(.int (0 : Int32)), (.ref b24), (.ref b1), (.int (2 : Int32)), (.ref b194), (.int (1 : Int32))])) rfl (by rw [hml]; rfl) (argsL := [(.ref b194), (.int (2 : Int32)), (.ref b1), (.ref b24), (.int (0 : Int32))]) (rest := [(.int (1 : Int32))]) (lenOf pd_6 rfl) rfl (by show 2 * 0 + _ ≤ _; exact Nat.le_of_eq rfl) (hb hby at_275) (fun _ _ => ⟨rfl, rfl, (by decide : 5 + 0 ≤ _), (by decide : 16 + 0 ≤ _)⟩)
    dsimp only [Pt.U, Pt.locs, Pt.cells, Pt.slots] at X205 l205 y205 z205 st205 hQ205
    subst y205 z205
    obtain ⟨rfl, N205q, e205⟩ := hQ205
    have N205 : Fr n0 L205 := by rw [l205]; exact Fr.app N193 N205q
    have hres205 : (r5a0_v (own_FQ aa bb) (own_FT aa bb) (up (own_g (own_FP2 aa bb) (own_FS2 aa bb) 1) 1 ((own_FS2 aa bb) 1))) = (1 : Int32) := own_a2_0 aa bb
    obtain ⟨_, _, ⟨T206, L206, k206, n206⟩, -, X206, ⟨Lc206, hQ206, l206, y206, z206⟩, st206⟩ := Jvm.LawKit.callS X205 hx (y := (⟨"skipstitch/table/PrefixTableOptimisedPinLaw", "at", "([II[B[II)Z"⟩ : MethodName)) hown (mvT hZ (hw _ (List.mem_of_getElem? (i := 17) rfl))) (mvT hZ (hw _ (List.mem_of_getElem? (i := 18) rfl))) (mvT hZ (hw _ (List.mem_of_getElem? (i := 4) rfl))) (mvT hZ (hw _ (List.mem_of_getElem? (i := 19) rfl))) (by decide) (backOf (W := 1) (rm5b1 l Z a0 hw [] b194 (2 : Int32) b1 b24 (own_FT aa bb) (up (own_g (own_FP2 aa bb) (own_FS2 aa bb) 1) 1 ((own_FS2 aa bb) 1)) 2 T193.heap n0 Z193 f195 f201 (by decide) (by decide) (by decide)) hZ (hw _ (List.mem_of_getElem? (i := 19) rfl)) (hw _ (List.mem_of_getElem? (i := 4) rfl)) (by decide) (by decide)) (g := (mkF m 291 #[.val (.int nv), .val (.int aa), .val (.int bb), .val (.int (2 : Int32)), .val (.ref b1), .val (.ref b24), .val (.ref b149), .val (.ref b155), .val (.ref b194), .val (.int (1 : Int32))] [(.int (1 : Int32)), (.ref b24), (.ref b1), (.int (2 : Int32)), (.ref b194), (.int (1 : Int32))])) rfl (by rw [hml]; rfl) (argsL := [(.ref b194), (.int (2 : Int32)), (.ref b1), (.ref b24), (.int (1 : Int32))]) (rest := [(.int (1 : Int32))]) (lenOf pd_6 rfl) rfl (by show 2 * 0 + _ ≤ _; exact Nat.le_of_eq rfl) (hb hby at_291) (fun _ _ => ⟨rfl, e205, (by decide : 5 + 0 ≤ _), (by decide : 16 + 0 ≤ _)⟩)
    dsimp only [Pt.U, Pt.locs, Pt.cells, Pt.slots] at X206 l206 y206 z206 st206 hQ206
    subst y206 z206
    obtain ⟨rfl, N206q, e206⟩ := hQ206
    have N206 : Fr n0 L206 := by rw [l206]; exact Fr.app N205 N206q
    have hres206 : (r5b1_v (own_FT aa bb) (up (own_g (own_FP2 aa bb) (own_FS2 aa bb) 1) 1 ((own_FS2 aa bb) 1))) = (1 : Int32) := own_a2_1 aa bb
    obtain ⟨_, _, ⟨T207, L207, k207, n207⟩, -, X207, ⟨Lc207, hQ207, l207, y207, z207⟩, st207⟩ := Jvm.LawKit.callS X206 hx (y := (⟨"skipstitch/table/PrefixTableOptimisedPinLaw", "at", "([II[B[II)Z"⟩ : MethodName)) hown (mvT hZ (hw _ (List.mem_of_getElem? (i := 17) rfl))) (mvT hZ (hw _ (List.mem_of_getElem? (i := 18) rfl))) (mvT hZ (hw _ (List.mem_of_getElem? (i := 4) rfl))) (mvT hZ (hw _ (List.mem_of_getElem? (i := 19) rfl))) (by decide) (backOf (W := 1) (rm5c l Z a0 hw [] b194 (2 : Int32) b1 b24 (2 : Int32) T193.heap n0 Z193 (by decide)) hZ (hw _ (List.mem_of_getElem? (i := 19) rfl)) (hw _ (List.mem_of_getElem? (i := 4) rfl)) (by decide) (by decide)) (g := (mkF m 307 #[.val (.int nv), .val (.int aa), .val (.int bb), .val (.int (2 : Int32)), .val (.ref b1), .val (.ref b24), .val (.ref b149), .val (.ref b155), .val (.ref b194), .val (.int (1 : Int32))] [(.int (2 : Int32)), (.ref b24), (.ref b1), (.int (2 : Int32)), (.ref b194), (.int (1 : Int32))])) rfl (by rw [hml]; rfl) (argsL := [(.ref b194), (.int (2 : Int32)), (.ref b1), (.ref b24), (.int (2 : Int32))]) (rest := [(.int (1 : Int32))]) (lenOf pd_6 rfl) rfl (by show 2 * 0 + _ ≤ _; exact Nat.le_of_eq rfl) (hb hby at_307) (fun _ _ => ⟨rfl, e206, (by decide : 5 + 0 ≤ _), (by decide : 16 + 0 ≤ _)⟩)
    dsimp only [Pt.U, Pt.locs, Pt.cells, Pt.slots] at X207 l207 y207 z207 st207 hQ207
    subst y207 z207
    obtain ⟨rfl, N207q, e207⟩ := hQ207
    have N207 : Fr n0 L207 := by rw [l207]; exact Fr.app N206 N207q
    obtain ⟨_, _, ⟨T208, L208, k208, n208⟩, -, X208, ⟨Lc208, hQ208, l208, y208, z208⟩, st208⟩ := Jvm.LawKit.callS X207 hx (y := (⟨"skipstitch/table/PrefixTableOptimisedPinLaw", "at", "([II[B[II)Z"⟩ : MethodName)) hown (mvT hZ (hw _ (List.mem_of_getElem? (i := 17) rfl))) (mvT hZ (hw _ (List.mem_of_getElem? (i := 18) rfl))) (mvT hZ (hw _ (List.mem_of_getElem? (i := 4) rfl))) (mvT hZ (hw _ (List.mem_of_getElem? (i := 19) rfl))) (by decide) (backOf (W := 1) (rm5c l Z a0 hw [] b194 (2 : Int32) b1 b24 (3 : Int32) T193.heap n0 Z193 (by decide)) hZ (hw _ (List.mem_of_getElem? (i := 19) rfl)) (hw _ (List.mem_of_getElem? (i := 4) rfl)) (by decide) (by decide)) (g := (mkF m 323 #[.val (.int nv), .val (.int aa), .val (.int bb), .val (.int (2 : Int32)), .val (.ref b1), .val (.ref b24), .val (.ref b149), .val (.ref b155), .val (.ref b194), .val (.int (1 : Int32))] [(.int (3 : Int32)), (.ref b24), (.ref b1), (.int (2 : Int32)), (.ref b194), (.int (1 : Int32))])) rfl (by rw [hml]; rfl) (argsL := [(.ref b194), (.int (2 : Int32)), (.ref b1), (.ref b24), (.int (3 : Int32))]) (rest := [(.int (1 : Int32))]) (lenOf pd_6 rfl) rfl (by show 2 * 0 + _ ≤ _; exact Nat.le_of_eq rfl) (hb hby at_323) (fun _ _ => ⟨rfl, e207, (by decide : 5 + 0 ≤ _), (by decide : 16 + 0 ≤ _)⟩)
    dsimp only [Pt.U, Pt.locs, Pt.cells, Pt.slots] at X208 l208 y208 z208 st208 hQ208
    subst y208 z208
    obtain ⟨rfl, N208q, e208⟩ := hQ208
    have N208 : Fr n0 L208 := by rw [l208]; exact Fr.app N207 N208q
    obtain ⟨_, _, ⟨T209, L209, k209, n209⟩, -, X209, ⟨Lc209, hQ209, l209, y209, z209⟩, st209⟩ := Jvm.LawKit.callS X208 hx (y := (⟨"skipstitch/table/PrefixTableOptimisedPinLaw", "at", "([II[B[II)Z"⟩ : MethodName)) hown (mvT hZ (hw _ (List.mem_of_getElem? (i := 17) rfl))) (mvT hZ (hw _ (List.mem_of_getElem? (i := 18) rfl))) (mvT hZ (hw _ (List.mem_of_getElem? (i := 4) rfl))) (mvT hZ (hw _ (List.mem_of_getElem? (i := 19) rfl))) (by decide) (backOf (W := 1) (rm5c l Z a0 hw [] b194 (2 : Int32) b1 b24 (4 : Int32) T193.heap n0 Z193 (by decide)) hZ (hw _ (List.mem_of_getElem? (i := 19) rfl)) (hw _ (List.mem_of_getElem? (i := 4) rfl)) (by decide) (by decide)) (g := (mkF m 339 #[.val (.int nv), .val (.int aa), .val (.int bb), .val (.int (2 : Int32)), .val (.ref b1), .val (.ref b24), .val (.ref b149), .val (.ref b155), .val (.ref b194), .val (.int (1 : Int32))] [(.int (4 : Int32)), (.ref b24), (.ref b1), (.int (2 : Int32)), (.ref b194), (.int (1 : Int32))])) rfl (by rw [hml]; rfl) (argsL := [(.ref b194), (.int (2 : Int32)), (.ref b1), (.ref b24), (.int (4 : Int32))]) (rest := [(.int (1 : Int32))]) (lenOf pd_6 rfl) rfl (by show 2 * 0 + _ ≤ _; exact Nat.le_of_eq rfl) (hb hby at_339) (fun _ _ => ⟨rfl, e208, (by decide : 5 + 0 ≤ _), (by decide : 16 + 0 ≤ _)⟩)
    dsimp only [Pt.U, Pt.locs, Pt.cells, Pt.slots] at X209 l209 y209 z209 st209 hQ209
    subst y209 z209
    obtain ⟨rfl, N209q, e209⟩ := hQ209
    have N209 : Fr n0 L209 := by rw [l209]; exact Fr.app N208 N209q
    obtain ⟨_, _, ⟨T210, L210, k210, n210⟩, -, X210, ⟨Lc210, hQ210, l210, y210, z210⟩, st210⟩ := Jvm.LawKit.callS X209 hx (y := (⟨"skipstitch/table/PrefixTableOptimisedPinLaw", "same", "([B[II[B[II)Z"⟩ : MethodName)) hown (mvT hZ (hw _ (List.mem_of_getElem? (i := 20) rfl))) (mvT hZ (hw _ (List.mem_of_getElem? (i := 21) rfl))) (mvT hZ (hw _ (List.mem_of_getElem? (i := 4) rfl))) (mvT hZ (hw _ (List.mem_of_getElem? (i := 22) rfl))) (by decide) (backOf (W := 1) (rm6l0 l Z a0 hw [] b149 b155 (2 : Int32) b1 b24 (own_FQ aa bb) (own_FT aa bb) (own_FP2 aa bb) (own_FS2 aa bb) 2 T193.heap n0 Z193 f202 f203 f200 f201 (by decide) (by decide)) hZ (hw _ (List.mem_of_getElem? (i := 22) rfl)) (hw _ (List.mem_of_getElem? (i := 4) rfl)) (by decide) (by decide)) (g := (mkF m 357 #[.val (.int nv), .val (.int aa), .val (.int bb), .val (.int (2 : Int32)), .val (.ref b1), .val (.ref b24), .val (.ref b149), .val (.ref b155), .val (.ref b194), .val (.int (1 : Int32))] [(.int (0 : Int32)), (.ref b24), (.ref b1), (.int (2 : Int32)), (.ref b155), (.ref b149), (.int (1 : Int32))])) rfl (by rw [hml]; rfl) (argsL := [(.ref b149), (.ref b155), (.int (2 : Int32)), (.ref b1), (.ref b24), (.int (0 : Int32))]) (rest := [(.int (1 : Int32))]) (lenOf pd_7 rfl) rfl (by show 2 * 0 + _ ≤ _; exact Nat.le_of_eq rfl) (hb hby at_357) (fun _ _ => ⟨rfl, e209, (by decide : 5 + 0 ≤ _), (by decide : 16 + 0 ≤ _)⟩)
    dsimp only [Pt.U, Pt.locs, Pt.cells, Pt.slots] at X210 l210 y210 z210 st210 hQ210
    subst y210 z210
    obtain ⟨rfl, N210q, e210⟩ := hQ210
    have N210 : Fr n0 L210 := by rw [l210]; exact Fr.app N209 N210q
    have hres210 : (r6l0_v (own_FQ aa bb) (own_FT aa bb) (own_FP2 aa bb) (own_FS2 aa bb)) = (1 : Int32) := own_s2_0 aa bb
    obtain ⟨_, _, ⟨T211, L211, k211, n211⟩, -, X211, ⟨Lc211, hQ211, l211, y211, z211⟩, st211⟩ := Jvm.LawKit.callS X210 hx (y := (⟨"skipstitch/table/PrefixTableOptimisedPinLaw", "same", "([B[II[B[II)Z"⟩ : MethodName)) hown (mvT hZ (hw _ (List.mem_of_getElem? (i := 20) rfl))) (mvT hZ (hw _ (List.mem_of_getElem? (i := 21) rfl))) (mvT hZ (hw _ (List.mem_of_getElem? (i := 4) rfl))) (mvT hZ (hw _ (List.mem_of_getElem? (i := 22) rfl))) (by decide) (backOf (W := 1) (rm6l1 l Z a0 hw [] b149 b155 (2 : Int32) b1 b24 (own_FQ aa bb) (own_FT aa bb) (own_FP2 aa bb) (own_FS2 aa bb) 2 T193.heap n0 Z193 f202 f203 f200 f201 (by decide) (by decide)) hZ (hw _ (List.mem_of_getElem? (i := 22) rfl)) (hw _ (List.mem_of_getElem? (i := 4) rfl)) (by decide) (by decide)) (g := (mkF m 375 #[.val (.int nv), .val (.int aa), .val (.int bb), .val (.int (2 : Int32)), .val (.ref b1), .val (.ref b24), .val (.ref b149), .val (.ref b155), .val (.ref b194), .val (.int (1 : Int32))] [(.int (1 : Int32)), (.ref b24), (.ref b1), (.int (2 : Int32)), (.ref b155), (.ref b149), (.int (1 : Int32))])) rfl (by rw [hml]; rfl) (argsL := [(.ref b149), (.ref b155), (.int (2 : Int32)), (.ref b1), (.ref b24), (.int (1 : Int32))]) (rest := [(.int (1 : Int32))]) (lenOf pd_7 rfl) rfl (by show 2 * 0 + _ ≤ _; exact Nat.le_of_eq rfl) (hb hby at_375) (fun _ _ => ⟨rfl, e210, (by decide : 5 + 0 ≤ _), (by decide : 16 + 0 ≤ _)⟩)
    dsimp only [Pt.U, Pt.locs, Pt.cells, Pt.slots] at X211 l211 y211 z211 st211 hQ211
    subst y211 z211
    obtain ⟨rfl, N211q, e211⟩ := hQ211
    have N211 : Fr n0 L211 := by rw [l211]; exact Fr.app N210 N211q
    have hres211 : (r6l1_v (own_FQ aa bb) (own_FT aa bb) (own_FP2 aa bb) (own_FS2 aa bb)) = (1 : Int32) := own_s2_1 aa bb
    obtain ⟨_, _, ⟨T212, L212, k212, n212⟩, -, X212, ⟨Lc212, hQ212, l212, y212, z212⟩, st212⟩ := Jvm.LawKit.callS X211 hx (y := (⟨"skipstitch/table/PrefixTableOptimisedPinLaw", "same", "([B[II[B[II)Z"⟩ : MethodName)) hown (mvT hZ (hw _ (List.mem_of_getElem? (i := 20) rfl))) (mvT hZ (hw _ (List.mem_of_getElem? (i := 21) rfl))) (mvT hZ (hw _ (List.mem_of_getElem? (i := 4) rfl))) (mvT hZ (hw _ (List.mem_of_getElem? (i := 22) rfl))) (by decide) (backOf (W := 1) (rm6c l Z a0 hw [] b149 b155 (2 : Int32) b1 b24 (2 : Int32) T193.heap n0 Z193 (by decide)) hZ (hw _ (List.mem_of_getElem? (i := 22) rfl)) (hw _ (List.mem_of_getElem? (i := 4) rfl)) (by decide) (by decide)) (g := (mkF m 393 #[.val (.int nv), .val (.int aa), .val (.int bb), .val (.int (2 : Int32)), .val (.ref b1), .val (.ref b24), .val (.ref b149), .val (.ref b155), .val (.ref b194), .val (.int (1 : Int32))] [(.int (2 : Int32)), (.ref b24), (.ref b1), (.int (2 : Int32)), (.ref b155), (.ref b149), (.int (1 : Int32))])) rfl (by rw [hml]; rfl) (argsL := [(.ref b149), (.ref b155), (.int (2 : Int32)), (.ref b1), (.ref b24), (.int (2 : Int32))]) (rest := [(.int (1 : Int32))]) (lenOf pd_7 rfl) rfl (by show 2 * 0 + _ ≤ _; exact Nat.le_of_eq rfl) (hb hby at_393) (fun _ _ => ⟨rfl, e211, (by decide : 5 + 0 ≤ _), (by decide : 16 + 0 ≤ _)⟩)
    dsimp only [Pt.U, Pt.locs, Pt.cells, Pt.slots] at X212 l212 y212 z212 st212 hQ212
    subst y212 z212
    obtain ⟨rfl, N212q, e212⟩ := hQ212
    have N212 : Fr n0 L212 := by rw [l212]; exact Fr.app N211 N212q
    obtain ⟨_, _, ⟨T213, L213, k213, n213⟩, -, X213, ⟨Lc213, hQ213, l213, y213, z213⟩, st213⟩ := Jvm.LawKit.callS X212 hx (y := (⟨"skipstitch/table/PrefixTableOptimisedPinLaw", "same", "([B[II[B[II)Z"⟩ : MethodName)) hown (mvT hZ (hw _ (List.mem_of_getElem? (i := 20) rfl))) (mvT hZ (hw _ (List.mem_of_getElem? (i := 21) rfl))) (mvT hZ (hw _ (List.mem_of_getElem? (i := 4) rfl))) (mvT hZ (hw _ (List.mem_of_getElem? (i := 22) rfl))) (by decide) (backOf (W := 1) (rm6c l Z a0 hw [] b149 b155 (2 : Int32) b1 b24 (3 : Int32) T193.heap n0 Z193 (by decide)) hZ (hw _ (List.mem_of_getElem? (i := 22) rfl)) (hw _ (List.mem_of_getElem? (i := 4) rfl)) (by decide) (by decide)) (g := (mkF m 411 #[.val (.int nv), .val (.int aa), .val (.int bb), .val (.int (2 : Int32)), .val (.ref b1), .val (.ref b24), .val (.ref b149), .val (.ref b155), .val (.ref b194), .val (.int (1 : Int32))] [(.int (3 : Int32)), (.ref b24), (.ref b1), (.int (2 : Int32)), (.ref b155), (.ref b149), (.int (1 : Int32))])) rfl (by rw [hml]; rfl) (argsL := [(.ref b149), (.ref b155), (.int (2 : Int32)), (.ref b1), (.ref b24), (.int (3 : Int32))]) (rest := [(.int (1 : Int32))]) (lenOf pd_7 rfl) rfl (by show 2 * 0 + _ ≤ _; exact Nat.le_of_eq rfl) (hb hby at_411) (fun _ _ => ⟨rfl, e212, (by decide : 5 + 0 ≤ _), (by decide : 16 + 0 ≤ _)⟩)
    dsimp only [Pt.U, Pt.locs, Pt.cells, Pt.slots] at X213 l213 y213 z213 st213 hQ213
    subst y213 z213
    obtain ⟨rfl, N213q, e213⟩ := hQ213
    have N213 : Fr n0 L213 := by rw [l213]; exact Fr.app N212 N213q
    obtain ⟨_, _, ⟨T214, L214, k214, n214⟩, -, X214, ⟨Lc214, hQ214, l214, y214, z214⟩, st214⟩ := Jvm.LawKit.callS X213 hx (y := (⟨"skipstitch/table/PrefixTableOptimisedPinLaw", "same", "([B[II[B[II)Z"⟩ : MethodName)) hown (mvT hZ (hw _ (List.mem_of_getElem? (i := 20) rfl))) (mvT hZ (hw _ (List.mem_of_getElem? (i := 21) rfl))) (mvT hZ (hw _ (List.mem_of_getElem? (i := 4) rfl))) (mvT hZ (hw _ (List.mem_of_getElem? (i := 22) rfl))) (by decide) (backOf (W := 1) (rm6c l Z a0 hw [] b149 b155 (2 : Int32) b1 b24 (4 : Int32) T193.heap n0 Z193 (by decide)) hZ (hw _ (List.mem_of_getElem? (i := 22) rfl)) (hw _ (List.mem_of_getElem? (i := 4) rfl)) (by decide) (by decide)) (g := (mkF m 429 #[.val (.int nv), .val (.int aa), .val (.int bb), .val (.int (2 : Int32)), .val (.ref b1), .val (.ref b24), .val (.ref b149), .val (.ref b155), .val (.ref b194), .val (.int (1 : Int32))] [(.int (4 : Int32)), (.ref b24), (.ref b1), (.int (2 : Int32)), (.ref b155), (.ref b149), (.int (1 : Int32))])) rfl (by rw [hml]; rfl) (argsL := [(.ref b149), (.ref b155), (.int (2 : Int32)), (.ref b1), (.ref b24), (.int (4 : Int32))]) (rest := [(.int (1 : Int32))]) (lenOf pd_7 rfl) rfl (by show 2 * 0 + _ ≤ _; exact Nat.le_of_eq rfl) (hb hby at_429) (fun _ _ => ⟨rfl, e213, (by decide : 5 + 0 ≤ _), (by decide : 16 + 0 ≤ _)⟩)
    dsimp only [Pt.U, Pt.locs, Pt.cells, Pt.slots] at X214 l214 y214 z214 st214 hQ214
    subst y214 z214
    obtain ⟨rfl, N214q, e214⟩ := hQ214
    have N214 : Fr n0 L214 := by rw [l214]; exact Fr.app N213 N214q
    obtain ⟨fs, hr, hrun, hended, hW, hsame⟩ := X214.leave (v := some (.int (1 : Int32))) (fun h => by rw [Bd.returns] at h; cases h) (hlocks := Bd.notSynchronized)
    refine ⟨_, _, pre148 _ ?_, hrun, hended, _, _, rfl, ?_, ⟨_, rfl⟩, hW, hsame.mono (by decide) (by decide)⟩
    · show Steps p.tables e below (T50.setTop (mkF m 119 #[.val (.int nv), .val (.int aa), .val (.int bb), .val (.int (2 : Int32)), .val (.ref b1), .val (.ref b24), .unset, .unset, .unset, .unset] [(.int (2 : Int32))])) _
      refine st149 _ ?_
      refine XS.astore X149.here hx rfl (hb hby at_121) rfl rfl (l' := #[.val (.int nv), .val (.int aa), .val (.int bb), .val (.int (2 : Int32)), .val (.ref b1), .val (.ref b24), .val (.ref b149), .unset, .unset, .unset]) rfl ?_
      refine XS.iloadN X149.here hx rfl (hb hby at_123) rfl ?_
      refine st155 _ ?_
      refine XS.astore X155.here hx rfl (hb hby at_126) rfl rfl (l' := #[.val (.int nv), .val (.int aa), .val (.int bb), .val (.int (2 : Int32)), .val (.ref b1), .val (.ref b24), .val (.ref b149), .val (.ref b155), .unset, .unset]) rfl ?_
      refine XS.iloadN X155.here hx rfl (hb hby at_128) rfl ?_
      refine XS.ifNo X155.here hx rfl (hb hby at_129) rfl ((if0 _ _).trans (tlt (by decide : ((0 : Int32) < (2 : Int32)))).2.2.2) ?_
      refine XS.aload X155.here hx rfl (hb hby at_132) rfl rfl ?_
      refine XS.iconst X155.here hx rfl (hb hby at_134) ?_
      refine XS.aload X155.here hx rfl (hb hby at_135) rfl rfl ?_
      refine XS.iconst X155.here hx rfl (hb hby at_137) ?_
      refine X155.baloadBytes hx (j := (0 : Int32)) (v := (.int ((own_FQ aa bb) 0))) (by rw [e155]; exact Arcl163.1) (State.isArrayOf_alike hZ.alike Arcl163.2.1) Arcl163.2.2 hincl163 hatcl163 (g := (mkF m 138 #[.val (.int nv), .val (.int aa), .val (.int bb), .val (.int (2 : Int32)), .val (.ref b1), .val (.ref b24), .val (.ref b149), .val (.ref b155), .unset, .unset] [(.int (0 : Int32)), (.ref b1), (.int (0 : Int32)), (.ref b149)])) rfl rfl (hb hby at_138) _ ?_
      refine st165 _ ?_
      refine XS.aload X165.here hx rfl (hb hby at_140) rfl rfl ?_
      refine XS.iconst X165.here hx rfl (hb hby at_142) ?_
      refine XS.aload X165.here hx rfl (hb hby at_143) rfl rfl ?_
      refine XS.iconst X165.here hx rfl (hb hby at_145) ?_
      refine X165.iaload hx (j := (0 : Int32)) (v := (.int ((own_FT aa bb) 0))) (by rw [e165]; exact Arcl170.1) (State.isArrayOf_alike hZ.alike Arcl170.2.1) Arcl170.2.2 hincl170 hatcl170 (g := (mkF m 146 #[.val (.int nv), .val (.int aa), .val (.int bb), .val (.int (2 : Int32)), .val (.ref b1), .val (.ref b24), .val (.ref b149), .val (.ref b155), .unset, .unset] [(.int (0 : Int32)), (.ref b24), (.int (0 : Int32)), (.ref b155)])) rfl rfl (hb hby at_146) _ ?_
      refine st172 _ ?_
      refine XS.iloadN X172.here hx rfl (hb hby at_148) rfl ?_
      refine XS.iconst X172.here hx rfl (hb hby at_149) ?_
      refine XS.icmpNo X172.here hx rfl (hb hby at_150) rfl (tlt (by decide : ((1 : Int32) < (2 : Int32)))).2.2.2 ?_
      refine XS.aload X172.here hx rfl (hb hby at_153) rfl rfl ?_
      refine XS.iconst X172.here hx rfl (hb hby at_155) ?_
      refine XS.aload X172.here hx rfl (hb hby at_156) rfl rfl ?_
      refine XS.iconst X172.here hx rfl (hb hby at_158) ?_
      refine X172.baloadBytes hx (j := (1 : Int32)) (v := (.int ((own_FQ aa bb) 1))) (by rw [e172]; exact Arcl177.1) (State.isArrayOf_alike hZ.alike Arcl177.2.1) Arcl177.2.2 hincl177 hatcl177 (g := (mkF m 159 #[.val (.int nv), .val (.int aa), .val (.int bb), .val (.int (2 : Int32)), .val (.ref b1), .val (.ref b24), .val (.ref b149), .val (.ref b155), .unset, .unset] [(.int (1 : Int32)), (.ref b1), (.int (1 : Int32)), (.ref b149)])) rfl rfl (hb hby at_159) _ ?_
      refine st179 _ ?_
      refine XS.aload X179.here hx rfl (hb hby at_161) rfl rfl ?_
      refine XS.iconst X179.here hx rfl (hb hby at_163) ?_
      refine XS.aload X179.here hx rfl (hb hby at_164) rfl rfl ?_
      refine XS.iconst X179.here hx rfl (hb hby at_166) ?_
      refine X179.iaload hx (j := (1 : Int32)) (v := (.int ((own_FT aa bb) 1))) (by rw [e179]; exact Arcl184.1) (State.isArrayOf_alike hZ.alike Arcl184.2.1) Arcl184.2.2 hincl184 hatcl184 (g := (mkF m 167 #[.val (.int nv), .val (.int aa), .val (.int bb), .val (.int (2 : Int32)), .val (.ref b1), .val (.ref b24), .val (.ref b149), .val (.ref b155), .unset, .unset] [(.int (1 : Int32)), (.ref b24), (.int (1 : Int32)), (.ref b155)])) rfl rfl (hb hby at_167) _ ?_
      refine st186 _ ?_
      refine XS.iloadN X186.here hx rfl (hb hby at_169) rfl ?_
      refine XS.iconst X186.here hx rfl (hb hby at_170) ?_
      refine XS.icmpYes X186.here hx rfl (pc0 := 171) (pc' := 190) rfl (hb hby at_171) rfl (flt (by decide : ¬ ((2 : Int32) < (2 : Int32)))).2.2.2 (by decide) (by decide) ?_
      refine XS.iloadN X186.here hx rfl (hb hby at_190) rfl ?_
      refine XS.iconst X186.here hx rfl (hb hby at_191) ?_
      refine XS.icmpYes X186.here hx rfl (pc0 := 192) (pc' := 211) rfl (hb hby at_192) rfl (flt (by decide : ¬ ((3 : Int32) < (2 : Int32)))).2.2.2 (by decide) (by decide) ?_
      refine XS.iloadN X186.here hx rfl (hb hby at_211) rfl ?_
      refine XS.iconst X186.here hx rfl (hb hby at_212) ?_
      refine XS.icmpYes X186.here hx rfl (pc0 := 213) (pc' := 232) rfl (hb hby at_213) rfl (flt (by decide : ¬ ((4 : Int32) < (2 : Int32)))).2.2.2 (by decide) (by decide) ?_
      refine XS.aload X186.here hx rfl (hb hby at_232) rfl rfl ?_
      refine XS.aload X186.here hx rfl (hb hby at_234) rfl rfl ?_
      refine st193 _ ?_
      refine XS.astore X193.here hx rfl (hb hby at_239) rfl rfl (l' := #[.val (.int nv), .val (.int aa), .val (.int bb), .val (.int (2 : Int32)), .val (.ref b1), .val (.ref b24), .val (.ref b149), .val (.ref b155), .val (.ref b194), .unset]) rfl ?_
      refine XS.aload X193.here hx rfl (hb hby at_241) rfl rfl ?_
      refine XS.ifnullNo X193.here hx rfl (hb hby at_243) rfl ?_
      refine XS.aload X193.here hx rfl (hb hby at_246) rfl rfl ?_
      refine X193.arraylength hx Arcl204.1 (State.isArrayOf_alike hZ.alike Arcl204.2.1) (g := (mkF m 248 #[.val (.int nv), .val (.int aa), .val (.int bb), .val (.int (2 : Int32)), .val (.ref b1), .val (.ref b24), .val (.ref b149), .val (.ref b155), .val (.ref b194), .unset] [(.ref b194)])) rfl rfl (hb hby at_248) _ ?_
      rw [Szcl204]
      refine XS.iloadN X193.here hx rfl (hb hby at_249) rfl ?_
      refine XS.icmpNo X193.here hx rfl (hb hby at_250) rfl (teq (by decide : ((2 : Int32) = (2 : Int32)))).2 ?_
      refine XS.aload X193.here hx rfl (hb hby at_253) rfl rfl ?_
      refine XS.aload X193.here hx rfl (hb hby at_255) rfl rfl ?_
      refine Jvm.RoadKit.acmp (g := (mkF m 257 #[.val (.int nv), .val (.int aa), .val (.int bb), .val (.int (2 : Int32)), .val (.ref b1), .val (.ref b24), .val (.ref b149), .val (.ref b155), .val (.ref b194), .unset] [(.ref b155), (.ref b194)])) X193 hx rfl rfl rfl (pc0 := 257) (pc' := 262) (same := false) rfl (hb hby at_257) rfl (decide_eq_false fun q => (Ne.symm ne198) (Value.ref.inj q)) (by decide) (by decide) ?_
      refine XS.iconst X193.here hx rfl (hb hby at_262) ?_
      refine XS.istore X193.here hx rfl (hb hby at_263) rfl (l' := #[.val (.int nv), .val (.int aa), .val (.int bb), .val (.int (2 : Int32)), .val (.ref b1), .val (.ref b24), .val (.ref b149), .val (.ref b155), .val (.ref b194), .val (.int (1 : Int32))]) rfl ?_
      refine XS.iload X193.here hx rfl (hb hby at_265) rfl ?_
      refine XS.aload X193.here hx rfl (hb hby at_267) rfl rfl ?_
      refine XS.iloadN X193.here hx rfl (hb hby at_269) rfl ?_
      refine XS.aload X193.here hx rfl (hb hby at_270) rfl rfl ?_
      refine XS.aload X193.here hx rfl (hb hby at_272) rfl rfl ?_
      refine XS.iconst X193.here hx rfl (hb hby at_274) ?_
      refine st205 _ ?_
      rw [hres205]
      refine XS.iand X205.here hx rfl (hb hby at_278) rfl ?_
      refine XS.istore X205.here hx rfl (hb hby at_279) rfl (l' := #[.val (.int nv), .val (.int aa), .val (.int bb), .val (.int (2 : Int32)), .val (.ref b1), .val (.ref b24), .val (.ref b149), .val (.ref b155), .val (.ref b194), .val (.int (1 : Int32))]) rfl ?_
      refine XS.iload X205.here hx rfl (hb hby at_281) rfl ?_
      refine XS.aload X205.here hx rfl (hb hby at_283) rfl rfl ?_
      refine XS.iloadN X205.here hx rfl (hb hby at_285) rfl ?_
      refine XS.aload X205.here hx rfl (hb hby at_286) rfl rfl ?_
      refine XS.aload X205.here hx rfl (hb hby at_288) rfl rfl ?_
      refine XS.iconst X205.here hx rfl (hb hby at_290) ?_
      refine st206 _ ?_
      rw [hres206]
      refine XS.iand X206.here hx rfl (hb hby at_294) rfl ?_
      refine XS.istore X206.here hx rfl (hb hby at_295) rfl (l' := #[.val (.int nv), .val (.int aa), .val (.int bb), .val (.int (2 : Int32)), .val (.ref b1), .val (.ref b24), .val (.ref b149), .val (.ref b155), .val (.ref b194), .val (.int (1 : Int32))]) rfl ?_
      refine XS.iload X206.here hx rfl (hb hby at_297) rfl ?_
      refine XS.aload X206.here hx rfl (hb hby at_299) rfl rfl ?_
      refine XS.iloadN X206.here hx rfl (hb hby at_301) rfl ?_
      refine XS.aload X206.here hx rfl (hb hby at_302) rfl rfl ?_
      refine XS.aload X206.here hx rfl (hb hby at_304) rfl rfl ?_
      refine XS.iconst X206.here hx rfl (hb hby at_306) ?_
      refine st207 _ ?_
      refine XS.iand X207.here hx rfl (hb hby at_310) rfl ?_
      refine XS.istore X207.here hx rfl (hb hby at_311) rfl (l' := #[.val (.int nv), .val (.int aa), .val (.int bb), .val (.int (2 : Int32)), .val (.ref b1), .val (.ref b24), .val (.ref b149), .val (.ref b155), .val (.ref b194), .val (.int (1 : Int32))]) rfl ?_
      refine XS.iload X207.here hx rfl (hb hby at_313) rfl ?_
      refine XS.aload X207.here hx rfl (hb hby at_315) rfl rfl ?_
      refine XS.iloadN X207.here hx rfl (hb hby at_317) rfl ?_
      refine XS.aload X207.here hx rfl (hb hby at_318) rfl rfl ?_
      refine XS.aload X207.here hx rfl (hb hby at_320) rfl rfl ?_
      refine XS.iconst X207.here hx rfl (hb hby at_322) ?_
      refine st208 _ ?_
      refine XS.iand X208.here hx rfl (hb hby at_326) rfl ?_
      refine XS.istore X208.here hx rfl (hb hby at_327) rfl (l' := #[.val (.int nv), .val (.int aa), .val (.int bb), .val (.int (2 : Int32)), .val (.ref b1), .val (.ref b24), .val (.ref b149), .val (.ref b155), .val (.ref b194), .val (.int (1 : Int32))]) rfl ?_
      refine XS.iload X208.here hx rfl (hb hby at_329) rfl ?_
      refine XS.aload X208.here hx rfl (hb hby at_331) rfl rfl ?_
      refine XS.iloadN X208.here hx rfl (hb hby at_333) rfl ?_
      refine XS.aload X208.here hx rfl (hb hby at_334) rfl rfl ?_
      refine XS.aload X208.here hx rfl (hb hby at_336) rfl rfl ?_
      refine XS.iconst X208.here hx rfl (hb hby at_338) ?_
      refine st209 _ ?_
      refine XS.iand X209.here hx rfl (hb hby at_342) rfl ?_
      refine XS.istore X209.here hx rfl (hb hby at_343) rfl (l' := #[.val (.int nv), .val (.int aa), .val (.int bb), .val (.int (2 : Int32)), .val (.ref b1), .val (.ref b24), .val (.ref b149), .val (.ref b155), .val (.ref b194), .val (.int (1 : Int32))]) rfl ?_
      refine XS.iload X209.here hx rfl (hb hby at_345) rfl ?_
      refine XS.aload X209.here hx rfl (hb hby at_347) rfl rfl ?_
      refine XS.aload X209.here hx rfl (hb hby at_349) rfl rfl ?_
      refine XS.iloadN X209.here hx rfl (hb hby at_351) rfl ?_
      refine XS.aload X209.here hx rfl (hb hby at_352) rfl rfl ?_
      refine XS.aload X209.here hx rfl (hb hby at_354) rfl rfl ?_
      refine XS.iconst X209.here hx rfl (hb hby at_356) ?_
      refine st210 _ ?_
      rw [hres210]
      refine XS.iand X210.here hx rfl (hb hby at_360) rfl ?_
      refine XS.istore X210.here hx rfl (hb hby at_361) rfl (l' := #[.val (.int nv), .val (.int aa), .val (.int bb), .val (.int (2 : Int32)), .val (.ref b1), .val (.ref b24), .val (.ref b149), .val (.ref b155), .val (.ref b194), .val (.int (1 : Int32))]) rfl ?_
      refine XS.iload X210.here hx rfl (hb hby at_363) rfl ?_
      refine XS.aload X210.here hx rfl (hb hby at_365) rfl rfl ?_
      refine XS.aload X210.here hx rfl (hb hby at_367) rfl rfl ?_
      refine XS.iloadN X210.here hx rfl (hb hby at_369) rfl ?_
      refine XS.aload X210.here hx rfl (hb hby at_370) rfl rfl ?_
      refine XS.aload X210.here hx rfl (hb hby at_372) rfl rfl ?_
      refine XS.iconst X210.here hx rfl (hb hby at_374) ?_
      refine st211 _ ?_
      rw [hres211]
      refine XS.iand X211.here hx rfl (hb hby at_378) rfl ?_
      refine XS.istore X211.here hx rfl (hb hby at_379) rfl (l' := #[.val (.int nv), .val (.int aa), .val (.int bb), .val (.int (2 : Int32)), .val (.ref b1), .val (.ref b24), .val (.ref b149), .val (.ref b155), .val (.ref b194), .val (.int (1 : Int32))]) rfl ?_
      refine XS.iload X211.here hx rfl (hb hby at_381) rfl ?_
      refine XS.aload X211.here hx rfl (hb hby at_383) rfl rfl ?_
      refine XS.aload X211.here hx rfl (hb hby at_385) rfl rfl ?_
      refine XS.iloadN X211.here hx rfl (hb hby at_387) rfl ?_
      refine XS.aload X211.here hx rfl (hb hby at_388) rfl rfl ?_
      refine XS.aload X211.here hx rfl (hb hby at_390) rfl rfl ?_
      refine XS.iconst X211.here hx rfl (hb hby at_392) ?_
      refine st212 _ ?_
      refine XS.iand X212.here hx rfl (hb hby at_396) rfl ?_
      refine XS.istore X212.here hx rfl (hb hby at_397) rfl (l' := #[.val (.int nv), .val (.int aa), .val (.int bb), .val (.int (2 : Int32)), .val (.ref b1), .val (.ref b24), .val (.ref b149), .val (.ref b155), .val (.ref b194), .val (.int (1 : Int32))]) rfl ?_
      refine XS.iload X212.here hx rfl (hb hby at_399) rfl ?_
      refine XS.aload X212.here hx rfl (hb hby at_401) rfl rfl ?_
      refine XS.aload X212.here hx rfl (hb hby at_403) rfl rfl ?_
      refine XS.iloadN X212.here hx rfl (hb hby at_405) rfl ?_
      refine XS.aload X212.here hx rfl (hb hby at_406) rfl rfl ?_
      refine XS.aload X212.here hx rfl (hb hby at_408) rfl rfl ?_
      refine XS.iconst X212.here hx rfl (hb hby at_410) ?_
      refine st213 _ ?_
      refine XS.iand X213.here hx rfl (hb hby at_414) rfl ?_
      refine XS.istore X213.here hx rfl (hb hby at_415) rfl (l' := #[.val (.int nv), .val (.int aa), .val (.int bb), .val (.int (2 : Int32)), .val (.ref b1), .val (.ref b24), .val (.ref b149), .val (.ref b155), .val (.ref b194), .val (.int (1 : Int32))]) rfl ?_
      refine XS.iload X213.here hx rfl (hb hby at_417) rfl ?_
      refine XS.aload X213.here hx rfl (hb hby at_419) rfl rfl ?_
      refine XS.aload X213.here hx rfl (hb hby at_421) rfl rfl ?_
      refine XS.iloadN X213.here hx rfl (hb hby at_423) rfl ?_
      refine XS.aload X213.here hx rfl (hb hby at_424) rfl rfl ?_
      refine XS.aload X213.here hx rfl (hb hby at_426) rfl rfl ?_
      refine XS.iconst X213.here hx rfl (hb hby at_428) ?_
      refine st214 _ ?_
      refine XS.iand X214.here hx rfl (hb hby at_432) rfl ?_
      refine XS.istore X214.here hx rfl (hb hby at_433) rfl (l' := #[.val (.int nv), .val (.int aa), .val (.int bb), .val (.int (2 : Int32)), .val (.ref b1), .val (.ref b24), .val (.ref b149), .val (.ref b155), .val (.ref b194), .val (.int (1 : Int32))]) rfl ?_
      refine XS.iload X214.here hx rfl (hb hby at_435) rfl ?_
      exact retN X214 hx (t := .boolean) Bd.returns (by simp) (hb hby at_437) hr
    · show Q0 Z nv aa bb h0 n0 _ T214.heap _
      rw [e214]
      exact ⟨rfl, N214⟩
  · have pre215 : ∀ t, Steps p.tables e below (T50.setTop (mkF m 119 #[.val (.int nv), .val (.int aa), .val (.int bb), .val (.int (3 : Int32)), .val (.ref b1), .val (.ref b24), .unset, .unset, .unset, .unset] [(.int (3 : Int32))])) t → Steps p.tables e below (s₁.setTop (entryFrame m #[(.int nv), (.int aa), (.int bb)] maxLocals)) t := by
      intro t k
      refine pre54 _ ?_
      rw [hk55]
      exact k
    obtain ⟨T216, h216, k216, X216, e216, E216, A216, st216⟩ := newP X50 hx hZ (hw _ (List.mem_of_getElem? (i := 1) rfl)) e50 (g := (mkF m 119 #[.val (.int nv), .val (.int aa), .val (.int bb), .val (.int (3 : Int32)), .val (.ref b1), .val (.ref b24), .unset, .unset, .unset, .unset] [(.int (3 : Int32))])) rfl (hb hby at_119) rfl (by decide) (cap := 3) (by decide) (by decide) (by decide) (by decide)
    obtain ⟨b216, g216⟩ : ∃ z, z = h50.size := ⟨_, rfl⟩
    rw [← g216] at A216 st216
    have ne217 : b1 ≠ b216 := Nat.ne_of_lt (Nat.lt_of_lt_of_le f52.lt (Nat.le_of_eq g216.symm))
    have ne218 : b24 ≠ b216 := Nat.ne_of_lt (Nat.lt_of_lt_of_le f53.lt (Nat.le_of_eq g216.symm))
    have gg216 : n0 ≤ b216 := Nat.le_trans Z50 (Nat.le_of_eq g216.symm)
    have f219 : AI Z h216 b1 .byte 5 (own_FQ aa bb) := f52.ext E216
    have f220 : AI Z h216 b24 .int 5 (own_FT aa bb) := f53.ext E216
    have Z216 : n0 ≤ h216.size := Nat.le_trans Z50 E216.1
    have f221 : AI Z h216 b216 .byte 3 zI := AF.new A216 (by decide)
    obtain ⟨T222, h222, k222, X222, e222, E222, A222, st222⟩ := newP X216 hx hZ (hw _ (List.mem_of_getElem? (i := 6) rfl)) e216 (g := (mkF m 124 #[.val (.int nv), .val (.int aa), .val (.int bb), .val (.int (3 : Int32)), .val (.ref b1), .val (.ref b24), .val (.ref b216), .unset, .unset, .unset] [(.int (3 : Int32))])) rfl (hb hby at_124) rfl (by decide) (cap := 3) (by decide) (by decide) (by decide) (by decide)
    obtain ⟨b222, g222⟩ : ∃ z, z = h216.size := ⟨_, rfl⟩
    rw [← g222] at A222 st222
    have ne223 : b1 ≠ b222 := Nat.ne_of_lt (Nat.lt_of_lt_of_le f219.lt (Nat.le_of_eq g222.symm))
    have ne224 : b216 ≠ b222 := Nat.ne_of_lt (Nat.lt_of_lt_of_le f221.lt (Nat.le_of_eq g222.symm))
    have ne225 : b24 ≠ b222 := Nat.ne_of_lt (Nat.lt_of_lt_of_le f220.lt (Nat.le_of_eq g222.symm))
    have gg222 : n0 ≤ b222 := Nat.le_trans Z216 (Nat.le_of_eq g222.symm)
    have f226 : AI Z h222 b1 .byte 5 (own_FQ aa bb) := f219.ext E222
    have f227 : AI Z h222 b24 .int 5 (own_FT aa bb) := f220.ext E222
    have f228 : AI Z h222 b216 .byte 3 zI := f221.ext E222
    have Z222 : n0 ≤ h222.size := Nat.le_trans Z216 E222.1
    have f229 : AI Z h222 b222 .int 3 zI := AF.new A222 (by decide)
    obtain ⟨cl230, Arcl230, hincl230, hatcl230⟩ := AF.at f226 (j := (0 : Int32)) 0 (by decide) (by decide)
    obtain ⟨cl231, Arcl231, hincl231, -⟩ := AF.at f228 (j := (0 : Int32)) 0 (by decide) (by decide)
    obtain ⟨T232, h232, X232, e232, W232, st232⟩ := stB X222 hx hZ e222 Arcl231 (j := (0 : Int32)) hincl231 (g := (mkF m 139 #[.val (.int nv), .val (.int aa), .val (.int bb), .val (.int (3 : Int32)), .val (.ref b1), .val (.ref b24), .val (.ref b216), .val (.ref b222), .unset, .unset] [(.int ((own_FQ aa bb) 0)), (.int (0 : Int32)), (.ref b216)])) rfl rfl (hb hby at_139)
    rw [own_lq0 aa bb] at W232
    have N232 := Fr.snoc X232 N50 gg216
    have Z232 : n0 ≤ h232.size := Nat.le_trans Z222 (Keep.of_wr W232).1
    have f233 : AI Z h232 b216 .byte 3 (up zI 0 ((own_FQ aa bb) 0)) := AF.setI f228 W232 0 (by decide)
    have f234 : AI Z h232 b1 .byte 5 (own_FQ aa bb) := f226.other W232 ne217
    have f235 : AI Z h232 b24 .int 5 (own_FT aa bb) := f227.other W232 ne218
    have f236 : AI Z h232 b222 .int 3 zI := f229.other W232 (Ne.symm ne224)
    obtain ⟨cl237, Arcl237, hincl237, hatcl237⟩ := AF.at f235 (j := (0 : Int32)) 0 (by decide) (by decide)
    obtain ⟨cl238, Arcl238, hincl238, -⟩ := AF.at f236 (j := (0 : Int32)) 0 (by decide) (by decide)
    obtain ⟨T239, h239, X239, e239, W239, st239⟩ := stI X232 hx hZ e232 Arcl238 (j := (0 : Int32)) hincl238 (g := (mkF m 147 #[.val (.int nv), .val (.int aa), .val (.int bb), .val (.int (3 : Int32)), .val (.ref b1), .val (.ref b24), .val (.ref b216), .val (.ref b222), .unset, .unset] [(.int ((own_FT aa bb) 0)), (.int (0 : Int32)), (.ref b222)])) rfl rfl (hb hby at_147)
    have N239 := Fr.snoc X239 N232 gg222
    have Z239 : n0 ≤ h239.size := Nat.le_trans Z232 (Keep.of_wr W239).1
    have f240 : AI Z h239 b222 .int 3 (up zI 0 ((own_FT aa bb) 0)) := AF.setI f236 W239 0 (by decide)
    have f241 : AI Z h239 b1 .byte 5 (own_FQ aa bb) := f234.other W239 ne223
    have f242 : AI Z h239 b24 .int 5 (own_FT aa bb) := f235.other W239 ne225
    have f243 : AI Z h239 b216 .byte 3 (up zI 0 ((own_FQ aa bb) 0)) := f233.other W239 ne224
    obtain ⟨cl244, Arcl244, hincl244, hatcl244⟩ := AF.at f241 (j := (1 : Int32)) 1 (by decide) (by decide)
    obtain ⟨cl245, Arcl245, hincl245, -⟩ := AF.at f243 (j := (1 : Int32)) 1 (by decide) (by decide)
    obtain ⟨T246, h246, X246, e246, W246, st246⟩ := stB X239 hx hZ e239 Arcl245 (j := (1 : Int32)) hincl245 (g := (mkF m 160 #[.val (.int nv), .val (.int aa), .val (.int bb), .val (.int (3 : Int32)), .val (.ref b1), .val (.ref b24), .val (.ref b216), .val (.ref b222), .unset, .unset] [(.int ((own_FQ aa bb) 1)), (.int (1 : Int32)), (.ref b216)])) rfl rfl (hb hby at_160)
    rw [own_lq1 aa bb] at W246
    have N246 := Fr.snoc X246 N239 gg216
    have Z246 : n0 ≤ h246.size := Nat.le_trans Z239 (Keep.of_wr W246).1
    have f247 : AI Z h246 b216 .byte 3 (up (up zI 0 ((own_FQ aa bb) 0)) 1 ((own_FQ aa bb) 1)) := AF.setI f243 W246 1 (by decide)
    have f248 : AI Z h246 b1 .byte 5 (own_FQ aa bb) := f241.other W246 ne217
    have f249 : AI Z h246 b24 .int 5 (own_FT aa bb) := f242.other W246 ne218
    have f250 : AI Z h246 b222 .int 3 (up zI 0 ((own_FT aa bb) 0)) := f240.other W246 (Ne.symm ne224)
    obtain ⟨cl251, Arcl251, hincl251, hatcl251⟩ := AF.at f249 (j := (1 : Int32)) 1 (by decide) (by decide)
    obtain ⟨cl252, Arcl252, hincl252, -⟩ := AF.at f250 (j := (1 : Int32)) 1 (by decide) (by decide)
    obtain ⟨T253, h253, X253, e253, W253, st253⟩ := stI X246 hx hZ e246 Arcl252 (j := (1 : Int32)) hincl252 (g := (mkF m 168 #[.val (.int nv), .val (.int aa), .val (.int bb), .val (.int (3 : Int32)), .val (.ref b1), .val (.ref b24), .val (.ref b216), .val (.ref b222), .unset, .unset] [(.int ((own_FT aa bb) 1)), (.int (1 : Int32)), (.ref b222)])) rfl rfl (hb hby at_168)
    have N253 := Fr.snoc X253 N246 gg222
    have Z253 : n0 ≤ h253.size := Nat.le_trans Z246 (Keep.of_wr W253).1
    have f254 : AI Z h253 b222 .int 3 (up (up zI 0 ((own_FT aa bb) 0)) 1 ((own_FT aa bb) 1)) := AF.setI f250 W253 1 (by decide)
    have f255 : AI Z h253 b1 .byte 5 (own_FQ aa bb) := f248.other W253 ne223
    have f256 : AI Z h253 b24 .int 5 (own_FT aa bb) := f249.other W253 ne225
    have f257 : AI Z h253 b216 .byte 3 (up (up zI 0 ((own_FQ aa bb) 0)) 1 ((own_FQ aa bb) 1)) := f247.other W253 ne224
    obtain ⟨cl258, Arcl258, hincl258, hatcl258⟩ := AF.at f255 (j := (2 : Int32)) 2 (by decide) (by decide)
    obtain ⟨cl259, Arcl259, hincl259, -⟩ := AF.at f257 (j := (2 : Int32)) 2 (by decide) (by decide)
    obtain ⟨T260, h260, X260, e260, W260, st260⟩ := stB X253 hx hZ e253 Arcl259 (j := (2 : Int32)) hincl259 (g := (mkF m 181 #[.val (.int nv), .val (.int aa), .val (.int bb), .val (.int (3 : Int32)), .val (.ref b1), .val (.ref b24), .val (.ref b216), .val (.ref b222), .unset, .unset] [(.int ((own_FQ aa bb) 2)), (.int (2 : Int32)), (.ref b216)])) rfl rfl (hb hby at_181)
    rw [own_lq2 aa bb] at W260
    have N260 := Fr.snoc X260 N253 gg216
    have Z260 : n0 ≤ h260.size := Nat.le_trans Z253 (Keep.of_wr W260).1
    have f261 : AI Z h260 b216 .byte 3 (up (up (up zI 0 ((own_FQ aa bb) 0)) 1 ((own_FQ aa bb) 1)) 2 ((own_FQ aa bb) 2)) := AF.setI f257 W260 2 (by decide)
    have f262 : AI Z h260 b1 .byte 5 (own_FQ aa bb) := f255.other W260 ne217
    have f263 : AI Z h260 b24 .int 5 (own_FT aa bb) := f256.other W260 ne218
    have f264 : AI Z h260 b222 .int 3 (up (up zI 0 ((own_FT aa bb) 0)) 1 ((own_FT aa bb) 1)) := f254.other W260 (Ne.symm ne224)
    obtain ⟨cl265, Arcl265, hincl265, hatcl265⟩ := AF.at f263 (j := (2 : Int32)) 2 (by decide) (by decide)
    obtain ⟨cl266, Arcl266, hincl266, -⟩ := AF.at f264 (j := (2 : Int32)) 2 (by decide) (by decide)
    obtain ⟨T267, h267, X267, e267, W267, st267⟩ := stI X260 hx hZ e260 Arcl266 (j := (2 : Int32)) hincl266 (g := (mkF m 189 #[.val (.int nv), .val (.int aa), .val (.int bb), .val (.int (3 : Int32)), .val (.ref b1), .val (.ref b24), .val (.ref b216), .val (.ref b222), .unset, .unset] [(.int ((own_FT aa bb) 2)), (.int (2 : Int32)), (.ref b222)])) rfl rfl (hb hby at_189)
    have N267 := Fr.snoc X267 N260 gg222
    have Z267 : n0 ≤ h267.size := Nat.le_trans Z260 (Keep.of_wr W267).1
    have f268 : AI Z h267 b222 .int 3 (up (up (up zI 0 ((own_FT aa bb) 0)) 1 ((own_FT aa bb) 1)) 2 ((own_FT aa bb) 2)) := AF.setI f264 W267 2 (by decide)
    have f269 : AI Z h267 b1 .byte 5 (own_FQ aa bb) := f262.other W267 ne223
    have f270 : AI Z h267 b24 .int 5 (own_FT aa bb) := f263.other W267 ne225
    have f271 : AI Z h267 b216 .byte 3 (up (up (up zI 0 ((own_FQ aa bb) 0)) 1 ((own_FQ aa bb) 1)) 2 ((own_FQ aa bb) 2)) := f261.other W267 ne224
    have f272 : AI Z h267 b216 .byte 3 (own_FP3 aa bb) := f271
    have f273 : AI Z h267 b222 .int 3 (own_FS3 aa bb) := f268
    obtain ⟨_, _, ⟨T274, L274, k274, n274⟩, -, X274, ⟨Lc274, hQ274, l274, y274, z274⟩, st274⟩ := Jvm.LawKit.callS X267 hx (y := (⟨"skipstitch/table/PrefixTable", "optimised", "([B[I)[I"⟩ : MethodName)) hown (mvT hZ (hw _ (List.mem_of_getElem? (i := 13) rfl))) (mvT hZ (hw _ (List.mem_of_getElem? (i := 14) rfl))) (mvT hZ (hw _ (List.mem_of_getElem? (i := 15) rfl))) (mvT hZ (hw _ (List.mem_of_getElem? (i := 16) rfl))) (by decide) (backOf (W := 0) (rm4k3 l Z a0 hw [] b216 b222 (own_FP3 aa bb) (own_FS3 aa bb) h267 n0 Z267 f272 f273 (own_hfz3 aa bb)) hZ (hw _ (List.mem_of_getElem? (i := 16) rfl)) (hw _ (List.mem_of_getElem? (i := 15) rfl)) (by decide) (by decide)) (g := (mkF m 236 #[.val (.int nv), .val (.int aa), .val (.int bb), .val (.int (3 : Int32)), .val (.ref b1), .val (.ref b24), .val (.ref b216), .val (.ref b222), .unset, .unset] [(.ref b222), (.ref b216)])) rfl (by rw [hml]; rfl) (argsL := [(.ref b216), (.ref b222)]) (rest := []) (lenOf pd_5 rfl) rfl (by show 2 * 0 + _ ≤ _; exact Nat.le_of_eq rfl) (hb hby at_236) (fun _ _ => ⟨rfl, e267, (by decide : 4 + 1 ≤ _), (by decide : 16 + 3 ≤ _)⟩)
    dsimp only [Pt.U, Pt.locs, Pt.cells, Pt.slots] at X274 l274 y274 z274 st274 hQ274
    subst y274 z274
    obtain ⟨b275, ggb275, szb275, rfl, N274q, K274c, f276⟩ := hQ274
    have N274 : Fr n0 L274 := by rw [l274]; exact Fr.app N267 N274q
    have ne277 : b1 ≠ b275 := Nat.ne_of_lt (Nat.lt_of_lt_of_le f269.lt szb275)
    have ne278 : b216 ≠ b275 := Nat.ne_of_lt (Nat.lt_of_lt_of_le f272.lt szb275)
    have ne279 : b222 ≠ b275 := Nat.ne_of_lt (Nat.lt_of_lt_of_le f273.lt szb275)
    have ne280 : b24 ≠ b275 := Nat.ne_of_lt (Nat.lt_of_lt_of_le f270.lt szb275)
    have f281 : AI Z T274.heap b1 .byte 5 (own_FQ aa bb) := f269.keep K274c nin0
    have f282 : AI Z T274.heap b24 .int 5 (own_FT aa bb) := f270.keep K274c nin0
    have f283 : AI Z T274.heap b216 .byte 3 (own_FP3 aa bb) := f272.keep K274c nin0
    have f284 : AI Z T274.heap b222 .int 3 (own_FS3 aa bb) := f273.keep K274c nin0
    have Z274 : n0 ≤ T274.heap.size := Nat.le_trans Z267 K274c.1
    obtain ⟨cl285, Arcl285, Szcl285⟩ := AF.len f276
    obtain ⟨_, _, ⟨T286, L286, k286, n286⟩, -, X286, ⟨Lc286, hQ286, l286, y286, z286⟩, st286⟩ := Jvm.LawKit.callS X274 hx (y := (⟨"skipstitch/table/PrefixTableOptimisedPinLaw", "at", "([II[B[II)Z"⟩ : MethodName)) hown (mvT hZ (hw _ (List.mem_of_getElem? (i := 17) rfl))) (mvT hZ (hw _ (List.mem_of_getElem? (i := 18) rfl))) (mvT hZ (hw _ (List.mem_of_getElem? (i := 4) rfl))) (mvT hZ (hw _ (List.mem_of_getElem? (i := 19) rfl))) (by decide) (backOf (W := 1) (rm5a0 l Z a0 hw [] b275 (3 : Int32) b1 b24 (own_FQ aa bb) (own_FT aa bb) (up (own_g (own_FP3 aa bb) (own_FS3 aa bb) 2) 2 ((own_FS3 aa bb) 2)) 3 T274.heap n0 Z274 f276 f281 f282 (own_hfu aa bb) (by decide) (by decide) (by decide)) hZ (hw _ (List.mem_of_getElem? (i := 19) rfl)) (hw _ (List.mem_of_getElem? (i := 4) rfl)) (by decide) (by decide)) (g := (mkF m 275 #[.val (.int nv), .val (.int aa), .val (.int bb), .val (.int (3 : Int32)), .val (.ref b1), .val (.ref b24), .val (.ref b216), .val (.ref b222), .val (.ref b275), .val (.int (1 : Int32))] [(.int (0 : Int32)), (.ref b24), (.ref b1), (.int (3 : Int32)), (.ref b275), (.int (1 : Int32))])) rfl (by rw [hml]; rfl) (argsL := [(.ref b275), (.int (3 : Int32)), (.ref b1), (.ref b24), (.int (0 : Int32))]) (rest := [(.int (1 : Int32))]) (lenOf pd_6 rfl) rfl (by show 2 * 0 + _ ≤ _; exact Nat.le_of_eq rfl) (hb hby at_275) (fun _ _ => ⟨rfl, rfl, (by decide : 5 + 0 ≤ _), (by decide : 19 + 0 ≤ _)⟩)
    dsimp only [Pt.U, Pt.locs, Pt.cells, Pt.slots] at X286 l286 y286 z286 st286 hQ286
    subst y286 z286
    obtain ⟨rfl, N286q, e286⟩ := hQ286
    have N286 : Fr n0 L286 := by rw [l286]; exact Fr.app N274 N286q
    have hres286 : (r5a0_v (own_FQ aa bb) (own_FT aa bb) (up (own_g (own_FP3 aa bb) (own_FS3 aa bb) 2) 2 ((own_FS3 aa bb) 2))) = (1 : Int32) := own_a3_0 aa bb
    obtain ⟨_, _, ⟨T287, L287, k287, n287⟩, -, X287, ⟨Lc287, hQ287, l287, y287, z287⟩, st287⟩ := Jvm.LawKit.callS X286 hx (y := (⟨"skipstitch/table/PrefixTableOptimisedPinLaw", "at", "([II[B[II)Z"⟩ : MethodName)) hown (mvT hZ (hw _ (List.mem_of_getElem? (i := 17) rfl))) (mvT hZ (hw _ (List.mem_of_getElem? (i := 18) rfl))) (mvT hZ (hw _ (List.mem_of_getElem? (i := 4) rfl))) (mvT hZ (hw _ (List.mem_of_getElem? (i := 19) rfl))) (by decide) (backOf (W := 1) (rm5a1 l Z a0 hw [] b275 (3 : Int32) b1 b24 (own_FQ aa bb) (own_FT aa bb) (up (own_g (own_FP3 aa bb) (own_FS3 aa bb) 2) 2 ((own_FS3 aa bb) 2)) 3 T274.heap n0 Z274 f276 f281 f282 (own_hfu aa bb) (by decide) (by decide) (by decide)) hZ (hw _ (List.mem_of_getElem? (i := 19) rfl)) (hw _ (List.mem_of_getElem? (i := 4) rfl)) (by decide) (by decide)) (g := (mkF m 291 #[.val (.int nv), .val (.int aa), .val (.int bb), .val (.int (3 : Int32)), .val (.ref b1), .val (.ref b24), .val (.ref b216), .val (.ref b222), .val (.ref b275), .val (.int (1 : Int32))] [(.int (1 : Int32)), (.ref b24), (.ref b1), (.int (3 : Int32)), (.ref b275), (.int (1 : Int32))])) rfl (by rw [hml]; rfl) (argsL := [(.ref b275), (.int (3 : Int32)), (.ref b1), (.ref b24), (.int (1 : Int32))]) (rest := [(.int (1 : Int32))]) (lenOf pd_6 rfl) rfl (by show 2 * 0 + _ ≤ _; exact Nat.le_of_eq rfl) (hb hby at_291) (fun _ _ => ⟨rfl, e286, (by decide : 5 + 0 ≤ _), (by decide : 19 + 0 ≤ _)⟩)
    dsimp only [Pt.U, Pt.locs, Pt.cells, Pt.slots] at X287 l287 y287 z287 st287 hQ287
    subst y287 z287
    obtain ⟨rfl, N287q, e287⟩ := hQ287
    have N287 : Fr n0 L287 := by rw [l287]; exact Fr.app N286 N287q
    have hres287 : (r5a1_v (own_FQ aa bb) (own_FT aa bb) (up (own_g (own_FP3 aa bb) (own_FS3 aa bb) 2) 2 ((own_FS3 aa bb) 2))) = (1 : Int32) := own_a3_1 aa bb
    obtain ⟨_, _, ⟨T288, L288, k288, n288⟩, -, X288, ⟨Lc288, hQ288, l288, y288, z288⟩, st288⟩ := Jvm.LawKit.callS X287 hx (y := (⟨"skipstitch/table/PrefixTableOptimisedPinLaw", "at", "([II[B[II)Z"⟩ : MethodName)) hown (mvT hZ (hw _ (List.mem_of_getElem? (i := 17) rfl))) (mvT hZ (hw _ (List.mem_of_getElem? (i := 18) rfl))) (mvT hZ (hw _ (List.mem_of_getElem? (i := 4) rfl))) (mvT hZ (hw _ (List.mem_of_getElem? (i := 19) rfl))) (by decide) (backOf (W := 1) (rm5b2 l Z a0 hw [] b275 (3 : Int32) b1 b24 (own_FT aa bb) (up (own_g (own_FP3 aa bb) (own_FS3 aa bb) 2) 2 ((own_FS3 aa bb) 2)) 3 T274.heap n0 Z274 f276 f282 (by decide) (by decide) (by decide)) hZ (hw _ (List.mem_of_getElem? (i := 19) rfl)) (hw _ (List.mem_of_getElem? (i := 4) rfl)) (by decide) (by decide)) (g := (mkF m 307 #[.val (.int nv), .val (.int aa), .val (.int bb), .val (.int (3 : Int32)), .val (.ref b1), .val (.ref b24), .val (.ref b216), .val (.ref b222), .val (.ref b275), .val (.int (1 : Int32))] [(.int (2 : Int32)), (.ref b24), (.ref b1), (.int (3 : Int32)), (.ref b275), (.int (1 : Int32))])) rfl (by rw [hml]; rfl) (argsL := [(.ref b275), (.int (3 : Int32)), (.ref b1), (.ref b24), (.int (2 : Int32))]) (rest := [(.int (1 : Int32))]) (lenOf pd_6 rfl) rfl (by show 2 * 0 + _ ≤ _; exact Nat.le_of_eq rfl) (hb hby at_307) (fun _ _ => ⟨rfl, e287, (by decide : 5 + 0 ≤ _), (by decide : 19 + 0 ≤ _)⟩)
    dsimp only [Pt.U, Pt.locs, Pt.cells, Pt.slots] at X288 l288 y288 z288 st288 hQ288
    subst y288 z288
    obtain ⟨rfl, N288q, e288⟩ := hQ288
    have N288 : Fr n0 L288 := by rw [l288]; exact Fr.app N287 N288q
    have hres288 : (r5b2_v (own_FT aa bb) (up (own_g (own_FP3 aa bb) (own_FS3 aa bb) 2) 2 ((own_FS3 aa bb) 2))) = (1 : Int32) := own_a3_2 aa bb
    obtain ⟨_, _, ⟨T289, L289, k289, n289⟩, -, X289, ⟨Lc289, hQ289, l289, y289, z289⟩, st289⟩ := Jvm.LawKit.callS X288 hx (y := (⟨"skipstitch/table/PrefixTableOptimisedPinLaw", "at", "([II[B[II)Z"⟩ : MethodName)) hown (mvT hZ (hw _ (List.mem_of_getElem? (i := 17) rfl))) (mvT hZ (hw _ (List.mem_of_getElem? (i := 18) rfl))) (mvT hZ (hw _ (List.mem_of_getElem? (i := 4) rfl))) (mvT hZ (hw _ (List.mem_of_getElem? (i := 19) rfl))) (by decide) (backOf (W := 1) (rm5c l Z a0 hw [] b275 (3 : Int32) b1 b24 (3 : Int32) T274.heap n0 Z274 (by decide)) hZ (hw _ (List.mem_of_getElem? (i := 19) rfl)) (hw _ (List.mem_of_getElem? (i := 4) rfl)) (by decide) (by decide)) (g := (mkF m 323 #[.val (.int nv), .val (.int aa), .val (.int bb), .val (.int (3 : Int32)), .val (.ref b1), .val (.ref b24), .val (.ref b216), .val (.ref b222), .val (.ref b275), .val (.int (1 : Int32))] [(.int (3 : Int32)), (.ref b24), (.ref b1), (.int (3 : Int32)), (.ref b275), (.int (1 : Int32))])) rfl (by rw [hml]; rfl) (argsL := [(.ref b275), (.int (3 : Int32)), (.ref b1), (.ref b24), (.int (3 : Int32))]) (rest := [(.int (1 : Int32))]) (lenOf pd_6 rfl) rfl (by show 2 * 0 + _ ≤ _; exact Nat.le_of_eq rfl) (hb hby at_323) (fun _ _ => ⟨rfl, e288, (by decide : 5 + 0 ≤ _), (by decide : 19 + 0 ≤ _)⟩)
    dsimp only [Pt.U, Pt.locs, Pt.cells, Pt.slots] at X289 l289 y289 z289 st289 hQ289
    subst y289 z289
    obtain ⟨rfl, N289q, e289⟩ := hQ289
    have N289 : Fr n0 L289 := by rw [l289]; exact Fr.app N288 N289q
    obtain ⟨_, _, ⟨T290, L290, k290, n290⟩, -, X290, ⟨Lc290, hQ290, l290, y290, z290⟩, st290⟩ := Jvm.LawKit.callS X289 hx (y := (⟨"skipstitch/table/PrefixTableOptimisedPinLaw", "at", "([II[B[II)Z"⟩ : MethodName)) hown (mvT hZ (hw _ (List.mem_of_getElem? (i := 17) rfl))) (mvT hZ (hw _ (List.mem_of_getElem? (i := 18) rfl))) (mvT hZ (hw _ (List.mem_of_getElem? (i := 4) rfl))) (mvT hZ (hw _ (List.mem_of_getElem? (i := 19) rfl))) (by decide) (backOf (W := 1) (rm5c l Z a0 hw [] b275 (3 : Int32) b1 b24 (4 : Int32) T274.heap n0 Z274 (by decide)) hZ (hw _ (List.mem_of_getElem? (i := 19) rfl)) (hw _ (List.mem_of_getElem? (i := 4) rfl)) (by decide) (by decide)) (g := (mkF m 339 #[.val (.int nv), .val (.int aa), .val (.int bb), .val (.int (3 : Int32)), .val (.ref b1), .val (.ref b24), .val (.ref b216), .val (.ref b222), .val (.ref b275), .val (.int (1 : Int32))] [(.int (4 : Int32)), (.ref b24), (.ref b1), (.int (3 : Int32)), (.ref b275), (.int (1 : Int32))])) rfl (by rw [hml]; rfl) (argsL := [(.ref b275), (.int (3 : Int32)), (.ref b1), (.ref b24), (.int (4 : Int32))]) (rest := [(.int (1 : Int32))]) (lenOf pd_6 rfl) rfl (by show 2 * 0 + _ ≤ _; exact Nat.le_of_eq rfl) (hb hby at_339) (fun _ _ => ⟨rfl, e289, (by decide : 5 + 0 ≤ _), (by decide : 19 + 0 ≤ _)⟩)
    dsimp only [Pt.U, Pt.locs, Pt.cells, Pt.slots] at X290 l290 y290 z290 st290 hQ290
    subst y290 z290
    obtain ⟨rfl, N290q, e290⟩ := hQ290
    have N290 : Fr n0 L290 := by rw [l290]; exact Fr.app N289 N290q
    obtain ⟨_, _, ⟨T291, L291, k291, n291⟩, -, X291, ⟨Lc291, hQ291, l291, y291, z291⟩, st291⟩ := Jvm.LawKit.callS X290 hx (y := (⟨"skipstitch/table/PrefixTableOptimisedPinLaw", "same", "([B[II[B[II)Z"⟩ : MethodName)) hown (mvT hZ (hw _ (List.mem_of_getElem? (i := 20) rfl))) (mvT hZ (hw _ (List.mem_of_getElem? (i := 21) rfl))) (mvT hZ (hw _ (List.mem_of_getElem? (i := 4) rfl))) (mvT hZ (hw _ (List.mem_of_getElem? (i := 22) rfl))) (by decide) (backOf (W := 1) (rm6l0 l Z a0 hw [] b216 b222 (3 : Int32) b1 b24 (own_FQ aa bb) (own_FT aa bb) (own_FP3 aa bb) (own_FS3 aa bb) 3 T274.heap n0 Z274 f283 f284 f281 f282 (by decide) (by decide)) hZ (hw _ (List.mem_of_getElem? (i := 22) rfl)) (hw _ (List.mem_of_getElem? (i := 4) rfl)) (by decide) (by decide)) (g := (mkF m 357 #[.val (.int nv), .val (.int aa), .val (.int bb), .val (.int (3 : Int32)), .val (.ref b1), .val (.ref b24), .val (.ref b216), .val (.ref b222), .val (.ref b275), .val (.int (1 : Int32))] [(.int (0 : Int32)), (.ref b24), (.ref b1), (.int (3 : Int32)), (.ref b222), (.ref b216), (.int (1 : Int32))])) rfl (by rw [hml]; rfl) (argsL := [(.ref b216), (.ref b222), (.int (3 : Int32)), (.ref b1), (.ref b24), (.int (0 : Int32))]) (rest := [(.int (1 : Int32))]) (lenOf pd_7 rfl) rfl (by show 2 * 0 + _ ≤ _; exact Nat.le_of_eq rfl) (hb hby at_357) (fun _ _ => ⟨rfl, e290, (by decide : 5 + 0 ≤ _), (by decide : 19 + 0 ≤ _)⟩)
    dsimp only [Pt.U, Pt.locs, Pt.cells, Pt.slots] at X291 l291 y291 z291 st291 hQ291
    subst y291 z291
    obtain ⟨rfl, N291q, e291⟩ := hQ291
    have N291 : Fr n0 L291 := by rw [l291]; exact Fr.app N290 N291q
    have hres291 : (r6l0_v (own_FQ aa bb) (own_FT aa bb) (own_FP3 aa bb) (own_FS3 aa bb)) = (1 : Int32) := own_s3_0 aa bb
    obtain ⟨_, _, ⟨T292, L292, k292, n292⟩, -, X292, ⟨Lc292, hQ292, l292, y292, z292⟩, st292⟩ := Jvm.LawKit.callS X291 hx (y := (⟨"skipstitch/table/PrefixTableOptimisedPinLaw", "same", "([B[II[B[II)Z"⟩ : MethodName)) hown (mvT hZ (hw _ (List.mem_of_getElem? (i := 20) rfl))) (mvT hZ (hw _ (List.mem_of_getElem? (i := 21) rfl))) (mvT hZ (hw _ (List.mem_of_getElem? (i := 4) rfl))) (mvT hZ (hw _ (List.mem_of_getElem? (i := 22) rfl))) (by decide) (backOf (W := 1) (rm6l1 l Z a0 hw [] b216 b222 (3 : Int32) b1 b24 (own_FQ aa bb) (own_FT aa bb) (own_FP3 aa bb) (own_FS3 aa bb) 3 T274.heap n0 Z274 f283 f284 f281 f282 (by decide) (by decide)) hZ (hw _ (List.mem_of_getElem? (i := 22) rfl)) (hw _ (List.mem_of_getElem? (i := 4) rfl)) (by decide) (by decide)) (g := (mkF m 375 #[.val (.int nv), .val (.int aa), .val (.int bb), .val (.int (3 : Int32)), .val (.ref b1), .val (.ref b24), .val (.ref b216), .val (.ref b222), .val (.ref b275), .val (.int (1 : Int32))] [(.int (1 : Int32)), (.ref b24), (.ref b1), (.int (3 : Int32)), (.ref b222), (.ref b216), (.int (1 : Int32))])) rfl (by rw [hml]; rfl) (argsL := [(.ref b216), (.ref b222), (.int (3 : Int32)), (.ref b1), (.ref b24), (.int (1 : Int32))]) (rest := [(.int (1 : Int32))]) (lenOf pd_7 rfl) rfl (by show 2 * 0 + _ ≤ _; exact Nat.le_of_eq rfl) (hb hby at_375) (fun _ _ => ⟨rfl, e291, (by decide : 5 + 0 ≤ _), (by decide : 19 + 0 ≤ _)⟩)
    dsimp only [Pt.U, Pt.locs, Pt.cells, Pt.slots] at X292 l292 y292 z292 st292 hQ292
    subst y292 z292
    obtain ⟨rfl, N292q, e292⟩ := hQ292
    have N292 : Fr n0 L292 := by rw [l292]; exact Fr.app N291 N292q
    have hres292 : (r6l1_v (own_FQ aa bb) (own_FT aa bb) (own_FP3 aa bb) (own_FS3 aa bb)) = (1 : Int32) := own_s3_1 aa bb
    obtain ⟨_, _, ⟨T293, L293, k293, n293⟩, -, X293, ⟨Lc293, hQ293, l293, y293, z293⟩, st293⟩ := Jvm.LawKit.callS X292 hx (y := (⟨"skipstitch/table/PrefixTableOptimisedPinLaw", "same", "([B[II[B[II)Z"⟩ : MethodName)) hown (mvT hZ (hw _ (List.mem_of_getElem? (i := 20) rfl))) (mvT hZ (hw _ (List.mem_of_getElem? (i := 21) rfl))) (mvT hZ (hw _ (List.mem_of_getElem? (i := 4) rfl))) (mvT hZ (hw _ (List.mem_of_getElem? (i := 22) rfl))) (by decide) (backOf (W := 1) (rm6l2 l Z a0 hw [] b216 b222 (3 : Int32) b1 b24 (own_FQ aa bb) (own_FT aa bb) (own_FP3 aa bb) (own_FS3 aa bb) 3 T274.heap n0 Z274 f283 f284 f281 f282 (by decide) (by decide)) hZ (hw _ (List.mem_of_getElem? (i := 22) rfl)) (hw _ (List.mem_of_getElem? (i := 4) rfl)) (by decide) (by decide)) (g := (mkF m 393 #[.val (.int nv), .val (.int aa), .val (.int bb), .val (.int (3 : Int32)), .val (.ref b1), .val (.ref b24), .val (.ref b216), .val (.ref b222), .val (.ref b275), .val (.int (1 : Int32))] [(.int (2 : Int32)), (.ref b24), (.ref b1), (.int (3 : Int32)), (.ref b222), (.ref b216), (.int (1 : Int32))])) rfl (by rw [hml]; rfl) (argsL := [(.ref b216), (.ref b222), (.int (3 : Int32)), (.ref b1), (.ref b24), (.int (2 : Int32))]) (rest := [(.int (1 : Int32))]) (lenOf pd_7 rfl) rfl (by show 2 * 0 + _ ≤ _; exact Nat.le_of_eq rfl) (hb hby at_393) (fun _ _ => ⟨rfl, e292, (by decide : 5 + 0 ≤ _), (by decide : 19 + 0 ≤ _)⟩)
    dsimp only [Pt.U, Pt.locs, Pt.cells, Pt.slots] at X293 l293 y293 z293 st293 hQ293
    subst y293 z293
    obtain ⟨rfl, N293q, e293⟩ := hQ293
    have N293 : Fr n0 L293 := by rw [l293]; exact Fr.app N292 N293q
    have hres293 : (r6l2_v (own_FQ aa bb) (own_FT aa bb) (own_FP3 aa bb) (own_FS3 aa bb)) = (1 : Int32) := own_s3_2 aa bb
    obtain ⟨_, _, ⟨T294, L294, k294, n294⟩, -, X294, ⟨Lc294, hQ294, l294, y294, z294⟩, st294⟩ := Jvm.LawKit.callS X293 hx (y := (⟨"skipstitch/table/PrefixTableOptimisedPinLaw", "same", "([B[II[B[II)Z"⟩ : MethodName)) hown (mvT hZ (hw _ (List.mem_of_getElem? (i := 20) rfl))) (mvT hZ (hw _ (List.mem_of_getElem? (i := 21) rfl))) (mvT hZ (hw _ (List.mem_of_getElem? (i := 4) rfl))) (mvT hZ (hw _ (List.mem_of_getElem? (i := 22) rfl))) (by decide) (backOf (W := 1) (rm6c l Z a0 hw [] b216 b222 (3 : Int32) b1 b24 (3 : Int32) T274.heap n0 Z274 (by decide)) hZ (hw _ (List.mem_of_getElem? (i := 22) rfl)) (hw _ (List.mem_of_getElem? (i := 4) rfl)) (by decide) (by decide)) (g := (mkF m 411 #[.val (.int nv), .val (.int aa), .val (.int bb), .val (.int (3 : Int32)), .val (.ref b1), .val (.ref b24), .val (.ref b216), .val (.ref b222), .val (.ref b275), .val (.int (1 : Int32))] [(.int (3 : Int32)), (.ref b24), (.ref b1), (.int (3 : Int32)), (.ref b222), (.ref b216), (.int (1 : Int32))])) rfl (by rw [hml]; rfl) (argsL := [(.ref b216), (.ref b222), (.int (3 : Int32)), (.ref b1), (.ref b24), (.int (3 : Int32))]) (rest := [(.int (1 : Int32))]) (lenOf pd_7 rfl) rfl (by show 2 * 0 + _ ≤ _; exact Nat.le_of_eq rfl) (hb hby at_411) (fun _ _ => ⟨rfl, e293, (by decide : 5 + 0 ≤ _), (by decide : 19 + 0 ≤ _)⟩)
    dsimp only [Pt.U, Pt.locs, Pt.cells, Pt.slots] at X294 l294 y294 z294 st294 hQ294
    subst y294 z294
    obtain ⟨rfl, N294q, e294⟩ := hQ294
    have N294 : Fr n0 L294 := by rw [l294]; exact Fr.app N293 N294q
    obtain ⟨_, _, ⟨T295, L295, k295, n295⟩, -, X295, ⟨Lc295, hQ295, l295, y295, z295⟩, st295⟩ := Jvm.LawKit.callS X294 hx (y := (⟨"skipstitch/table/PrefixTableOptimisedPinLaw", "same", "([B[II[B[II)Z"⟩ : MethodName)) hown (mvT hZ (hw _ (List.mem_of_getElem? (i := 20) rfl))) (mvT hZ (hw _ (List.mem_of_getElem? (i := 21) rfl))) (mvT hZ (hw _ (List.mem_of_getElem? (i := 4) rfl))) (mvT hZ (hw _ (List.mem_of_getElem? (i := 22) rfl))) (by decide) (backOf (W := 1) (rm6c l Z a0 hw [] b216 b222 (3 : Int32) b1 b24 (4 : Int32) T274.heap n0 Z274 (by decide)) hZ (hw _ (List.mem_of_getElem? (i := 22) rfl)) (hw _ (List.mem_of_getElem? (i := 4) rfl)) (by decide) (by decide)) (g := (mkF m 429 #[.val (.int nv), .val (.int aa), .val (.int bb), .val (.int (3 : Int32)), .val (.ref b1), .val (.ref b24), .val (.ref b216), .val (.ref b222), .val (.ref b275), .val (.int (1 : Int32))] [(.int (4 : Int32)), (.ref b24), (.ref b1), (.int (3 : Int32)), (.ref b222), (.ref b216), (.int (1 : Int32))])) rfl (by rw [hml]; rfl) (argsL := [(.ref b216), (.ref b222), (.int (3 : Int32)), (.ref b1), (.ref b24), (.int (4 : Int32))]) (rest := [(.int (1 : Int32))]) (lenOf pd_7 rfl) rfl (by show 2 * 0 + _ ≤ _; exact Nat.le_of_eq rfl) (hb hby at_429) (fun _ _ => ⟨rfl, e294, (by decide : 5 + 0 ≤ _), (by decide : 19 + 0 ≤ _)⟩)
    dsimp only [Pt.U, Pt.locs, Pt.cells, Pt.slots] at X295 l295 y295 z295 st295 hQ295
    subst y295 z295
    obtain ⟨rfl, N295q, e295⟩ := hQ295
    have N295 : Fr n0 L295 := by rw [l295]; exact Fr.app N294 N295q
    obtain ⟨fs, hr, hrun, hended, hW, hsame⟩ := X295.leave (v := some (.int (1 : Int32))) (fun h => by rw [Bd.returns] at h; cases h) (hlocks := Bd.notSynchronized)
    refine ⟨_, _, pre215 _ ?_, hrun, hended, _, _, rfl, ?_, ⟨_, rfl⟩, hW, hsame.mono (by decide) (by decide)⟩
    · show Steps p.tables e below (T50.setTop (mkF m 119 #[.val (.int nv), .val (.int aa), .val (.int bb), .val (.int (3 : Int32)), .val (.ref b1), .val (.ref b24), .unset, .unset, .unset, .unset] [(.int (3 : Int32))])) _
      refine st216 _ ?_
      refine XS.astore X216.here hx rfl (hb hby at_121) rfl rfl (l' := #[.val (.int nv), .val (.int aa), .val (.int bb), .val (.int (3 : Int32)), .val (.ref b1), .val (.ref b24), .val (.ref b216), .unset, .unset, .unset]) rfl ?_
      refine XS.iloadN X216.here hx rfl (hb hby at_123) rfl ?_
      refine st222 _ ?_
      refine XS.astore X222.here hx rfl (hb hby at_126) rfl rfl (l' := #[.val (.int nv), .val (.int aa), .val (.int bb), .val (.int (3 : Int32)), .val (.ref b1), .val (.ref b24), .val (.ref b216), .val (.ref b222), .unset, .unset]) rfl ?_
      refine XS.iloadN X222.here hx rfl (hb hby at_128) rfl ?_
      refine XS.ifNo X222.here hx rfl (hb hby at_129) rfl ((if0 _ _).trans (tlt (by decide : ((0 : Int32) < (3 : Int32)))).2.2.2) ?_
      refine XS.aload X222.here hx rfl (hb hby at_132) rfl rfl ?_
      refine XS.iconst X222.here hx rfl (hb hby at_134) ?_
      refine XS.aload X222.here hx rfl (hb hby at_135) rfl rfl ?_
      refine XS.iconst X222.here hx rfl (hb hby at_137) ?_
      refine X222.baloadBytes hx (j := (0 : Int32)) (v := (.int ((own_FQ aa bb) 0))) (by rw [e222]; exact Arcl230.1) (State.isArrayOf_alike hZ.alike Arcl230.2.1) Arcl230.2.2 hincl230 hatcl230 (g := (mkF m 138 #[.val (.int nv), .val (.int aa), .val (.int bb), .val (.int (3 : Int32)), .val (.ref b1), .val (.ref b24), .val (.ref b216), .val (.ref b222), .unset, .unset] [(.int (0 : Int32)), (.ref b1), (.int (0 : Int32)), (.ref b216)])) rfl rfl (hb hby at_138) _ ?_
      refine st232 _ ?_
      refine XS.aload X232.here hx rfl (hb hby at_140) rfl rfl ?_
      refine XS.iconst X232.here hx rfl (hb hby at_142) ?_
      refine XS.aload X232.here hx rfl (hb hby at_143) rfl rfl ?_
      refine XS.iconst X232.here hx rfl (hb hby at_145) ?_
      refine X232.iaload hx (j := (0 : Int32)) (v := (.int ((own_FT aa bb) 0))) (by rw [e232]; exact Arcl237.1) (State.isArrayOf_alike hZ.alike Arcl237.2.1) Arcl237.2.2 hincl237 hatcl237 (g := (mkF m 146 #[.val (.int nv), .val (.int aa), .val (.int bb), .val (.int (3 : Int32)), .val (.ref b1), .val (.ref b24), .val (.ref b216), .val (.ref b222), .unset, .unset] [(.int (0 : Int32)), (.ref b24), (.int (0 : Int32)), (.ref b222)])) rfl rfl (hb hby at_146) _ ?_
      refine st239 _ ?_
      refine XS.iloadN X239.here hx rfl (hb hby at_148) rfl ?_
      refine XS.iconst X239.here hx rfl (hb hby at_149) ?_
      refine XS.icmpNo X239.here hx rfl (hb hby at_150) rfl (tlt (by decide : ((1 : Int32) < (3 : Int32)))).2.2.2 ?_
      refine XS.aload X239.here hx rfl (hb hby at_153) rfl rfl ?_
      refine XS.iconst X239.here hx rfl (hb hby at_155) ?_
      refine XS.aload X239.here hx rfl (hb hby at_156) rfl rfl ?_
      refine XS.iconst X239.here hx rfl (hb hby at_158) ?_
      refine X239.baloadBytes hx (j := (1 : Int32)) (v := (.int ((own_FQ aa bb) 1))) (by rw [e239]; exact Arcl244.1) (State.isArrayOf_alike hZ.alike Arcl244.2.1) Arcl244.2.2 hincl244 hatcl244 (g := (mkF m 159 #[.val (.int nv), .val (.int aa), .val (.int bb), .val (.int (3 : Int32)), .val (.ref b1), .val (.ref b24), .val (.ref b216), .val (.ref b222), .unset, .unset] [(.int (1 : Int32)), (.ref b1), (.int (1 : Int32)), (.ref b216)])) rfl rfl (hb hby at_159) _ ?_
      refine st246 _ ?_
      refine XS.aload X246.here hx rfl (hb hby at_161) rfl rfl ?_
      refine XS.iconst X246.here hx rfl (hb hby at_163) ?_
      refine XS.aload X246.here hx rfl (hb hby at_164) rfl rfl ?_
      refine XS.iconst X246.here hx rfl (hb hby at_166) ?_
      refine X246.iaload hx (j := (1 : Int32)) (v := (.int ((own_FT aa bb) 1))) (by rw [e246]; exact Arcl251.1) (State.isArrayOf_alike hZ.alike Arcl251.2.1) Arcl251.2.2 hincl251 hatcl251 (g := (mkF m 167 #[.val (.int nv), .val (.int aa), .val (.int bb), .val (.int (3 : Int32)), .val (.ref b1), .val (.ref b24), .val (.ref b216), .val (.ref b222), .unset, .unset] [(.int (1 : Int32)), (.ref b24), (.int (1 : Int32)), (.ref b222)])) rfl rfl (hb hby at_167) _ ?_
      refine st253 _ ?_
      refine XS.iloadN X253.here hx rfl (hb hby at_169) rfl ?_
      refine XS.iconst X253.here hx rfl (hb hby at_170) ?_
      refine XS.icmpNo X253.here hx rfl (hb hby at_171) rfl (tlt (by decide : ((2 : Int32) < (3 : Int32)))).2.2.2 ?_
      refine XS.aload X253.here hx rfl (hb hby at_174) rfl rfl ?_
      refine XS.iconst X253.here hx rfl (hb hby at_176) ?_
      refine XS.aload X253.here hx rfl (hb hby at_177) rfl rfl ?_
      refine XS.iconst X253.here hx rfl (hb hby at_179) ?_
      refine X253.baloadBytes hx (j := (2 : Int32)) (v := (.int ((own_FQ aa bb) 2))) (by rw [e253]; exact Arcl258.1) (State.isArrayOf_alike hZ.alike Arcl258.2.1) Arcl258.2.2 hincl258 hatcl258 (g := (mkF m 180 #[.val (.int nv), .val (.int aa), .val (.int bb), .val (.int (3 : Int32)), .val (.ref b1), .val (.ref b24), .val (.ref b216), .val (.ref b222), .unset, .unset] [(.int (2 : Int32)), (.ref b1), (.int (2 : Int32)), (.ref b216)])) rfl rfl (hb hby at_180) _ ?_
      refine st260 _ ?_
      refine XS.aload X260.here hx rfl (hb hby at_182) rfl rfl ?_
      refine XS.iconst X260.here hx rfl (hb hby at_184) ?_
      refine XS.aload X260.here hx rfl (hb hby at_185) rfl rfl ?_
      refine XS.iconst X260.here hx rfl (hb hby at_187) ?_
      refine X260.iaload hx (j := (2 : Int32)) (v := (.int ((own_FT aa bb) 2))) (by rw [e260]; exact Arcl265.1) (State.isArrayOf_alike hZ.alike Arcl265.2.1) Arcl265.2.2 hincl265 hatcl265 (g := (mkF m 188 #[.val (.int nv), .val (.int aa), .val (.int bb), .val (.int (3 : Int32)), .val (.ref b1), .val (.ref b24), .val (.ref b216), .val (.ref b222), .unset, .unset] [(.int (2 : Int32)), (.ref b24), (.int (2 : Int32)), (.ref b222)])) rfl rfl (hb hby at_188) _ ?_
      refine st267 _ ?_
      refine XS.iloadN X267.here hx rfl (hb hby at_190) rfl ?_
      refine XS.iconst X267.here hx rfl (hb hby at_191) ?_
      refine XS.icmpYes X267.here hx rfl (pc0 := 192) (pc' := 211) rfl (hb hby at_192) rfl (flt (by decide : ¬ ((3 : Int32) < (3 : Int32)))).2.2.2 (by decide) (by decide) ?_
      refine XS.iloadN X267.here hx rfl (hb hby at_211) rfl ?_
      refine XS.iconst X267.here hx rfl (hb hby at_212) ?_
      refine XS.icmpYes X267.here hx rfl (pc0 := 213) (pc' := 232) rfl (hb hby at_213) rfl (flt (by decide : ¬ ((4 : Int32) < (3 : Int32)))).2.2.2 (by decide) (by decide) ?_
      refine XS.aload X267.here hx rfl (hb hby at_232) rfl rfl ?_
      refine XS.aload X267.here hx rfl (hb hby at_234) rfl rfl ?_
      refine st274 _ ?_
      refine XS.astore X274.here hx rfl (hb hby at_239) rfl rfl (l' := #[.val (.int nv), .val (.int aa), .val (.int bb), .val (.int (3 : Int32)), .val (.ref b1), .val (.ref b24), .val (.ref b216), .val (.ref b222), .val (.ref b275), .unset]) rfl ?_
      refine XS.aload X274.here hx rfl (hb hby at_241) rfl rfl ?_
      refine XS.ifnullNo X274.here hx rfl (hb hby at_243) rfl ?_
      refine XS.aload X274.here hx rfl (hb hby at_246) rfl rfl ?_
      refine X274.arraylength hx Arcl285.1 (State.isArrayOf_alike hZ.alike Arcl285.2.1) (g := (mkF m 248 #[.val (.int nv), .val (.int aa), .val (.int bb), .val (.int (3 : Int32)), .val (.ref b1), .val (.ref b24), .val (.ref b216), .val (.ref b222), .val (.ref b275), .unset] [(.ref b275)])) rfl rfl (hb hby at_248) _ ?_
      rw [Szcl285]
      refine XS.iloadN X274.here hx rfl (hb hby at_249) rfl ?_
      refine XS.icmpNo X274.here hx rfl (hb hby at_250) rfl (teq (by decide : ((3 : Int32) = (3 : Int32)))).2 ?_
      refine XS.aload X274.here hx rfl (hb hby at_253) rfl rfl ?_
      refine XS.aload X274.here hx rfl (hb hby at_255) rfl rfl ?_
      refine Jvm.RoadKit.acmp (g := (mkF m 257 #[.val (.int nv), .val (.int aa), .val (.int bb), .val (.int (3 : Int32)), .val (.ref b1), .val (.ref b24), .val (.ref b216), .val (.ref b222), .val (.ref b275), .unset] [(.ref b222), (.ref b275)])) X274 hx rfl rfl rfl (pc0 := 257) (pc' := 262) (same := false) rfl (hb hby at_257) rfl (decide_eq_false fun q => (Ne.symm ne279) (Value.ref.inj q)) (by decide) (by decide) ?_
      refine XS.iconst X274.here hx rfl (hb hby at_262) ?_
      refine XS.istore X274.here hx rfl (hb hby at_263) rfl (l' := #[.val (.int nv), .val (.int aa), .val (.int bb), .val (.int (3 : Int32)), .val (.ref b1), .val (.ref b24), .val (.ref b216), .val (.ref b222), .val (.ref b275), .val (.int (1 : Int32))]) rfl ?_
      refine XS.iload X274.here hx rfl (hb hby at_265) rfl ?_
      refine XS.aload X274.here hx rfl (hb hby at_267) rfl rfl ?_
      refine XS.iloadN X274.here hx rfl (hb hby at_269) rfl ?_
      refine XS.aload X274.here hx rfl (hb hby at_270) rfl rfl ?_
      refine XS.aload X274.here hx rfl (hb hby at_272) rfl rfl ?_
      refine XS.iconst X274.here hx rfl (hb hby at_274) ?_
      refine st286 _ ?_
      rw [hres286]
      refine XS.iand X286.here hx rfl (hb hby at_278) rfl ?_
      refine XS.istore X286.here hx rfl (hb hby at_279) rfl (l' := #[.val (.int nv), .val (.int aa), .val (.int bb), .val (.int (3 : Int32)), .val (.ref b1), .val (.ref b24), .val (.ref b216), .val (.ref b222), .val (.ref b275), .val (.int (1 : Int32))]) rfl ?_
      refine XS.iload X286.here hx rfl (hb hby at_281) rfl ?_
      refine XS.aload X286.here hx rfl (hb hby at_283) rfl rfl ?_
      refine XS.iloadN X286.here hx rfl (hb hby at_285) rfl ?_
      refine XS.aload X286.here hx rfl (hb hby at_286) rfl rfl ?_
      refine XS.aload X286.here hx rfl (hb hby at_288) rfl rfl ?_
      refine XS.iconst X286.here hx rfl (hb hby at_290) ?_
      refine st287 _ ?_
      rw [hres287]
      refine XS.iand X287.here hx rfl (hb hby at_294) rfl ?_
      refine XS.istore X287.here hx rfl (hb hby at_295) rfl (l' := #[.val (.int nv), .val (.int aa), .val (.int bb), .val (.int (3 : Int32)), .val (.ref b1), .val (.ref b24), .val (.ref b216), .val (.ref b222), .val (.ref b275), .val (.int (1 : Int32))]) rfl ?_
      refine XS.iload X287.here hx rfl (hb hby at_297) rfl ?_
      refine XS.aload X287.here hx rfl (hb hby at_299) rfl rfl ?_
      refine XS.iloadN X287.here hx rfl (hb hby at_301) rfl ?_
      refine XS.aload X287.here hx rfl (hb hby at_302) rfl rfl ?_
      refine XS.aload X287.here hx rfl (hb hby at_304) rfl rfl ?_
      refine XS.iconst X287.here hx rfl (hb hby at_306) ?_
      refine st288 _ ?_
      rw [hres288]
      refine XS.iand X288.here hx rfl (hb hby at_310) rfl ?_
      refine XS.istore X288.here hx rfl (hb hby at_311) rfl (l' := #[.val (.int nv), .val (.int aa), .val (.int bb), .val (.int (3 : Int32)), .val (.ref b1), .val (.ref b24), .val (.ref b216), .val (.ref b222), .val (.ref b275), .val (.int (1 : Int32))]) rfl ?_
      refine XS.iload X288.here hx rfl (hb hby at_313) rfl ?_
      refine XS.aload X288.here hx rfl (hb hby at_315) rfl rfl ?_
      refine XS.iloadN X288.here hx rfl (hb hby at_317) rfl ?_
      refine XS.aload X288.here hx rfl (hb hby at_318) rfl rfl ?_
      refine XS.aload X288.here hx rfl (hb hby at_320) rfl rfl ?_
      refine XS.iconst X288.here hx rfl (hb hby at_322) ?_
      refine st289 _ ?_
      refine XS.iand X289.here hx rfl (hb hby at_326) rfl ?_
      refine XS.istore X289.here hx rfl (hb hby at_327) rfl (l' := #[.val (.int nv), .val (.int aa), .val (.int bb), .val (.int (3 : Int32)), .val (.ref b1), .val (.ref b24), .val (.ref b216), .val (.ref b222), .val (.ref b275), .val (.int (1 : Int32))]) rfl ?_
      refine XS.iload X289.here hx rfl (hb hby at_329) rfl ?_
      refine XS.aload X289.here hx rfl (hb hby at_331) rfl rfl ?_
      refine XS.iloadN X289.here hx rfl (hb hby at_333) rfl ?_
      refine XS.aload X289.here hx rfl (hb hby at_334) rfl rfl ?_
      refine XS.aload X289.here hx rfl (hb hby at_336) rfl rfl ?_
      refine XS.iconst X289.here hx rfl (hb hby at_338) ?_
      refine st290 _ ?_
      refine XS.iand X290.here hx rfl (hb hby at_342) rfl ?_
      refine XS.istore X290.here hx rfl (hb hby at_343) rfl (l' := #[.val (.int nv), .val (.int aa), .val (.int bb), .val (.int (3 : Int32)), .val (.ref b1), .val (.ref b24), .val (.ref b216), .val (.ref b222), .val (.ref b275), .val (.int (1 : Int32))]) rfl ?_
      refine XS.iload X290.here hx rfl (hb hby at_345) rfl ?_
      refine XS.aload X290.here hx rfl (hb hby at_347) rfl rfl ?_
      refine XS.aload X290.here hx rfl (hb hby at_349) rfl rfl ?_
      refine XS.iloadN X290.here hx rfl (hb hby at_351) rfl ?_
      refine XS.aload X290.here hx rfl (hb hby at_352) rfl rfl ?_
      refine XS.aload X290.here hx rfl (hb hby at_354) rfl rfl ?_
      refine XS.iconst X290.here hx rfl (hb hby at_356) ?_
      refine st291 _ ?_
      rw [hres291]
      refine XS.iand X291.here hx rfl (hb hby at_360) rfl ?_
      refine XS.istore X291.here hx rfl (hb hby at_361) rfl (l' := #[.val (.int nv), .val (.int aa), .val (.int bb), .val (.int (3 : Int32)), .val (.ref b1), .val (.ref b24), .val (.ref b216), .val (.ref b222), .val (.ref b275), .val (.int (1 : Int32))]) rfl ?_
      refine XS.iload X291.here hx rfl (hb hby at_363) rfl ?_
      refine XS.aload X291.here hx rfl (hb hby at_365) rfl rfl ?_
      refine XS.aload X291.here hx rfl (hb hby at_367) rfl rfl ?_
      refine XS.iloadN X291.here hx rfl (hb hby at_369) rfl ?_
      refine XS.aload X291.here hx rfl (hb hby at_370) rfl rfl ?_
      refine XS.aload X291.here hx rfl (hb hby at_372) rfl rfl ?_
      refine XS.iconst X291.here hx rfl (hb hby at_374) ?_
      refine st292 _ ?_
      rw [hres292]
      refine XS.iand X292.here hx rfl (hb hby at_378) rfl ?_
      refine XS.istore X292.here hx rfl (hb hby at_379) rfl (l' := #[.val (.int nv), .val (.int aa), .val (.int bb), .val (.int (3 : Int32)), .val (.ref b1), .val (.ref b24), .val (.ref b216), .val (.ref b222), .val (.ref b275), .val (.int (1 : Int32))]) rfl ?_
      refine XS.iload X292.here hx rfl (hb hby at_381) rfl ?_
      refine XS.aload X292.here hx rfl (hb hby at_383) rfl rfl ?_
      refine XS.aload X292.here hx rfl (hb hby at_385) rfl rfl ?_
      refine XS.iloadN X292.here hx rfl (hb hby at_387) rfl ?_
      refine XS.aload X292.here hx rfl (hb hby at_388) rfl rfl ?_
      refine XS.aload X292.here hx rfl (hb hby at_390) rfl rfl ?_
      refine XS.iconst X292.here hx rfl (hb hby at_392) ?_
      refine st293 _ ?_
      rw [hres293]
      refine XS.iand X293.here hx rfl (hb hby at_396) rfl ?_
      refine XS.istore X293.here hx rfl (hb hby at_397) rfl (l' := #[.val (.int nv), .val (.int aa), .val (.int bb), .val (.int (3 : Int32)), .val (.ref b1), .val (.ref b24), .val (.ref b216), .val (.ref b222), .val (.ref b275), .val (.int (1 : Int32))]) rfl ?_
      refine XS.iload X293.here hx rfl (hb hby at_399) rfl ?_
      refine XS.aload X293.here hx rfl (hb hby at_401) rfl rfl ?_
      refine XS.aload X293.here hx rfl (hb hby at_403) rfl rfl ?_
      refine XS.iloadN X293.here hx rfl (hb hby at_405) rfl ?_
      refine XS.aload X293.here hx rfl (hb hby at_406) rfl rfl ?_
      refine XS.aload X293.here hx rfl (hb hby at_408) rfl rfl ?_
      refine XS.iconst X293.here hx rfl (hb hby at_410) ?_
      refine st294 _ ?_
      refine XS.iand X294.here hx rfl (hb hby at_414) rfl ?_
      refine XS.istore X294.here hx rfl (hb hby at_415) rfl (l' := #[.val (.int nv), .val (.int aa), .val (.int bb), .val (.int (3 : Int32)), .val (.ref b1), .val (.ref b24), .val (.ref b216), .val (.ref b222), .val (.ref b275), .val (.int (1 : Int32))]) rfl ?_
      refine XS.iload X294.here hx rfl (hb hby at_417) rfl ?_
      refine XS.aload X294.here hx rfl (hb hby at_419) rfl rfl ?_
      refine XS.aload X294.here hx rfl (hb hby at_421) rfl rfl ?_
      refine XS.iloadN X294.here hx rfl (hb hby at_423) rfl ?_
      refine XS.aload X294.here hx rfl (hb hby at_424) rfl rfl ?_
      refine XS.aload X294.here hx rfl (hb hby at_426) rfl rfl ?_
      refine XS.iconst X294.here hx rfl (hb hby at_428) ?_
      refine st295 _ ?_
      refine XS.iand X295.here hx rfl (hb hby at_432) rfl ?_
      refine XS.istore X295.here hx rfl (hb hby at_433) rfl (l' := #[.val (.int nv), .val (.int aa), .val (.int bb), .val (.int (3 : Int32)), .val (.ref b1), .val (.ref b24), .val (.ref b216), .val (.ref b222), .val (.ref b275), .val (.int (1 : Int32))]) rfl ?_
      refine XS.iload X295.here hx rfl (hb hby at_435) rfl ?_
      exact retN X295 hx (t := .boolean) Bd.returns (by simp) (hb hby at_437) hr
    · show Q0 Z nv aa bb h0 n0 _ T295.heap _
      rw [e295]
      exact ⟨rfl, N295⟩
  · have pre296 : ∀ t, Steps p.tables e below (T50.setTop (mkF m 119 #[.val (.int nv), .val (.int aa), .val (.int bb), .val (.int (4 : Int32)), .val (.ref b1), .val (.ref b24), .unset, .unset, .unset, .unset] [(.int (4 : Int32))])) t → Steps p.tables e below (s₁.setTop (entryFrame m #[(.int nv), (.int aa), (.int bb)] maxLocals)) t := by
      intro t k
      refine pre54 _ ?_
      rw [hk55]
      exact k
    obtain ⟨T297, h297, k297, X297, e297, E297, A297, st297⟩ := newP X50 hx hZ (hw _ (List.mem_of_getElem? (i := 1) rfl)) e50 (g := (mkF m 119 #[.val (.int nv), .val (.int aa), .val (.int bb), .val (.int (4 : Int32)), .val (.ref b1), .val (.ref b24), .unset, .unset, .unset, .unset] [(.int (4 : Int32))])) rfl (hb hby at_119) rfl (by decide) (cap := 4) (by decide) (by decide) (by decide) (by decide)
    obtain ⟨b297, g297⟩ : ∃ z, z = h50.size := ⟨_, rfl⟩
    rw [← g297] at A297 st297
    have ne298 : b1 ≠ b297 := Nat.ne_of_lt (Nat.lt_of_lt_of_le f52.lt (Nat.le_of_eq g297.symm))
    have ne299 : b24 ≠ b297 := Nat.ne_of_lt (Nat.lt_of_lt_of_le f53.lt (Nat.le_of_eq g297.symm))
    have gg297 : n0 ≤ b297 := Nat.le_trans Z50 (Nat.le_of_eq g297.symm)
    have f300 : AI Z h297 b1 .byte 5 (own_FQ aa bb) := f52.ext E297
    have f301 : AI Z h297 b24 .int 5 (own_FT aa bb) := f53.ext E297
    have Z297 : n0 ≤ h297.size := Nat.le_trans Z50 E297.1
    have f302 : AI Z h297 b297 .byte 4 zI := AF.new A297 (by decide)
    obtain ⟨T303, h303, k303, X303, e303, E303, A303, st303⟩ := newP X297 hx hZ (hw _ (List.mem_of_getElem? (i := 6) rfl)) e297 (g := (mkF m 124 #[.val (.int nv), .val (.int aa), .val (.int bb), .val (.int (4 : Int32)), .val (.ref b1), .val (.ref b24), .val (.ref b297), .unset, .unset, .unset] [(.int (4 : Int32))])) rfl (hb hby at_124) rfl (by decide) (cap := 4) (by decide) (by decide) (by decide) (by decide)
    obtain ⟨b303, g303⟩ : ∃ z, z = h297.size := ⟨_, rfl⟩
    rw [← g303] at A303 st303
    have ne304 : b1 ≠ b303 := Nat.ne_of_lt (Nat.lt_of_lt_of_le f300.lt (Nat.le_of_eq g303.symm))
    have ne305 : b24 ≠ b303 := Nat.ne_of_lt (Nat.lt_of_lt_of_le f301.lt (Nat.le_of_eq g303.symm))
    have ne306 : b297 ≠ b303 := Nat.ne_of_lt (Nat.lt_of_lt_of_le f302.lt (Nat.le_of_eq g303.symm))
    have gg303 : n0 ≤ b303 := Nat.le_trans Z297 (Nat.le_of_eq g303.symm)
    have f307 : AI Z h303 b1 .byte 5 (own_FQ aa bb) := f300.ext E303
    have f308 : AI Z h303 b24 .int 5 (own_FT aa bb) := f301.ext E303
    have f309 : AI Z h303 b297 .byte 4 zI := f302.ext E303
    have Z303 : n0 ≤ h303.size := Nat.le_trans Z297 E303.1
    have f310 : AI Z h303 b303 .int 4 zI := AF.new A303 (by decide)
    obtain ⟨cl311, Arcl311, hincl311, hatcl311⟩ := AF.at f307 (j := (0 : Int32)) 0 (by decide) (by decide)
    obtain ⟨cl312, Arcl312, hincl312, -⟩ := AF.at f309 (j := (0 : Int32)) 0 (by decide) (by decide)
    obtain ⟨T313, h313, X313, e313, W313, st313⟩ := stB X303 hx hZ e303 Arcl312 (j := (0 : Int32)) hincl312 (g := (mkF m 139 #[.val (.int nv), .val (.int aa), .val (.int bb), .val (.int (4 : Int32)), .val (.ref b1), .val (.ref b24), .val (.ref b297), .val (.ref b303), .unset, .unset] [(.int ((own_FQ aa bb) 0)), (.int (0 : Int32)), (.ref b297)])) rfl rfl (hb hby at_139)
    rw [own_lq0 aa bb] at W313
    have N313 := Fr.snoc X313 N50 gg297
    have Z313 : n0 ≤ h313.size := Nat.le_trans Z303 (Keep.of_wr W313).1
    have f314 : AI Z h313 b297 .byte 4 (up zI 0 ((own_FQ aa bb) 0)) := AF.setI f309 W313 0 (by decide)
    have f315 : AI Z h313 b1 .byte 5 (own_FQ aa bb) := f307.other W313 ne298
    have f316 : AI Z h313 b24 .int 5 (own_FT aa bb) := f308.other W313 ne299
    have f317 : AI Z h313 b303 .int 4 zI := f310.other W313 (Ne.symm ne306)
    obtain ⟨cl318, Arcl318, hincl318, hatcl318⟩ := AF.at f316 (j := (0 : Int32)) 0 (by decide) (by decide)
    obtain ⟨cl319, Arcl319, hincl319, -⟩ := AF.at f317 (j := (0 : Int32)) 0 (by decide) (by decide)
    obtain ⟨T320, h320, X320, e320, W320, st320⟩ := stI X313 hx hZ e313 Arcl319 (j := (0 : Int32)) hincl319 (g := (mkF m 147 #[.val (.int nv), .val (.int aa), .val (.int bb), .val (.int (4 : Int32)), .val (.ref b1), .val (.ref b24), .val (.ref b297), .val (.ref b303), .unset, .unset] [(.int ((own_FT aa bb) 0)), (.int (0 : Int32)), (.ref b303)])) rfl rfl (hb hby at_147)
    have N320 := Fr.snoc X320 N313 gg303
    have Z320 : n0 ≤ h320.size := Nat.le_trans Z313 (Keep.of_wr W320).1
    have f321 : AI Z h320 b303 .int 4 (up zI 0 ((own_FT aa bb) 0)) := AF.setI f317 W320 0 (by decide)
    have f322 : AI Z h320 b1 .byte 5 (own_FQ aa bb) := f315.other W320 ne304
    have f323 : AI Z h320 b24 .int 5 (own_FT aa bb) := f316.other W320 ne305
    have f324 : AI Z h320 b297 .byte 4 (up zI 0 ((own_FQ aa bb) 0)) := f314.other W320 ne306
    obtain ⟨cl325, Arcl325, hincl325, hatcl325⟩ := AF.at f322 (j := (1 : Int32)) 1 (by decide) (by decide)
    obtain ⟨cl326, Arcl326, hincl326, -⟩ := AF.at f324 (j := (1 : Int32)) 1 (by decide) (by decide)
    obtain ⟨T327, h327, X327, e327, W327, st327⟩ := stB X320 hx hZ e320 Arcl326 (j := (1 : Int32)) hincl326 (g := (mkF m 160 #[.val (.int nv), .val (.int aa), .val (.int bb), .val (.int (4 : Int32)), .val (.ref b1), .val (.ref b24), .val (.ref b297), .val (.ref b303), .unset, .unset] [(.int ((own_FQ aa bb) 1)), (.int (1 : Int32)), (.ref b297)])) rfl rfl (hb hby at_160)
    rw [own_lq1 aa bb] at W327
    have N327 := Fr.snoc X327 N320 gg297
    have Z327 : n0 ≤ h327.size := Nat.le_trans Z320 (Keep.of_wr W327).1
    have f328 : AI Z h327 b297 .byte 4 (up (up zI 0 ((own_FQ aa bb) 0)) 1 ((own_FQ aa bb) 1)) := AF.setI f324 W327 1 (by decide)
    have f329 : AI Z h327 b1 .byte 5 (own_FQ aa bb) := f322.other W327 ne298
    have f330 : AI Z h327 b24 .int 5 (own_FT aa bb) := f323.other W327 ne299
    have f331 : AI Z h327 b303 .int 4 (up zI 0 ((own_FT aa bb) 0)) := f321.other W327 (Ne.symm ne306)
    obtain ⟨cl332, Arcl332, hincl332, hatcl332⟩ := AF.at f330 (j := (1 : Int32)) 1 (by decide) (by decide)
    obtain ⟨cl333, Arcl333, hincl333, -⟩ := AF.at f331 (j := (1 : Int32)) 1 (by decide) (by decide)
    obtain ⟨T334, h334, X334, e334, W334, st334⟩ := stI X327 hx hZ e327 Arcl333 (j := (1 : Int32)) hincl333 (g := (mkF m 168 #[.val (.int nv), .val (.int aa), .val (.int bb), .val (.int (4 : Int32)), .val (.ref b1), .val (.ref b24), .val (.ref b297), .val (.ref b303), .unset, .unset] [(.int ((own_FT aa bb) 1)), (.int (1 : Int32)), (.ref b303)])) rfl rfl (hb hby at_168)
    have N334 := Fr.snoc X334 N327 gg303
    have Z334 : n0 ≤ h334.size := Nat.le_trans Z327 (Keep.of_wr W334).1
    have f335 : AI Z h334 b303 .int 4 (up (up zI 0 ((own_FT aa bb) 0)) 1 ((own_FT aa bb) 1)) := AF.setI f331 W334 1 (by decide)
    have f336 : AI Z h334 b1 .byte 5 (own_FQ aa bb) := f329.other W334 ne304
    have f337 : AI Z h334 b24 .int 5 (own_FT aa bb) := f330.other W334 ne305
    have f338 : AI Z h334 b297 .byte 4 (up (up zI 0 ((own_FQ aa bb) 0)) 1 ((own_FQ aa bb) 1)) := f328.other W334 ne306
    obtain ⟨cl339, Arcl339, hincl339, hatcl339⟩ := AF.at f336 (j := (2 : Int32)) 2 (by decide) (by decide)
    obtain ⟨cl340, Arcl340, hincl340, -⟩ := AF.at f338 (j := (2 : Int32)) 2 (by decide) (by decide)
    obtain ⟨T341, h341, X341, e341, W341, st341⟩ := stB X334 hx hZ e334 Arcl340 (j := (2 : Int32)) hincl340 (g := (mkF m 181 #[.val (.int nv), .val (.int aa), .val (.int bb), .val (.int (4 : Int32)), .val (.ref b1), .val (.ref b24), .val (.ref b297), .val (.ref b303), .unset, .unset] [(.int ((own_FQ aa bb) 2)), (.int (2 : Int32)), (.ref b297)])) rfl rfl (hb hby at_181)
    rw [own_lq2 aa bb] at W341
    have N341 := Fr.snoc X341 N334 gg297
    have Z341 : n0 ≤ h341.size := Nat.le_trans Z334 (Keep.of_wr W341).1
    have f342 : AI Z h341 b297 .byte 4 (up (up (up zI 0 ((own_FQ aa bb) 0)) 1 ((own_FQ aa bb) 1)) 2 ((own_FQ aa bb) 2)) := AF.setI f338 W341 2 (by decide)
    have f343 : AI Z h341 b1 .byte 5 (own_FQ aa bb) := f336.other W341 ne298
    have f344 : AI Z h341 b24 .int 5 (own_FT aa bb) := f337.other W341 ne299
    have f345 : AI Z h341 b303 .int 4 (up (up zI 0 ((own_FT aa bb) 0)) 1 ((own_FT aa bb) 1)) := f335.other W341 (Ne.symm ne306)
    obtain ⟨cl346, Arcl346, hincl346, hatcl346⟩ := AF.at f344 (j := (2 : Int32)) 2 (by decide) (by decide)
    obtain ⟨cl347, Arcl347, hincl347, -⟩ := AF.at f345 (j := (2 : Int32)) 2 (by decide) (by decide)
    obtain ⟨T348, h348, X348, e348, W348, st348⟩ := stI X341 hx hZ e341 Arcl347 (j := (2 : Int32)) hincl347 (g := (mkF m 189 #[.val (.int nv), .val (.int aa), .val (.int bb), .val (.int (4 : Int32)), .val (.ref b1), .val (.ref b24), .val (.ref b297), .val (.ref b303), .unset, .unset] [(.int ((own_FT aa bb) 2)), (.int (2 : Int32)), (.ref b303)])) rfl rfl (hb hby at_189)
    have N348 := Fr.snoc X348 N341 gg303
    have Z348 : n0 ≤ h348.size := Nat.le_trans Z341 (Keep.of_wr W348).1
    have f349 : AI Z h348 b303 .int 4 (up (up (up zI 0 ((own_FT aa bb) 0)) 1 ((own_FT aa bb) 1)) 2 ((own_FT aa bb) 2)) := AF.setI f345 W348 2 (by decide)
    have f350 : AI Z h348 b1 .byte 5 (own_FQ aa bb) := f343.other W348 ne304
    have f351 : AI Z h348 b24 .int 5 (own_FT aa bb) := f344.other W348 ne305
    have f352 : AI Z h348 b297 .byte 4 (up (up (up zI 0 ((own_FQ aa bb) 0)) 1 ((own_FQ aa bb) 1)) 2 ((own_FQ aa bb) 2)) := f342.other W348 ne306
    obtain ⟨cl353, Arcl353, hincl353, hatcl353⟩ := AF.at f350 (j := (3 : Int32)) 3 (by decide) (by decide)
    obtain ⟨cl354, Arcl354, hincl354, -⟩ := AF.at f352 (j := (3 : Int32)) 3 (by decide) (by decide)
    obtain ⟨T355, h355, X355, e355, W355, st355⟩ := stB X348 hx hZ e348 Arcl354 (j := (3 : Int32)) hincl354 (g := (mkF m 202 #[.val (.int nv), .val (.int aa), .val (.int bb), .val (.int (4 : Int32)), .val (.ref b1), .val (.ref b24), .val (.ref b297), .val (.ref b303), .unset, .unset] [(.int ((own_FQ aa bb) 3)), (.int (3 : Int32)), (.ref b297)])) rfl rfl (hb hby at_202)
    rw [own_lq3 aa bb] at W355
    have N355 := Fr.snoc X355 N348 gg297
    have Z355 : n0 ≤ h355.size := Nat.le_trans Z348 (Keep.of_wr W355).1
    have f356 : AI Z h355 b297 .byte 4 (up (up (up (up zI 0 ((own_FQ aa bb) 0)) 1 ((own_FQ aa bb) 1)) 2 ((own_FQ aa bb) 2)) 3 ((own_FQ aa bb) 3)) := AF.setI f352 W355 3 (by decide)
    have f357 : AI Z h355 b1 .byte 5 (own_FQ aa bb) := f350.other W355 ne298
    have f358 : AI Z h355 b24 .int 5 (own_FT aa bb) := f351.other W355 ne299
    have f359 : AI Z h355 b303 .int 4 (up (up (up zI 0 ((own_FT aa bb) 0)) 1 ((own_FT aa bb) 1)) 2 ((own_FT aa bb) 2)) := f349.other W355 (Ne.symm ne306)
    obtain ⟨cl360, Arcl360, hincl360, hatcl360⟩ := AF.at f358 (j := (3 : Int32)) 3 (by decide) (by decide)
    obtain ⟨cl361, Arcl361, hincl361, -⟩ := AF.at f359 (j := (3 : Int32)) 3 (by decide) (by decide)
    obtain ⟨T362, h362, X362, e362, W362, st362⟩ := stI X355 hx hZ e355 Arcl361 (j := (3 : Int32)) hincl361 (g := (mkF m 210 #[.val (.int nv), .val (.int aa), .val (.int bb), .val (.int (4 : Int32)), .val (.ref b1), .val (.ref b24), .val (.ref b297), .val (.ref b303), .unset, .unset] [(.int ((own_FT aa bb) 3)), (.int (3 : Int32)), (.ref b303)])) rfl rfl (hb hby at_210)
    have N362 := Fr.snoc X362 N355 gg303
    have Z362 : n0 ≤ h362.size := Nat.le_trans Z355 (Keep.of_wr W362).1
    have f363 : AI Z h362 b303 .int 4 (up (up (up (up zI 0 ((own_FT aa bb) 0)) 1 ((own_FT aa bb) 1)) 2 ((own_FT aa bb) 2)) 3 ((own_FT aa bb) 3)) := AF.setI f359 W362 3 (by decide)
    have f364 : AI Z h362 b1 .byte 5 (own_FQ aa bb) := f357.other W362 ne304
    have f365 : AI Z h362 b24 .int 5 (own_FT aa bb) := f358.other W362 ne305
    have f366 : AI Z h362 b297 .byte 4 (up (up (up (up zI 0 ((own_FQ aa bb) 0)) 1 ((own_FQ aa bb) 1)) 2 ((own_FQ aa bb) 2)) 3 ((own_FQ aa bb) 3)) := f356.other W362 ne306
    have f367 : AI Z h362 b297 .byte 4 (own_FP4 aa bb) := f366
    have f368 : AI Z h362 b303 .int 4 (own_FS4 aa bb) := f363
    obtain ⟨_, _, ⟨T369, L369, k369, n369⟩, -, X369, ⟨Lc369, hQ369, l369, y369, z369⟩, st369⟩ := Jvm.LawKit.callS X362 hx (y := (⟨"skipstitch/table/PrefixTable", "optimised", "([B[I)[I"⟩ : MethodName)) hown (mvT hZ (hw _ (List.mem_of_getElem? (i := 13) rfl))) (mvT hZ (hw _ (List.mem_of_getElem? (i := 14) rfl))) (mvT hZ (hw _ (List.mem_of_getElem? (i := 15) rfl))) (mvT hZ (hw _ (List.mem_of_getElem? (i := 16) rfl))) (by decide) (backOf (W := 0) (rm4k4 l Z a0 hw [] b297 b303 (own_FP4 aa bb) (own_FS4 aa bb) h362 n0 Z362 f367 f368 (own_hfz4 aa bb)) hZ (hw _ (List.mem_of_getElem? (i := 16) rfl)) (hw _ (List.mem_of_getElem? (i := 15) rfl)) (by decide) (by decide)) (g := (mkF m 236 #[.val (.int nv), .val (.int aa), .val (.int bb), .val (.int (4 : Int32)), .val (.ref b1), .val (.ref b24), .val (.ref b297), .val (.ref b303), .unset, .unset] [(.ref b303), (.ref b297)])) rfl (by rw [hml]; rfl) (argsL := [(.ref b297), (.ref b303)]) (rest := []) (lenOf pd_5 rfl) rfl (by show 2 * 0 + _ ≤ _; exact Nat.le_of_eq rfl) (hb hby at_236) (fun _ _ => ⟨rfl, e362, (by decide : 4 + 1 ≤ _), (by decide : 18 + 4 ≤ _)⟩)
    dsimp only [Pt.U, Pt.locs, Pt.cells, Pt.slots] at X369 l369 y369 z369 st369 hQ369
    subst y369 z369
    obtain ⟨b370, ggb370, szb370, rfl, N369q, K369c, f371⟩ := hQ369
    have N369 : Fr n0 L369 := by rw [l369]; exact Fr.app N362 N369q
    have ne372 : b1 ≠ b370 := Nat.ne_of_lt (Nat.lt_of_lt_of_le f364.lt szb370)
    have ne373 : b24 ≠ b370 := Nat.ne_of_lt (Nat.lt_of_lt_of_le f365.lt szb370)
    have ne374 : b297 ≠ b370 := Nat.ne_of_lt (Nat.lt_of_lt_of_le f367.lt szb370)
    have ne375 : b303 ≠ b370 := Nat.ne_of_lt (Nat.lt_of_lt_of_le f368.lt szb370)
    have f376 : AI Z T369.heap b1 .byte 5 (own_FQ aa bb) := f364.keep K369c nin0
    have f377 : AI Z T369.heap b24 .int 5 (own_FT aa bb) := f365.keep K369c nin0
    have f378 : AI Z T369.heap b297 .byte 4 (own_FP4 aa bb) := f367.keep K369c nin0
    have f379 : AI Z T369.heap b303 .int 4 (own_FS4 aa bb) := f368.keep K369c nin0
    have Z369 : n0 ≤ T369.heap.size := Nat.le_trans Z362 K369c.1
    obtain ⟨cl380, Arcl380, Szcl380⟩ := AF.len f371
    obtain ⟨_, _, ⟨T381, L381, k381, n381⟩, -, X381, ⟨Lc381, hQ381, l381, y381, z381⟩, st381⟩ := Jvm.LawKit.callS X369 hx (y := (⟨"skipstitch/table/PrefixTableOptimisedPinLaw", "at", "([II[B[II)Z"⟩ : MethodName)) hown (mvT hZ (hw _ (List.mem_of_getElem? (i := 17) rfl))) (mvT hZ (hw _ (List.mem_of_getElem? (i := 18) rfl))) (mvT hZ (hw _ (List.mem_of_getElem? (i := 4) rfl))) (mvT hZ (hw _ (List.mem_of_getElem? (i := 19) rfl))) (by decide) (backOf (W := 1) (rm5a0 l Z a0 hw [] b370 (4 : Int32) b1 b24 (own_FQ aa bb) (own_FT aa bb) (up (own_g (own_FP4 aa bb) (own_FS4 aa bb) 3) 3 ((own_FS4 aa bb) 3)) 4 T369.heap n0 Z369 f371 f376 f377 (own_hfu aa bb) (by decide) (by decide) (by decide)) hZ (hw _ (List.mem_of_getElem? (i := 19) rfl)) (hw _ (List.mem_of_getElem? (i := 4) rfl)) (by decide) (by decide)) (g := (mkF m 275 #[.val (.int nv), .val (.int aa), .val (.int bb), .val (.int (4 : Int32)), .val (.ref b1), .val (.ref b24), .val (.ref b297), .val (.ref b303), .val (.ref b370), .val (.int (1 : Int32))] [(.int (0 : Int32)), (.ref b24), (.ref b1), (.int (4 : Int32)), (.ref b370), (.int (1 : Int32))])) rfl (by rw [hml]; rfl) (argsL := [(.ref b370), (.int (4 : Int32)), (.ref b1), (.ref b24), (.int (0 : Int32))]) (rest := [(.int (1 : Int32))]) (lenOf pd_6 rfl) rfl (by show 2 * 0 + _ ≤ _; exact Nat.le_of_eq rfl) (hb hby at_275) (fun _ _ => ⟨rfl, rfl, (by decide : 5 + 0 ≤ _), (by decide : 22 + 0 ≤ _)⟩)
    dsimp only [Pt.U, Pt.locs, Pt.cells, Pt.slots] at X381 l381 y381 z381 st381 hQ381
    subst y381 z381
    obtain ⟨rfl, N381q, e381⟩ := hQ381
    have N381 : Fr n0 L381 := by rw [l381]; exact Fr.app N369 N381q
    have hres381 : (r5a0_v (own_FQ aa bb) (own_FT aa bb) (up (own_g (own_FP4 aa bb) (own_FS4 aa bb) 3) 3 ((own_FS4 aa bb) 3))) = (1 : Int32) := own_a4_0 aa bb
    obtain ⟨_, _, ⟨T382, L382, k382, n382⟩, -, X382, ⟨Lc382, hQ382, l382, y382, z382⟩, st382⟩ := Jvm.LawKit.callS X381 hx (y := (⟨"skipstitch/table/PrefixTableOptimisedPinLaw", "at", "([II[B[II)Z"⟩ : MethodName)) hown (mvT hZ (hw _ (List.mem_of_getElem? (i := 17) rfl))) (mvT hZ (hw _ (List.mem_of_getElem? (i := 18) rfl))) (mvT hZ (hw _ (List.mem_of_getElem? (i := 4) rfl))) (mvT hZ (hw _ (List.mem_of_getElem? (i := 19) rfl))) (by decide) (backOf (W := 1) (rm5a1 l Z a0 hw [] b370 (4 : Int32) b1 b24 (own_FQ aa bb) (own_FT aa bb) (up (own_g (own_FP4 aa bb) (own_FS4 aa bb) 3) 3 ((own_FS4 aa bb) 3)) 4 T369.heap n0 Z369 f371 f376 f377 (own_hfu aa bb) (by decide) (by decide) (by decide)) hZ (hw _ (List.mem_of_getElem? (i := 19) rfl)) (hw _ (List.mem_of_getElem? (i := 4) rfl)) (by decide) (by decide)) (g := (mkF m 291 #[.val (.int nv), .val (.int aa), .val (.int bb), .val (.int (4 : Int32)), .val (.ref b1), .val (.ref b24), .val (.ref b297), .val (.ref b303), .val (.ref b370), .val (.int (1 : Int32))] [(.int (1 : Int32)), (.ref b24), (.ref b1), (.int (4 : Int32)), (.ref b370), (.int (1 : Int32))])) rfl (by rw [hml]; rfl) (argsL := [(.ref b370), (.int (4 : Int32)), (.ref b1), (.ref b24), (.int (1 : Int32))]) (rest := [(.int (1 : Int32))]) (lenOf pd_6 rfl) rfl (by show 2 * 0 + _ ≤ _; exact Nat.le_of_eq rfl) (hb hby at_291) (fun _ _ => ⟨rfl, e381, (by decide : 5 + 0 ≤ _), (by decide : 22 + 0 ≤ _)⟩)
    dsimp only [Pt.U, Pt.locs, Pt.cells, Pt.slots] at X382 l382 y382 z382 st382 hQ382
    subst y382 z382
    obtain ⟨rfl, N382q, e382⟩ := hQ382
    have N382 : Fr n0 L382 := by rw [l382]; exact Fr.app N381 N382q
    have hres382 : (r5a1_v (own_FQ aa bb) (own_FT aa bb) (up (own_g (own_FP4 aa bb) (own_FS4 aa bb) 3) 3 ((own_FS4 aa bb) 3))) = (1 : Int32) := own_a4_1 aa bb
    obtain ⟨_, _, ⟨T383, L383, k383, n383⟩, -, X383, ⟨Lc383, hQ383, l383, y383, z383⟩, st383⟩ := Jvm.LawKit.callS X382 hx (y := (⟨"skipstitch/table/PrefixTableOptimisedPinLaw", "at", "([II[B[II)Z"⟩ : MethodName)) hown (mvT hZ (hw _ (List.mem_of_getElem? (i := 17) rfl))) (mvT hZ (hw _ (List.mem_of_getElem? (i := 18) rfl))) (mvT hZ (hw _ (List.mem_of_getElem? (i := 4) rfl))) (mvT hZ (hw _ (List.mem_of_getElem? (i := 19) rfl))) (by decide) (backOf (W := 1) (rm5a2 l Z a0 hw [] b370 (4 : Int32) b1 b24 (own_FQ aa bb) (own_FT aa bb) (up (own_g (own_FP4 aa bb) (own_FS4 aa bb) 3) 3 ((own_FS4 aa bb) 3)) 4 T369.heap n0 Z369 f371 f376 f377 (own_hfu aa bb) (by decide) (by decide) (by decide)) hZ (hw _ (List.mem_of_getElem? (i := 19) rfl)) (hw _ (List.mem_of_getElem? (i := 4) rfl)) (by decide) (by decide)) (g := (mkF m 307 #[.val (.int nv), .val (.int aa), .val (.int bb), .val (.int (4 : Int32)), .val (.ref b1), .val (.ref b24), .val (.ref b297), .val (.ref b303), .val (.ref b370), .val (.int (1 : Int32))] [(.int (2 : Int32)), (.ref b24), (.ref b1), (.int (4 : Int32)), (.ref b370), (.int (1 : Int32))])) rfl (by rw [hml]; rfl) (argsL := [(.ref b370), (.int (4 : Int32)), (.ref b1), (.ref b24), (.int (2 : Int32))]) (rest := [(.int (1 : Int32))]) (lenOf pd_6 rfl) rfl (by show 2 * 0 + _ ≤ _; exact Nat.le_of_eq rfl) (hb hby at_307) (fun _ _ => ⟨rfl, e382, (by decide : 5 + 0 ≤ _), (by decide : 22 + 0 ≤ _)⟩)
    dsimp only [Pt.U, Pt.locs, Pt.cells, Pt.slots] at X383 l383 y383 z383 st383 hQ383
    subst y383 z383
    obtain ⟨rfl, N383q, e383⟩ := hQ383
    have N383 : Fr n0 L383 := by rw [l383]; exact Fr.app N382 N383q
    have hres383 : (r5a2_v (own_FQ aa bb) (own_FT aa bb) (up (own_g (own_FP4 aa bb) (own_FS4 aa bb) 3) 3 ((own_FS4 aa bb) 3))) = (1 : Int32) := own_a4_2 aa bb
    obtain ⟨_, _, ⟨T384, L384, k384, n384⟩, -, X384, ⟨Lc384, hQ384, l384, y384, z384⟩, st384⟩ := Jvm.LawKit.callS X383 hx (y := (⟨"skipstitch/table/PrefixTableOptimisedPinLaw", "at", "([II[B[II)Z"⟩ : MethodName)) hown (mvT hZ (hw _ (List.mem_of_getElem? (i := 17) rfl))) (mvT hZ (hw _ (List.mem_of_getElem? (i := 18) rfl))) (mvT hZ (hw _ (List.mem_of_getElem? (i := 4) rfl))) (mvT hZ (hw _ (List.mem_of_getElem? (i := 19) rfl))) (by decide) (backOf (W := 1) (rm5b3 l Z a0 hw [] b370 (4 : Int32) b1 b24 (own_FT aa bb) (up (own_g (own_FP4 aa bb) (own_FS4 aa bb) 3) 3 ((own_FS4 aa bb) 3)) 4 T369.heap n0 Z369 f371 f377 (by decide) (by decide) (by decide)) hZ (hw _ (List.mem_of_getElem? (i := 19) rfl)) (hw _ (List.mem_of_getElem? (i := 4) rfl)) (by decide) (by decide)) (g := (mkF m 323 #[.val (.int nv), .val (.int aa), .val (.int bb), .val (.int (4 : Int32)), .val (.ref b1), .val (.ref b24), .val (.ref b297), .val (.ref b303), .val (.ref b370), .val (.int (1 : Int32))] [(.int (3 : Int32)), (.ref b24), (.ref b1), (.int (4 : Int32)), (.ref b370), (.int (1 : Int32))])) rfl (by rw [hml]; rfl) (argsL := [(.ref b370), (.int (4 : Int32)), (.ref b1), (.ref b24), (.int (3 : Int32))]) (rest := [(.int (1 : Int32))]) (lenOf pd_6 rfl) rfl (by show 2 * 0 + _ ≤ _; exact Nat.le_of_eq rfl) (hb hby at_323) (fun _ _ => ⟨rfl, e383, (by decide : 5 + 0 ≤ _), (by decide : 22 + 0 ≤ _)⟩)
    dsimp only [Pt.U, Pt.locs, Pt.cells, Pt.slots] at X384 l384 y384 z384 st384 hQ384
    subst y384 z384
    obtain ⟨rfl, N384q, e384⟩ := hQ384
    have N384 : Fr n0 L384 := by rw [l384]; exact Fr.app N383 N384q
    have hres384 : (r5b3_v (own_FT aa bb) (up (own_g (own_FP4 aa bb) (own_FS4 aa bb) 3) 3 ((own_FS4 aa bb) 3))) = (1 : Int32) := own_a4_3 aa bb
    obtain ⟨_, _, ⟨T385, L385, k385, n385⟩, -, X385, ⟨Lc385, hQ385, l385, y385, z385⟩, st385⟩ := Jvm.LawKit.callS X384 hx (y := (⟨"skipstitch/table/PrefixTableOptimisedPinLaw", "at", "([II[B[II)Z"⟩ : MethodName)) hown (mvT hZ (hw _ (List.mem_of_getElem? (i := 17) rfl))) (mvT hZ (hw _ (List.mem_of_getElem? (i := 18) rfl))) (mvT hZ (hw _ (List.mem_of_getElem? (i := 4) rfl))) (mvT hZ (hw _ (List.mem_of_getElem? (i := 19) rfl))) (by decide) (backOf (W := 1) (rm5c l Z a0 hw [] b370 (4 : Int32) b1 b24 (4 : Int32) T369.heap n0 Z369 (by decide)) hZ (hw _ (List.mem_of_getElem? (i := 19) rfl)) (hw _ (List.mem_of_getElem? (i := 4) rfl)) (by decide) (by decide)) (g := (mkF m 339 #[.val (.int nv), .val (.int aa), .val (.int bb), .val (.int (4 : Int32)), .val (.ref b1), .val (.ref b24), .val (.ref b297), .val (.ref b303), .val (.ref b370), .val (.int (1 : Int32))] [(.int (4 : Int32)), (.ref b24), (.ref b1), (.int (4 : Int32)), (.ref b370), (.int (1 : Int32))])) rfl (by rw [hml]; rfl) (argsL := [(.ref b370), (.int (4 : Int32)), (.ref b1), (.ref b24), (.int (4 : Int32))]) (rest := [(.int (1 : Int32))]) (lenOf pd_6 rfl) rfl (by show 2 * 0 + _ ≤ _; exact Nat.le_of_eq rfl) (hb hby at_339) (fun _ _ => ⟨rfl, e384, (by decide : 5 + 0 ≤ _), (by decide : 22 + 0 ≤ _)⟩)
    dsimp only [Pt.U, Pt.locs, Pt.cells, Pt.slots] at X385 l385 y385 z385 st385 hQ385
    subst y385 z385
    obtain ⟨rfl, N385q, e385⟩ := hQ385
    have N385 : Fr n0 L385 := by rw [l385]; exact Fr.app N384 N385q
    obtain ⟨_, _, ⟨T386, L386, k386, n386⟩, -, X386, ⟨Lc386, hQ386, l386, y386, z386⟩, st386⟩ := Jvm.LawKit.callS X385 hx (y := (⟨"skipstitch/table/PrefixTableOptimisedPinLaw", "same", "([B[II[B[II)Z"⟩ : MethodName)) hown (mvT hZ (hw _ (List.mem_of_getElem? (i := 20) rfl))) (mvT hZ (hw _ (List.mem_of_getElem? (i := 21) rfl))) (mvT hZ (hw _ (List.mem_of_getElem? (i := 4) rfl))) (mvT hZ (hw _ (List.mem_of_getElem? (i := 22) rfl))) (by decide) (backOf (W := 1) (rm6l0 l Z a0 hw [] b297 b303 (4 : Int32) b1 b24 (own_FQ aa bb) (own_FT aa bb) (own_FP4 aa bb) (own_FS4 aa bb) 4 T369.heap n0 Z369 f378 f379 f376 f377 (by decide) (by decide)) hZ (hw _ (List.mem_of_getElem? (i := 22) rfl)) (hw _ (List.mem_of_getElem? (i := 4) rfl)) (by decide) (by decide)) (g := (mkF m 357 #[.val (.int nv), .val (.int aa), .val (.int bb), .val (.int (4 : Int32)), .val (.ref b1), .val (.ref b24), .val (.ref b297), .val (.ref b303), .val (.ref b370), .val (.int (1 : Int32))] [(.int (0 : Int32)), (.ref b24), (.ref b1), (.int (4 : Int32)), (.ref b303), (.ref b297), (.int (1 : Int32))])) rfl (by rw [hml]; rfl) (argsL := [(.ref b297), (.ref b303), (.int (4 : Int32)), (.ref b1), (.ref b24), (.int (0 : Int32))]) (rest := [(.int (1 : Int32))]) (lenOf pd_7 rfl) rfl (by show 2 * 0 + _ ≤ _; exact Nat.le_of_eq rfl) (hb hby at_357) (fun _ _ => ⟨rfl, e385, (by decide : 5 + 0 ≤ _), (by decide : 22 + 0 ≤ _)⟩)
    dsimp only [Pt.U, Pt.locs, Pt.cells, Pt.slots] at X386 l386 y386 z386 st386 hQ386
    subst y386 z386
    obtain ⟨rfl, N386q, e386⟩ := hQ386
    have N386 : Fr n0 L386 := by rw [l386]; exact Fr.app N385 N386q
    have hres386 : (r6l0_v (own_FQ aa bb) (own_FT aa bb) (own_FP4 aa bb) (own_FS4 aa bb)) = (1 : Int32) := own_s4_0 aa bb
    obtain ⟨_, _, ⟨T387, L387, k387, n387⟩, -, X387, ⟨Lc387, hQ387, l387, y387, z387⟩, st387⟩ := Jvm.LawKit.callS X386 hx (y := (⟨"skipstitch/table/PrefixTableOptimisedPinLaw", "same", "([B[II[B[II)Z"⟩ : MethodName)) hown (mvT hZ (hw _ (List.mem_of_getElem? (i := 20) rfl))) (mvT hZ (hw _ (List.mem_of_getElem? (i := 21) rfl))) (mvT hZ (hw _ (List.mem_of_getElem? (i := 4) rfl))) (mvT hZ (hw _ (List.mem_of_getElem? (i := 22) rfl))) (by decide) (backOf (W := 1) (rm6l1 l Z a0 hw [] b297 b303 (4 : Int32) b1 b24 (own_FQ aa bb) (own_FT aa bb) (own_FP4 aa bb) (own_FS4 aa bb) 4 T369.heap n0 Z369 f378 f379 f376 f377 (by decide) (by decide)) hZ (hw _ (List.mem_of_getElem? (i := 22) rfl)) (hw _ (List.mem_of_getElem? (i := 4) rfl)) (by decide) (by decide)) (g := (mkF m 375 #[.val (.int nv), .val (.int aa), .val (.int bb), .val (.int (4 : Int32)), .val (.ref b1), .val (.ref b24), .val (.ref b297), .val (.ref b303), .val (.ref b370), .val (.int (1 : Int32))] [(.int (1 : Int32)), (.ref b24), (.ref b1), (.int (4 : Int32)), (.ref b303), (.ref b297), (.int (1 : Int32))])) rfl (by rw [hml]; rfl) (argsL := [(.ref b297), (.ref b303), (.int (4 : Int32)), (.ref b1), (.ref b24), (.int (1 : Int32))]) (rest := [(.int (1 : Int32))]) (lenOf pd_7 rfl) rfl (by show 2 * 0 + _ ≤ _; exact Nat.le_of_eq rfl) (hb hby at_375) (fun _ _ => ⟨rfl, e386, (by decide : 5 + 0 ≤ _), (by decide : 22 + 0 ≤ _)⟩)
    dsimp only [Pt.U, Pt.locs, Pt.cells, Pt.slots] at X387 l387 y387 z387 st387 hQ387
    subst y387 z387
    obtain ⟨rfl, N387q, e387⟩ := hQ387
    have N387 : Fr n0 L387 := by rw [l387]; exact Fr.app N386 N387q
    have hres387 : (r6l1_v (own_FQ aa bb) (own_FT aa bb) (own_FP4 aa bb) (own_FS4 aa bb)) = (1 : Int32) := own_s4_1 aa bb
    obtain ⟨_, _, ⟨T388, L388, k388, n388⟩, -, X388, ⟨Lc388, hQ388, l388, y388, z388⟩, st388⟩ := Jvm.LawKit.callS X387 hx (y := (⟨"skipstitch/table/PrefixTableOptimisedPinLaw", "same", "([B[II[B[II)Z"⟩ : MethodName)) hown (mvT hZ (hw _ (List.mem_of_getElem? (i := 20) rfl))) (mvT hZ (hw _ (List.mem_of_getElem? (i := 21) rfl))) (mvT hZ (hw _ (List.mem_of_getElem? (i := 4) rfl))) (mvT hZ (hw _ (List.mem_of_getElem? (i := 22) rfl))) (by decide) (backOf (W := 1) (rm6l2 l Z a0 hw [] b297 b303 (4 : Int32) b1 b24 (own_FQ aa bb) (own_FT aa bb) (own_FP4 aa bb) (own_FS4 aa bb) 4 T369.heap n0 Z369 f378 f379 f376 f377 (by decide) (by decide)) hZ (hw _ (List.mem_of_getElem? (i := 22) rfl)) (hw _ (List.mem_of_getElem? (i := 4) rfl)) (by decide) (by decide)) (g := (mkF m 393 #[.val (.int nv), .val (.int aa), .val (.int bb), .val (.int (4 : Int32)), .val (.ref b1), .val (.ref b24), .val (.ref b297), .val (.ref b303), .val (.ref b370), .val (.int (1 : Int32))] [(.int (2 : Int32)), (.ref b24), (.ref b1), (.int (4 : Int32)), (.ref b303), (.ref b297), (.int (1 : Int32))])) rfl (by rw [hml]; rfl) (argsL := [(.ref b297), (.ref b303), (.int (4 : Int32)), (.ref b1), (.ref b24), (.int (2 : Int32))]) (rest := [(.int (1 : Int32))]) (lenOf pd_7 rfl) rfl (by show 2 * 0 + _ ≤ _; exact Nat.le_of_eq rfl) (hb hby at_393) (fun _ _ => ⟨rfl, e387, (by decide : 5 + 0 ≤ _), (by decide : 22 + 0 ≤ _)⟩)
    dsimp only [Pt.U, Pt.locs, Pt.cells, Pt.slots] at X388 l388 y388 z388 st388 hQ388
    subst y388 z388
    obtain ⟨rfl, N388q, e388⟩ := hQ388
    have N388 : Fr n0 L388 := by rw [l388]; exact Fr.app N387 N388q
    have hres388 : (r6l2_v (own_FQ aa bb) (own_FT aa bb) (own_FP4 aa bb) (own_FS4 aa bb)) = (1 : Int32) := own_s4_2 aa bb
    obtain ⟨_, _, ⟨T389, L389, k389, n389⟩, -, X389, ⟨Lc389, hQ389, l389, y389, z389⟩, st389⟩ := Jvm.LawKit.callS X388 hx (y := (⟨"skipstitch/table/PrefixTableOptimisedPinLaw", "same", "([B[II[B[II)Z"⟩ : MethodName)) hown (mvT hZ (hw _ (List.mem_of_getElem? (i := 20) rfl))) (mvT hZ (hw _ (List.mem_of_getElem? (i := 21) rfl))) (mvT hZ (hw _ (List.mem_of_getElem? (i := 4) rfl))) (mvT hZ (hw _ (List.mem_of_getElem? (i := 22) rfl))) (by decide) (backOf (W := 1) (rm6l3 l Z a0 hw [] b297 b303 (4 : Int32) b1 b24 (own_FQ aa bb) (own_FT aa bb) (own_FP4 aa bb) (own_FS4 aa bb) 4 T369.heap n0 Z369 f378 f379 f376 f377 (by decide) (by decide)) hZ (hw _ (List.mem_of_getElem? (i := 22) rfl)) (hw _ (List.mem_of_getElem? (i := 4) rfl)) (by decide) (by decide)) (g := (mkF m 411 #[.val (.int nv), .val (.int aa), .val (.int bb), .val (.int (4 : Int32)), .val (.ref b1), .val (.ref b24), .val (.ref b297), .val (.ref b303), .val (.ref b370), .val (.int (1 : Int32))] [(.int (3 : Int32)), (.ref b24), (.ref b1), (.int (4 : Int32)), (.ref b303), (.ref b297), (.int (1 : Int32))])) rfl (by rw [hml]; rfl) (argsL := [(.ref b297), (.ref b303), (.int (4 : Int32)), (.ref b1), (.ref b24), (.int (3 : Int32))]) (rest := [(.int (1 : Int32))]) (lenOf pd_7 rfl) rfl (by show 2 * 0 + _ ≤ _; exact Nat.le_of_eq rfl) (hb hby at_411) (fun _ _ => ⟨rfl, e388, (by decide : 5 + 0 ≤ _), (by decide : 22 + 0 ≤ _)⟩)
    dsimp only [Pt.U, Pt.locs, Pt.cells, Pt.slots] at X389 l389 y389 z389 st389 hQ389
    subst y389 z389
    obtain ⟨rfl, N389q, e389⟩ := hQ389
    have N389 : Fr n0 L389 := by rw [l389]; exact Fr.app N388 N389q
    have hres389 : (r6l3_v (own_FQ aa bb) (own_FT aa bb) (own_FP4 aa bb) (own_FS4 aa bb)) = (1 : Int32) := own_s4_3 aa bb
    obtain ⟨_, _, ⟨T390, L390, k390, n390⟩, -, X390, ⟨Lc390, hQ390, l390, y390, z390⟩, st390⟩ := Jvm.LawKit.callS X389 hx (y := (⟨"skipstitch/table/PrefixTableOptimisedPinLaw", "same", "([B[II[B[II)Z"⟩ : MethodName)) hown (mvT hZ (hw _ (List.mem_of_getElem? (i := 20) rfl))) (mvT hZ (hw _ (List.mem_of_getElem? (i := 21) rfl))) (mvT hZ (hw _ (List.mem_of_getElem? (i := 4) rfl))) (mvT hZ (hw _ (List.mem_of_getElem? (i := 22) rfl))) (by decide) (backOf (W := 1) (rm6c l Z a0 hw [] b297 b303 (4 : Int32) b1 b24 (4 : Int32) T369.heap n0 Z369 (by decide)) hZ (hw _ (List.mem_of_getElem? (i := 22) rfl)) (hw _ (List.mem_of_getElem? (i := 4) rfl)) (by decide) (by decide)) (g := (mkF m 429 #[.val (.int nv), .val (.int aa), .val (.int bb), .val (.int (4 : Int32)), .val (.ref b1), .val (.ref b24), .val (.ref b297), .val (.ref b303), .val (.ref b370), .val (.int (1 : Int32))] [(.int (4 : Int32)), (.ref b24), (.ref b1), (.int (4 : Int32)), (.ref b303), (.ref b297), (.int (1 : Int32))])) rfl (by rw [hml]; rfl) (argsL := [(.ref b297), (.ref b303), (.int (4 : Int32)), (.ref b1), (.ref b24), (.int (4 : Int32))]) (rest := [(.int (1 : Int32))]) (lenOf pd_7 rfl) rfl (by show 2 * 0 + _ ≤ _; exact Nat.le_of_eq rfl) (hb hby at_429) (fun _ _ => ⟨rfl, e389, (by decide : 5 + 0 ≤ _), (by decide : 22 + 0 ≤ _)⟩)
    dsimp only [Pt.U, Pt.locs, Pt.cells, Pt.slots] at X390 l390 y390 z390 st390 hQ390
    subst y390 z390
    obtain ⟨rfl, N390q, e390⟩ := hQ390
    have N390 : Fr n0 L390 := by rw [l390]; exact Fr.app N389 N390q
    obtain ⟨fs, hr, hrun, hended, hW, hsame⟩ := X390.leave (v := some (.int (1 : Int32))) (fun h => by rw [Bd.returns] at h; cases h) (hlocks := Bd.notSynchronized)
    refine ⟨_, _, pre296 _ ?_, hrun, hended, _, _, rfl, ?_, ⟨_, rfl⟩, hW, hsame.mono (by decide) (by decide)⟩
    · show Steps p.tables e below (T50.setTop (mkF m 119 #[.val (.int nv), .val (.int aa), .val (.int bb), .val (.int (4 : Int32)), .val (.ref b1), .val (.ref b24), .unset, .unset, .unset, .unset] [(.int (4 : Int32))])) _
      refine st297 _ ?_
      refine XS.astore X297.here hx rfl (hb hby at_121) rfl rfl (l' := #[.val (.int nv), .val (.int aa), .val (.int bb), .val (.int (4 : Int32)), .val (.ref b1), .val (.ref b24), .val (.ref b297), .unset, .unset, .unset]) rfl ?_
      refine XS.iloadN X297.here hx rfl (hb hby at_123) rfl ?_
      refine st303 _ ?_
      refine XS.astore X303.here hx rfl (hb hby at_126) rfl rfl (l' := #[.val (.int nv), .val (.int aa), .val (.int bb), .val (.int (4 : Int32)), .val (.ref b1), .val (.ref b24), .val (.ref b297), .val (.ref b303), .unset, .unset]) rfl ?_
      refine XS.iloadN X303.here hx rfl (hb hby at_128) rfl ?_
      refine XS.ifNo X303.here hx rfl (hb hby at_129) rfl ((if0 _ _).trans (tlt (by decide : ((0 : Int32) < (4 : Int32)))).2.2.2) ?_
      refine XS.aload X303.here hx rfl (hb hby at_132) rfl rfl ?_
      refine XS.iconst X303.here hx rfl (hb hby at_134) ?_
      refine XS.aload X303.here hx rfl (hb hby at_135) rfl rfl ?_
      refine XS.iconst X303.here hx rfl (hb hby at_137) ?_
      refine X303.baloadBytes hx (j := (0 : Int32)) (v := (.int ((own_FQ aa bb) 0))) (by rw [e303]; exact Arcl311.1) (State.isArrayOf_alike hZ.alike Arcl311.2.1) Arcl311.2.2 hincl311 hatcl311 (g := (mkF m 138 #[.val (.int nv), .val (.int aa), .val (.int bb), .val (.int (4 : Int32)), .val (.ref b1), .val (.ref b24), .val (.ref b297), .val (.ref b303), .unset, .unset] [(.int (0 : Int32)), (.ref b1), (.int (0 : Int32)), (.ref b297)])) rfl rfl (hb hby at_138) _ ?_
      refine st313 _ ?_
      refine XS.aload X313.here hx rfl (hb hby at_140) rfl rfl ?_
      refine XS.iconst X313.here hx rfl (hb hby at_142) ?_
      refine XS.aload X313.here hx rfl (hb hby at_143) rfl rfl ?_
      refine XS.iconst X313.here hx rfl (hb hby at_145) ?_
      refine X313.iaload hx (j := (0 : Int32)) (v := (.int ((own_FT aa bb) 0))) (by rw [e313]; exact Arcl318.1) (State.isArrayOf_alike hZ.alike Arcl318.2.1) Arcl318.2.2 hincl318 hatcl318 (g := (mkF m 146 #[.val (.int nv), .val (.int aa), .val (.int bb), .val (.int (4 : Int32)), .val (.ref b1), .val (.ref b24), .val (.ref b297), .val (.ref b303), .unset, .unset] [(.int (0 : Int32)), (.ref b24), (.int (0 : Int32)), (.ref b303)])) rfl rfl (hb hby at_146) _ ?_
      refine st320 _ ?_
      refine XS.iloadN X320.here hx rfl (hb hby at_148) rfl ?_
      refine XS.iconst X320.here hx rfl (hb hby at_149) ?_
      refine XS.icmpNo X320.here hx rfl (hb hby at_150) rfl (tlt (by decide : ((1 : Int32) < (4 : Int32)))).2.2.2 ?_
      refine XS.aload X320.here hx rfl (hb hby at_153) rfl rfl ?_
      refine XS.iconst X320.here hx rfl (hb hby at_155) ?_
      refine XS.aload X320.here hx rfl (hb hby at_156) rfl rfl ?_
      refine XS.iconst X320.here hx rfl (hb hby at_158) ?_
      refine X320.baloadBytes hx (j := (1 : Int32)) (v := (.int ((own_FQ aa bb) 1))) (by rw [e320]; exact Arcl325.1) (State.isArrayOf_alike hZ.alike Arcl325.2.1) Arcl325.2.2 hincl325 hatcl325 (g := (mkF m 159 #[.val (.int nv), .val (.int aa), .val (.int bb), .val (.int (4 : Int32)), .val (.ref b1), .val (.ref b24), .val (.ref b297), .val (.ref b303), .unset, .unset] [(.int (1 : Int32)), (.ref b1), (.int (1 : Int32)), (.ref b297)])) rfl rfl (hb hby at_159) _ ?_
      refine st327 _ ?_
      refine XS.aload X327.here hx rfl (hb hby at_161) rfl rfl ?_
      refine XS.iconst X327.here hx rfl (hb hby at_163) ?_
      refine XS.aload X327.here hx rfl (hb hby at_164) rfl rfl ?_
      refine XS.iconst X327.here hx rfl (hb hby at_166) ?_
      refine X327.iaload hx (j := (1 : Int32)) (v := (.int ((own_FT aa bb) 1))) (by rw [e327]; exact Arcl332.1) (State.isArrayOf_alike hZ.alike Arcl332.2.1) Arcl332.2.2 hincl332 hatcl332 (g := (mkF m 167 #[.val (.int nv), .val (.int aa), .val (.int bb), .val (.int (4 : Int32)), .val (.ref b1), .val (.ref b24), .val (.ref b297), .val (.ref b303), .unset, .unset] [(.int (1 : Int32)), (.ref b24), (.int (1 : Int32)), (.ref b303)])) rfl rfl (hb hby at_167) _ ?_
      refine st334 _ ?_
      refine XS.iloadN X334.here hx rfl (hb hby at_169) rfl ?_
      refine XS.iconst X334.here hx rfl (hb hby at_170) ?_
      refine XS.icmpNo X334.here hx rfl (hb hby at_171) rfl (tlt (by decide : ((2 : Int32) < (4 : Int32)))).2.2.2 ?_
      refine XS.aload X334.here hx rfl (hb hby at_174) rfl rfl ?_
      refine XS.iconst X334.here hx rfl (hb hby at_176) ?_
      refine XS.aload X334.here hx rfl (hb hby at_177) rfl rfl ?_
      refine XS.iconst X334.here hx rfl (hb hby at_179) ?_
      refine X334.baloadBytes hx (j := (2 : Int32)) (v := (.int ((own_FQ aa bb) 2))) (by rw [e334]; exact Arcl339.1) (State.isArrayOf_alike hZ.alike Arcl339.2.1) Arcl339.2.2 hincl339 hatcl339 (g := (mkF m 180 #[.val (.int nv), .val (.int aa), .val (.int bb), .val (.int (4 : Int32)), .val (.ref b1), .val (.ref b24), .val (.ref b297), .val (.ref b303), .unset, .unset] [(.int (2 : Int32)), (.ref b1), (.int (2 : Int32)), (.ref b297)])) rfl rfl (hb hby at_180) _ ?_
      refine st341 _ ?_
      refine XS.aload X341.here hx rfl (hb hby at_182) rfl rfl ?_
      refine XS.iconst X341.here hx rfl (hb hby at_184) ?_
      refine XS.aload X341.here hx rfl (hb hby at_185) rfl rfl ?_
      refine XS.iconst X341.here hx rfl (hb hby at_187) ?_
      refine X341.iaload hx (j := (2 : Int32)) (v := (.int ((own_FT aa bb) 2))) (by rw [e341]; exact Arcl346.1) (State.isArrayOf_alike hZ.alike Arcl346.2.1) Arcl346.2.2 hincl346 hatcl346 (g := (mkF m 188 #[.val (.int nv), .val (.int aa), .val (.int bb), .val (.int (4 : Int32)), .val (.ref b1), .val (.ref b24), .val (.ref b297), .val (.ref b303), .unset, .unset] [(.int (2 : Int32)), (.ref b24), (.int (2 : Int32)), (.ref b303)])) rfl rfl (hb hby at_188) _ ?_
      refine st348 _ ?_
      refine XS.iloadN X348.here hx rfl (hb hby at_190) rfl ?_
      refine XS.iconst X348.here hx rfl (hb hby at_191) ?_
      refine XS.icmpNo X348.here hx rfl (hb hby at_192) rfl (tlt (by decide : ((3 : Int32) < (4 : Int32)))).2.2.2 ?_
      refine XS.aload X348.here hx rfl (hb hby at_195) rfl rfl ?_
      refine XS.iconst X348.here hx rfl (hb hby at_197) ?_
      refine XS.aload X348.here hx rfl (hb hby at_198) rfl rfl ?_
      refine XS.iconst X348.here hx rfl (hb hby at_200) ?_
      refine X348.baloadBytes hx (j := (3 : Int32)) (v := (.int ((own_FQ aa bb) 3))) (by rw [e348]; exact Arcl353.1) (State.isArrayOf_alike hZ.alike Arcl353.2.1) Arcl353.2.2 hincl353 hatcl353 (g := (mkF m 201 #[.val (.int nv), .val (.int aa), .val (.int bb), .val (.int (4 : Int32)), .val (.ref b1), .val (.ref b24), .val (.ref b297), .val (.ref b303), .unset, .unset] [(.int (3 : Int32)), (.ref b1), (.int (3 : Int32)), (.ref b297)])) rfl rfl (hb hby at_201) _ ?_
      refine st355 _ ?_
      refine XS.aload X355.here hx rfl (hb hby at_203) rfl rfl ?_
      refine XS.iconst X355.here hx rfl (hb hby at_205) ?_
      refine XS.aload X355.here hx rfl (hb hby at_206) rfl rfl ?_
      refine XS.iconst X355.here hx rfl (hb hby at_208) ?_
      refine X355.iaload hx (j := (3 : Int32)) (v := (.int ((own_FT aa bb) 3))) (by rw [e355]; exact Arcl360.1) (State.isArrayOf_alike hZ.alike Arcl360.2.1) Arcl360.2.2 hincl360 hatcl360 (g := (mkF m 209 #[.val (.int nv), .val (.int aa), .val (.int bb), .val (.int (4 : Int32)), .val (.ref b1), .val (.ref b24), .val (.ref b297), .val (.ref b303), .unset, .unset] [(.int (3 : Int32)), (.ref b24), (.int (3 : Int32)), (.ref b303)])) rfl rfl (hb hby at_209) _ ?_
      refine st362 _ ?_
      refine XS.iloadN X362.here hx rfl (hb hby at_211) rfl ?_
      refine XS.iconst X362.here hx rfl (hb hby at_212) ?_
      refine XS.icmpYes X362.here hx rfl (pc0 := 213) (pc' := 232) rfl (hb hby at_213) rfl (flt (by decide : ¬ ((4 : Int32) < (4 : Int32)))).2.2.2 (by decide) (by decide) ?_
      refine XS.aload X362.here hx rfl (hb hby at_232) rfl rfl ?_
      refine XS.aload X362.here hx rfl (hb hby at_234) rfl rfl ?_
      refine st369 _ ?_
      refine XS.astore X369.here hx rfl (hb hby at_239) rfl rfl (l' := #[.val (.int nv), .val (.int aa), .val (.int bb), .val (.int (4 : Int32)), .val (.ref b1), .val (.ref b24), .val (.ref b297), .val (.ref b303), .val (.ref b370), .unset]) rfl ?_
      refine XS.aload X369.here hx rfl (hb hby at_241) rfl rfl ?_
      refine XS.ifnullNo X369.here hx rfl (hb hby at_243) rfl ?_
      refine XS.aload X369.here hx rfl (hb hby at_246) rfl rfl ?_
      refine X369.arraylength hx Arcl380.1 (State.isArrayOf_alike hZ.alike Arcl380.2.1) (g := (mkF m 248 #[.val (.int nv), .val (.int aa), .val (.int bb), .val (.int (4 : Int32)), .val (.ref b1), .val (.ref b24), .val (.ref b297), .val (.ref b303), .val (.ref b370), .unset] [(.ref b370)])) rfl rfl (hb hby at_248) _ ?_
      rw [Szcl380]
      refine XS.iloadN X369.here hx rfl (hb hby at_249) rfl ?_
      refine XS.icmpNo X369.here hx rfl (hb hby at_250) rfl (teq (by decide : ((4 : Int32) = (4 : Int32)))).2 ?_
      refine XS.aload X369.here hx rfl (hb hby at_253) rfl rfl ?_
      refine XS.aload X369.here hx rfl (hb hby at_255) rfl rfl ?_
      refine Jvm.RoadKit.acmp (g := (mkF m 257 #[.val (.int nv), .val (.int aa), .val (.int bb), .val (.int (4 : Int32)), .val (.ref b1), .val (.ref b24), .val (.ref b297), .val (.ref b303), .val (.ref b370), .unset] [(.ref b303), (.ref b370)])) X369 hx rfl rfl rfl (pc0 := 257) (pc' := 262) (same := false) rfl (hb hby at_257) rfl (decide_eq_false fun q => (Ne.symm ne375) (Value.ref.inj q)) (by decide) (by decide) ?_
      refine XS.iconst X369.here hx rfl (hb hby at_262) ?_
      refine XS.istore X369.here hx rfl (hb hby at_263) rfl (l' := #[.val (.int nv), .val (.int aa), .val (.int bb), .val (.int (4 : Int32)), .val (.ref b1), .val (.ref b24), .val (.ref b297), .val (.ref b303), .val (.ref b370), .val (.int (1 : Int32))]) rfl ?_
      refine XS.iload X369.here hx rfl (hb hby at_265) rfl ?_
      refine XS.aload X369.here hx rfl (hb hby at_267) rfl rfl ?_
      refine XS.iloadN X369.here hx rfl (hb hby at_269) rfl ?_
      refine XS.aload X369.here hx rfl (hb hby at_270) rfl rfl ?_
      refine XS.aload X369.here hx rfl (hb hby at_272) rfl rfl ?_
      refine XS.iconst X369.here hx rfl (hb hby at_274) ?_
      refine st381 _ ?_
      rw [hres381]
      refine XS.iand X381.here hx rfl (hb hby at_278) rfl ?_
      refine XS.istore X381.here hx rfl (hb hby at_279) rfl (l' := #[.val (.int nv), .val (.int aa), .val (.int bb), .val (.int (4 : Int32)), .val (.ref b1), .val (.ref b24), .val (.ref b297), .val (.ref b303), .val (.ref b370), .val (.int (1 : Int32))]) rfl ?_
      refine XS.iload X381.here hx rfl (hb hby at_281) rfl ?_
      refine XS.aload X381.here hx rfl (hb hby at_283) rfl rfl ?_
      refine XS.iloadN X381.here hx rfl (hb hby at_285) rfl ?_
      refine XS.aload X381.here hx rfl (hb hby at_286) rfl rfl ?_
      refine XS.aload X381.here hx rfl (hb hby at_288) rfl rfl ?_
      refine XS.iconst X381.here hx rfl (hb hby at_290) ?_
      refine st382 _ ?_
      rw [hres382]
      refine XS.iand X382.here hx rfl (hb hby at_294) rfl ?_
      refine XS.istore X382.here hx rfl (hb hby at_295) rfl (l' := #[.val (.int nv), .val (.int aa), .val (.int bb), .val (.int (4 : Int32)), .val (.ref b1), .val (.ref b24), .val (.ref b297), .val (.ref b303), .val (.ref b370), .val (.int (1 : Int32))]) rfl ?_
      refine XS.iload X382.here hx rfl (hb hby at_297) rfl ?_
      refine XS.aload X382.here hx rfl (hb hby at_299) rfl rfl ?_
      refine XS.iloadN X382.here hx rfl (hb hby at_301) rfl ?_
      refine XS.aload X382.here hx rfl (hb hby at_302) rfl rfl ?_
      refine XS.aload X382.here hx rfl (hb hby at_304) rfl rfl ?_
      refine XS.iconst X382.here hx rfl (hb hby at_306) ?_
      refine st383 _ ?_
      rw [hres383]
      refine XS.iand X383.here hx rfl (hb hby at_310) rfl ?_
      refine XS.istore X383.here hx rfl (hb hby at_311) rfl (l' := #[.val (.int nv), .val (.int aa), .val (.int bb), .val (.int (4 : Int32)), .val (.ref b1), .val (.ref b24), .val (.ref b297), .val (.ref b303), .val (.ref b370), .val (.int (1 : Int32))]) rfl ?_
      refine XS.iload X383.here hx rfl (hb hby at_313) rfl ?_
      refine XS.aload X383.here hx rfl (hb hby at_315) rfl rfl ?_
      refine XS.iloadN X383.here hx rfl (hb hby at_317) rfl ?_
      refine XS.aload X383.here hx rfl (hb hby at_318) rfl rfl ?_
      refine XS.aload X383.here hx rfl (hb hby at_320) rfl rfl ?_
      refine XS.iconst X383.here hx rfl (hb hby at_322) ?_
      refine st384 _ ?_
      rw [hres384]
      refine XS.iand X384.here hx rfl (hb hby at_326) rfl ?_
      refine XS.istore X384.here hx rfl (hb hby at_327) rfl (l' := #[.val (.int nv), .val (.int aa), .val (.int bb), .val (.int (4 : Int32)), .val (.ref b1), .val (.ref b24), .val (.ref b297), .val (.ref b303), .val (.ref b370), .val (.int (1 : Int32))]) rfl ?_
      refine XS.iload X384.here hx rfl (hb hby at_329) rfl ?_
      refine XS.aload X384.here hx rfl (hb hby at_331) rfl rfl ?_
      refine XS.iloadN X384.here hx rfl (hb hby at_333) rfl ?_
      refine XS.aload X384.here hx rfl (hb hby at_334) rfl rfl ?_
      refine XS.aload X384.here hx rfl (hb hby at_336) rfl rfl ?_
      refine XS.iconst X384.here hx rfl (hb hby at_338) ?_
      refine st385 _ ?_
      refine XS.iand X385.here hx rfl (hb hby at_342) rfl ?_
      refine XS.istore X385.here hx rfl (hb hby at_343) rfl (l' := #[.val (.int nv), .val (.int aa), .val (.int bb), .val (.int (4 : Int32)), .val (.ref b1), .val (.ref b24), .val (.ref b297), .val (.ref b303), .val (.ref b370), .val (.int (1 : Int32))]) rfl ?_
      refine XS.iload X385.here hx rfl (hb hby at_345) rfl ?_
      refine XS.aload X385.here hx rfl (hb hby at_347) rfl rfl ?_
      refine XS.aload X385.here hx rfl (hb hby at_349) rfl rfl ?_
      refine XS.iloadN X385.here hx rfl (hb hby at_351) rfl ?_
      refine XS.aload X385.here hx rfl (hb hby at_352) rfl rfl ?_
      refine XS.aload X385.here hx rfl (hb hby at_354) rfl rfl ?_
      refine XS.iconst X385.here hx rfl (hb hby at_356) ?_
      refine st386 _ ?_
      rw [hres386]
      refine XS.iand X386.here hx rfl (hb hby at_360) rfl ?_
      refine XS.istore X386.here hx rfl (hb hby at_361) rfl (l' := #[.val (.int nv), .val (.int aa), .val (.int bb), .val (.int (4 : Int32)), .val (.ref b1), .val (.ref b24), .val (.ref b297), .val (.ref b303), .val (.ref b370), .val (.int (1 : Int32))]) rfl ?_
      refine XS.iload X386.here hx rfl (hb hby at_363) rfl ?_
      refine XS.aload X386.here hx rfl (hb hby at_365) rfl rfl ?_
      refine XS.aload X386.here hx rfl (hb hby at_367) rfl rfl ?_
      refine XS.iloadN X386.here hx rfl (hb hby at_369) rfl ?_
      refine XS.aload X386.here hx rfl (hb hby at_370) rfl rfl ?_
      refine XS.aload X386.here hx rfl (hb hby at_372) rfl rfl ?_
      refine XS.iconst X386.here hx rfl (hb hby at_374) ?_
      refine st387 _ ?_
      rw [hres387]
      refine XS.iand X387.here hx rfl (hb hby at_378) rfl ?_
      refine XS.istore X387.here hx rfl (hb hby at_379) rfl (l' := #[.val (.int nv), .val (.int aa), .val (.int bb), .val (.int (4 : Int32)), .val (.ref b1), .val (.ref b24), .val (.ref b297), .val (.ref b303), .val (.ref b370), .val (.int (1 : Int32))]) rfl ?_
      refine XS.iload X387.here hx rfl (hb hby at_381) rfl ?_
      refine XS.aload X387.here hx rfl (hb hby at_383) rfl rfl ?_
      refine XS.aload X387.here hx rfl (hb hby at_385) rfl rfl ?_
      refine XS.iloadN X387.here hx rfl (hb hby at_387) rfl ?_
      refine XS.aload X387.here hx rfl (hb hby at_388) rfl rfl ?_
      refine XS.aload X387.here hx rfl (hb hby at_390) rfl rfl ?_
      refine XS.iconst X387.here hx rfl (hb hby at_392) ?_
      refine st388 _ ?_
      rw [hres388]
      refine XS.iand X388.here hx rfl (hb hby at_396) rfl ?_
      refine XS.istore X388.here hx rfl (hb hby at_397) rfl (l' := #[.val (.int nv), .val (.int aa), .val (.int bb), .val (.int (4 : Int32)), .val (.ref b1), .val (.ref b24), .val (.ref b297), .val (.ref b303), .val (.ref b370), .val (.int (1 : Int32))]) rfl ?_
      refine XS.iload X388.here hx rfl (hb hby at_399) rfl ?_
      refine XS.aload X388.here hx rfl (hb hby at_401) rfl rfl ?_
      refine XS.aload X388.here hx rfl (hb hby at_403) rfl rfl ?_
      refine XS.iloadN X388.here hx rfl (hb hby at_405) rfl ?_
      refine XS.aload X388.here hx rfl (hb hby at_406) rfl rfl ?_
      refine XS.aload X388.here hx rfl (hb hby at_408) rfl rfl ?_
      refine XS.iconst X388.here hx rfl (hb hby at_410) ?_
      refine st389 _ ?_
      rw [hres389]
      refine XS.iand X389.here hx rfl (hb hby at_414) rfl ?_
      refine XS.istore X389.here hx rfl (hb hby at_415) rfl (l' := #[.val (.int nv), .val (.int aa), .val (.int bb), .val (.int (4 : Int32)), .val (.ref b1), .val (.ref b24), .val (.ref b297), .val (.ref b303), .val (.ref b370), .val (.int (1 : Int32))]) rfl ?_
      refine XS.iload X389.here hx rfl (hb hby at_417) rfl ?_
      refine XS.aload X389.here hx rfl (hb hby at_419) rfl rfl ?_
      refine XS.aload X389.here hx rfl (hb hby at_421) rfl rfl ?_
      refine XS.iloadN X389.here hx rfl (hb hby at_423) rfl ?_
      refine XS.aload X389.here hx rfl (hb hby at_424) rfl rfl ?_
      refine XS.aload X389.here hx rfl (hb hby at_426) rfl rfl ?_
      refine XS.iconst X389.here hx rfl (hb hby at_428) ?_
      refine st390 _ ?_
      refine XS.iand X390.here hx rfl (hb hby at_432) rfl ?_
      refine XS.istore X390.here hx rfl (hb hby at_433) rfl (l' := #[.val (.int nv), .val (.int aa), .val (.int bb), .val (.int (4 : Int32)), .val (.ref b1), .val (.ref b24), .val (.ref b297), .val (.ref b303), .val (.ref b370), .val (.int (1 : Int32))]) rfl ?_
      refine XS.iload X390.here hx rfl (hb hby at_435) rfl ?_
      exact retN X390 hx (t := .boolean) Bd.returns (by simp) (hb hby at_437) hr
    · show Q0 Z nv aa bb h0 n0 _ T390.heap _
      rw [e390]
      exact ⟨rfl, N390⟩
  · have pre391 : ∀ t, Steps p.tables e below (T50.setTop (mkF m 119 #[.val (.int nv), .val (.int aa), .val (.int bb), .val (.int (5 : Int32)), .val (.ref b1), .val (.ref b24), .unset, .unset, .unset, .unset] [(.int (5 : Int32))])) t → Steps p.tables e below (s₁.setTop (entryFrame m #[(.int nv), (.int aa), (.int bb)] maxLocals)) t := by
      intro t k
      refine pre54 _ ?_
      rw [hk55]
      exact k
    obtain ⟨T392, h392, k392, X392, e392, E392, A392, st392⟩ := newP X50 hx hZ (hw _ (List.mem_of_getElem? (i := 1) rfl)) e50 (g := (mkF m 119 #[.val (.int nv), .val (.int aa), .val (.int bb), .val (.int (5 : Int32)), .val (.ref b1), .val (.ref b24), .unset, .unset, .unset, .unset] [(.int (5 : Int32))])) rfl (hb hby at_119) rfl (by decide) (cap := 5) (by decide) (by decide) (by decide) (by decide)
    obtain ⟨b392, g392⟩ : ∃ z, z = h50.size := ⟨_, rfl⟩
    rw [← g392] at A392 st392
    have ne393 : b1 ≠ b392 := Nat.ne_of_lt (Nat.lt_of_lt_of_le f52.lt (Nat.le_of_eq g392.symm))
    have ne394 : b24 ≠ b392 := Nat.ne_of_lt (Nat.lt_of_lt_of_le f53.lt (Nat.le_of_eq g392.symm))
    have gg392 : n0 ≤ b392 := Nat.le_trans Z50 (Nat.le_of_eq g392.symm)
    have f395 : AI Z h392 b1 .byte 5 (own_FQ aa bb) := f52.ext E392
    have f396 : AI Z h392 b24 .int 5 (own_FT aa bb) := f53.ext E392
    have Z392 : n0 ≤ h392.size := Nat.le_trans Z50 E392.1
    have f397 : AI Z h392 b392 .byte 5 zI := AF.new A392 (by decide)
    obtain ⟨T398, h398, k398, X398, e398, E398, A398, st398⟩ := newP X392 hx hZ (hw _ (List.mem_of_getElem? (i := 6) rfl)) e392 (g := (mkF m 124 #[.val (.int nv), .val (.int aa), .val (.int bb), .val (.int (5 : Int32)), .val (.ref b1), .val (.ref b24), .val (.ref b392), .unset, .unset, .unset] [(.int (5 : Int32))])) rfl (hb hby at_124) rfl (by decide) (cap := 5) (by decide) (by decide) (by decide) (by decide)
    obtain ⟨b398, g398⟩ : ∃ z, z = h392.size := ⟨_, rfl⟩
    rw [← g398] at A398 st398
    have ne399 : b1 ≠ b398 := Nat.ne_of_lt (Nat.lt_of_lt_of_le f395.lt (Nat.le_of_eq g398.symm))
    have ne400 : b24 ≠ b398 := Nat.ne_of_lt (Nat.lt_of_lt_of_le f396.lt (Nat.le_of_eq g398.symm))
    have ne401 : b392 ≠ b398 := Nat.ne_of_lt (Nat.lt_of_lt_of_le f397.lt (Nat.le_of_eq g398.symm))
    have gg398 : n0 ≤ b398 := Nat.le_trans Z392 (Nat.le_of_eq g398.symm)
    have f402 : AI Z h398 b1 .byte 5 (own_FQ aa bb) := f395.ext E398
    have f403 : AI Z h398 b24 .int 5 (own_FT aa bb) := f396.ext E398
    have f404 : AI Z h398 b392 .byte 5 zI := f397.ext E398
    have Z398 : n0 ≤ h398.size := Nat.le_trans Z392 E398.1
    have f405 : AI Z h398 b398 .int 5 zI := AF.new A398 (by decide)
    obtain ⟨cl406, Arcl406, hincl406, hatcl406⟩ := AF.at f402 (j := (0 : Int32)) 0 (by decide) (by decide)
    obtain ⟨cl407, Arcl407, hincl407, -⟩ := AF.at f404 (j := (0 : Int32)) 0 (by decide) (by decide)
    obtain ⟨T408, h408, X408, e408, W408, st408⟩ := stB X398 hx hZ e398 Arcl407 (j := (0 : Int32)) hincl407 (g := (mkF m 139 #[.val (.int nv), .val (.int aa), .val (.int bb), .val (.int (5 : Int32)), .val (.ref b1), .val (.ref b24), .val (.ref b392), .val (.ref b398), .unset, .unset] [(.int ((own_FQ aa bb) 0)), (.int (0 : Int32)), (.ref b392)])) rfl rfl (hb hby at_139)
    rw [own_lq0 aa bb] at W408
    have N408 := Fr.snoc X408 N50 gg392
    have Z408 : n0 ≤ h408.size := Nat.le_trans Z398 (Keep.of_wr W408).1
    have f409 : AI Z h408 b392 .byte 5 (up zI 0 ((own_FQ aa bb) 0)) := AF.setI f404 W408 0 (by decide)
    have f410 : AI Z h408 b1 .byte 5 (own_FQ aa bb) := f402.other W408 ne393
    have f411 : AI Z h408 b24 .int 5 (own_FT aa bb) := f403.other W408 ne394
    have f412 : AI Z h408 b398 .int 5 zI := f405.other W408 (Ne.symm ne401)
    obtain ⟨cl413, Arcl413, hincl413, hatcl413⟩ := AF.at f411 (j := (0 : Int32)) 0 (by decide) (by decide)
    obtain ⟨cl414, Arcl414, hincl414, -⟩ := AF.at f412 (j := (0 : Int32)) 0 (by decide) (by decide)
    obtain ⟨T415, h415, X415, e415, W415, st415⟩ := stI X408 hx hZ e408 Arcl414 (j := (0 : Int32)) hincl414 (g := (mkF m 147 #[.val (.int nv), .val (.int aa), .val (.int bb), .val (.int (5 : Int32)), .val (.ref b1), .val (.ref b24), .val (.ref b392), .val (.ref b398), .unset, .unset] [(.int ((own_FT aa bb) 0)), (.int (0 : Int32)), (.ref b398)])) rfl rfl (hb hby at_147)
    have N415 := Fr.snoc X415 N408 gg398
    have Z415 : n0 ≤ h415.size := Nat.le_trans Z408 (Keep.of_wr W415).1
    have f416 : AI Z h415 b398 .int 5 (up zI 0 ((own_FT aa bb) 0)) := AF.setI f412 W415 0 (by decide)
    have f417 : AI Z h415 b1 .byte 5 (own_FQ aa bb) := f410.other W415 ne399
    have f418 : AI Z h415 b24 .int 5 (own_FT aa bb) := f411.other W415 ne400
    have f419 : AI Z h415 b392 .byte 5 (up zI 0 ((own_FQ aa bb) 0)) := f409.other W415 ne401
    obtain ⟨cl420, Arcl420, hincl420, hatcl420⟩ := AF.at f417 (j := (1 : Int32)) 1 (by decide) (by decide)
    obtain ⟨cl421, Arcl421, hincl421, -⟩ := AF.at f419 (j := (1 : Int32)) 1 (by decide) (by decide)
    obtain ⟨T422, h422, X422, e422, W422, st422⟩ := stB X415 hx hZ e415 Arcl421 (j := (1 : Int32)) hincl421 (g := (mkF m 160 #[.val (.int nv), .val (.int aa), .val (.int bb), .val (.int (5 : Int32)), .val (.ref b1), .val (.ref b24), .val (.ref b392), .val (.ref b398), .unset, .unset] [(.int ((own_FQ aa bb) 1)), (.int (1 : Int32)), (.ref b392)])) rfl rfl (hb hby at_160)
    rw [own_lq1 aa bb] at W422
    have N422 := Fr.snoc X422 N415 gg392
    have Z422 : n0 ≤ h422.size := Nat.le_trans Z415 (Keep.of_wr W422).1
    have f423 : AI Z h422 b392 .byte 5 (up (up zI 0 ((own_FQ aa bb) 0)) 1 ((own_FQ aa bb) 1)) := AF.setI f419 W422 1 (by decide)
    have f424 : AI Z h422 b1 .byte 5 (own_FQ aa bb) := f417.other W422 ne393
    have f425 : AI Z h422 b24 .int 5 (own_FT aa bb) := f418.other W422 ne394
    have f426 : AI Z h422 b398 .int 5 (up zI 0 ((own_FT aa bb) 0)) := f416.other W422 (Ne.symm ne401)
    obtain ⟨cl427, Arcl427, hincl427, hatcl427⟩ := AF.at f425 (j := (1 : Int32)) 1 (by decide) (by decide)
    obtain ⟨cl428, Arcl428, hincl428, -⟩ := AF.at f426 (j := (1 : Int32)) 1 (by decide) (by decide)
    obtain ⟨T429, h429, X429, e429, W429, st429⟩ := stI X422 hx hZ e422 Arcl428 (j := (1 : Int32)) hincl428 (g := (mkF m 168 #[.val (.int nv), .val (.int aa), .val (.int bb), .val (.int (5 : Int32)), .val (.ref b1), .val (.ref b24), .val (.ref b392), .val (.ref b398), .unset, .unset] [(.int ((own_FT aa bb) 1)), (.int (1 : Int32)), (.ref b398)])) rfl rfl (hb hby at_168)
    have N429 := Fr.snoc X429 N422 gg398
    have Z429 : n0 ≤ h429.size := Nat.le_trans Z422 (Keep.of_wr W429).1
    have f430 : AI Z h429 b398 .int 5 (up (up zI 0 ((own_FT aa bb) 0)) 1 ((own_FT aa bb) 1)) := AF.setI f426 W429 1 (by decide)
    have f431 : AI Z h429 b1 .byte 5 (own_FQ aa bb) := f424.other W429 ne399
    have f432 : AI Z h429 b24 .int 5 (own_FT aa bb) := f425.other W429 ne400
    have f433 : AI Z h429 b392 .byte 5 (up (up zI 0 ((own_FQ aa bb) 0)) 1 ((own_FQ aa bb) 1)) := f423.other W429 ne401
    obtain ⟨cl434, Arcl434, hincl434, hatcl434⟩ := AF.at f431 (j := (2 : Int32)) 2 (by decide) (by decide)
    obtain ⟨cl435, Arcl435, hincl435, -⟩ := AF.at f433 (j := (2 : Int32)) 2 (by decide) (by decide)
    obtain ⟨T436, h436, X436, e436, W436, st436⟩ := stB X429 hx hZ e429 Arcl435 (j := (2 : Int32)) hincl435 (g := (mkF m 181 #[.val (.int nv), .val (.int aa), .val (.int bb), .val (.int (5 : Int32)), .val (.ref b1), .val (.ref b24), .val (.ref b392), .val (.ref b398), .unset, .unset] [(.int ((own_FQ aa bb) 2)), (.int (2 : Int32)), (.ref b392)])) rfl rfl (hb hby at_181)
    rw [own_lq2 aa bb] at W436
    have N436 := Fr.snoc X436 N429 gg392
    have Z436 : n0 ≤ h436.size := Nat.le_trans Z429 (Keep.of_wr W436).1
    have f437 : AI Z h436 b392 .byte 5 (up (up (up zI 0 ((own_FQ aa bb) 0)) 1 ((own_FQ aa bb) 1)) 2 ((own_FQ aa bb) 2)) := AF.setI f433 W436 2 (by decide)
    have f438 : AI Z h436 b1 .byte 5 (own_FQ aa bb) := f431.other W436 ne393
    have f439 : AI Z h436 b24 .int 5 (own_FT aa bb) := f432.other W436 ne394
    have f440 : AI Z h436 b398 .int 5 (up (up zI 0 ((own_FT aa bb) 0)) 1 ((own_FT aa bb) 1)) := f430.other W436 (Ne.symm ne401)
    obtain ⟨cl441, Arcl441, hincl441, hatcl441⟩ := AF.at f439 (j := (2 : Int32)) 2 (by decide) (by decide)
    obtain ⟨cl442, Arcl442, hincl442, -⟩ := AF.at f440 (j := (2 : Int32)) 2 (by decide) (by decide)
    obtain ⟨T443, h443, X443, e443, W443, st443⟩ := stI X436 hx hZ e436 Arcl442 (j := (2 : Int32)) hincl442 (g := (mkF m 189 #[.val (.int nv), .val (.int aa), .val (.int bb), .val (.int (5 : Int32)), .val (.ref b1), .val (.ref b24), .val (.ref b392), .val (.ref b398), .unset, .unset] [(.int ((own_FT aa bb) 2)), (.int (2 : Int32)), (.ref b398)])) rfl rfl (hb hby at_189)
    have N443 := Fr.snoc X443 N436 gg398
    have Z443 : n0 ≤ h443.size := Nat.le_trans Z436 (Keep.of_wr W443).1
    have f444 : AI Z h443 b398 .int 5 (up (up (up zI 0 ((own_FT aa bb) 0)) 1 ((own_FT aa bb) 1)) 2 ((own_FT aa bb) 2)) := AF.setI f440 W443 2 (by decide)
    have f445 : AI Z h443 b1 .byte 5 (own_FQ aa bb) := f438.other W443 ne399
    have f446 : AI Z h443 b24 .int 5 (own_FT aa bb) := f439.other W443 ne400
    have f447 : AI Z h443 b392 .byte 5 (up (up (up zI 0 ((own_FQ aa bb) 0)) 1 ((own_FQ aa bb) 1)) 2 ((own_FQ aa bb) 2)) := f437.other W443 ne401
    obtain ⟨cl448, Arcl448, hincl448, hatcl448⟩ := AF.at f445 (j := (3 : Int32)) 3 (by decide) (by decide)
    obtain ⟨cl449, Arcl449, hincl449, -⟩ := AF.at f447 (j := (3 : Int32)) 3 (by decide) (by decide)
    obtain ⟨T450, h450, X450, e450, W450, st450⟩ := stB X443 hx hZ e443 Arcl449 (j := (3 : Int32)) hincl449 (g := (mkF m 202 #[.val (.int nv), .val (.int aa), .val (.int bb), .val (.int (5 : Int32)), .val (.ref b1), .val (.ref b24), .val (.ref b392), .val (.ref b398), .unset, .unset] [(.int ((own_FQ aa bb) 3)), (.int (3 : Int32)), (.ref b392)])) rfl rfl (hb hby at_202)
    rw [own_lq3 aa bb] at W450
    have N450 := Fr.snoc X450 N443 gg392
    have Z450 : n0 ≤ h450.size := Nat.le_trans Z443 (Keep.of_wr W450).1
    have f451 : AI Z h450 b392 .byte 5 (up (up (up (up zI 0 ((own_FQ aa bb) 0)) 1 ((own_FQ aa bb) 1)) 2 ((own_FQ aa bb) 2)) 3 ((own_FQ aa bb) 3)) := AF.setI f447 W450 3 (by decide)
    have f452 : AI Z h450 b1 .byte 5 (own_FQ aa bb) := f445.other W450 ne393
    have f453 : AI Z h450 b24 .int 5 (own_FT aa bb) := f446.other W450 ne394
    have f454 : AI Z h450 b398 .int 5 (up (up (up zI 0 ((own_FT aa bb) 0)) 1 ((own_FT aa bb) 1)) 2 ((own_FT aa bb) 2)) := f444.other W450 (Ne.symm ne401)
    obtain ⟨cl455, Arcl455, hincl455, hatcl455⟩ := AF.at f453 (j := (3 : Int32)) 3 (by decide) (by decide)
    obtain ⟨cl456, Arcl456, hincl456, -⟩ := AF.at f454 (j := (3 : Int32)) 3 (by decide) (by decide)
    obtain ⟨T457, h457, X457, e457, W457, st457⟩ := stI X450 hx hZ e450 Arcl456 (j := (3 : Int32)) hincl456 (g := (mkF m 210 #[.val (.int nv), .val (.int aa), .val (.int bb), .val (.int (5 : Int32)), .val (.ref b1), .val (.ref b24), .val (.ref b392), .val (.ref b398), .unset, .unset] [(.int ((own_FT aa bb) 3)), (.int (3 : Int32)), (.ref b398)])) rfl rfl (hb hby at_210)
    have N457 := Fr.snoc X457 N450 gg398
    have Z457 : n0 ≤ h457.size := Nat.le_trans Z450 (Keep.of_wr W457).1
    have f458 : AI Z h457 b398 .int 5 (up (up (up (up zI 0 ((own_FT aa bb) 0)) 1 ((own_FT aa bb) 1)) 2 ((own_FT aa bb) 2)) 3 ((own_FT aa bb) 3)) := AF.setI f454 W457 3 (by decide)
    have f459 : AI Z h457 b1 .byte 5 (own_FQ aa bb) := f452.other W457 ne399
    have f460 : AI Z h457 b24 .int 5 (own_FT aa bb) := f453.other W457 ne400
    have f461 : AI Z h457 b392 .byte 5 (up (up (up (up zI 0 ((own_FQ aa bb) 0)) 1 ((own_FQ aa bb) 1)) 2 ((own_FQ aa bb) 2)) 3 ((own_FQ aa bb) 3)) := f451.other W457 ne401
    obtain ⟨cl462, Arcl462, hincl462, hatcl462⟩ := AF.at f459 (j := (4 : Int32)) 4 (by decide) (by decide)
    obtain ⟨cl463, Arcl463, hincl463, -⟩ := AF.at f461 (j := (4 : Int32)) 4 (by decide) (by decide)
    obtain ⟨T464, h464, X464, e464, W464, st464⟩ := stB X457 hx hZ e457 Arcl463 (j := (4 : Int32)) hincl463 (g := (mkF m 223 #[.val (.int nv), .val (.int aa), .val (.int bb), .val (.int (5 : Int32)), .val (.ref b1), .val (.ref b24), .val (.ref b392), .val (.ref b398), .unset, .unset] [(.int ((own_FQ aa bb) 4)), (.int (4 : Int32)), (.ref b392)])) rfl rfl (hb hby at_223)
    rw [own_lq4 aa bb] at W464
    have N464 := Fr.snoc X464 N457 gg392
    have Z464 : n0 ≤ h464.size := Nat.le_trans Z457 (Keep.of_wr W464).1
    have f465 : AI Z h464 b392 .byte 5 (up (up (up (up (up zI 0 ((own_FQ aa bb) 0)) 1 ((own_FQ aa bb) 1)) 2 ((own_FQ aa bb) 2)) 3 ((own_FQ aa bb) 3)) 4 ((own_FQ aa bb) 4)) := AF.setI f461 W464 4 (by decide)
    have f466 : AI Z h464 b1 .byte 5 (own_FQ aa bb) := f459.other W464 ne393
    have f467 : AI Z h464 b24 .int 5 (own_FT aa bb) := f460.other W464 ne394
    have f468 : AI Z h464 b398 .int 5 (up (up (up (up zI 0 ((own_FT aa bb) 0)) 1 ((own_FT aa bb) 1)) 2 ((own_FT aa bb) 2)) 3 ((own_FT aa bb) 3)) := f458.other W464 (Ne.symm ne401)
    obtain ⟨cl469, Arcl469, hincl469, hatcl469⟩ := AF.at f467 (j := (4 : Int32)) 4 (by decide) (by decide)
    obtain ⟨cl470, Arcl470, hincl470, -⟩ := AF.at f468 (j := (4 : Int32)) 4 (by decide) (by decide)
    obtain ⟨T471, h471, X471, e471, W471, st471⟩ := stI X464 hx hZ e464 Arcl470 (j := (4 : Int32)) hincl470 (g := (mkF m 231 #[.val (.int nv), .val (.int aa), .val (.int bb), .val (.int (5 : Int32)), .val (.ref b1), .val (.ref b24), .val (.ref b392), .val (.ref b398), .unset, .unset] [(.int ((own_FT aa bb) 4)), (.int (4 : Int32)), (.ref b398)])) rfl rfl (hb hby at_231)
    have N471 := Fr.snoc X471 N464 gg398
    have Z471 : n0 ≤ h471.size := Nat.le_trans Z464 (Keep.of_wr W471).1
    have f472 : AI Z h471 b398 .int 5 (up (up (up (up (up zI 0 ((own_FT aa bb) 0)) 1 ((own_FT aa bb) 1)) 2 ((own_FT aa bb) 2)) 3 ((own_FT aa bb) 3)) 4 ((own_FT aa bb) 4)) := AF.setI f468 W471 4 (by decide)
    have f473 : AI Z h471 b1 .byte 5 (own_FQ aa bb) := f466.other W471 ne399
    have f474 : AI Z h471 b24 .int 5 (own_FT aa bb) := f467.other W471 ne400
    have f475 : AI Z h471 b392 .byte 5 (up (up (up (up (up zI 0 ((own_FQ aa bb) 0)) 1 ((own_FQ aa bb) 1)) 2 ((own_FQ aa bb) 2)) 3 ((own_FQ aa bb) 3)) 4 ((own_FQ aa bb) 4)) := f465.other W471 ne401
    have f476 : AI Z h471 b392 .byte 5 (own_FP5 aa bb) := f475
    have f477 : AI Z h471 b398 .int 5 (own_FS5 aa bb) := f472
    obtain ⟨_, _, ⟨T478, L478, k478, n478⟩, -, X478, ⟨Lc478, hQ478, l478, y478, z478⟩, st478⟩ := Jvm.LawKit.callS X471 hx (y := (⟨"skipstitch/table/PrefixTable", "optimised", "([B[I)[I"⟩ : MethodName)) hown (mvT hZ (hw _ (List.mem_of_getElem? (i := 13) rfl))) (mvT hZ (hw _ (List.mem_of_getElem? (i := 14) rfl))) (mvT hZ (hw _ (List.mem_of_getElem? (i := 15) rfl))) (mvT hZ (hw _ (List.mem_of_getElem? (i := 16) rfl))) (by decide) (backOf (W := 0) (rm4k5 l Z a0 hw [] b392 b398 (own_FP5 aa bb) (own_FS5 aa bb) h471 n0 Z471 f476 f477 (own_hfz5 aa bb)) hZ (hw _ (List.mem_of_getElem? (i := 16) rfl)) (hw _ (List.mem_of_getElem? (i := 15) rfl)) (by decide) (by decide)) (g := (mkF m 236 #[.val (.int nv), .val (.int aa), .val (.int bb), .val (.int (5 : Int32)), .val (.ref b1), .val (.ref b24), .val (.ref b392), .val (.ref b398), .unset, .unset] [(.ref b398), (.ref b392)])) rfl (by rw [hml]; rfl) (argsL := [(.ref b392), (.ref b398)]) (rest := []) (lenOf pd_5 rfl) rfl (by show 2 * 0 + _ ≤ _; exact Nat.le_of_eq rfl) (hb hby at_236) (fun _ _ => ⟨rfl, e471, (by decide : 4 + 1 ≤ _), (by decide : 20 + 5 ≤ _)⟩)
    dsimp only [Pt.U, Pt.locs, Pt.cells, Pt.slots] at X478 l478 y478 z478 st478 hQ478
    subst y478 z478
    obtain ⟨b479, ggb479, szb479, rfl, N478q, K478c, f480⟩ := hQ478
    have N478 : Fr n0 L478 := by rw [l478]; exact Fr.app N471 N478q
    have ne481 : b1 ≠ b479 := Nat.ne_of_lt (Nat.lt_of_lt_of_le f473.lt szb479)
    have ne482 : b24 ≠ b479 := Nat.ne_of_lt (Nat.lt_of_lt_of_le f474.lt szb479)
    have ne483 : b392 ≠ b479 := Nat.ne_of_lt (Nat.lt_of_lt_of_le f476.lt szb479)
    have ne484 : b398 ≠ b479 := Nat.ne_of_lt (Nat.lt_of_lt_of_le f477.lt szb479)
    have f485 : AI Z T478.heap b1 .byte 5 (own_FQ aa bb) := f473.keep K478c nin0
    have f486 : AI Z T478.heap b24 .int 5 (own_FT aa bb) := f474.keep K478c nin0
    have f487 : AI Z T478.heap b392 .byte 5 (own_FP5 aa bb) := f476.keep K478c nin0
    have f488 : AI Z T478.heap b398 .int 5 (own_FS5 aa bb) := f477.keep K478c nin0
    have Z478 : n0 ≤ T478.heap.size := Nat.le_trans Z471 K478c.1
    obtain ⟨cl489, Arcl489, Szcl489⟩ := AF.len f480
    obtain ⟨_, _, ⟨T490, L490, k490, n490⟩, -, X490, ⟨Lc490, hQ490, l490, y490, z490⟩, st490⟩ := Jvm.LawKit.callS X478 hx (y := (⟨"skipstitch/table/PrefixTableOptimisedPinLaw", "at", "([II[B[II)Z"⟩ : MethodName)) hown (mvT hZ (hw _ (List.mem_of_getElem? (i := 17) rfl))) (mvT hZ (hw _ (List.mem_of_getElem? (i := 18) rfl))) (mvT hZ (hw _ (List.mem_of_getElem? (i := 4) rfl))) (mvT hZ (hw _ (List.mem_of_getElem? (i := 19) rfl))) (by decide) (backOf (W := 1) (rm5a0 l Z a0 hw [] b479 (5 : Int32) b1 b24 (own_FQ aa bb) (own_FT aa bb) (up (own_g (own_FP5 aa bb) (own_FS5 aa bb) 4) 4 ((own_FS5 aa bb) 4)) 5 T478.heap n0 Z478 f480 f485 f486 (own_hfu aa bb) (by decide) (by decide) (by decide)) hZ (hw _ (List.mem_of_getElem? (i := 19) rfl)) (hw _ (List.mem_of_getElem? (i := 4) rfl)) (by decide) (by decide)) (g := (mkF m 275 #[.val (.int nv), .val (.int aa), .val (.int bb), .val (.int (5 : Int32)), .val (.ref b1), .val (.ref b24), .val (.ref b392), .val (.ref b398), .val (.ref b479), .val (.int (1 : Int32))] [(.int (0 : Int32)), (.ref b24), (.ref b1), (.int (5 : Int32)), (.ref b479), (.int (1 : Int32))])) rfl (by rw [hml]; rfl) (argsL := [(.ref b479), (.int (5 : Int32)), (.ref b1), (.ref b24), (.int (0 : Int32))]) (rest := [(.int (1 : Int32))]) (lenOf pd_6 rfl) rfl (by show 2 * 0 + _ ≤ _; exact Nat.le_of_eq rfl) (hb hby at_275) (fun _ _ => ⟨rfl, rfl, (by decide : 5 + 0 ≤ _), (by decide : 25 + 0 ≤ _)⟩)
    dsimp only [Pt.U, Pt.locs, Pt.cells, Pt.slots] at X490 l490 y490 z490 st490 hQ490
    subst y490 z490
    obtain ⟨rfl, N490q, e490⟩ := hQ490
    have N490 : Fr n0 L490 := by rw [l490]; exact Fr.app N478 N490q
    have hres490 : (r5a0_v (own_FQ aa bb) (own_FT aa bb) (up (own_g (own_FP5 aa bb) (own_FS5 aa bb) 4) 4 ((own_FS5 aa bb) 4))) = (1 : Int32) := own_a5_0 aa bb
    obtain ⟨_, _, ⟨T491, L491, k491, n491⟩, -, X491, ⟨Lc491, hQ491, l491, y491, z491⟩, st491⟩ := Jvm.LawKit.callS X490 hx (y := (⟨"skipstitch/table/PrefixTableOptimisedPinLaw", "at", "([II[B[II)Z"⟩ : MethodName)) hown (mvT hZ (hw _ (List.mem_of_getElem? (i := 17) rfl))) (mvT hZ (hw _ (List.mem_of_getElem? (i := 18) rfl))) (mvT hZ (hw _ (List.mem_of_getElem? (i := 4) rfl))) (mvT hZ (hw _ (List.mem_of_getElem? (i := 19) rfl))) (by decide) (backOf (W := 1) (rm5a1 l Z a0 hw [] b479 (5 : Int32) b1 b24 (own_FQ aa bb) (own_FT aa bb) (up (own_g (own_FP5 aa bb) (own_FS5 aa bb) 4) 4 ((own_FS5 aa bb) 4)) 5 T478.heap n0 Z478 f480 f485 f486 (own_hfu aa bb) (by decide) (by decide) (by decide)) hZ (hw _ (List.mem_of_getElem? (i := 19) rfl)) (hw _ (List.mem_of_getElem? (i := 4) rfl)) (by decide) (by decide)) (g := (mkF m 291 #[.val (.int nv), .val (.int aa), .val (.int bb), .val (.int (5 : Int32)), .val (.ref b1), .val (.ref b24), .val (.ref b392), .val (.ref b398), .val (.ref b479), .val (.int (1 : Int32))] [(.int (1 : Int32)), (.ref b24), (.ref b1), (.int (5 : Int32)), (.ref b479), (.int (1 : Int32))])) rfl (by rw [hml]; rfl) (argsL := [(.ref b479), (.int (5 : Int32)), (.ref b1), (.ref b24), (.int (1 : Int32))]) (rest := [(.int (1 : Int32))]) (lenOf pd_6 rfl) rfl (by show 2 * 0 + _ ≤ _; exact Nat.le_of_eq rfl) (hb hby at_291) (fun _ _ => ⟨rfl, e490, (by decide : 5 + 0 ≤ _), (by decide : 25 + 0 ≤ _)⟩)
    dsimp only [Pt.U, Pt.locs, Pt.cells, Pt.slots] at X491 l491 y491 z491 st491 hQ491
    subst y491 z491
    obtain ⟨rfl, N491q, e491⟩ := hQ491
    have N491 : Fr n0 L491 := by rw [l491]; exact Fr.app N490 N491q
    have hres491 : (r5a1_v (own_FQ aa bb) (own_FT aa bb) (up (own_g (own_FP5 aa bb) (own_FS5 aa bb) 4) 4 ((own_FS5 aa bb) 4))) = (1 : Int32) := own_a5_1 aa bb
    obtain ⟨_, _, ⟨T492, L492, k492, n492⟩, -, X492, ⟨Lc492, hQ492, l492, y492, z492⟩, st492⟩ := Jvm.LawKit.callS X491 hx (y := (⟨"skipstitch/table/PrefixTableOptimisedPinLaw", "at", "([II[B[II)Z"⟩ : MethodName)) hown (mvT hZ (hw _ (List.mem_of_getElem? (i := 17) rfl))) (mvT hZ (hw _ (List.mem_of_getElem? (i := 18) rfl))) (mvT hZ (hw _ (List.mem_of_getElem? (i := 4) rfl))) (mvT hZ (hw _ (List.mem_of_getElem? (i := 19) rfl))) (by decide) (backOf (W := 1) (rm5a2 l Z a0 hw [] b479 (5 : Int32) b1 b24 (own_FQ aa bb) (own_FT aa bb) (up (own_g (own_FP5 aa bb) (own_FS5 aa bb) 4) 4 ((own_FS5 aa bb) 4)) 5 T478.heap n0 Z478 f480 f485 f486 (own_hfu aa bb) (by decide) (by decide) (by decide)) hZ (hw _ (List.mem_of_getElem? (i := 19) rfl)) (hw _ (List.mem_of_getElem? (i := 4) rfl)) (by decide) (by decide)) (g := (mkF m 307 #[.val (.int nv), .val (.int aa), .val (.int bb), .val (.int (5 : Int32)), .val (.ref b1), .val (.ref b24), .val (.ref b392), .val (.ref b398), .val (.ref b479), .val (.int (1 : Int32))] [(.int (2 : Int32)), (.ref b24), (.ref b1), (.int (5 : Int32)), (.ref b479), (.int (1 : Int32))])) rfl (by rw [hml]; rfl) (argsL := [(.ref b479), (.int (5 : Int32)), (.ref b1), (.ref b24), (.int (2 : Int32))]) (rest := [(.int (1 : Int32))]) (lenOf pd_6 rfl) rfl (by show 2 * 0 + _ ≤ _; exact Nat.le_of_eq rfl) (hb hby at_307) (fun _ _ => ⟨rfl, e491, (by decide : 5 + 0 ≤ _), (by decide : 25 + 0 ≤ _)⟩)
    dsimp only [Pt.U, Pt.locs, Pt.cells, Pt.slots] at X492 l492 y492 z492 st492 hQ492
    subst y492 z492
    obtain ⟨rfl, N492q, e492⟩ := hQ492
    have N492 : Fr n0 L492 := by rw [l492]; exact Fr.app N491 N492q
    have hres492 : (r5a2_v (own_FQ aa bb) (own_FT aa bb) (up (own_g (own_FP5 aa bb) (own_FS5 aa bb) 4) 4 ((own_FS5 aa bb) 4))) = (1 : Int32) := own_a5_2 aa bb
    obtain ⟨_, _, ⟨T493, L493, k493, n493⟩, -, X493, ⟨Lc493, hQ493, l493, y493, z493⟩, st493⟩ := Jvm.LawKit.callS X492 hx (y := (⟨"skipstitch/table/PrefixTableOptimisedPinLaw", "at", "([II[B[II)Z"⟩ : MethodName)) hown (mvT hZ (hw _ (List.mem_of_getElem? (i := 17) rfl))) (mvT hZ (hw _ (List.mem_of_getElem? (i := 18) rfl))) (mvT hZ (hw _ (List.mem_of_getElem? (i := 4) rfl))) (mvT hZ (hw _ (List.mem_of_getElem? (i := 19) rfl))) (by decide) (backOf (W := 1) (rm5a3 l Z a0 hw [] b479 (5 : Int32) b1 b24 (own_FQ aa bb) (own_FT aa bb) (up (own_g (own_FP5 aa bb) (own_FS5 aa bb) 4) 4 ((own_FS5 aa bb) 4)) 5 T478.heap n0 Z478 f480 f485 f486 (own_hfu aa bb) (by decide) (by decide) (by decide)) hZ (hw _ (List.mem_of_getElem? (i := 19) rfl)) (hw _ (List.mem_of_getElem? (i := 4) rfl)) (by decide) (by decide)) (g := (mkF m 323 #[.val (.int nv), .val (.int aa), .val (.int bb), .val (.int (5 : Int32)), .val (.ref b1), .val (.ref b24), .val (.ref b392), .val (.ref b398), .val (.ref b479), .val (.int (1 : Int32))] [(.int (3 : Int32)), (.ref b24), (.ref b1), (.int (5 : Int32)), (.ref b479), (.int (1 : Int32))])) rfl (by rw [hml]; rfl) (argsL := [(.ref b479), (.int (5 : Int32)), (.ref b1), (.ref b24), (.int (3 : Int32))]) (rest := [(.int (1 : Int32))]) (lenOf pd_6 rfl) rfl (by show 2 * 0 + _ ≤ _; exact Nat.le_of_eq rfl) (hb hby at_323) (fun _ _ => ⟨rfl, e492, (by decide : 5 + 0 ≤ _), (by decide : 25 + 0 ≤ _)⟩)
    dsimp only [Pt.U, Pt.locs, Pt.cells, Pt.slots] at X493 l493 y493 z493 st493 hQ493
    subst y493 z493
    obtain ⟨rfl, N493q, e493⟩ := hQ493
    have N493 : Fr n0 L493 := by rw [l493]; exact Fr.app N492 N493q
    have hres493 : (r5a3_v (own_FQ aa bb) (own_FT aa bb) (up (own_g (own_FP5 aa bb) (own_FS5 aa bb) 4) 4 ((own_FS5 aa bb) 4))) = (1 : Int32) := own_a5_3 aa bb
    obtain ⟨_, _, ⟨T494, L494, k494, n494⟩, -, X494, ⟨Lc494, hQ494, l494, y494, z494⟩, st494⟩ := Jvm.LawKit.callS X493 hx (y := (⟨"skipstitch/table/PrefixTableOptimisedPinLaw", "at", "([II[B[II)Z"⟩ : MethodName)) hown (mvT hZ (hw _ (List.mem_of_getElem? (i := 17) rfl))) (mvT hZ (hw _ (List.mem_of_getElem? (i := 18) rfl))) (mvT hZ (hw _ (List.mem_of_getElem? (i := 4) rfl))) (mvT hZ (hw _ (List.mem_of_getElem? (i := 19) rfl))) (by decide) (backOf (W := 1) (rm5b4 l Z a0 hw [] b479 (5 : Int32) b1 b24 (own_FT aa bb) (up (own_g (own_FP5 aa bb) (own_FS5 aa bb) 4) 4 ((own_FS5 aa bb) 4)) 5 T478.heap n0 Z478 f480 f486 (by decide) (by decide) (by decide)) hZ (hw _ (List.mem_of_getElem? (i := 19) rfl)) (hw _ (List.mem_of_getElem? (i := 4) rfl)) (by decide) (by decide)) (g := (mkF m 339 #[.val (.int nv), .val (.int aa), .val (.int bb), .val (.int (5 : Int32)), .val (.ref b1), .val (.ref b24), .val (.ref b392), .val (.ref b398), .val (.ref b479), .val (.int (1 : Int32))] [(.int (4 : Int32)), (.ref b24), (.ref b1), (.int (5 : Int32)), (.ref b479), (.int (1 : Int32))])) rfl (by rw [hml]; rfl) (argsL := [(.ref b479), (.int (5 : Int32)), (.ref b1), (.ref b24), (.int (4 : Int32))]) (rest := [(.int (1 : Int32))]) (lenOf pd_6 rfl) rfl (by show 2 * 0 + _ ≤ _; exact Nat.le_of_eq rfl) (hb hby at_339) (fun _ _ => ⟨rfl, e493, (by decide : 5 + 0 ≤ _), (by decide : 25 + 0 ≤ _)⟩)
    dsimp only [Pt.U, Pt.locs, Pt.cells, Pt.slots] at X494 l494 y494 z494 st494 hQ494
    subst y494 z494
    obtain ⟨rfl, N494q, e494⟩ := hQ494
    have N494 : Fr n0 L494 := by rw [l494]; exact Fr.app N493 N494q
    have hres494 : (r5b4_v (own_FT aa bb) (up (own_g (own_FP5 aa bb) (own_FS5 aa bb) 4) 4 ((own_FS5 aa bb) 4))) = (1 : Int32) := own_a5_4 aa bb
    obtain ⟨_, _, ⟨T495, L495, k495, n495⟩, -, X495, ⟨Lc495, hQ495, l495, y495, z495⟩, st495⟩ := Jvm.LawKit.callS X494 hx (y := (⟨"skipstitch/table/PrefixTableOptimisedPinLaw", "same", "([B[II[B[II)Z"⟩ : MethodName)) hown (mvT hZ (hw _ (List.mem_of_getElem? (i := 20) rfl))) (mvT hZ (hw _ (List.mem_of_getElem? (i := 21) rfl))) (mvT hZ (hw _ (List.mem_of_getElem? (i := 4) rfl))) (mvT hZ (hw _ (List.mem_of_getElem? (i := 22) rfl))) (by decide) (backOf (W := 1) (rm6l0 l Z a0 hw [] b392 b398 (5 : Int32) b1 b24 (own_FQ aa bb) (own_FT aa bb) (own_FP5 aa bb) (own_FS5 aa bb) 5 T478.heap n0 Z478 f487 f488 f485 f486 (by decide) (by decide)) hZ (hw _ (List.mem_of_getElem? (i := 22) rfl)) (hw _ (List.mem_of_getElem? (i := 4) rfl)) (by decide) (by decide)) (g := (mkF m 357 #[.val (.int nv), .val (.int aa), .val (.int bb), .val (.int (5 : Int32)), .val (.ref b1), .val (.ref b24), .val (.ref b392), .val (.ref b398), .val (.ref b479), .val (.int (1 : Int32))] [(.int (0 : Int32)), (.ref b24), (.ref b1), (.int (5 : Int32)), (.ref b398), (.ref b392), (.int (1 : Int32))])) rfl (by rw [hml]; rfl) (argsL := [(.ref b392), (.ref b398), (.int (5 : Int32)), (.ref b1), (.ref b24), (.int (0 : Int32))]) (rest := [(.int (1 : Int32))]) (lenOf pd_7 rfl) rfl (by show 2 * 0 + _ ≤ _; exact Nat.le_of_eq rfl) (hb hby at_357) (fun _ _ => ⟨rfl, e494, (by decide : 5 + 0 ≤ _), (by decide : 25 + 0 ≤ _)⟩)
    dsimp only [Pt.U, Pt.locs, Pt.cells, Pt.slots] at X495 l495 y495 z495 st495 hQ495
    subst y495 z495
    obtain ⟨rfl, N495q, e495⟩ := hQ495
    have N495 : Fr n0 L495 := by rw [l495]; exact Fr.app N494 N495q
    have hres495 : (r6l0_v (own_FQ aa bb) (own_FT aa bb) (own_FP5 aa bb) (own_FS5 aa bb)) = (1 : Int32) := own_s5_0 aa bb
    obtain ⟨_, _, ⟨T496, L496, k496, n496⟩, -, X496, ⟨Lc496, hQ496, l496, y496, z496⟩, st496⟩ := Jvm.LawKit.callS X495 hx (y := (⟨"skipstitch/table/PrefixTableOptimisedPinLaw", "same", "([B[II[B[II)Z"⟩ : MethodName)) hown (mvT hZ (hw _ (List.mem_of_getElem? (i := 20) rfl))) (mvT hZ (hw _ (List.mem_of_getElem? (i := 21) rfl))) (mvT hZ (hw _ (List.mem_of_getElem? (i := 4) rfl))) (mvT hZ (hw _ (List.mem_of_getElem? (i := 22) rfl))) (by decide) (backOf (W := 1) (rm6l1 l Z a0 hw [] b392 b398 (5 : Int32) b1 b24 (own_FQ aa bb) (own_FT aa bb) (own_FP5 aa bb) (own_FS5 aa bb) 5 T478.heap n0 Z478 f487 f488 f485 f486 (by decide) (by decide)) hZ (hw _ (List.mem_of_getElem? (i := 22) rfl)) (hw _ (List.mem_of_getElem? (i := 4) rfl)) (by decide) (by decide)) (g := (mkF m 375 #[.val (.int nv), .val (.int aa), .val (.int bb), .val (.int (5 : Int32)), .val (.ref b1), .val (.ref b24), .val (.ref b392), .val (.ref b398), .val (.ref b479), .val (.int (1 : Int32))] [(.int (1 : Int32)), (.ref b24), (.ref b1), (.int (5 : Int32)), (.ref b398), (.ref b392), (.int (1 : Int32))])) rfl (by rw [hml]; rfl) (argsL := [(.ref b392), (.ref b398), (.int (5 : Int32)), (.ref b1), (.ref b24), (.int (1 : Int32))]) (rest := [(.int (1 : Int32))]) (lenOf pd_7 rfl) rfl (by show 2 * 0 + _ ≤ _; exact Nat.le_of_eq rfl) (hb hby at_375) (fun _ _ => ⟨rfl, e495, (by decide : 5 + 0 ≤ _), (by decide : 25 + 0 ≤ _)⟩)
    dsimp only [Pt.U, Pt.locs, Pt.cells, Pt.slots] at X496 l496 y496 z496 st496 hQ496
    subst y496 z496
    obtain ⟨rfl, N496q, e496⟩ := hQ496
    have N496 : Fr n0 L496 := by rw [l496]; exact Fr.app N495 N496q
    have hres496 : (r6l1_v (own_FQ aa bb) (own_FT aa bb) (own_FP5 aa bb) (own_FS5 aa bb)) = (1 : Int32) := own_s5_1 aa bb
    obtain ⟨_, _, ⟨T497, L497, k497, n497⟩, -, X497, ⟨Lc497, hQ497, l497, y497, z497⟩, st497⟩ := Jvm.LawKit.callS X496 hx (y := (⟨"skipstitch/table/PrefixTableOptimisedPinLaw", "same", "([B[II[B[II)Z"⟩ : MethodName)) hown (mvT hZ (hw _ (List.mem_of_getElem? (i := 20) rfl))) (mvT hZ (hw _ (List.mem_of_getElem? (i := 21) rfl))) (mvT hZ (hw _ (List.mem_of_getElem? (i := 4) rfl))) (mvT hZ (hw _ (List.mem_of_getElem? (i := 22) rfl))) (by decide) (backOf (W := 1) (rm6l2 l Z a0 hw [] b392 b398 (5 : Int32) b1 b24 (own_FQ aa bb) (own_FT aa bb) (own_FP5 aa bb) (own_FS5 aa bb) 5 T478.heap n0 Z478 f487 f488 f485 f486 (by decide) (by decide)) hZ (hw _ (List.mem_of_getElem? (i := 22) rfl)) (hw _ (List.mem_of_getElem? (i := 4) rfl)) (by decide) (by decide)) (g := (mkF m 393 #[.val (.int nv), .val (.int aa), .val (.int bb), .val (.int (5 : Int32)), .val (.ref b1), .val (.ref b24), .val (.ref b392), .val (.ref b398), .val (.ref b479), .val (.int (1 : Int32))] [(.int (2 : Int32)), (.ref b24), (.ref b1), (.int (5 : Int32)), (.ref b398), (.ref b392), (.int (1 : Int32))])) rfl (by rw [hml]; rfl) (argsL := [(.ref b392), (.ref b398), (.int (5 : Int32)), (.ref b1), (.ref b24), (.int (2 : Int32))]) (rest := [(.int (1 : Int32))]) (lenOf pd_7 rfl) rfl (by show 2 * 0 + _ ≤ _; exact Nat.le_of_eq rfl) (hb hby at_393) (fun _ _ => ⟨rfl, e496, (by decide : 5 + 0 ≤ _), (by decide : 25 + 0 ≤ _)⟩)
    dsimp only [Pt.U, Pt.locs, Pt.cells, Pt.slots] at X497 l497 y497 z497 st497 hQ497
    subst y497 z497
    obtain ⟨rfl, N497q, e497⟩ := hQ497
    have N497 : Fr n0 L497 := by rw [l497]; exact Fr.app N496 N497q
    have hres497 : (r6l2_v (own_FQ aa bb) (own_FT aa bb) (own_FP5 aa bb) (own_FS5 aa bb)) = (1 : Int32) := own_s5_2 aa bb
    obtain ⟨_, _, ⟨T498, L498, k498, n498⟩, -, X498, ⟨Lc498, hQ498, l498, y498, z498⟩, st498⟩ := Jvm.LawKit.callS X497 hx (y := (⟨"skipstitch/table/PrefixTableOptimisedPinLaw", "same", "([B[II[B[II)Z"⟩ : MethodName)) hown (mvT hZ (hw _ (List.mem_of_getElem? (i := 20) rfl))) (mvT hZ (hw _ (List.mem_of_getElem? (i := 21) rfl))) (mvT hZ (hw _ (List.mem_of_getElem? (i := 4) rfl))) (mvT hZ (hw _ (List.mem_of_getElem? (i := 22) rfl))) (by decide) (backOf (W := 1) (rm6l3 l Z a0 hw [] b392 b398 (5 : Int32) b1 b24 (own_FQ aa bb) (own_FT aa bb) (own_FP5 aa bb) (own_FS5 aa bb) 5 T478.heap n0 Z478 f487 f488 f485 f486 (by decide) (by decide)) hZ (hw _ (List.mem_of_getElem? (i := 22) rfl)) (hw _ (List.mem_of_getElem? (i := 4) rfl)) (by decide) (by decide)) (g := (mkF m 411 #[.val (.int nv), .val (.int aa), .val (.int bb), .val (.int (5 : Int32)), .val (.ref b1), .val (.ref b24), .val (.ref b392), .val (.ref b398), .val (.ref b479), .val (.int (1 : Int32))] [(.int (3 : Int32)), (.ref b24), (.ref b1), (.int (5 : Int32)), (.ref b398), (.ref b392), (.int (1 : Int32))])) rfl (by rw [hml]; rfl) (argsL := [(.ref b392), (.ref b398), (.int (5 : Int32)), (.ref b1), (.ref b24), (.int (3 : Int32))]) (rest := [(.int (1 : Int32))]) (lenOf pd_7 rfl) rfl (by show 2 * 0 + _ ≤ _; exact Nat.le_of_eq rfl) (hb hby at_411) (fun _ _ => ⟨rfl, e497, (by decide : 5 + 0 ≤ _), (by decide : 25 + 0 ≤ _)⟩)
    dsimp only [Pt.U, Pt.locs, Pt.cells, Pt.slots] at X498 l498 y498 z498 st498 hQ498
    subst y498 z498
    obtain ⟨rfl, N498q, e498⟩ := hQ498
    have N498 : Fr n0 L498 := by rw [l498]; exact Fr.app N497 N498q
    have hres498 : (r6l3_v (own_FQ aa bb) (own_FT aa bb) (own_FP5 aa bb) (own_FS5 aa bb)) = (1 : Int32) := own_s5_3 aa bb
    obtain ⟨_, _, ⟨T499, L499, k499, n499⟩, -, X499, ⟨Lc499, hQ499, l499, y499, z499⟩, st499⟩ := Jvm.LawKit.callS X498 hx (y := (⟨"skipstitch/table/PrefixTableOptimisedPinLaw", "same", "([B[II[B[II)Z"⟩ : MethodName)) hown (mvT hZ (hw _ (List.mem_of_getElem? (i := 20) rfl))) (mvT hZ (hw _ (List.mem_of_getElem? (i := 21) rfl))) (mvT hZ (hw _ (List.mem_of_getElem? (i := 4) rfl))) (mvT hZ (hw _ (List.mem_of_getElem? (i := 22) rfl))) (by decide) (backOf (W := 1) (rm6l4 l Z a0 hw [] b392 b398 (5 : Int32) b1 b24 (own_FQ aa bb) (own_FT aa bb) (own_FP5 aa bb) (own_FS5 aa bb) 5 T478.heap n0 Z478 f487 f488 f485 f486 (by decide) (by decide)) hZ (hw _ (List.mem_of_getElem? (i := 22) rfl)) (hw _ (List.mem_of_getElem? (i := 4) rfl)) (by decide) (by decide)) (g := (mkF m 429 #[.val (.int nv), .val (.int aa), .val (.int bb), .val (.int (5 : Int32)), .val (.ref b1), .val (.ref b24), .val (.ref b392), .val (.ref b398), .val (.ref b479), .val (.int (1 : Int32))] [(.int (4 : Int32)), (.ref b24), (.ref b1), (.int (5 : Int32)), (.ref b398), (.ref b392), (.int (1 : Int32))])) rfl (by rw [hml]; rfl) (argsL := [(.ref b392), (.ref b398), (.int (5 : Int32)), (.ref b1), (.ref b24), (.int (4 : Int32))]) (rest := [(.int (1 : Int32))]) (lenOf pd_7 rfl) rfl (by show 2 * 0 + _ ≤ _; exact Nat.le_of_eq rfl) (hb hby at_429) (fun _ _ => ⟨rfl, e498, (by decide : 5 + 0 ≤ _), (by decide : 25 + 0 ≤ _)⟩)
    dsimp only [Pt.U, Pt.locs, Pt.cells, Pt.slots] at X499 l499 y499 z499 st499 hQ499
    subst y499 z499
    obtain ⟨rfl, N499q, e499⟩ := hQ499
    have N499 : Fr n0 L499 := by rw [l499]; exact Fr.app N498 N499q
    have hres499 : (r6l4_v (own_FQ aa bb) (own_FT aa bb) (own_FP5 aa bb) (own_FS5 aa bb)) = (1 : Int32) := own_s5_4 aa bb
    obtain ⟨fs, hr, hrun, hended, hW, hsame⟩ := X499.leave (v := some (.int (1 : Int32))) (fun h => by rw [Bd.returns] at h; cases h) (hlocks := Bd.notSynchronized)
    refine ⟨_, _, pre391 _ ?_, hrun, hended, _, _, rfl, ?_, ⟨_, rfl⟩, hW, hsame.mono (by decide) (by decide)⟩
    · show Steps p.tables e below (T50.setTop (mkF m 119 #[.val (.int nv), .val (.int aa), .val (.int bb), .val (.int (5 : Int32)), .val (.ref b1), .val (.ref b24), .unset, .unset, .unset, .unset] [(.int (5 : Int32))])) _
      refine st392 _ ?_
      refine XS.astore X392.here hx rfl (hb hby at_121) rfl rfl (l' := #[.val (.int nv), .val (.int aa), .val (.int bb), .val (.int (5 : Int32)), .val (.ref b1), .val (.ref b24), .val (.ref b392), .unset, .unset, .unset]) rfl ?_
      refine XS.iloadN X392.here hx rfl (hb hby at_123) rfl ?_
      refine st398 _ ?_
      refine XS.astore X398.here hx rfl (hb hby at_126) rfl rfl (l' := #[.val (.int nv), .val (.int aa), .val (.int bb), .val (.int (5 : Int32)), .val (.ref b1), .val (.ref b24), .val (.ref b392), .val (.ref b398), .unset, .unset]) rfl ?_
      refine XS.iloadN X398.here hx rfl (hb hby at_128) rfl ?_
      refine XS.ifNo X398.here hx rfl (hb hby at_129) rfl ((if0 _ _).trans (tlt (by decide : ((0 : Int32) < (5 : Int32)))).2.2.2) ?_
      refine XS.aload X398.here hx rfl (hb hby at_132) rfl rfl ?_
      refine XS.iconst X398.here hx rfl (hb hby at_134) ?_
      refine XS.aload X398.here hx rfl (hb hby at_135) rfl rfl ?_
      refine XS.iconst X398.here hx rfl (hb hby at_137) ?_
      refine X398.baloadBytes hx (j := (0 : Int32)) (v := (.int ((own_FQ aa bb) 0))) (by rw [e398]; exact Arcl406.1) (State.isArrayOf_alike hZ.alike Arcl406.2.1) Arcl406.2.2 hincl406 hatcl406 (g := (mkF m 138 #[.val (.int nv), .val (.int aa), .val (.int bb), .val (.int (5 : Int32)), .val (.ref b1), .val (.ref b24), .val (.ref b392), .val (.ref b398), .unset, .unset] [(.int (0 : Int32)), (.ref b1), (.int (0 : Int32)), (.ref b392)])) rfl rfl (hb hby at_138) _ ?_
      refine st408 _ ?_
      refine XS.aload X408.here hx rfl (hb hby at_140) rfl rfl ?_
      refine XS.iconst X408.here hx rfl (hb hby at_142) ?_
      refine XS.aload X408.here hx rfl (hb hby at_143) rfl rfl ?_
      refine XS.iconst X408.here hx rfl (hb hby at_145) ?_
      refine X408.iaload hx (j := (0 : Int32)) (v := (.int ((own_FT aa bb) 0))) (by rw [e408]; exact Arcl413.1) (State.isArrayOf_alike hZ.alike Arcl413.2.1) Arcl413.2.2 hincl413 hatcl413 (g := (mkF m 146 #[.val (.int nv), .val (.int aa), .val (.int bb), .val (.int (5 : Int32)), .val (.ref b1), .val (.ref b24), .val (.ref b392), .val (.ref b398), .unset, .unset] [(.int (0 : Int32)), (.ref b24), (.int (0 : Int32)), (.ref b398)])) rfl rfl (hb hby at_146) _ ?_
      refine st415 _ ?_
      refine XS.iloadN X415.here hx rfl (hb hby at_148) rfl ?_
      refine XS.iconst X415.here hx rfl (hb hby at_149) ?_
      refine XS.icmpNo X415.here hx rfl (hb hby at_150) rfl (tlt (by decide : ((1 : Int32) < (5 : Int32)))).2.2.2 ?_
      refine XS.aload X415.here hx rfl (hb hby at_153) rfl rfl ?_
      refine XS.iconst X415.here hx rfl (hb hby at_155) ?_
      refine XS.aload X415.here hx rfl (hb hby at_156) rfl rfl ?_
      refine XS.iconst X415.here hx rfl (hb hby at_158) ?_
      refine X415.baloadBytes hx (j := (1 : Int32)) (v := (.int ((own_FQ aa bb) 1))) (by rw [e415]; exact Arcl420.1) (State.isArrayOf_alike hZ.alike Arcl420.2.1) Arcl420.2.2 hincl420 hatcl420 (g := (mkF m 159 #[.val (.int nv), .val (.int aa), .val (.int bb), .val (.int (5 : Int32)), .val (.ref b1), .val (.ref b24), .val (.ref b392), .val (.ref b398), .unset, .unset] [(.int (1 : Int32)), (.ref b1), (.int (1 : Int32)), (.ref b392)])) rfl rfl (hb hby at_159) _ ?_
      refine st422 _ ?_
      refine XS.aload X422.here hx rfl (hb hby at_161) rfl rfl ?_
      refine XS.iconst X422.here hx rfl (hb hby at_163) ?_
      refine XS.aload X422.here hx rfl (hb hby at_164) rfl rfl ?_
      refine XS.iconst X422.here hx rfl (hb hby at_166) ?_
      refine X422.iaload hx (j := (1 : Int32)) (v := (.int ((own_FT aa bb) 1))) (by rw [e422]; exact Arcl427.1) (State.isArrayOf_alike hZ.alike Arcl427.2.1) Arcl427.2.2 hincl427 hatcl427 (g := (mkF m 167 #[.val (.int nv), .val (.int aa), .val (.int bb), .val (.int (5 : Int32)), .val (.ref b1), .val (.ref b24), .val (.ref b392), .val (.ref b398), .unset, .unset] [(.int (1 : Int32)), (.ref b24), (.int (1 : Int32)), (.ref b398)])) rfl rfl (hb hby at_167) _ ?_
      refine st429 _ ?_
      refine XS.iloadN X429.here hx rfl (hb hby at_169) rfl ?_
      refine XS.iconst X429.here hx rfl (hb hby at_170) ?_
      refine XS.icmpNo X429.here hx rfl (hb hby at_171) rfl (tlt (by decide : ((2 : Int32) < (5 : Int32)))).2.2.2 ?_
      refine XS.aload X429.here hx rfl (hb hby at_174) rfl rfl ?_
      refine XS.iconst X429.here hx rfl (hb hby at_176) ?_
      refine XS.aload X429.here hx rfl (hb hby at_177) rfl rfl ?_
      refine XS.iconst X429.here hx rfl (hb hby at_179) ?_
      refine X429.baloadBytes hx (j := (2 : Int32)) (v := (.int ((own_FQ aa bb) 2))) (by rw [e429]; exact Arcl434.1) (State.isArrayOf_alike hZ.alike Arcl434.2.1) Arcl434.2.2 hincl434 hatcl434 (g := (mkF m 180 #[.val (.int nv), .val (.int aa), .val (.int bb), .val (.int (5 : Int32)), .val (.ref b1), .val (.ref b24), .val (.ref b392), .val (.ref b398), .unset, .unset] [(.int (2 : Int32)), (.ref b1), (.int (2 : Int32)), (.ref b392)])) rfl rfl (hb hby at_180) _ ?_
      refine st436 _ ?_
      refine XS.aload X436.here hx rfl (hb hby at_182) rfl rfl ?_
      refine XS.iconst X436.here hx rfl (hb hby at_184) ?_
      refine XS.aload X436.here hx rfl (hb hby at_185) rfl rfl ?_
      refine XS.iconst X436.here hx rfl (hb hby at_187) ?_
      refine X436.iaload hx (j := (2 : Int32)) (v := (.int ((own_FT aa bb) 2))) (by rw [e436]; exact Arcl441.1) (State.isArrayOf_alike hZ.alike Arcl441.2.1) Arcl441.2.2 hincl441 hatcl441 (g := (mkF m 188 #[.val (.int nv), .val (.int aa), .val (.int bb), .val (.int (5 : Int32)), .val (.ref b1), .val (.ref b24), .val (.ref b392), .val (.ref b398), .unset, .unset] [(.int (2 : Int32)), (.ref b24), (.int (2 : Int32)), (.ref b398)])) rfl rfl (hb hby at_188) _ ?_
      refine st443 _ ?_
      refine XS.iloadN X443.here hx rfl (hb hby at_190) rfl ?_
      refine XS.iconst X443.here hx rfl (hb hby at_191) ?_
      refine XS.icmpNo X443.here hx rfl (hb hby at_192) rfl (tlt (by decide : ((3 : Int32) < (5 : Int32)))).2.2.2 ?_
      refine XS.aload X443.here hx rfl (hb hby at_195) rfl rfl ?_
      refine XS.iconst X443.here hx rfl (hb hby at_197) ?_
      refine XS.aload X443.here hx rfl (hb hby at_198) rfl rfl ?_
      refine XS.iconst X443.here hx rfl (hb hby at_200) ?_
      refine X443.baloadBytes hx (j := (3 : Int32)) (v := (.int ((own_FQ aa bb) 3))) (by rw [e443]; exact Arcl448.1) (State.isArrayOf_alike hZ.alike Arcl448.2.1) Arcl448.2.2 hincl448 hatcl448 (g := (mkF m 201 #[.val (.int nv), .val (.int aa), .val (.int bb), .val (.int (5 : Int32)), .val (.ref b1), .val (.ref b24), .val (.ref b392), .val (.ref b398), .unset, .unset] [(.int (3 : Int32)), (.ref b1), (.int (3 : Int32)), (.ref b392)])) rfl rfl (hb hby at_201) _ ?_
      refine st450 _ ?_
      refine XS.aload X450.here hx rfl (hb hby at_203) rfl rfl ?_
      refine XS.iconst X450.here hx rfl (hb hby at_205) ?_
      refine XS.aload X450.here hx rfl (hb hby at_206) rfl rfl ?_
      refine XS.iconst X450.here hx rfl (hb hby at_208) ?_
      refine X450.iaload hx (j := (3 : Int32)) (v := (.int ((own_FT aa bb) 3))) (by rw [e450]; exact Arcl455.1) (State.isArrayOf_alike hZ.alike Arcl455.2.1) Arcl455.2.2 hincl455 hatcl455 (g := (mkF m 209 #[.val (.int nv), .val (.int aa), .val (.int bb), .val (.int (5 : Int32)), .val (.ref b1), .val (.ref b24), .val (.ref b392), .val (.ref b398), .unset, .unset] [(.int (3 : Int32)), (.ref b24), (.int (3 : Int32)), (.ref b398)])) rfl rfl (hb hby at_209) _ ?_
      refine st457 _ ?_
      refine XS.iloadN X457.here hx rfl (hb hby at_211) rfl ?_
      refine XS.iconst X457.here hx rfl (hb hby at_212) ?_
      refine XS.icmpNo X457.here hx rfl (hb hby at_213) rfl (tlt (by decide : ((4 : Int32) < (5 : Int32)))).2.2.2 ?_
      refine XS.aload X457.here hx rfl (hb hby at_216) rfl rfl ?_
      refine XS.iconst X457.here hx rfl (hb hby at_218) ?_
      refine XS.aload X457.here hx rfl (hb hby at_219) rfl rfl ?_
      refine XS.iconst X457.here hx rfl (hb hby at_221) ?_
      refine X457.baloadBytes hx (j := (4 : Int32)) (v := (.int ((own_FQ aa bb) 4))) (by rw [e457]; exact Arcl462.1) (State.isArrayOf_alike hZ.alike Arcl462.2.1) Arcl462.2.2 hincl462 hatcl462 (g := (mkF m 222 #[.val (.int nv), .val (.int aa), .val (.int bb), .val (.int (5 : Int32)), .val (.ref b1), .val (.ref b24), .val (.ref b392), .val (.ref b398), .unset, .unset] [(.int (4 : Int32)), (.ref b1), (.int (4 : Int32)), (.ref b392)])) rfl rfl (hb hby at_222) _ ?_
      refine st464 _ ?_
      refine XS.aload X464.here hx rfl (hb hby at_224) rfl rfl ?_
      refine XS.iconst X464.here hx rfl (hb hby at_226) ?_
      refine XS.aload X464.here hx rfl (hb hby at_227) rfl rfl ?_
      refine XS.iconst X464.here hx rfl (hb hby at_229) ?_
      refine X464.iaload hx (j := (4 : Int32)) (v := (.int ((own_FT aa bb) 4))) (by rw [e464]; exact Arcl469.1) (State.isArrayOf_alike hZ.alike Arcl469.2.1) Arcl469.2.2 hincl469 hatcl469 (g := (mkF m 230 #[.val (.int nv), .val (.int aa), .val (.int bb), .val (.int (5 : Int32)), .val (.ref b1), .val (.ref b24), .val (.ref b392), .val (.ref b398), .unset, .unset] [(.int (4 : Int32)), (.ref b24), (.int (4 : Int32)), (.ref b398)])) rfl rfl (hb hby at_230) _ ?_
      refine st471 _ ?_
      refine XS.aload X471.here hx rfl (hb hby at_232) rfl rfl ?_
      refine XS.aload X471.here hx rfl (hb hby at_234) rfl rfl ?_
      refine st478 _ ?_
      refine XS.astore X478.here hx rfl (hb hby at_239) rfl rfl (l' := #[.val (.int nv), .val (.int aa), .val (.int bb), .val (.int (5 : Int32)), .val (.ref b1), .val (.ref b24), .val (.ref b392), .val (.ref b398), .val (.ref b479), .unset]) rfl ?_
      refine XS.aload X478.here hx rfl (hb hby at_241) rfl rfl ?_
      refine XS.ifnullNo X478.here hx rfl (hb hby at_243) rfl ?_
      refine XS.aload X478.here hx rfl (hb hby at_246) rfl rfl ?_
      refine X478.arraylength hx Arcl489.1 (State.isArrayOf_alike hZ.alike Arcl489.2.1) (g := (mkF m 248 #[.val (.int nv), .val (.int aa), .val (.int bb), .val (.int (5 : Int32)), .val (.ref b1), .val (.ref b24), .val (.ref b392), .val (.ref b398), .val (.ref b479), .unset] [(.ref b479)])) rfl rfl (hb hby at_248) _ ?_
      rw [Szcl489]
      refine XS.iloadN X478.here hx rfl (hb hby at_249) rfl ?_
      refine XS.icmpNo X478.here hx rfl (hb hby at_250) rfl (teq (by decide : ((5 : Int32) = (5 : Int32)))).2 ?_
      refine XS.aload X478.here hx rfl (hb hby at_253) rfl rfl ?_
      refine XS.aload X478.here hx rfl (hb hby at_255) rfl rfl ?_
      refine Jvm.RoadKit.acmp (g := (mkF m 257 #[.val (.int nv), .val (.int aa), .val (.int bb), .val (.int (5 : Int32)), .val (.ref b1), .val (.ref b24), .val (.ref b392), .val (.ref b398), .val (.ref b479), .unset] [(.ref b398), (.ref b479)])) X478 hx rfl rfl rfl (pc0 := 257) (pc' := 262) (same := false) rfl (hb hby at_257) rfl (decide_eq_false fun q => (Ne.symm ne484) (Value.ref.inj q)) (by decide) (by decide) ?_
      refine XS.iconst X478.here hx rfl (hb hby at_262) ?_
      refine XS.istore X478.here hx rfl (hb hby at_263) rfl (l' := #[.val (.int nv), .val (.int aa), .val (.int bb), .val (.int (5 : Int32)), .val (.ref b1), .val (.ref b24), .val (.ref b392), .val (.ref b398), .val (.ref b479), .val (.int (1 : Int32))]) rfl ?_
      refine XS.iload X478.here hx rfl (hb hby at_265) rfl ?_
      refine XS.aload X478.here hx rfl (hb hby at_267) rfl rfl ?_
      refine XS.iloadN X478.here hx rfl (hb hby at_269) rfl ?_
      refine XS.aload X478.here hx rfl (hb hby at_270) rfl rfl ?_
      refine XS.aload X478.here hx rfl (hb hby at_272) rfl rfl ?_
      refine XS.iconst X478.here hx rfl (hb hby at_274) ?_
      refine st490 _ ?_
      rw [hres490]
      refine XS.iand X490.here hx rfl (hb hby at_278) rfl ?_
      refine XS.istore X490.here hx rfl (hb hby at_279) rfl (l' := #[.val (.int nv), .val (.int aa), .val (.int bb), .val (.int (5 : Int32)), .val (.ref b1), .val (.ref b24), .val (.ref b392), .val (.ref b398), .val (.ref b479), .val (.int (1 : Int32))]) rfl ?_
      refine XS.iload X490.here hx rfl (hb hby at_281) rfl ?_
      refine XS.aload X490.here hx rfl (hb hby at_283) rfl rfl ?_
      refine XS.iloadN X490.here hx rfl (hb hby at_285) rfl ?_
      refine XS.aload X490.here hx rfl (hb hby at_286) rfl rfl ?_
      refine XS.aload X490.here hx rfl (hb hby at_288) rfl rfl ?_
      refine XS.iconst X490.here hx rfl (hb hby at_290) ?_
      refine st491 _ ?_
      rw [hres491]
      refine XS.iand X491.here hx rfl (hb hby at_294) rfl ?_
      refine XS.istore X491.here hx rfl (hb hby at_295) rfl (l' := #[.val (.int nv), .val (.int aa), .val (.int bb), .val (.int (5 : Int32)), .val (.ref b1), .val (.ref b24), .val (.ref b392), .val (.ref b398), .val (.ref b479), .val (.int (1 : Int32))]) rfl ?_
      refine XS.iload X491.here hx rfl (hb hby at_297) rfl ?_
      refine XS.aload X491.here hx rfl (hb hby at_299) rfl rfl ?_
      refine XS.iloadN X491.here hx rfl (hb hby at_301) rfl ?_
      refine XS.aload X491.here hx rfl (hb hby at_302) rfl rfl ?_
      refine XS.aload X491.here hx rfl (hb hby at_304) rfl rfl ?_
      refine XS.iconst X491.here hx rfl (hb hby at_306) ?_
      refine st492 _ ?_
      rw [hres492]
      refine XS.iand X492.here hx rfl (hb hby at_310) rfl ?_
      refine XS.istore X492.here hx rfl (hb hby at_311) rfl (l' := #[.val (.int nv), .val (.int aa), .val (.int bb), .val (.int (5 : Int32)), .val (.ref b1), .val (.ref b24), .val (.ref b392), .val (.ref b398), .val (.ref b479), .val (.int (1 : Int32))]) rfl ?_
      refine XS.iload X492.here hx rfl (hb hby at_313) rfl ?_
      refine XS.aload X492.here hx rfl (hb hby at_315) rfl rfl ?_
      refine XS.iloadN X492.here hx rfl (hb hby at_317) rfl ?_
      refine XS.aload X492.here hx rfl (hb hby at_318) rfl rfl ?_
      refine XS.aload X492.here hx rfl (hb hby at_320) rfl rfl ?_
      refine XS.iconst X492.here hx rfl (hb hby at_322) ?_
      refine st493 _ ?_
      rw [hres493]
      refine XS.iand X493.here hx rfl (hb hby at_326) rfl ?_
      refine XS.istore X493.here hx rfl (hb hby at_327) rfl (l' := #[.val (.int nv), .val (.int aa), .val (.int bb), .val (.int (5 : Int32)), .val (.ref b1), .val (.ref b24), .val (.ref b392), .val (.ref b398), .val (.ref b479), .val (.int (1 : Int32))]) rfl ?_
      refine XS.iload X493.here hx rfl (hb hby at_329) rfl ?_
      refine XS.aload X493.here hx rfl (hb hby at_331) rfl rfl ?_
      refine XS.iloadN X493.here hx rfl (hb hby at_333) rfl ?_
      refine XS.aload X493.here hx rfl (hb hby at_334) rfl rfl ?_
      refine XS.aload X493.here hx rfl (hb hby at_336) rfl rfl ?_
      refine XS.iconst X493.here hx rfl (hb hby at_338) ?_
      refine st494 _ ?_
      rw [hres494]
      refine XS.iand X494.here hx rfl (hb hby at_342) rfl ?_
      refine XS.istore X494.here hx rfl (hb hby at_343) rfl (l' := #[.val (.int nv), .val (.int aa), .val (.int bb), .val (.int (5 : Int32)), .val (.ref b1), .val (.ref b24), .val (.ref b392), .val (.ref b398), .val (.ref b479), .val (.int (1 : Int32))]) rfl ?_
      refine XS.iload X494.here hx rfl (hb hby at_345) rfl ?_
      refine XS.aload X494.here hx rfl (hb hby at_347) rfl rfl ?_
      refine XS.aload X494.here hx rfl (hb hby at_349) rfl rfl ?_
      refine XS.iloadN X494.here hx rfl (hb hby at_351) rfl ?_
      refine XS.aload X494.here hx rfl (hb hby at_352) rfl rfl ?_
      refine XS.aload X494.here hx rfl (hb hby at_354) rfl rfl ?_
      refine XS.iconst X494.here hx rfl (hb hby at_356) ?_
      refine st495 _ ?_
      rw [hres495]
      refine XS.iand X495.here hx rfl (hb hby at_360) rfl ?_
      refine XS.istore X495.here hx rfl (hb hby at_361) rfl (l' := #[.val (.int nv), .val (.int aa), .val (.int bb), .val (.int (5 : Int32)), .val (.ref b1), .val (.ref b24), .val (.ref b392), .val (.ref b398), .val (.ref b479), .val (.int (1 : Int32))]) rfl ?_
      refine XS.iload X495.here hx rfl (hb hby at_363) rfl ?_
      refine XS.aload X495.here hx rfl (hb hby at_365) rfl rfl ?_
      refine XS.aload X495.here hx rfl (hb hby at_367) rfl rfl ?_
      refine XS.iloadN X495.here hx rfl (hb hby at_369) rfl ?_
      refine XS.aload X495.here hx rfl (hb hby at_370) rfl rfl ?_
      refine XS.aload X495.here hx rfl (hb hby at_372) rfl rfl ?_
      refine XS.iconst X495.here hx rfl (hb hby at_374) ?_
      refine st496 _ ?_
      rw [hres496]
      refine XS.iand X496.here hx rfl (hb hby at_378) rfl ?_
      refine XS.istore X496.here hx rfl (hb hby at_379) rfl (l' := #[.val (.int nv), .val (.int aa), .val (.int bb), .val (.int (5 : Int32)), .val (.ref b1), .val (.ref b24), .val (.ref b392), .val (.ref b398), .val (.ref b479), .val (.int (1 : Int32))]) rfl ?_
      refine XS.iload X496.here hx rfl (hb hby at_381) rfl ?_
      refine XS.aload X496.here hx rfl (hb hby at_383) rfl rfl ?_
      refine XS.aload X496.here hx rfl (hb hby at_385) rfl rfl ?_
      refine XS.iloadN X496.here hx rfl (hb hby at_387) rfl ?_
      refine XS.aload X496.here hx rfl (hb hby at_388) rfl rfl ?_
      refine XS.aload X496.here hx rfl (hb hby at_390) rfl rfl ?_
      refine XS.iconst X496.here hx rfl (hb hby at_392) ?_
      refine st497 _ ?_
      rw [hres497]
      refine XS.iand X497.here hx rfl (hb hby at_396) rfl ?_
      refine XS.istore X497.here hx rfl (hb hby at_397) rfl (l' := #[.val (.int nv), .val (.int aa), .val (.int bb), .val (.int (5 : Int32)), .val (.ref b1), .val (.ref b24), .val (.ref b392), .val (.ref b398), .val (.ref b479), .val (.int (1 : Int32))]) rfl ?_
      refine XS.iload X497.here hx rfl (hb hby at_399) rfl ?_
      refine XS.aload X497.here hx rfl (hb hby at_401) rfl rfl ?_
      refine XS.aload X497.here hx rfl (hb hby at_403) rfl rfl ?_
      refine XS.iloadN X497.here hx rfl (hb hby at_405) rfl ?_
      refine XS.aload X497.here hx rfl (hb hby at_406) rfl rfl ?_
      refine XS.aload X497.here hx rfl (hb hby at_408) rfl rfl ?_
      refine XS.iconst X497.here hx rfl (hb hby at_410) ?_
      refine st498 _ ?_
      rw [hres498]
      refine XS.iand X498.here hx rfl (hb hby at_414) rfl ?_
      refine XS.istore X498.here hx rfl (hb hby at_415) rfl (l' := #[.val (.int nv), .val (.int aa), .val (.int bb), .val (.int (5 : Int32)), .val (.ref b1), .val (.ref b24), .val (.ref b392), .val (.ref b398), .val (.ref b479), .val (.int (1 : Int32))]) rfl ?_
      refine XS.iload X498.here hx rfl (hb hby at_417) rfl ?_
      refine XS.aload X498.here hx rfl (hb hby at_419) rfl rfl ?_
      refine XS.aload X498.here hx rfl (hb hby at_421) rfl rfl ?_
      refine XS.iloadN X498.here hx rfl (hb hby at_423) rfl ?_
      refine XS.aload X498.here hx rfl (hb hby at_424) rfl rfl ?_
      refine XS.aload X498.here hx rfl (hb hby at_426) rfl rfl ?_
      refine XS.iconst X498.here hx rfl (hb hby at_428) ?_
      refine st499 _ ?_
      rw [hres499]
      refine XS.iand X499.here hx rfl (hb hby at_432) rfl ?_
      refine XS.istore X499.here hx rfl (hb hby at_433) rfl (l' := #[.val (.int nv), .val (.int aa), .val (.int bb), .val (.int (5 : Int32)), .val (.ref b1), .val (.ref b24), .val (.ref b392), .val (.ref b398), .val (.ref b479), .val (.int (1 : Int32))]) rfl ?_
      refine XS.iload X499.here hx rfl (hb hby at_435) rfl ?_
      exact retN X499 hx (t := .boolean) Bd.returns (by simp) (hb hby at_437) hr
    · show Q0 Z nv aa bb h0 n0 _ T499.heap _
      rw [e499]
      exact ⟨rfl, N499⟩
set_option maxRecDepth 65536 in
set_option maxHeartbeats 40000000 in
theorem comes_1 {Post : Tables → Env → Array Value → State → Outcome → State → Prop} (hpost : ∀ tb e args s v u, (limb_1_1.after args s (.returned v) u = true ∧ limb_1_2.after args s (.returned v) u = true ∧ True) → FrameEnd s (.returned v) u (Jvm.fieldLocs frame_1_writes args s ++ Jvm.arrayLocs frame_1_arrays args s ++ Jvm.staticLocs frame_1_statics s) 24 128 → Post tb e args s (.returned v) u) :
    ArmFor flags0 classFile x code maxLocals ret World_1 tables_1 room_1 Calls_1 rest_1 Pre_1 Post := by
  intro l hfl _ _ p e ha hc hk s m args below hf hA hF happ hP
  obtain ⟨hcalls, hrest, hpre⟩ := hP
  obtain ⟨-, -, -, hnamed, -, -, -, hat⟩ := (Spec.applies_iff hf).mp happ
  obtain ⟨hg, hn⟩ := and_e (Cond.before_iff.mp (show (Jvm.Cond.and given_1 narrow_1).before args s = true from hpre))
  obtain ⟨gv1, gv2⟩ := and_e hg
  obtain ⟨gv3, gv4⟩ := and_e gv2
  obtain ⟨gv5, gv6⟩ := and_e gv4
  obtain ⟨w0, w1, w2, rfl⟩ : ∃ w0 w1 w2 : Value, args = #[w0, w1, w2] := by
    have hs : args.size = 3 := by simpa [Cond.value, given_1] using gv1
    obtain ⟨L⟩ := args
    match L, hs with
    | [w0, w1, w2], _ => exact ⟨w0, w1, w2, rfl⟩
  have hw := fun d (hd : d ∈ tables_1) => atoms_spec (ws := Jvm.Cond.code x code maxLocals ret :: tables_1) hat d (List.mem_cons_of_mem _ hd)
  have hfit : Fit s := fun {y c} hc i hi => by
    obtain ⟨ha, rfl⟩ := Array.getElem?_eq_some_iff.mp hc
    have q := List.all_eq_true.mp ((Array.all_eq_true_iff_forall_mem.mp hF) _ (Array.getElem_mem ha)) i (List.mem_range.mpr hi)
    simpa [Array.getElem?_eq_getElem hi] using q
  obtain ⟨i0, ei0⟩ := is_v gv3
  obtain rfl : w0 = (.int i0) := Option.some.inj ei0
  obtain ⟨i1, ei1⟩ := is_v gv5
  obtain rfl : w1 = (.int i1) := Option.some.inj ei1
  obtain ⟨i2, ei2⟩ := is_v gv6
  obtain rfl : w2 = (.int i2) := Option.some.inj ei2
  obtain ⟨n, o, h1, h2, h3, _, L, rfl, ⟨rfl, N⟩, hq⟩ := rm0 l s _ hw tables_1 i0 i1 i2 s.heap s.heap.size (Nat.le_refl _) p e ha hc hk s m _ below hf ((Spec.applies_iff_loose hf).mp happ).1 ⟨rfl, State.Warmed39.refl s, rfl⟩ trivial
  refine ⟨n, _, h1, h2, h3, hpost _ _ _ _ _ _ ⟨Cond.after_iff.mpr rfl, Cond.after_iff.mpr (eq_i res_at (Term.int_eval (1)) rfl), trivial⟩ ⟨hq.1, hq.2.1, (hq.2.2.sift fun y hy => Or.inr (N y hy)).mono (by decide) (by decide)⟩⟩
theorem main_1_1 : Claimed_1_1 := comes_1 fun _ _ _ _ _ _ h hF => ⟨h.1, hF⟩
theorem main_1_2 : Claimed_1_2 := comes_1 fun _ _ _ _ _ _ h hF => ⟨h.2.1, hF⟩
end Jvm.Pilot.@@N@@
namespace Jvm.Pilot.@@N@@
open Jvm Jvm.ClassFile Sem Op Lib Jvm.Free Jvm.Stand Jvm.Pilot.@@N@@.Jvm.D
/-! MADE BY PROGRAM (witnessworld.py) out of the Statement's table words and the real class files: 9 classes; the members and pool entries that the words name. The judged class is class 1, her method 1. -/
namespace start1
open Jvm.ClassFile
def u (s : String) : CpInfo := .utf8 (stringToUtf16 s)
/-- a pool by its gaps: so many unusable entries, then the entry; so many at the end -/
def gap : Nat → List CpInfo → List CpInfo
  | 0, r => r
  | n + 1, r => .unusable :: gap n r
def poolList (es : List (Nat × CpInfo)) (last : Nat) : List CpInfo := es.foldr (fun e r => gap e.1 (e.2 :: r)) (gap last [])
def pool (es : List (Nat × CpInfo)) (last : Nat) : Array CpInfo := ⟨poolList es last⟩
def fileOf (pool : Array CpInfo) (this : Nat) (attrs : Array Attribute := #[]) (ms : Array MethodInfo := #[]) (fl : Nat := 33) (sup : Nat := 0) (ifs : Array Nat := #[]) (fds : Array FieldInfo := #[]) : ClassFile where
  minorVersion := 0
  majorVersion := 65
  constantPool := pool
  accessFlags := fl
  thisClass := this
  superClass := sup
  interfaces := ifs
  fields := fds
  methods := ms
  attributes := attrs
def plain (name : String) (sup : Option ClassId) : Class where
  name := name
  kind := .ordinary
  loader := none
  accessFlags := 33
  super := sup
  interfaces := #[]
  cf := none
  fields := #[]
  methods := #[]
  instanceTypes := #[]
  staticTypes := #[]
  resolved := #[]
  callSites := []
  init := .initialized
  statics := none
  mirror := none

def pool0 : Array CpInfo := pool [(5, u "<init>"), (0, u "()V"), (1, .class_ 10), (1, u "java/lang/Object")] 113

def k0m0 : Method := { name := "<init>", desc := "()V", sig := { parameters := [], returnType := none }, accessFlags := 1, code := none }
/-- java/lang/Object -/
def k0 : Class := { plain "java/lang/Object" none with
  accessFlags := 33
  interfaces := #[]
  cf := some (fileOf pool0 8 #[] #[{ accessFlags := 1, nameIndex := 5, descriptorIndex := 6, attributes := #[] }] 33 0 #[] #[])
  fields := #[]
  methods := #[k0m0]
  instanceTypes := #[]
  staticTypes := #[]
  resolved := Array.replicate 124 none
  statics := none }

def pool1 : Array CpInfo := pool [(2, .class_ 4), (1, u "java/lang/Object"), (0, u "<init>"), (0, u "()V"), (0, .integer 2147483647), (0, .methodref 9 10), (0, .class_ 11), (0, .nameAndType 12 13), (0, u "skipstitch/table/PrefixTableOptimisedPinLaw"), (0, u "letter"), (0, u "(III)B"), (0, .methodref 9 15), (0, .nameAndType 16 17), (0, u "border"), (0, u "([BI)I"), (0, .methodref 19 20), (0, .class_ 21), (0, .nameAndType 22 23), (0, u "skipstitch/table/PrefixTable"), (0, u "optimised"), (0, u "([B[I)[I"), (0, .methodref 9 25), (0, .nameAndType 26 27), (0, u "at"), (0, u "([II[B[II)Z"), (0, .methodref 9 29), (0, .nameAndType 30 31), (0, u "same"), (0, u "([B[II[B[II)Z"), (0, .methodref 9 33), (0, .nameAndType 34 35), (0, u "isB"), (0, u "([BII)Z"), (0, .methodref 9 37), (0, .nameAndType 38 39), (0, u "step"), (0, u "([B[III)I"), (0, .methodref 9 41), (0, .nameAndType 42 43), (0, u "chain"), (0, u "([B[II)I"), (2, u "law"), (0, u "(III)Z")] 7

def k1m0 : Method := { name := "<init>", desc := "()V", sig := { parameters := [], returnType := none }, accessFlags := 1, code := none }
def k1c1 : Code := { maxStack := 7, maxLocals := 10, code := code, exceptionTable := #[], attributes := #[] }
def k1m1 : Method := { name := "law", desc := "(III)Z", sig := { parameters := [.int, .int, .int], returnType := some .boolean }, accessFlags := 9, code := some k1c1 }
def k1c2 : Code := { maxStack := 3, maxLocals := 4, code := method_3_code, exceptionTable := #[], attributes := #[] }
def k1m2 : Method := { name := "letter", desc := "(III)B", sig := { parameters := [.int, .int, .int], returnType := some .byte }, accessFlags := 10, code := some k1c2 }
def k1c3 : Code := { maxStack := 4, maxLocals := 3, code := method_4_code, exceptionTable := #[], attributes := #[] }
def k1m3 : Method := { name := "isB", desc := "([BII)Z", sig := { parameters := [(.array .byte), .int, .int], returnType := some .boolean }, accessFlags := 10, code := some k1c3 }
def k1c4 : Code := { maxStack := 3, maxLocals := 2, code := method_5_code, exceptionTable := #[], attributes := #[] }
def k1m4 : Method := { name := "border", desc := "([BI)I", sig := { parameters := [(.array .byte), .int], returnType := some .int }, accessFlags := 10, code := some k1c4 }
def k1c5 : Code := { maxStack := 3, maxLocals := 4, code := method_6_code, exceptionTable := #[], attributes := #[] }
def k1m5 : Method := { name := "step", desc := "([B[III)I", sig := { parameters := [(.array .byte), (.array .int), .int, .int], returnType := some .int }, accessFlags := 10, code := some k1c5 }
def k1c6 : Code := { maxStack := 4, maxLocals := 5, code := method_7_code, exceptionTable := #[], attributes := #[] }
def k1m6 : Method := { name := "chain", desc := "([B[II)I", sig := { parameters := [(.array .byte), (.array .int), .int], returnType := some .int }, accessFlags := 10, code := some k1c6 }
def k1c7 : Code := { maxStack := 3, maxLocals := 6, code := method_8_code, exceptionTable := #[], attributes := #[] }
def k1m7 : Method := { name := "at", desc := "([II[B[II)Z", sig := { parameters := [(.array .int), .int, (.array .byte), (.array .int), .int], returnType := some .boolean }, accessFlags := 10, code := some k1c7 }
def k1c8 : Code := { maxStack := 3, maxLocals := 6, code := method_9_code, exceptionTable := #[], attributes := #[] }
def k1m8 : Method := { name := "same", desc := "([B[II[B[II)Z", sig := { parameters := [(.array .byte), (.array .int), .int, (.array .byte), (.array .int), .int], returnType := some .boolean }, accessFlags := 10, code := some k1c8 }
/-- skipstitch/table/PrefixTableOptimisedPinLaw -/
def k1 : Class := { plain "skipstitch/table/PrefixTableOptimisedPinLaw" (some 0) with
  accessFlags := 49
  interfaces := #[]
  cf := some (fileOf pool1 9 #[] #[{ accessFlags := 1, nameIndex := 5, descriptorIndex := 6, attributes := #[] }, { accessFlags := 9, nameIndex := 46, descriptorIndex := 47, attributes := #[] }, { accessFlags := 10, nameIndex := 12, descriptorIndex := 13, attributes := #[] }, { accessFlags := 10, nameIndex := 34, descriptorIndex := 35, attributes := #[] }, { accessFlags := 10, nameIndex := 16, descriptorIndex := 17, attributes := #[] }, { accessFlags := 10, nameIndex := 38, descriptorIndex := 39, attributes := #[] }, { accessFlags := 10, nameIndex := 42, descriptorIndex := 43, attributes := #[] }, { accessFlags := 10, nameIndex := 26, descriptorIndex := 27, attributes := #[] }, { accessFlags := 10, nameIndex := 30, descriptorIndex := 31, attributes := #[] }] 49 2 #[] #[])
  fields := #[]
  methods := #[k1m0, k1m1, k1m2, k1m3, k1m4, k1m5, k1m6, k1m7, k1m8]
  instanceTypes := #[]
  staticTypes := #[]
  resolved := Array.replicate 55 none
  statics := none }

def pool2 : Array CpInfo := pool [(2, .class_ 4), (1, u "java/lang/Object"), (0, u "<init>"), (0, u "()V"), (1, .class_ 10), (1, u "skipstitch/table/PrefixTable"), (15, u "optimised"), (0, u "([B[I)[I")] 20

def k2m0 : Method := { name := "<init>", desc := "()V", sig := { parameters := [], returnType := none }, accessFlags := 2, code := none }
def k2c1 : Code := { maxStack := 5, maxLocals := 6, code := prog_35_method_6_code, exceptionTable := #[], attributes := #[] }
def k2m1 : Method := { name := "optimised", desc := "([B[I)[I", sig := { parameters := [(.array .byte), (.array .int)], returnType := some (.array .int) }, accessFlags := 9, code := some k2c1 }
/-- skipstitch/table/PrefixTable -/
def k2 : Class := { plain "skipstitch/table/PrefixTable" (some 0) with
  accessFlags := 49
  interfaces := #[]
  cf := some (fileOf pool2 8 #[] #[{ accessFlags := 2, nameIndex := 5, descriptorIndex := 6, attributes := #[] }, { accessFlags := 9, nameIndex := 26, descriptorIndex := 27, attributes := #[] }] 49 2 #[] #[])
  fields := #[]
  methods := #[k2m0, k2m1]
  instanceTypes := #[]
  staticTypes := #[]
  resolved := Array.replicate 48 none
  statics := none }

def pool3 : Array CpInfo := pool [(1, u "java/lang/Cloneable"), (0, .class_ 1), (0, u "java/lang/Object"), (0, .class_ 3)] 3

/-- java/lang/Cloneable -/
def k3 : Class := { plain "java/lang/Cloneable" (some 0) with
  accessFlags := 1537
  interfaces := #[]
  cf := some (fileOf pool3 2 #[] #[] 1537 4 #[] #[])
  fields := #[]
  methods := #[]
  instanceTypes := #[]
  staticTypes := #[]
  resolved := Array.replicate 8 none
  statics := none }

def pool4 : Array CpInfo := pool [(1, u "java/io/Serializable"), (0, .class_ 1), (0, u "java/lang/Object"), (0, .class_ 3)] 3

/-- java/io/Serializable -/
def k4 : Class := { plain "java/io/Serializable" (some 0) with
  accessFlags := 1537
  interfaces := #[]
  cf := some (fileOf pool4 2 #[] #[] 1537 4 #[] #[])
  fields := #[]
  methods := #[]
  instanceTypes := #[]
  staticTypes := #[]
  resolved := Array.replicate 8 none
  statics := none }

/-- the primitive byte -/
def k5 : Class := { plain "byte" none with kind := .primitive 'B', accessFlags := 0x411 }
/-- [B -/
def k6 : Class := { plain "[B" (some 0) with kind := .array 5 .byte, interfaces := #[3, 4], accessFlags := 1041 }

/-- the primitive int -/
def k7 : Class := { plain "int" none with kind := .primitive 'I', accessFlags := 0x411 }
/-- [I -/
def k8 : Class := { plain "[I" (some 0) with kind := .array 7 .int, interfaces := #[3, 4], accessFlags := 1041 }

def heap : Heap := #[]
def classes : Array Class := #[k0, k1, k2, k3, k4, k5, k6, k7, k8]
def interned : List (Array UInt16 × Addr) := []
def slotsUsed : Nat := 0
def theMethod : MethodId := ⟨1, 1⟩
def args0 : Array Value := #[.int 5, .int 27, .int 1234]
def aboutOver (below : List Frame) : State where
  vm := { classes := classes, interned := interned.toArray }
  heap := heap
  slotsUsed := slotsUsed
  threads := #[{ frames := .invoking theMethod args0 :: below }]
def below0 : List Frame := [.native { method := ⟨0, 0⟩, args := #[] }]
def about1 : State := aboutOver below0
def p0 : Program := .bare "" "" ""
def e0 : Env := launch0.env 0 0 0
theorem w_frames : about1.frames = Frame.invoking theMethod args0 :: below0 := rfl
set_option maxRecDepth 65536 in
theorem w_args : argsFit about1.vm theMethod args0 = true := by decide +kernel
set_option maxRecDepth 65536 in
theorem w_heap : heapFits about1 = true := by decide +kernel
set_option maxRecDepth 65536 in
theorem w_runnable : about1.curStatus? = some .runnable := by decide +kernel
set_option maxRecDepth 65536 in
theorem w_alone : about1.alone = true := by decide +kernel
set_option maxRecDepth 65536 in
theorem w_named : about1.methodNamed? x = some theMethod := by decide +kernel
set_option maxRecDepth 65536 in
theorem w_hears : about1.hears theMethod below0 = true := by decide +kernel
set_option maxRecDepth 65536 in
theorem w_ripe : about1.ripe theMethod args0 below0 = true := by decide +kernel
theorem w_running : about1.status = .running := rfl
set_option maxRecDepth 65536 in
theorem w_room : about1.hasRoom e0.platform room_1 = true :=
  launch0.hasRoom_least _ room_1 (by decide +kernel) (by decide +kernel) (by decide +kernel) (by decide +kernel) (by decide +kernel) (by decide +kernel)
theorem allAtoms_all (ts : List Jvm.Cond) (a : Array Jvm.Value) (st : Jvm.State) : (allAtoms ts).before a st = ts.all (fun c => c.before a st) := by
  induction ts with
  | nil => rfl
  | cons c t ih =>
    show (Jvm.Cond.and c (allAtoms t)).before a st = _
    rw [Jvm.Cond.before_and, ih, List.all_cons]
def words1 : List Jvm.Cond := Jvm.Cond.code x code maxLocals ret :: tables_1
/-- a 'code' word, met by the world's own term for the bytes: nothing is compared byte by byte -/
theorem code_word {y : MethodName} {bytes : ByteArray} {mx : Nat} {rt : Option FieldType} {a : Array Value} {s : State} {m : MethodId} {meth : Method} {c : Code} (h1 : s.methodNamed? y = some m) (h2 : s.vm.method? m = some meth) (h3 : meth.code = some c) (h4 : c.code = bytes)
    (h5 : (c.maxLocals == mx && c.exceptionTable.isEmpty && decide (c.maxStack ≤ mostOperands) && decide (meth.sig.returnType = rt) && !meth.locks && decide (parseMethodDescriptor y.desc = some meth.sig)) = true) : (Jvm.Cond.code y bytes mx rt).before a s = true := by
  simp only [Bool.and_eq_true, beq_iff_eq, Bool.not_eq_true', decide_eq_true_eq] at h5
  obtain ⟨⟨⟨⟨⟨g1, g2⟩, g3⟩, g4⟩, g5⟩, g6⟩ := h5
  simp [Cond.before, Cond.holds, Cond.value, h1, h2, h3, h4, g1, g2, g3, g4, g5, g6]
def isCode : Jvm.Cond → Bool
  | .code _ _ _ _ => true
  | _ => false
theorem all_split {L : List Jvm.Cond} {P : Jvm.Cond → Bool} (h1 : L.all (fun c => isCode c || P c) = true) (h2 : ∀ c ∈ L.filter isCode, P c = true) : L.all P = true := by
  refine List.all_eq_true.mpr fun c hc => ?_
  have h := List.all_eq_true.mp h1 c hc
  rcases Bool.eq_false_or_eq_true (isCode c) with hi | hi
  · exact h2 c (List.mem_filter.mpr ⟨hc, hi⟩)
  · simpa [hi] using h
set_option maxRecDepth 65536 in
theorem w_c0 : (Jvm.Cond.code x code maxLocals ret).before args0 about1 = true := code_word (m := ⟨1, 1⟩) (meth := k1m1) (c := k1c1) (by decide +kernel) rfl rfl rfl (by decide +kernel)
set_option maxRecDepth 65536 in
theorem w_c1 : (Jvm.Cond.code ({ cls := "skipstitch/table/PrefixTableOptimisedPinLaw", name := "letter", desc := "(III)B" } : Jvm.MethodName) method_3_code (4 : Nat) (Option.some Jvm.ClassFile.FieldType.byte)).before args0 about1 = true := code_word (m := ⟨1, 2⟩) (meth := k1m2) (c := k1c2) (by decide +kernel) rfl rfl rfl (by decide +kernel)
set_option maxRecDepth 65536 in
theorem w_c2 : (Jvm.Cond.code ({ cls := "skipstitch/table/PrefixTableOptimisedPinLaw", name := "border", desc := "([BI)I" } : Jvm.MethodName) method_5_code (2 : Nat) (Option.some Jvm.ClassFile.FieldType.int)).before args0 about1 = true := code_word (m := ⟨1, 4⟩) (meth := k1m4) (c := k1c4) (by decide +kernel) rfl rfl rfl (by decide +kernel)
set_option maxRecDepth 65536 in
theorem w_c3 : (Jvm.Cond.code ({ cls := "skipstitch/table/PrefixTableOptimisedPinLaw", name := "isB", desc := "([BII)Z" } : Jvm.MethodName) method_4_code (3 : Nat) (Option.some Jvm.ClassFile.FieldType.boolean)).before args0 about1 = true := code_word (m := ⟨1, 3⟩) (meth := k1m3) (c := k1c3) (by decide +kernel) rfl rfl rfl (by decide +kernel)
set_option maxRecDepth 65536 in
theorem w_c4 : (Jvm.Cond.code ({ cls := "skipstitch/table/PrefixTable", name := "optimised", desc := "([B[I)[I" } : Jvm.MethodName) prog_35_method_6_code (6 : Nat) (Option.some (Jvm.ClassFile.FieldType.array Jvm.ClassFile.FieldType.int))).before args0 about1 = true := code_word (m := ⟨2, 1⟩) (meth := k2m1) (c := k2c1) (by decide +kernel) rfl rfl rfl (by decide +kernel)
set_option maxRecDepth 65536 in
theorem w_c5 : (Jvm.Cond.code ({ cls := "skipstitch/table/PrefixTableOptimisedPinLaw", name := "at", desc := "([II[B[II)Z" } : Jvm.MethodName) method_8_code (6 : Nat) (Option.some Jvm.ClassFile.FieldType.boolean)).before args0 about1 = true := code_word (m := ⟨1, 7⟩) (meth := k1m7) (c := k1c7) (by decide +kernel) rfl rfl rfl (by decide +kernel)
set_option maxRecDepth 65536 in
theorem w_c6 : (Jvm.Cond.code ({ cls := "skipstitch/table/PrefixTableOptimisedPinLaw", name := "same", desc := "([B[II[B[II)Z" } : Jvm.MethodName) method_9_code (6 : Nat) (Option.some Jvm.ClassFile.FieldType.boolean)).before args0 about1 = true := code_word (m := ⟨1, 8⟩) (meth := k1m8) (c := k1c8) (by decide +kernel) rfl rfl rfl (by decide +kernel)
set_option maxRecDepth 65536 in
theorem w_c7 : (Jvm.Cond.code ({ cls := "skipstitch/table/PrefixTableOptimisedPinLaw", name := "chain", desc := "([B[II)I" } : Jvm.MethodName) method_7_code (5 : Nat) (Option.some Jvm.ClassFile.FieldType.int)).before args0 about1 = true := code_word (m := ⟨1, 6⟩) (meth := k1m6) (c := k1c6) (by decide +kernel) rfl rfl rfl (by decide +kernel)
set_option maxRecDepth 65536 in
theorem w_c8 : (Jvm.Cond.code ({ cls := "skipstitch/table/PrefixTableOptimisedPinLaw", name := "step", desc := "([B[III)I" } : Jvm.MethodName) method_6_code (4 : Nat) (Option.some Jvm.ClassFile.FieldType.int)).before args0 about1 = true := code_word (m := ⟨1, 5⟩) (meth := k1m5) (c := k1c5) (by decide +kernel) rfl rfl rfl (by decide +kernel)
def codes1 : List Jvm.Cond := [Jvm.Cond.code x code maxLocals ret, Jvm.Cond.code ({ cls := "skipstitch/table/PrefixTableOptimisedPinLaw", name := "letter", desc := "(III)B" } : Jvm.MethodName) method_3_code (4 : Nat) (Option.some Jvm.ClassFile.FieldType.byte), Jvm.Cond.code ({ cls := "skipstitch/table/PrefixTableOptimisedPinLaw", name := "border", desc := "([BI)I" } : Jvm.MethodName) method_5_code (2 : Nat) (Option.some Jvm.ClassFile.FieldType.int), Jvm.Cond.code ({ cls := "skipstitch/table/PrefixTableOptimisedPinLaw", name := "isB", desc := "([BII)Z" } : Jvm.MethodName) method_4_code (3 : Nat) (Option.some Jvm.ClassFile.FieldType.boolean), Jvm.Cond.code ({ cls := "skipstitch/table/PrefixTable", name := "optimised", desc := "([B[I)[I" } : Jvm.MethodName) prog_35_method_6_code (6 : Nat) (Option.some (Jvm.ClassFile.FieldType.array Jvm.ClassFile.FieldType.int)), Jvm.Cond.code ({ cls := "skipstitch/table/PrefixTableOptimisedPinLaw", name := "at", desc := "([II[B[II)Z" } : Jvm.MethodName) method_8_code (6 : Nat) (Option.some Jvm.ClassFile.FieldType.boolean), Jvm.Cond.code ({ cls := "skipstitch/table/PrefixTableOptimisedPinLaw", name := "same", desc := "([B[II[B[II)Z" } : Jvm.MethodName) method_9_code (6 : Nat) (Option.some Jvm.ClassFile.FieldType.boolean), Jvm.Cond.code ({ cls := "skipstitch/table/PrefixTableOptimisedPinLaw", name := "chain", desc := "([B[II)I" } : Jvm.MethodName) method_7_code (5 : Nat) (Option.some Jvm.ClassFile.FieldType.int), Jvm.Cond.code ({ cls := "skipstitch/table/PrefixTableOptimisedPinLaw", name := "step", desc := "([B[III)I" } : Jvm.MethodName) method_6_code (4 : Nat) (Option.some Jvm.ClassFile.FieldType.int)]
set_option maxRecDepth 65536 in
theorem codes_eq : words1.filter isCode = codes1 := rfl
theorem w_codes : ∀ c ∈ words1.filter isCode, c.before args0 about1 = true := by
  rw [codes_eq]
  intro c hc
  simp only [codes1, List.mem_cons, List.not_mem_nil, or_false] at hc
  rcases hc with rfl | rfl | rfl | rfl | rfl | rfl | rfl | rfl | rfl
  · exact w_c0
  · exact w_c1
  · exact w_c2
  · exact w_c3
  · exact w_c4
  · exact w_c5
  · exact w_c6
  · exact w_c7
  · exact w_c8
set_option maxRecDepth 65536 in
theorem w_t1 : (words1.take 24).all (fun c => isCode c || c.before args0 about1) = true := by decide +kernel
set_option maxRecDepth 65536 in
theorem w_t2 : (words1.drop 24).all (fun c => isCode c || c.before args0 about1) = true := by decide +kernel
theorem w_tables : (allAtoms (Jvm.Cond.code x code maxLocals ret :: tables_1)).before args0 about1 = true := by
  rw [allAtoms_all]
  show words1.all (fun c => c.before args0 about1) = true
  refine all_split ?_ w_codes
  rw [← List.take_append_drop 24 words1, List.all_append, w_t1, w_t2]
  rfl
set_option maxRecDepth 65536 in
theorem w_case : (Jvm.Cond.and given_1 narrow_1).before args0 about1 = true := by decide +kernel
theorem w_applies : (headSpec (Jvm.Cond.code x code maxLocals ret :: tables_1) room_1).applies x e0.platform about1 = true :=
  (Spec.applies_iff w_frames).mpr ⟨w_running, w_runnable, w_alone, w_named, w_hears, w_ripe, w_room, w_tables⟩
theorem atStart : AtStart classFile x code maxLocals ret World_1 tables_1 room_1 Calls_1 rest_1 Pre_1 launch0 p0 e0 about1 theMethod args0 below0 :=
  ⟨lists_1, trivial, launch0.admits_env _ _ _, launch0.least_env, fairChoices_fair.cas, fairChoices_fair.clock, w_frames, w_args, w_heap, w_applies, trivial, trivial, w_case⟩
end start1
theorem witness_1 : WitnessClaimed_1 := ⟨start1.p0, start1.e0, start1.about1, start1.theMethod, start1.args0, start1.below0, start1.atStart⟩
end Jvm.Pilot.@@N@@
